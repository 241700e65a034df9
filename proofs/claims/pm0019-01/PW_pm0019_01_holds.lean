import PyProof.Rows.All
import Wide.All
import OpenK.AllK
import Wide.FinOn
import Lean
import PySem.Challenge.RW_pm0019_01
set_option Elab.async false
set_option linter.all false
section
namespace Mine
open PySem

/-! The abstract interpreter: values, state, steps. -/

inductive Bnd {α β : Type} (x : Option α) (f : α → Option β) (y : β) : Prop
  | mk (a : α) (h1 : x = some a) (h2 : f a = some y) : Bnd x f y
theorem bnd {α β : Type} {x : Option α} {f : α → Option β} {y : β} (h : x.bind f = some y) : Bnd x f y := by
  cases x with
  | none => cases h
  | some a => exact ⟨a, rfl, h⟩
inductive Mpd {α β : Type} (x : Option α) (f : α → β) (y : β) : Prop
  | mk (a : α) (h1 : x = some a) (h2 : f a = y) : Mpd x f y
theorem mpd {α β : Type} {x : Option α} {f : α → β} {y : β} (h : x.map f = some y) : Mpd x f y := by
  cases x with
  | none => cases h
  | some a => exact ⟨a, rfl, Option.some.inj h⟩
theorem nsome {α : Type} {x : α} {P : Prop} (h : none = some x) : P := nomatch h
theorem sinj {α : Type} {x y : α} (h : some x = some y) : x = y := Option.some.inj h
theorem pinj {α β : Type} {a c : α} {b d : β} (h : some (a, b) = some (c, d)) : a = c ∧ b = d := Prod.mk.inj (Option.some.inj h)
theorem pinj3 {α β γ : Type} {a a' : α} {b b' : β} {c c' : γ} (h : some (a, b, c) = some (a', b', c')) : a = a' ∧ b = b' ∧ c = c' := ⟨(pinj h).1, Prod.mk.inj (pinj h).2⟩
noncomputable abbrev mkS (l : List Nat) : Str := ⟨⟨l⟩⟩
noncomputable abbrev sl (s : Str) : List Nat := s.cps.toList

/-- an if's two ends -/
inductive Ite (c : Prop) {α : Type} (x y z : α) : Prop
  | t (q : c) (h : x = z) : Ite c x y z
  | f (q : ¬ c) (h : y = z) : Ite c x y z
theorem ite_of {α : Type} {c : Prop} [Decidable c] {x y z : α} (h : (if c then x else y) = z) : Ite c x y z := by
  by_cases q : c
  · rw [if_pos q] at h; exact .t q h
  · rw [if_neg q] at h; exact .f q h
theorem ifp_of {α : Type} {c : Prop} [Decidable c] {x : Option α} {y : α} (h : (if c then x else none) = some y) : c ∧ x = some y := by
  cases ite_of h with
  | t q h => exact ⟨q, h⟩
  | f q h => exact nsome h
theorem ifn_of {α : Type} {c : Prop} [Decidable c] {x : Option α} {y : α} (h : (if c then none else x) = some y) : ¬ c ∧ x = some y := by
  cases ite_of h with
  | t q h => exact nsome h
  | f q h => exact ⟨q, h⟩
theorem ifs_of {α : Type} {c : Bool} {x : Option α} {y : α} (h : (if c = true then x else none) = some y) : c = true ∧ x = some y := by
  cases c with
  | true => exact ⟨rfl, h⟩
  | false => exact nsome h
noncomputable def one1 {α : Type} : List α → Option α
  | [] => none
  | a :: l => match l with
    | [] => some a
    | _ :: _ => none
theorem one1_of {α : Type} {l : List α} {a : α} (h : one1 l = some a) : l = [a] := by
  cases l with
  | nil => exact nsome h
  | cons b l => cases l with
    | nil => obtain rfl := sinj h; rfl
    | cons c l => exact nsome h
noncomputable def two2 {α : Type} : List α → Option (α × α)
  | [] => none
  | a :: l => (one1 l).map fun b => (a, b)
theorem two2_of {α : Type} {l : List α} {x : α × α} (h : two2 l = some x) : l = [x.1, x.2] := by
  cases l with
  | nil => exact nsome h
  | cons b l =>
    obtain ⟨c, h1, h2⟩ := mpd h
    obtain rfl := one1_of h1
    subst h2; rfl

/-! Views of data -/
noncomputable def intD : PyData → Option Int
  | .int i => some i
  | _ => none
theorem intD_of {x : PyData} {i : Int} (h : intD x = some i) : x = .int i := by
  cases x <;> first | exact nsome h | exact congrArg PyData.int (sinj h)
noncomputable def strD : PyData → Option Str
  | .str i => some i
  | _ => none
theorem strD_of {x : PyData} {i : Str} (h : strD x = some i) : x = .str i := by
  cases x <;> first | exact nsome h | exact congrArg PyData.str (sinj h)
noncomputable def lstD : PyData → Option (List PyData)
  | .list i => some i
  | _ => none
theorem lstD_of {x : PyData} {i : List PyData} (h : lstD x = some i) : x = .list i := by
  cases x <;> first | exact nsome h | exact congrArg PyData.list (sinj h)
noncomputable def tupD : PyData → Option (List PyData)
  | .tuple i => some i
  | _ => none
theorem tupD_of {x : PyData} {i : List PyData} (h : tupD x = some i) : x = .tuple i := by
  cases x <;> first | exact nsome h | exact congrArg PyData.tuple (sinj h)
noncomputable def boolD : PyData → Option Bool
  | .bool i => some i
  | _ => none
theorem boolD_of {x : PyData} {i : Bool} (h : boolD x = some i) : x = .bool i := by
  cases x <;> first | exact nsome h | exact congrArg PyData.bool (sinj h)

structure FnRec where
  params : List Str
  body : List Stmt
  scope : Scope
  code : Nat

inductive PV where
  | d (x : PyData)
  | obj (r : Nat)
  | rng (n : Nat)
  | fn (a : Addr)
  | bi (id : String)
  | ty (n : String)
  | meth (f : Addr) (r : Nat)
  | clo (f : FnRec) (cap : List (Str × PV))

noncomputable def datV : PV → Option PyData
  | .d x => some x
  | _ => none
theorem datV_of {x : PV} {z : PyData} (h : datV x = some z) : x = .d z := by
  cases x <;> first | exact nsome h | skip
  obtain rfl := sinj h; rfl
noncomputable def intV : PV → Option Int
  | .d (.int k) => some k
  | _ => none
theorem intV_of {x : PV} {k : Int} (h : intV x = some k) : x = .d (.int k) := by
  cases x <;> first | exact nsome h | skip
  rename_i x
  cases x <;> first | exact nsome h | skip
  obtain rfl := sinj h
  rfl
noncomputable def strV (x : PV) : Option Str := (datV x).bind strD
theorem strV_of {x : PV} {k : Str} (h : strV x = some k) : x = .d (.str k) := by
  obtain ⟨a, h1, h2⟩ := bnd h
  rw [datV_of h1, strD_of h2]
noncomputable def lstV (x : PV) : Option (List PyData) := (datV x).bind lstD
theorem lstV_of {x : PV} {k : List PyData} (h : lstV x = some k) : x = .d (.list k) := by
  obtain ⟨a, h1, h2⟩ := bnd h
  rw [datV_of h1, lstD_of h2]
noncomputable def objV : PV → Option Nat
  | .obj r => some r
  | _ => none
theorem objV_of {x : PV} {k : Nat} (h : objV x = some k) : x = .obj k := by
  cases x <;> first | exact nsome h | exact congrArg PV.obj (sinj h)
noncomputable def mthV : PV → Option (Addr × Nat)
  | .meth f r => some (f, r)
  | _ => none
theorem mthV_of {x : PV} {k : Addr × Nat} (h : mthV x = some k) : x = .meth k.1 k.2 := by
  cases x <;> first | exact nsome h | (obtain rfl := sinj h; rfl)

inductive MO where
  | list (xs : List PyData)
  | inst (c : Addr) (attrs : List (Str × PV))
  | fobj (attrs : List (Str × PV))
  | citer (f : Addr) (r : Nat)
  | done

noncomputable def moL : MO → Option (List PyData)
  | .list xs => some xs
  | _ => none
theorem moL_of {m : MO} {xs : List PyData} (h : moL m = some xs) : m = .list xs := by
  cases m <;> first | exact nsome h | exact congrArg MO.list (sinj h)
noncomputable def moC : MO → Option (Addr × Nat)
  | .citer f r => some (f, r)
  | _ => none
theorem moC_of {m : MO} {x : Addr × Nat} (h : moC m = some x) : m = .citer x.1 x.2 := by
  cases m <;> first | exact nsome h | (obtain rfl := sinj h; rfl)
noncomputable abbrev St := List MO

structure Fm where
  names : List (Str × NameKind)
  loc : List (Str × PV)
  cel : List (Str × PV)
  frz : Bool
  code : Nat

inductive Fl where
  | nx | br | ct | rt (v : PV)

noncomputable def lim : Nat := 100000
noncomputable def chk {α : Type} (n : Nat) (x : α) : Option α := if n ≤ lim then some x else none
theorem chk_of {α : Type} {n : Nat} {x : α} (h : n ≤ lim) : chk n x = some x := if_pos h
theorem of_chk {α : Type} {n : Nat} {x y : α} (h : chk n x = some y) : n ≤ lim ∧ x = y := by
  unfold chk at h
  split at h
  · rename_i q; exact ⟨q, Option.some.inj h⟩
  · cases h

noncomputable def upd : List (Str × PV) → Str → PV → List (Str × PV)
  | [], x, v => [(x, v)]
  | (y, u) :: r, x, v => if y = x then (y, v) :: r else (y, u) :: upd r x v

/-- names of the module that the text asks for -/
noncomputable def globTab : List (Str × PV) := [
  (Str.ofString "TupleComp", .fn 38), (Str.ofString "ELLIPSIS_MARKER", .d (.str (Str.ofString "..."))), (Str.ofString "_ellipsis_match", .fn 49),
  (Str.ofString "_netrclex", .fn 87), (Str.ofString "_law_stream", .fn 98), (Str.ofString "_law_written", .fn 103), (Str.ofString "_law_run", .fn 108),
  (Str.ofString "_law_ranks", .fn 113), (Str.ofString "_law_lead", .fn 120), (Str.ofString "_law_due", .fn 125),
  (Str.ofString "len", .bi "len"), (Str.ofString "sum", .bi "sum"), (Str.ofString "max", .bi "max"), (Str.ofString "min", .bi "min"),
  (Str.ofString "sorted", .bi "sorted"), (Str.ofString "iter", .bi "iter"), (Str.ofString "range", .ty "range"), (Str.ofString "list", .ty "list")]
noncomputable def glob (x : Str) : Option PV := globTab.lookup x

noncomputable def okName (x : Str) : Bool := x != Str.ofString "__debug__" && x != Str.ofString "__classdict__"
noncomputable def Fm.get0 (f : Fm) (x : Str) : Option PV := match f.names.lookup x with
  | some .local => f.loc.lookup x
  | some .cell => f.cel.lookup x
  | some .free => f.cel.lookup x
  | some .globalImplicit => glob x
  | _ => none
noncomputable def Fm.get (f : Fm) (x : Str) : Option PV := if okName x then f.get0 x else none
noncomputable def Fm.put (f : Fm) (x : Str) (v : PV) : Option Fm := match f.names.lookup x with
  | some .local => some { f with loc := upd f.loc x v }
  | some .cell => if f.frz then none else some { f with cel := upd f.cel x v }
  | _ => none

/-- what the class has: its makers and methods; the attributes its instances may bear -/
noncomputable def recOf : Stmt → Option FnRec
  | .FunctionDef _ args body [] none [] scope none _ _ => some ⟨args.args.map (·.arg), body, scope, 0⟩
  | _ => none
noncomputable def defAt (i : Nat) : Option FnRec := (PySem.Challenge.pw_pm0019_01.main.body[i]?).bind recOf
noncomputable def methAt (i j : Nat) : Option FnRec := match PySem.Challenge.pw_pm0019_01.main.body[i]? with
  | some (.ClassDef _ _ _ b _ _ _ _ _ _ _) => (b[j]?).bind recOf
  | _ => none
noncomputable def fnT : List (Addr × Option FnRec) := [(28, methAt 1 0), (35, methAt 1 1), (49, defAt 4), (63, methAt 6 0), (70, methAt 6 1), (77, methAt 6 2), (84, methAt 6 3), (98, (defAt 8).map fun f => { f with code := 97 }), (103, defAt 9), (108, defAt 10), (113, defAt 11), (120, defAt 12), (125, defAt 13), (130, defAt 14)]
noncomputable def fnTab (a : Addr) : Option FnRec := (fnT.lookup a).bind id
noncomputable def iniT : List (Addr × Addr) := [(38, 28), (87, 63)]
noncomputable def clsInit (a : Addr) : Option Addr := iniT.lookup a
noncomputable def mthT : List ((Addr × Str) × Addr) := [((38, Str.ofString "compare"), 35), ((87, Str.ofString "_read_char"), 70), ((87, Str.ofString "get_token"), 77), ((87, Str.ofString "push_token"), 84)]
noncomputable def clsMeth (c : Addr) (x : Str) : Option Addr := mthT.lookup (c, x)
noncomputable def attT : List (Addr × Str) := [(38, Str.ofString "comp_select_list"), (87, Str.ofString "lineno"), (87, Str.ofString "instream"), (87, Str.ofString "whitespace"), (87, Str.ofString "pushback")]
noncomputable def instAttr (c : Addr) (x : Str) : Bool := attT.contains (c, x)

/-- a closure's block: a plain function without cells of its own -/
noncomputable def okScope (s : Scope) : Bool := s.kind == .function && !s.isGenerator && !s.isCoroutine && s.names.all fun x => (x.2 == .local || x.2 == .free || x.2 == .globalImplicit) && s.names.lookup x.1 == some x.2

/-- a comprehension's block -/
noncomputable def okComp (s : Scope) : Bool := s.kind == .function && !s.isGenerator && !s.isCoroutine && s.names.all fun x => x.2 != .globalExplicit && s.names.lookup x.1 == some x.2

/-- what may be called -/
noncomputable def okCal : PV → Bool
  | .fn a => (fnTab a).isSome || (clsInit a).isSome
  | .meth f _ => (fnTab f).isSome
  | .clo _ _ => true
  | .bi _ => true
  | .ty _ => true
  | _ => false

/-! Operations on data -/

noncomputable def addL (y : PyData) : PyData → Option PyData
  | .int a => (intD y).map fun b => .int (a + b)
  | .str a => (strD y).bind fun b => chk ((sl a).length + (sl b).length) (.str (mkS (sl a ++ sl b)))
  | .list a => (lstD y).bind fun b => chk (a.length + b.length) (.list (a ++ b))
  | _ => none
noncomputable def mulD (k : Int) : PyData → Option PyData
  | .int a => if -1000 ≤ k ∧ k ≤ 1000 then some (.int (a * k)) else none
  | .str a => if k = 0 then some (.str (mkS [])) else if k = 1 then some (.str a) else none
  | _ => none
noncomputable def binop (op : Operator) (x y : PyData) : Option PyData := match op with
  | .Add => addL y x
  | .Sub => (intD x).bind fun a => (intD y).map fun b => .int (a - b)
  | .Mult => (intD y).bind fun k => mulD k x
  | .FloorDiv => (intD x).bind fun a => (intD y).bind fun b => if 0 < b ∧ b ≤ 1000 then some (.int (a / b)) else none
  | .Mod => (intD x).bind fun a => (intD y).bind fun b => if 0 < b ∧ b ≤ 1000000 then some (.int (a % b)) else none
  | _ => none

noncomputable def allInts : List PyData → Option (List Int)
  | [] => some []
  | .int i :: r => (allInts r).map (i :: ·)
  | _ :: _ => none
noncomputable def allStrs : List PyData → Option (List Str)
  | [] => some []
  | .str i :: r => (allStrs r).map (i :: ·)
  | _ :: _ => none

/-- is the piece found at the very start -/
noncomputable def starts : List Nat → List Nat → Bool
  | [], _ => true
  | _ :: _, [] => false
  | a :: r, b :: t => a == b && starts r t
noncomputable def has : List Nat → List Nat → Bool
  | p, [] => p.isEmpty
  | p, b :: t => starts p (b :: t) || has p t

noncomputable def ltInts : List Int → List Int → Bool
  | [], [] => false
  | [], _ :: _ => true
  | _ :: _, [] => false
  | a :: r, b :: t => if a = b then ltInts r t else decide (a < b)

noncomputable def PyData.small (x : PyData) : Bool := PySem.SeqAt.shaped x

noncomputable def eqD (y : PyData) : PyData → Option Bool
  | .int a => (intD y).map fun b => decide (a = b)
  | .str a => (strD y).map fun b => decide (sl a = sl b)
  | _ => none
noncomputable def neS (x y : PyData) : Option Bool := if (PyData.small x && PyData.small y) = true then some (!PySem.PyData.eqv x y) else none
noncomputable def neD (y : PyData) : PyData → Option Bool
  | .int a => (intD y).map fun b => !decide (a = b)
  | .str a => (strD y).map fun b => !decide (sl a = sl b)
  | .list a => neS (.list a) y
  | .tuple a => neS (.tuple a) y
  | _ => none
noncomputable def ltD (y : PyData) : PyData → Option Bool
  | .int a => (intD y).map fun b => decide (a < b)
  | .str a => (strD y).map fun b => decide (sl a < sl b)
  | .list a => (lstD y).bind fun b => (allInts a).bind fun a => (allInts b).map fun b => ltInts a b
  | _ => none
noncomputable def gtD (y : PyData) : PyData → Option Bool
  | .int a => (intD y).map fun b => decide (b < a)
  | .str a => (strD y).map fun b => decide (sl b < sl a)
  | _ => none
noncomputable def cmpD (op : CmpOp) (x y : PyData) : Option Bool := match op with
  | .Eq => eqD y x
  | .NotEq => neD y x
  | .Lt => ltD y x
  | .Gt => gtD y x
  | .GtE => (intD x).bind fun a => (intD y).map fun b => decide (b ≤ a)
  | .In => (strD x).bind fun a => (strD y).map fun b => has (sl a) (sl b)
  | .NotIn => (strD x).bind fun a => (strD y).map fun b => !has (sl a) (sl b)
  | .Is => (boolD x).bind fun a => (boolD y).bind fun b => if b = true then some a else none
  | _ => none

/-- a value as data: data, or a numbered list's items -/
noncomputable def asD (st : St) : PV → Option PyData
  | .d x => some x
  | .obj r => match st[r]? with
    | some (.list xs) => some (.list xs)
    | _ => none
  | _ => none
noncomputable def cmpV (op : CmpOp) (a b : PV) (st : St) : Option Bool := (asD st a).bind fun x => (asD st b).bind fun y => cmpD op x y

noncomputable def truthyD : PyData → Option Bool
  | .bool b => some b
  | .str s => chk (sl s).length (!(sl s).isEmpty)
  | .list xs => chk xs.length (!xs.isEmpty)
  | _ => none

noncomputable def idx : PyData → Int → Option PyData
  | .list xs, i => if 0 ≤ i ∧ i ≤ 1000000 then xs[i.toNat]? else if i = -1 ∧ xs.length ≤ lim ∧ xs ≠ [] then xs[xs.length - 1]? else none
  | .tuple xs, i => if 0 ≤ i ∧ i ≤ 1000000 then xs[i.toNat]? else none
  | .str s, i => if 0 ≤ i ∧ i ≤ 1000000 then ((sl s)[i.toNat]?).map fun c => .str (mkS [c]) else none
  | _, _ => none

noncomputable def cut {α : Type} (l : List α) (lo hi : Option Int) : Option (List α) := match lo, hi with
  | none, none => some l
  | some a, none => if 0 ≤ a ∧ a ≤ 1000000 then some (l.drop a.toNat) else none
  | none, some b => if 0 ≤ b ∧ b ≤ 1000000 then some (l.take b.toNat) else none
  | some a, some b => if 0 ≤ a ∧ 0 ≤ b ∧ a ≤ 1000000 ∧ b ≤ 1000000 then some ((l.take b.toNat).drop a.toNat) else none
noncomputable def slcT (xs : List PyData) (lo hi : Option Int) : Option PyData := if lo.isNone = true then hi.bind fun b => if 0 ≤ b ∧ b.toNat < xs.length ∧ xs.length ≤ lim then some (.tuple (xs.take b.toNat)) else none else none
noncomputable def slc (x : PyData) (lo hi : Option Int) : Option PyData := match x with
  | .list xs => if xs.length ≤ lim then (cut xs lo hi).map .list else none
  | .tuple xs => slcT xs lo hi
  | .str s => if (sl s).length ≤ lim then (cut (sl s) lo hi).map fun l => .str (mkS l) else none
  | _ => none

noncomputable def isort : List Int → List Int
  | [] => []
  | a :: r => ins a (isort r)
where
  ins (a : Int) : List Int → List Int
    | [] => [a]
    | b :: t => if a ≤ b then a :: b :: t else b :: ins a t

noncomputable def lenD : PyData → Option Nat
  | .list xs => some xs.length
  | .tuple xs => some xs.length
  | .str s => some (sl s).length
  | _ => none

/-- first place, from `i` on, below `e`, where the piece stands -/
noncomputable def findFrom (p : List Nat) : List Nat → Nat → Option Nat
  | [], i => if p.isEmpty then some i else none
  | b :: t, i => if starts p (b :: t) then some i else findFrom p t (i + 1)
noncomputable def find3 (s p : List Nat) (lo : Nat) : Int := match findFrom p (s.drop lo) lo with
  | some i => i
  | none => -1

noncomputable def bi (id : String) (args : List PV) (st : St) : Option (PV × St) :=
  if id = "len" then (one1 args).bind fun v => (asD st v).bind fun x => (lenD x).bind fun n => chk n (.d (.int n), st)
  else if id = "sum" then (one1 args).bind fun v => (lstV v).bind fun xs => (allInts xs).bind fun l => if l.all (fun i => decide (-1000000000 ≤ i ∧ i ≤ 1000000000)) = true then chk l.length (.d (.int l.sum), st) else none
  else if id = "max" then (two2 args).bind fun v => (intV v.1).bind fun a => (intV v.2).map fun b => (.d (.int (if a < b then b else a)), st)
  else if id = "min" then (two2 args).bind fun v => (intV v.1).bind fun a => (intV v.2).map fun b => (.d (.int (if b < a then b else a)), st)
  else if id = "sorted" then (one1 args).bind fun v => (lstV v).bind fun xs => (allInts xs).bind fun l => if l.length < 64 then some (.d (.list ((isort l).map .int)), st) else none
  else if id = "iter" then (two2 args).bind fun v => (mthV v.1).bind fun m => (strV v.2).bind fun s => if sl s = [] then some (.obj st.length, st ++ [.citer m.1 m.2]) else none
  else none
noncomputable def tyC (n : String) (args : List PV) (st : St) : Option (PV × St) :=
  if n = "range" then (one1 args).bind fun v => (intV v).bind fun k => if 0 ≤ k ∧ k ≤ 100000 then some (.rng k.toNat, st) else none
  else if n = "list" then (one1 args).bind fun v => (strV v).bind fun s => chk (sl s).length (.d (.list ((sl s).map fun c => .str (mkS [c]))), st)
  else none

inductive Cal where
  | sm (name : Str) (s : Str)
  | lm (name : Str) (r : Nat)
  | pv (f : PV) (first : List PV)

noncomputable def notBi : PV → Bool
  | .bi _ => false
  | _ => true
/-- the methods of strings and of lists that the text asks for -/
noncomputable def strId (name : Str) : Option String :=
  if name = Str.ofString "join" then some "str.join" else if name = Str.ofString "split" then some "str.split" else if name = Str.ofString "find" then some "str.find" else if name = Str.ofString "count" then some "str.count" else none
noncomputable def lstId (name : Str) : Option String :=
  if name = Str.ofString "append" then some "list.append" else if name = Str.ofString "pop" then some "list.pop" else none
noncomputable def methM (r : Nat) (name : Str) : MO → Option Cal
  | .list _ => if (lstId name).isSome = true then some (.lm name r) else none
  | .inst c attrs => if ((attrs.lookup name).isNone && !instAttr c name) = true then (clsMeth c name).map fun f => .pv (.fn f) [.obj r] else none
  | .fobj attrs => if name = Str.ofString "read" then (attrs.lookup name).bind fun v => if notBi v = true then some (.pv v []) else none else none
  | _ => none
noncomputable def methOf (v : PV) (name : Str) (st : St) : Option Cal := match v with
  | .d x => (strD x).bind fun s => if (strId name).isSome = true then some (.sm name s) else none
  | .obj r => (st[r]?).bind (methM r name)
  | _ => none

noncomputable def okM : Cal → Bool
  | .pv f _ => okCal f
  | _ => true
noncomputable def glueD (s : Str) : PyData → Option PyData
  | .list xs => (allStrs xs).bind fun l => chk ((l.map (·.length)).sum + l.length * s.length) (.str (PySem.Str.join s l))
  | .str t => chk ((sl t).length + (sl t).length * s.length) (.str (PySem.Str.join s ((sl t).map fun c => mkS [c])))
  | _ => none
noncomputable def find2 (s p : Str) : List PV → Option Int
  | [] => some (PySem.Txt.find s p)
  | v :: t => (one1 t).bind fun u => (intV v).bind fun a => (intV u).bind fun b => if 0 ≤ a ∧ b = (s.length : Int) ∧ a ≤ b then some (find3 (sl s) (sl p) a.toNat) else none
noncomputable def find1 (s : Str) : List PV → Option Int
  | [] => none
  | v :: t => (strV v).bind fun p => find2 s p t
noncomputable def strM (name s : Str) (args : List PV) (st : St) : Option (PV × St) :=
  if name = Str.ofString "join" then (one1 args).bind fun v => (datV v).bind fun x => (glueD s x).map fun z => (.d z, st)
  else if name = Str.ofString "split" then (one1 args).bind fun v => (strV v).bind fun p => if p.length = 0 then none else chk (s.length + 2) (.d (.list ((PySem.Txt.split s p).map .str)), st)
  else if name = Str.ofString "find" then (find1 s args).map fun i => (.d (.int i), st)
  else if name = Str.ofString "count" then (one1 args).bind fun v => (strV v).bind fun p => (one1 (sl p)).map fun c => (.d (.int ((sl s).count c)), st)
  else none
noncomputable def popL : List PyData → Option (PyData × List PyData)
  | [] => none
  | x :: t => some (x, t)
theorem popL_of {l : List PyData} {x : PyData × List PyData} (h : popL l = some x) : l = x.1 :: x.2 := by
  cases l with
  | nil => exact nsome h
  | cons a l => obtain rfl := sinj h; rfl
noncomputable def lstM (name : Str) (r : Nat) (args : List PV) (st : St) : Option (PV × St) := ((st[r]?).bind moL).bind fun xs =>
  if name = Str.ofString "append" then (one1 args).bind fun v => (datV v).bind fun x => chk xs.length (.d .none, st.set r (.list (xs ++ [x])))
  else if name = Str.ofString "pop" then (one1 args).bind fun v => (intV v).bind fun i => if i = 0 then (popL xs).bind fun x => chk xs.length (.d x.1, st.set r (.list x.2)) else none
  else none

/-- an attribute read; is it a method, made anew -/
noncomputable def getM (r : Nat) (name : Str) : MO → Option (PV × Bool)
  | .inst c attrs => if instAttr c name = true then (attrs.lookup name).bind fun v => if notBi v = true then some (v, false) else none else if (attrs.lookup name).isNone = true then (clsMeth c name).map fun f => (.meth f r, true) else none
  | _ => none
noncomputable def getA (v : PV) (name : Str) (st : St) : Option (PV × Bool) := (objV v).bind fun r => (st[r]?).bind (getM r name)
noncomputable def setM (r : Nat) (name : Str) (x : PV) (st : St) : MO → Option St
  | .inst c attrs => if instAttr c name = true then chk attrs.length (st.set r (.inst c (upd attrs name x))) else none
  | .fobj attrs => if name = Str.ofString "read" ∧ attrs.length = 0 then some (st.set r (.fobj [(name, x)])) else none
  | _ => none
noncomputable def setA (v : PV) (name : Str) (x : PV) (st : St) : Option St := (objV v).bind fun r => (st[r]?).bind (setM r name x st)
noncomputable def setI (v i x : PV) (st : St) : Option St := (objV v).bind fun r => (intV i).bind fun k => (datV x).bind fun y => ((st[r]?).bind moL).bind fun xs => if 0 ≤ k ∧ k.toNat < xs.length then chk xs.length (st.set r (.list (xs.set k.toNat y))) else none

/-! Loops' sources -/

inductive It where
  | items (xs : List PV)
  | mlist (r i : Nat)
  | call (r : Nat)

noncomputable def rngL (n : Nat) : List PV := (List.range n).map fun (i : Nat) => PV.d (PyData.int (Int.ofNat i))
noncomputable def iterD : PyData → Option It
  | .list xs => chk xs.length (.items (xs.map .d))
  | .tuple xs => chk xs.length (.items (xs.map .d))
  | .str s => chk (sl s).length (.items ((sl s).map fun c => .d (.str (mkS [c]))))
  | _ => none
noncomputable def iterM (r : Nat) : MO → Option It
  | .list _ => some (.mlist r 0)
  | .citer _ _ => some (.call r)
  | .done => some (.call r)
  | _ => none
noncomputable def iterOf (v : PV) (st : St) : Option It := match v with
  | .d x => iterD x
  | .rng n => chk n (.items (rngL n))
  | .obj r => (st[r]?).bind (iterM r)
  | _ => none

/-- no display of a set, no starred word -/
noncomputable def plainE : Expr → Bool
  | .Set _ _ _ => false
  | .Starred _ _ => false
  | _ => true
/-- no call without arguments -/
noncomputable def noCall0 : Expr → Bool
  | .Call _ [] [] _ => false
  | _ => true
noncomputable def isCall : Expr → Bool
  | .Call _ _ _ _ => true
  | _ => false
noncomputable def isName : Expr → Bool
  | .Name _ _ => true
  | _ => false
noncomputable def isAttr : Expr → Bool
  | .Attribute _ _ _ => true
  | _ => false
noncomputable def notSlice : Expr → Bool
  | .Slice _ _ _ _ => false
  | _ => true
/-- no comprehension: a plain value of an assignment -/
noncomputable def noComp : Expr → Bool
  | .ListComp _ _ _ _ => false
  | .SetComp _ _ _ _ => false
  | .DictComp _ _ _ _ _ => false
  | _ => true
/-- asked for its truth as a value -/
noncomputable def truthE : Expr → Bool
  | .BoolOp _ _ _ => false
  | .UnaryOp _ _ _ => false
  | .IfExp _ _ _ _ => false
  | .Compare _ _ _ _ => false
  | _ => true

/-- operations on values that are data -/
noncomputable def binopV (op : Operator) : PV → PV → Option PyData
  | .d x, .d y => binop op x y
  | _, _ => none
noncomputable def negV : PV → Option PyData
  | .d (.int i) => some (.int (-i))
  | _ => none
noncomputable def slcV : PV → Option Int → Option Int → Option PyData
  | .d x, a, b => slc x a b
  | _, _, _ => none
theorem binopV_of {op : Operator} {x y : PV} {z : PyData} (h : binopV op x y = some z) : ∃ a b, x = .d a ∧ y = .d b ∧ binop op a b = some z := by
  cases x <;> first | exact nsome h | skip
  cases y <;> first | exact nsome h | skip
  exact ⟨_, _, rfl, rfl, h⟩
theorem negV_of {x : PV} {z : PyData} (h : negV x = some z) : ∃ i, x = .d (.int i) ∧ z = .int (-i) := by
  cases x <;> first | exact nsome h | skip
  rename_i x
  cases x <;> first | exact nsome h | skip
  exact ⟨_, rfl, (sinj h).symm⟩
theorem slcV_of {x : PV} {a b : Option Int} {z : PyData} (h : slcV x a b = some z) : ∃ y, x = .d y ∧ slc y a b = some z := by
  cases x <;> first | exact nsome h | skip
  exact ⟨_, rfl, h⟩
noncomputable def nmOf : Expr → Option (Str × Pos)
  | .Name a b => some (a, b)
  | _ => none
theorem nmOf_of {e : Expr} {x : Str × Pos} (h : nmOf e = some x) : e = .Name x.1 x.2 := by
  cases e <;> first | exact nsome h | (obtain rfl := sinj h; rfl)
structure Ev where
  E : Fm → St → Expr → Option (PV × St)
  T : Fm → St → Expr → Option (Bool × St)
  B : Fm → St → List Stmt → Option (Fl × Fm × St)
  C : PV → List PV → St → Option (PV × St)

section
variable (r : Ev)

noncomputable def evL (fm : Fm) : St → List Expr → Option (List PV × St)
  | st, [] => some ([], st)
  | st, e :: es => if plainE e then (r.E fm st e).bind fun (v, st) => (evL fm st es).bind fun (vs, st) => some (v :: vs, st) else none

noncomputable def calR (cal : Cal) (vs : List PV) (st : St) : Option (PV × St) := match cal with
  | .sm name s => strM name s vs st
  | .lm name q => lstM name q vs st
  | .pv f first => r.C f (first ++ vs) st

noncomputable def datas : List PV → Option (List PyData)
  | [] => some []
  | .d x :: t => (datas t).map (x :: ·)
  | _ :: _ => none

noncomputable def evOr (fm : Fm) : St → List Expr → Option (Bool × St)
  | st, [] => some (false, st)
  | st, e :: es => (r.T fm st e).bind fun (b, st) => if b then some (true, st) else evOr fm st es

noncomputable def optI (fm : Fm) (st : St) : Option Expr → Option (Option Int × St)
  | none => some (none, st)
  | some e => (r.E fm st e).bind fun (v, st) => match v with
    | .d (.int i) => some (some i, st)
    | _ => none

/-- stores into a target -/
noncomputable def pairN (es : List Expr) : Option (Str × Str) := (two2 es).bind fun p => (nmOf p.1).bind fun m => (nmOf p.2).map fun n => (m.1, n.1)
theorem pairN_of {es : List Expr} {x : Str × Str} (h : pairN es = some x) : ∃ px py, es = [.Name x.1 px, .Name x.2 py] := by
  obtain ⟨p, h1, h⟩ := bnd h
  obtain ⟨m, h2, h⟩ := bnd h
  obtain ⟨n, h3, rfl⟩ := mpd h
  exact ⟨_, _, by rw [two2_of h1, nmOf_of h2, nmOf_of h3]⟩
noncomputable def pairD (v : PV) : Option (PyData × PyData) := (datV v).bind fun d => (tupD d).bind two2
theorem pairD_of {v : PV} {x : PyData × PyData} (h : pairD v = some x) : v = .d (.tuple [x.1, x.2]) := by
  obtain ⟨p, h1, h⟩ := bnd h
  obtain ⟨m, h2, h⟩ := bnd h
  rw [datV_of h1, tupD_of h2, two2_of h]
noncomputable def putT (fm : Fm) (t : Expr) (v : PV) : Option Fm := match t with
  | .Name x _ => fm.put x v
  | .Tuple es _ _ => (pairN es).bind fun m => (pairD v).bind fun q => (fm.put m.1 (.d q.1)).bind fun fm => fm.put m.2 (.d q.2)
  | _ => none

noncomputable def evIfs (fm : Fm) : St → List Expr → Option (Bool × St)
  | st, [] => some (true, st)
  | st, e :: es => (r.T fm st e).bind fun (b, st) => if b then evIfs fm st es else some (false, st)

noncomputable abbrev CSt := Fm × St × List PyData

/-- over known items -/
noncomputable def overItems (f : PV → CSt → Option CSt) : List PV → CSt → Option CSt
  | [], c => some c
  | v :: vs, c => (f v c).bind fun c => overItems f vs c
/-- over a numbered list, read anew at each turn -/
noncomputable def overList (f : PV → CSt → Option CSt) (q : Nat) : Nat → Nat → CSt → Option CSt
  | 0, _, _ => none
  | k + 1, i, c => match c.2.1[q]? with
    | some (.list xs) => if xs.length ≤ lim then match xs[i]? with
        | some x => (f (.d x) c).bind fun c => overList f q k (i + 1) c
        | none => some c
      else none
    | _ => none
noncomputable def over (f : PV → CSt → Option CSt) (it : It) (c : CSt) : Option CSt := match it with
  | .items xs => overItems f xs c
  | .mlist q i => overList f q 1000 i c
  | .call _ => none

noncomputable def compTurn1 (tgt : Expr) (ifs : List Expr) (k : CSt → Option CSt) (v : PV) (c : CSt) : Option CSt :=
  (putT c.1 tgt v).bind fun fm => (evIfs r fm c.2.1 ifs).bind fun (ok, st) => if ok then k (fm, st, c.2.2) else some (fm, st, c.2.2)

/-- what a comprehension does for the clauses that are left -/
noncomputable def compBody (elt : Expr) : List Comprehension → CSt → Option CSt
  | [], c => (r.E c.1 c.2.1 elt).bind fun (v, st) => match v with
    | .d x => chk c.2.2.length (c.1, st, c.2.2 ++ [x])
    | _ => none
  | g :: gs, c => if g.is_async = 0 && plainE g.iter then (r.E c.1 c.2.1 g.iter).bind fun (x, st) => (iterOf x st).bind fun it =>
      over (compTurn1 r g.target g.ifs (fun c => compBody elt gs c)) it (c.1, st, c.2.2) else none

noncomputable def capture (fm : Fm) : List (Str × NameKind) → List (Str × PV)
  | [] => []
  | (x, .free) :: t => match fm.cel.lookup x with
    | some v => (x, v) :: capture fm t
    | none => capture fm t
  | _ :: t => capture fm t

noncomputable def comp (fm : Fm) (st : St) (elt : Expr) (gens : List Comprehension) (scope : Scope) : Option (PV × St) := match gens with
  | g :: gs => if g.is_async = 0 && plainE g.iter && okComp scope && (scope.names.all fun x => x.2 != .free || (fm.cel.lookup x.1).isSome) then (r.E fm st g.iter).bind fun (x, st) => (iterOf x st).bind fun it =>
      (over (compTurn1 r g.target g.ifs (fun c => compBody r elt gs c)) it (⟨scope.names, [], capture fm scope.names, false, 0⟩, st, [])).bind fun c =>
        some (.d (.list c.2.2), c.2.1) else none
  | [] => none

/-- the forms of expressions that the text has -/
inductive XE where
  | cst (c : Const) (k : Nat) (p : Pos)
  | nam (x : Str) (p : Pos)
  | bin (a : Expr) (op : Operator) (b : Expr) (p : Pos)
  | neg (a : Expr) (p : Pos)
  | ife (t a b : Expr) (p : Pos)
  | cmp (a : Expr) (op : CmpOp) (b : Expr) (p : Pos)
  | mca (o : Expr) (name : Str) (apos : Pos) (args : List Expr) (pos : Pos)
  | cal (f : Expr) (args : List Expr) (p : Pos)
  | att (o : Expr) (name : Str) (p : Pos)
  | slc (o : Expr) (lo hi : Option Expr) (sp p : Pos)
  | sub (o i : Expr) (p : Pos)
  | lst (es : List Expr) (p : Pos)
  | tup (es : List Expr) (k : Nat) (p : Pos)
  | cpr (elt : Expr) (gens : List Comprehension) (scope : Scope) (p : Pos)
  | lam (k : Nat) (cp p : Pos)
  | ors (es : List Expr) (p : Pos)
noncomputable def unE : XE → Expr
  | .cst c k p => .Constant c k p
  | .nam x p => .Name x p
  | .bin a op b p => .BinOp a op b p
  | .neg a p => .UnaryOp .USub a p
  | .ife t a b p => .IfExp t a b p
  | .cmp a op b p => .Compare a [op] [b] p
  | .mca o name apos args pos => .Call (.Attribute o name apos) args [] pos
  | .cal f args p => .Call f args [] p
  | .att o name p => .Attribute o name p
  | .slc o lo hi sp p => .Subscript o (.Slice lo hi none sp) p
  | .sub o i p => .Subscript o i p
  | .lst es p => .List es p
  | .tup es k p => .Tuple es k p
  | .cpr elt gens scope p => .ListComp elt gens scope p
  | .lam k cp p => .Lambda ⟨[], [], none, [], [], none, []⟩ (.Constant .none k cp) ⟨.function, [], false, false, []⟩ p
  | .ors es p => .BoolOp .Or es p
noncomputable def atOfE : Expr → Option (Expr × Str × Pos)
  | .Attribute o name p => some (o, name, p)
  | _ => none
theorem atOfE_of {e : Expr} {x : Expr × Str × Pos} (h : atOfE e = some x) : e = .Attribute x.1 x.2.1 x.2.2 := by
  cases e <;> first | exact nsome h | (obtain rfl := sinj h; rfl)
noncomputable def slOfE : Expr → Option (Option Expr × Option Expr × Option Expr × Pos)
  | .Slice lo hi s p => some (lo, hi, s, p)
  | _ => none
theorem slOfE_of {e : Expr} {x : Option Expr × Option Expr × Option Expr × Pos} (h : slOfE e = some x) : e = .Slice x.1 x.2.1 x.2.2.1 x.2.2.2 := by
  cases e <;> first | exact nsome h | (obtain rfl := sinj h; rfl)
theorem slOfE_not {e : Expr} (h : slOfE e = none) : notSlice e = true := by
  cases e <;> first | rfl | exact nsome h.symm
noncomputable def isUSub : UnaryOp → Bool
  | .USub => true
  | _ => false
theorem isUSub_of {o : UnaryOp} (h : isUSub o = true) : o = .USub := by cases o <;> first | rfl | exact absurd h Bool.false_ne_true
noncomputable def isOrB : BoolOp → Bool
  | .Or => true
  | _ => false
theorem isOrB_of {o : BoolOp} (h : isOrB o = true) : o = .Or := by cases o <;> first | rfl | exact absurd h Bool.false_ne_true
noncomputable def cnOf : Expr → Option (Const × Nat × Pos)
  | .Constant c k p => some (c, k, p)
  | _ => none
theorem cnOf_of {e : Expr} {x : Const × Nat × Pos} (h : cnOf e = some x) : e = .Constant x.1 x.2.1 x.2.2 := by
  cases e <;> first | exact nsome h | (obtain rfl := sinj h; rfl)
noncomputable def isNoneC : Const → Bool
  | .none => true
  | _ => false
theorem isNoneC_of {c : Const} (h : isNoneC c = true) : c = .none := by cases c <;> first | rfl | exact absurd h Bool.false_ne_true
theorem nil_of {α : Type} {l : List α} (h : l.isEmpty = true) : l = [] := List.isEmpty_iff.mp h
theorem non_of {α : Type} {o : Option α} (h : o.isNone = true) : o = none := Option.isNone_iff_eq_none.mp h
theorem and_of {a b : Bool} (h : (a && b) = true) : a = true ∧ b = true := Bool.and_eq_true_iff.mp h
theorem not_of {b : Bool} (h : (!b) = true) : b = false := by cases b with
  | false => rfl
  | true => exact absurd h Bool.false_ne_true
noncomputable def noArgs (a : Arguments) : Bool := a.posonlyargs.isEmpty && (a.vararg.isNone && (a.kwonlyargs.isEmpty && (a.kw_defaults.isEmpty && (a.kwarg.isNone && a.defaults.isEmpty))))
theorem noArgs_of {a : Arguments} (h : noArgs a = true) : a = ⟨[], a.args, none, [], [], none, []⟩ := by
  obtain ⟨a1, a2, a3, a4, a5, a6, a7⟩ := a
  obtain ⟨h1, h⟩ := and_of h
  obtain ⟨h2, h⟩ := and_of h
  obtain ⟨h3, h⟩ := and_of h
  obtain ⟨h4, h⟩ := and_of h
  obtain ⟨h5, h6⟩ := and_of h
  rw [show a1 = [] from nil_of h1, show a3 = none from non_of h2, show a4 = [] from nil_of h3, show a5 = [] from nil_of h4, show a6 = none from non_of h5, show a7 = [] from nil_of h6]
noncomputable def plainSc (s : Scope) : Bool := s.kind == .function && (s.names.isEmpty && (!s.isGenerator && (!s.isCoroutine && s.more.isEmpty)))
theorem plainSc_of {s : Scope} (h : plainSc s = true) : s = ⟨.function, [], false, false, []⟩ := by
  obtain ⟨k, n, g, c, m⟩ := s
  obtain ⟨h1, h⟩ := and_of h
  obtain ⟨h2, h⟩ := and_of h
  obtain ⟨h3, h⟩ := and_of h
  obtain ⟨h4, h5⟩ := and_of h
  rw [show k = .function from beq_iff_eq.mp h1, show n = [] from nil_of h2, show g = false from not_of h3, show c = false from not_of h4, show m = [] from nil_of h5]
/-- the lambda without parameters that gives None -/
noncomputable def lamOf (a : Arguments) (b : Expr) (s : Scope) : Option (Nat × Pos) := if noArgs a && (a.args.isEmpty && plainSc s) then (cnOf b).bind fun x => if isNoneC x.1 then some x.2 else none else none
noncomputable def viewE : Expr → Option XE
  | .Constant c k p => some (.cst c k p)
  | .Name x p => some (.nam x p)
  | .BinOp a op b p => some (.bin a op b p)
  | .UnaryOp o a p => if isUSub o then some (.neg a p) else none
  | .IfExp t a b p => some (.ife t a b p)
  | .Compare a ops bs p => (one1 ops).bind fun op => (one1 bs).map fun b => .cmp a op b p
  | .Call f args kws pos => match kws with
    | [] => (match atOfE f with
      | some x => some (.mca x.1 x.2.1 x.2.2 args pos)
      | none => some (.cal f args pos))
    | _ :: _ => none
  | .Attribute o name p => some (.att o name p)
  | .Subscript o i p => match slOfE i with
    | some x => (match x.2.2.1 with
      | none => some (.slc o x.1 x.2.1 x.2.2.2 p)
      | some _ => none)
    | none => some (.sub o i p)
  | .List es p => some (.lst es p)
  | .Tuple es k p => some (.tup es k p)
  | .ListComp elt gens scope p => some (.cpr elt gens scope p)
  | .Lambda a b s p => (lamOf a b s).map fun x => .lam x.1 x.2 p
  | .BoolOp o es p => if isOrB o then some (.ors es p) else none
  | _ => none
theorem lamOf_of {a : Arguments} {b : Expr} {s : Scope} {x : Nat × Pos} (h : lamOf a b s = some x) : a = ⟨[], [], none, [], [], none, []⟩ ∧ b = .Constant .none x.1 x.2 ∧ s = ⟨.function, [], false, false, []⟩ := by
  obtain ⟨h1, h2⟩ := ifs_of h
  obtain ⟨a1, h3⟩ := and_of h1
  obtain ⟨a2, a3⟩ := and_of h3
  obtain ⟨y, b1, b2⟩ := bnd h2
  obtain ⟨c1, c2⟩ := ifs_of b2
  refine ⟨?_, ?_, plainSc_of a3⟩
  · rw [noArgs_of a1, nil_of a2]
  · rw [cnOf_of b1, isNoneC_of c1, sinj c2]
theorem viewE_of {e : Expr} {x : XE} (h : viewE e = some x) : e = unE x := by
  cases e <;> first | exact nsome h | (obtain rfl := sinj h; rfl) | skip
  · rename_i o es p
    change (if isOrB o = true then _ else _) = _ at h
    cases q : isOrB o with
    | false => rw [q] at h; exact nsome h
    | true => rw [q] at h; obtain rfl := sinj h; rw [isOrB_of q]; rfl
  · rename_i o a p
    change (if isUSub o = true then _ else _) = _ at h
    cases q : isUSub o with
    | false => rw [q] at h; exact nsome h
    | true => rw [q] at h; obtain rfl := sinj h; rw [isUSub_of q]; rfl
  · rename_i a b s p
    obtain ⟨y, h1, h2⟩ := mpd h
    obtain ⟨rfl, rfl, rfl⟩ := lamOf_of h1
    subst h2; rfl
  · rename_i a ops bs p
    obtain ⟨op, h1, h2⟩ := bnd h
    obtain ⟨b, h3, h4⟩ := mpd h2
    obtain rfl := one1_of h1
    obtain rfl := one1_of h3
    subst h4; rfl
  · rename_i f args kws pos
    cases kws with
    | cons k ks => exact nsome h
    | nil =>
      change (match atOfE f with | some x => some (XE.mca x.1 x.2.1 x.2.2 args pos) | none => some (.cal f args pos)) = _ at h
      cases q : atOfE f with
      | none => rw [q] at h; obtain rfl := sinj h; rfl
      | some y => rw [q] at h; obtain rfl := sinj h; rw [atOfE_of q]; rfl
  · rename_i o i p
    change (match slOfE i with | some x => (match x.2.2.1 with | none => some (XE.slc o x.1 x.2.1 x.2.2.2 p) | some _ => none) | none => some (.sub o i p)) = _ at h
    cases q : slOfE i with
    | none => rw [q] at h; obtain rfl := sinj h; rfl
    | some y =>
      obtain ⟨lo, hi, st, sp⟩ := y
      rw [q] at h
      cases st with
      | some z => exact nsome h
      | none => obtain rfl := sinj h; rw [slOfE_of q]; rfl
noncomputable def stepX (fm : Fm) (st : St) : XE → Option (PV × St)
  | .cst c _ _ => match c with
    | .none => some (.d .none, st)
    | .bool b => some (.d (.bool b), st)
    | .int i => some (.d (.int i), st)
    | .str s => some (.d (.str s), st)
    | _ => none
  | .nam x _ => (fm.get x).map fun v => (v, st)
  | .bin a op b _ => (r.E fm st a).bind fun x => (r.E fm x.2 b).bind fun y => (binopV op x.1 y.1).map fun z => (.d z, y.2)
  | .neg a _ => (r.E fm st a).bind fun x => (negV x.1).map fun z => (.d z, x.2)
  | .ife t a b _ => (r.T fm st t).bind fun c => if c.1 then r.E fm c.2 a else r.E fm c.2 b
  | .cmp a op b _ => if plainE b then (r.E fm st a).bind fun x => (r.E fm x.2 b).bind fun y => (cmpV op x.1 y.1 y.2).map fun c => (.d (.bool c), y.2) else none
  | .mca o name apos args pos => if noCall0 o && apos.endLine == pos.line && decide (args.length ≤ 5) then (r.E fm st o).bind fun x => (methOf x.1 name x.2).bind fun cal => if okM cal then (evL r fm x.2 args).bind fun y => calR r cal y.1 y.2 else none else none
  | .cal f args _ => if !isAttr f && decide (args.length ≤ 5) then (r.E fm st f).bind fun x => if okCal x.1 then (evL r fm x.2 args).bind fun y => r.C x.1 y.1 y.2 else none else none
  | .att o name _ => if noCall0 o then (r.E fm st o).bind fun x => (getA x.1 name x.2).map fun v => (v.1, x.2) else none
  | .slc o lo hi _ _ => (r.E fm st o).bind fun x => (optI r fm x.2 lo).bind fun a => (optI r fm a.2 hi).bind fun b => (slcV x.1 a.1 b.1).map fun y => (.d y, b.2)
  | .sub o i _ => if notSlice i then (r.E fm st o).bind fun x => (r.E fm x.2 i).bind fun y => (intV y.1).bind fun k => (asD y.2 x.1).bind fun z => (idx z k).map fun u => (.d u, y.2) else none
  | .lst es _ => (evL r fm st es).bind fun x => (datas x.1).bind fun xs => chk xs.length (.d (.list xs), x.2)
  | .tup es _ _ => (evL r fm st es).bind fun x => (datas x.1).bind fun xs => chk xs.length (.d (.tuple xs), x.2)
  | .cpr elt gens scope _ => comp r fm st elt gens scope
  | .lam _ _ pos => if fm.code ≠ 97 || pos.line == 94 then none else some (.obj st.length, st ++ [.fobj []])
  | .ors _ _ => none
noncomputable def stepE (fm : Fm) (st : St) (e : Expr) : Option (PV × St) := (viewE e).bind (stepX r fm st)

/-- the forms of tests -/
inductive XT where
  | cmp (a : Expr) (op : CmpOp) (b : Expr) (p : Pos)
  | ors (es : List Expr) (p : Pos)
  | ife (t a b : Expr) (p : Pos)
  | val (e : Expr)
noncomputable def unT : XT → Expr
  | .cmp a op b p => .Compare a [op] [b] p
  | .ors es p => .BoolOp .Or es p
  | .ife t a b p => .IfExp t a b p
  | .val e => e
noncomputable def viewT (e : Expr) : Option XT := if truthE e then some (.val e) else (viewE e).bind fun x => match x with
  | .cmp a op b p => some (.cmp a op b p)
  | .ors es p => some (.ors es p)
  | .ife t a b p => some (.ife t a b p)
  | _ => none
theorem viewT_of {e : Expr} {x : XT} (h : viewT e = some x) : e = unT x ∧ (∀ e', x = .val e' → truthE e' = true) := by
  unfold viewT at h
  cases q : truthE e with
  | true => rw [q] at h; obtain rfl := sinj h; exact ⟨rfl, fun e' h => by cases h; exact q⟩
  | false =>
    rw [q] at h
    obtain ⟨y, h1, h2⟩ := bnd h
    have h1 := viewE_of h1
    cases y <;> first | exact nsome h2 | (obtain rfl := sinj h2; exact ⟨h1, fun e' h => nomatch h⟩)
noncomputable def stepY (fm : Fm) (st : St) : XT → Option (Bool × St)
  | .cmp a op b _ => if plainE b then (r.E fm st a).bind fun x => (r.E fm x.2 b).bind fun y => (cmpV op x.1 y.1 y.2).map fun c => (c, y.2) else none
  | .ors es _ => evOr r fm st es
  | .ife t a b _ => (r.T fm st t).bind fun c => if c.1 then r.T fm c.2 a else r.T fm c.2 b
  | .val e => (r.E fm st e).bind fun x => (asD x.2 x.1).bind fun y => (truthyD y).map fun b => (b, x.2)
noncomputable def stepT (fm : Fm) (st : St) (e : Expr) : Option (Bool × St) := (viewT e).bind (stepY r fm st)

/-- a list display that is a variable's (or an attribute's) own: one item at most -/
noncomputable def lsOf : Expr → Option (List Expr)
  | .List es _ => some es
  | _ => none
theorem lsOf_of {e : Expr} {x : List Expr} (h : lsOf e = some x) : ∃ p, e = .List x p := by
  cases e <;> first | exact nsome h | (obtain rfl := sinj h; exact ⟨_, rfl⟩)
noncomputable def newL (fm : Fm) (st : St) (es : List Expr) : Option (PV × St) := (evL r fm st es).bind fun x => (datas x.1).map fun xs => (.obj x.2.length, x.2 ++ [.list xs])
noncomputable def newList (fm : Fm) (st : St) (e : Expr) : Option (PV × St) := match lsOf e with
  | some es => if es.length ≤ 1 then newL r fm st es else r.E fm st e
  | none => r.E fm st e

noncomputable def forItems (tgt : Expr) (body : List Stmt) : List PV → Fm → St → Option (Fl × Fm × St)
  | [], fm, st => some (.nx, fm, st)
  | v :: vs, fm, st => (putT fm tgt v).bind fun fm => (r.B fm st body).bind fun (fl, fm, st) => match fl with
    | .nx => forItems tgt body vs fm st
    | .ct => forItems tgt body vs fm st
    | .br => some (.nx, fm, st)
    | .rt v => some (.rt v, fm, st)
noncomputable def forList (tgt : Expr) (body : List Stmt) (q : Nat) : Nat → Nat → Fm → St → Option (Fl × Fm × St)
  | 0, _, _, _ => none
  | k + 1, i, fm, st => match st[q]? with
    | some (.list xs) => if xs.length ≤ lim then match xs[i]? with
        | some x => (putT fm tgt (.d x)).bind fun fm => (r.B fm st body).bind fun (fl, fm, st) => match fl with
          | .nx => forList tgt body q k (i + 1) fm st
          | .ct => forList tgt body q k (i + 1) fm st
          | .br => some (.nx, fm, st)
          | .rt v => some (.rt v, fm, st)
        | none => some (.nx, fm, st)
      else none
    | _ => none

/-- one asking of an iterator over a method -/
noncomputable def nextE (q : Nat) (x : PV × St) : Option (Option PV × St) := (strV x.1).bind fun s => ((x.2[q]?).bind moC).bind fun m => if (fnTab m.1).isSome = true then (if sl s = [] then some (none, x.2.set q .done) else some (some x.1, x.2)) else none
noncomputable def nextM (q : Nat) (st : St) : MO → Option (Option PV × St)
  | .citer f o => if (fnTab f).isSome = true then (r.C (.meth f o) [] st).bind (nextE q) else none
  | .done => some (none, st)
  | _ => none
noncomputable def nextC (q : Nat) (st : St) : Option (Option PV × St) := (st[q]?).bind (nextM r q st)
noncomputable def forCall (tgt : Expr) (body : List Stmt) (q : Nat) : Nat → Fm → St → Option (Fl × Fm × St)
  | 0, _, _ => none
  | k + 1, fm, st => (nextC r q st).bind fun (v, st) => match v with
    | some v => (putT fm tgt v).bind fun fm => (r.B fm st body).bind fun (fl, fm, st) => match fl with
      | .nx => forCall tgt body q k fm st
      | .ct => forCall tgt body q k fm st
      | .br => some (.nx, fm, st)
      | .rt v => some (.rt v, fm, st)
    | none => some (.nx, fm, st)
noncomputable def forLoop (tgt : Expr) (body : List Stmt) (it : It) (fm : Fm) (st : St) : Option (Fl × Fm × St) := match it with
  | .items xs => forItems r tgt body xs fm st
  | .mlist q i => forList r tgt body q 1000 i fm st
  | .call q => if isName tgt then forCall r tgt body q 1000 fm st else none

/-- the forms of statements that the text has -/
inductive XS where
  | asgC (x : Str) (px : Pos) (elt : Expr) (gens : List Comprehension) (scope : Scope) (p2 pos : Pos)
  | asgN (x : Str) (px : Pos) (v : Expr) (pos : Pos)
  | asgA (o : Expr) (name : Str) (ap : Pos) (v : Expr) (pos : Pos)
  | asgI (o i : Expr) (ip : Pos) (v : Expr) (pos : Pos)
  | asgT (x : Str) (p : Pos) (y : Str) (q : Pos) (k1 : Nat) (p1 : Pos) (a b : Expr) (k2 : Nat) (p2 pos : Pos)
  | augN (x : Str) (p : Pos) (add : Bool) (v : Expr) (pos : Pos)
  | augA (o : Expr) (name : Str) (ap : Pos) (v : Expr) (pos : Pos)
  | ifs (t : Expr) (a b : List Stmt) (p : Pos)
  | fors (t e : Expr) (b : List Stmt) (p : Pos)
  | ret (e : Expr) (p : Pos)
  | brk (p : Pos)
  | cnt (p : Pos)
  | asr (t : Expr) (m : Option Expr) (p : Pos)
  | exp (e : Expr) (p : Pos)
  | dfn (nm : Str) (q : Arg) (body : List Stmt) (scope : Scope) (bind : Str) (pos : Pos)
noncomputable def unS : XS → Stmt
  | .asgC x px elt gens scope p2 pos => .Assign [.Name x px] (.ListComp elt gens scope p2) pos
  | .asgN x px v pos => .Assign [.Name x px] v pos
  | .asgA o name ap v pos => .Assign [.Attribute o name ap] v pos
  | .asgI o i ip v pos => .Assign [.Subscript o i ip] v pos
  | .asgT x p y q k1 p1 a b k2 p2 pos => .Assign [.Tuple [.Name x p, .Name y q] k1 p1] (.Tuple [a, b] k2 p2) pos
  | .augN x p add v pos => .AugAssign (.Name x p) (if add then .Add else .Sub) v pos
  | .augA o name ap v pos => .AugAssign (.Attribute o name ap) .Add v pos
  | .ifs t a b p => .If t a b p
  | .fors t e b p => .For t e b [] p
  | .ret e p => .Return (some e) p
  | .brk p => .Break p
  | .cnt p => .Continue p
  | .asr t m p => .Assert t m p
  | .exp e p => .Expr e p
  | .dfn nm q body scope bind pos => .FunctionDef nm ⟨[], [q], none, [], [], none, []⟩ body [] none [] scope none bind pos
noncomputable def cpOf : Expr → Option (Expr × List Comprehension × Scope × Pos)
  | .ListComp a b c d => some (a, b, c, d)
  | _ => none
theorem cpOf_of {e : Expr} {x : Expr × List Comprehension × Scope × Pos} (h : cpOf e = some x) : e = .ListComp x.1 x.2.1 x.2.2.1 x.2.2.2 := by
  cases e <;> first | exact nsome h | (obtain rfl := sinj h; rfl)
noncomputable def tuOf : Expr → Option (List Expr × Nat × Pos)
  | .Tuple a b c => some (a, b, c)
  | _ => none
theorem tuOf_of {e : Expr} {x : List Expr × Nat × Pos} (h : tuOf e = some x) : e = .Tuple x.1 x.2.1 x.2.2 := by
  cases e <;> first | exact nsome h | (obtain rfl := sinj h; rfl)
noncomputable def augOp : Operator → Option Bool
  | .Add => some true
  | .Sub => some false
  | _ => none
theorem augOp_of {o : Operator} {b : Bool} (h : augOp o = some b) : o = if b then .Add else .Sub := by
  cases o <;> first | exact nsome h | (obtain rfl := sinj h; rfl)
noncomputable def defOf (a : Arguments) (decs : List Expr) (ret : Option Expr) (tps : List TypeParam) (tsc : Option Scope) : Option Arg :=
  if noArgs a && (decs.isEmpty && (ret.isNone && (tps.isEmpty && tsc.isNone))) then one1 a.args else none
theorem defOf_of {a : Arguments} {decs : List Expr} {ret : Option Expr} {tps : List TypeParam} {tsc : Option Scope} {q : Arg} (h : defOf a decs ret tps tsc = some q) : a = ⟨[], [q], none, [], [], none, []⟩ ∧ decs = [] ∧ ret = none ∧ tps = [] ∧ tsc = none := by
  obtain ⟨h1, h2⟩ := ifs_of h
  obtain ⟨a1, h1⟩ := and_of h1
  obtain ⟨a2, h1⟩ := and_of h1
  obtain ⟨a3, h1⟩ := and_of h1
  obtain ⟨a4, a5⟩ := and_of h1
  exact ⟨by rw [noArgs_of a1, one1_of h2], nil_of a2, non_of a3, nil_of a4, non_of a5⟩
noncomputable def viewA (t v : Expr) (pos : Pos) : Option XS := match t with
  | .Name x px => match cpOf v with
    | some y => some (.asgC x px y.1 y.2.1 y.2.2.1 y.2.2.2 pos)
    | none => some (.asgN x px v pos)
  | .Attribute o name ap => some (.asgA o name ap v pos)
  | .Subscript o i ip => some (.asgI o i ip v pos)
  | .Tuple xs k1 p1 => (two2 xs).bind fun y => (nmOf y.1).bind fun m => (nmOf y.2).bind fun n => (tuOf v).bind fun z => (two2 z.1).map fun w => .asgT m.1 m.2 n.1 n.2 k1 p1 w.1 w.2 z.2.1 z.2.2 pos
  | _ => none
theorem viewA_of {t v : Expr} {pos : Pos} {x : XS} (h : viewA t v pos = some x) : .Assign [t] v pos = unS x := by
  cases t <;> first | exact nsome h | (obtain rfl := sinj h; rfl) | skip
  · rename_i x px
    change (match cpOf v with | some y => some (XS.asgC x px y.1 y.2.1 y.2.2.1 y.2.2.2 pos) | none => some (.asgN x px v pos)) = _ at h
    cases q : cpOf v with
    | none => rw [q] at h; obtain rfl := sinj h; rfl
    | some y => rw [q] at h; obtain rfl := sinj h; rw [cpOf_of q]; rfl
  · obtain ⟨y, h1, h⟩ := bnd h
    obtain ⟨m, h2, h⟩ := bnd h
    obtain ⟨n, h3, h⟩ := bnd h
    obtain ⟨z, h4, h⟩ := bnd h
    obtain ⟨w, h5, h⟩ := mpd h
    subst h
    obtain rfl := two2_of h1
    have e5 := two2_of h5
    rw [nmOf_of h2, nmOf_of h3, tuOf_of h4, e5]
    rfl
noncomputable def viewG (t : Expr) (op : Operator) (v : Expr) (pos : Pos) : Option XS := (augOp op).bind fun b => match t with
  | .Name x p => some (.augN x p b v pos)
  | .Attribute o name ap => if b then some (.augA o name ap v pos) else none
  | _ => none
theorem viewG_of {t v : Expr} {op : Operator} {pos : Pos} {x : XS} (h : viewG t op v pos = some x) : .AugAssign t op v pos = unS x := by
  obtain ⟨b, h1, h⟩ := bnd h
  rw [augOp_of h1]
  clear h1
  cases t <;> first | exact nsome h | (obtain rfl := sinj h; rfl) | skip
  cases b with
  | false => exact nsome h
  | true => obtain rfl := sinj h; rfl
noncomputable def viewS : Stmt → Option XS
  | .Assign ts v pos => (one1 ts).bind fun t => viewA t v pos
  | .AugAssign t op v pos => viewG t op v pos
  | .If t a b p => some (.ifs t a b p)
  | .For t e b o p => match o with
    | [] => some (.fors t e b p)
    | _ :: _ => none
  | .Return e p => e.map fun e => .ret e p
  | .Break p => some (.brk p)
  | .Continue p => some (.cnt p)
  | .Assert t m p => some (.asr t m p)
  | .Expr e p => some (.exp e p)
  | .FunctionDef nm a body decs ret tps scope tsc bind pos => (defOf a decs ret tps tsc).map fun q => .dfn nm q body scope bind pos
  | _ => none
theorem viewS_of {s : Stmt} {x : XS} (h : viewS s = some x) : s = unS x := by
  cases s <;> first | exact nsome h | (obtain rfl := sinj h; rfl) | skip
  · obtain ⟨q, h1, h2⟩ := mpd h
    obtain ⟨rfl, rfl, rfl, rfl, rfl⟩ := defOf_of h1
    subst h2; rfl
  · obtain ⟨e, h1, h2⟩ := mpd h
    subst h1 h2; rfl
  · obtain ⟨t, h1, h2⟩ := bnd h
    obtain rfl := one1_of h1
    exact viewA_of h2
  · exact viewG_of h
  · rename_i o p
    cases o with
    | nil => obtain rfl := sinj h; rfl
    | cons a l => exact nsome h
noncomputable def addD : PyData → PyData → Option PyData
  | .int a, .int b => some (.int (a + b))
  | .str a, .str b => chk ((sl a).length + (sl b).length) (PyData.str (mkS (sl a ++ sl b)))
  | _, _ => none
noncomputable def addV (x y : PV) : Option PyData := (datV x).bind fun a => (datV y).bind fun b => addD a b
inductive AddV (x y : PV) (z : PyData) : Prop
  | int (a b : Int) (h1 : x = .d (.int a)) (h2 : y = .d (.int b)) (h3 : z = .int (a + b)) : AddV x y z
  | str (a b : Str) (h1 : x = .d (.str a)) (h2 : y = .d (.str b)) (h3 : chk ((sl a).length + (sl b).length) (PyData.str (mkS (sl a ++ sl b))) = some z) : AddV x y z
theorem addV_of {x y : PV} {z : PyData} (h : addV x y = some z) : AddV x y z := by
  obtain ⟨a, h1, h2⟩ := bnd h
  obtain ⟨b, h3, h4⟩ := bnd h2
  obtain rfl := datV_of h1
  obtain rfl := datV_of h3
  clear h h2 h1 h3
  rename addD a b = some z => h
  cases a <;> first | exact nsome h | skip
  · cases b <;> first | exact nsome h | exact .int _ _ rfl rfl (sinj h).symm
  · cases b <;> first | exact nsome h | exact .str _ _ rfl rfl h
noncomputable def subV (x y : PV) : Option Int := (intV x).bind fun a => (intV y).map fun b => a - b
theorem subV_of {x y : PV} {z : Int} (h : subV x y = some z) : ∃ a b, x = .d (.int a) ∧ y = .d (.int b) ∧ z = a - b := by
  obtain ⟨a, h1, h2⟩ := bnd h
  obtain ⟨b, h3, h4⟩ := mpd h2
  exact ⟨a, b, intV_of h1, intV_of h3, h4.symm⟩
noncomputable def isNoneV : PV → Bool
  | .d .none => true
  | _ => false
theorem isNoneV_of {x : PV} (h : isNoneV x = true) : x = .d .none := by
  cases x <;> first | exact absurd h Bool.false_ne_true | skip
  rename_i x
  cases x <;> first | exact absurd h Bool.false_ne_true | rfl
noncomputable def stepZ (fm : Fm) (st : St) : XS → Option (Fl × Fm × St)
  | .asgC x _ elt gens scope _ _ => (comp r fm st elt gens scope).bind fun v => (fm.put x v.1).map fun fm => (.nx, fm, v.2)
  | .asgN x _ value _ => if noComp value then (newList r fm st value).bind fun v => (fm.put x v.1).map fun fm => (.nx, fm, v.2) else none
  | .asgA o name _ value _ => if noComp value then (newList r fm st value).bind fun v => (r.E fm v.2 o).bind fun ov => (setA ov.1 name v.1 ov.2).map fun st => (.nx, fm, st) else none
  | .asgI o i _ value _ => if noComp value && notSlice i then (r.E fm st value).bind fun v => (r.E fm v.2 o).bind fun ov => (r.E fm ov.2 i).bind fun iv => (setI ov.1 iv.1 v.1 iv.2).map fun st => (.nx, fm, st) else none
  | .asgT x p y q _ _ a b _ _ _ => if plainE a && isCall b && p.line == q.line && fm.names.lookup x == some .local && fm.names.lookup y == some .local && x != y then
      (r.E fm st a).bind fun u => (r.E fm u.2 b).bind fun v => (datV u.1).bind fun u1 => (datV v.1).bind fun v1 => (fm.put y (.d v1)).bind fun fm => (fm.put x (.d u1)).map fun fm => (.nx, fm, v.2)
    else none
  | .augN x _ add value _ => (fm.get x).bind fun old => (r.E fm st value).bind fun v => if add then (addV old v.1).bind fun z => (fm.put x (.d z)).map fun fm => (.nx, fm, v.2) else (subV old v.1).bind fun z => (fm.put x (.d (.int z))).map fun fm => (.nx, fm, v.2)
  | .augA o name _ value _ => (r.E fm st o).bind fun ov => (getA ov.1 name ov.2).bind fun old => (r.E fm ov.2 value).bind fun v => (intV old.1).bind fun a => (intV v.1).bind fun b => (setA ov.1 name (.d (.int (a + b))) v.2).map fun st => (.nx, fm, st)
  | .ifs t a b _ => (r.T fm st t).bind fun c => if c.1 then r.B fm c.2 a else r.B fm c.2 b
  | .fors tgt e body _ => if plainE e then (r.E fm st e).bind fun x => (iterOf x.1 x.2).bind fun it => forLoop r tgt body it fm x.2 else none
  | .ret e _ => (r.E fm st e).map fun v => (.rt v.1, fm, v.2)
  | .brk _ => some (.br, fm, st)
  | .cnt _ => some (.ct, fm, st)
  | .asr t _ _ => (r.T fm st t).bind fun c => if c.1 then some (.nx, fm, c.2) else none
  | .exp e _ => if isCall e then (r.E fm st e).bind fun v => if isNoneV v.1 then some (.nx, fm, v.2) else none else none
  | .dfn nm q body scope bind pos =>
      if fm.frz || !(fm.code == 97) || !okScope scope || !(nm == Str.ofString "read" && pos.line == 94 && bind == nm && q.annotation.isNone && fm.names.lookup bind == some .local && scope.names.all fun x => x.2 != .free || fm.names.lookup x.1 == some .cell) then none else
      (fm.put bind (.clo ⟨[q.arg], body, scope, 0⟩ (capture fm scope.names))).map fun fm => (.nx, { fm with frz := true }, st)
noncomputable def stepS (fm : Fm) (st : St) (s : Stmt) : Option (Fl × Fm × St) := (viewS s).bind (stepZ r fm st)

noncomputable def stepB (fm : Fm) (st : St) : List Stmt → Option (Fl × Fm × St)
  | [] => some (.nx, fm, st)
  | s :: ss => (stepS r fm st s).bind fun (fl, fm, st) => match fl with
    | .nx => stepB fm st ss
    | fl => some (fl, fm, st)

noncomputable def binds (f : FnRec) (args : List PV) (cap : List (Str × PV)) : Option Fm :=
  go ⟨f.scope.names, [], cap, false, f.code⟩ (f.params.zip args)
where
  go (fm : Fm) : List (Str × PV) → Option Fm
    | [] => some fm
    | (x, v) :: t => (fm.put x v).bind fun fm => go fm t

noncomputable def runFn (f : FnRec) (cap : List (Str × PV)) (args : List PV) (st : St) : Option (PV × St) :=
  if f.params.length = args.length then (binds f args cap).bind fun fm => (r.B fm st f.body).bind fun (fl, _, st) => match fl with
    | .rt v => some (v, st)
    | .nx => some (.d .none, st)
    | _ => none
  else none

noncomputable def fnC (a : Addr) (args : List PV) (st : St) : Option (PV × St) := (fnTab a).bind fun g => runFn r g [] args st
noncomputable def newC (a i : Addr) (args : List PV) (st : St) : Option (PV × St) := (fnTab i).bind fun g => (runFn r g [] (.obj st.length :: args) (st ++ [.inst a []])).bind fun x => if isNoneV x.1 = true then some (.obj st.length, x.2) else none
noncomputable def stepC (f : PV) (args : List PV) (st : St) : Option (PV × St) := match f with
  | .fn a => match clsInit a with
    | some i => newC r a i args st
    | none => fnC r a args st
  | .meth f q => (fnTab f).bind fun g => runFn r g [] (.obj q :: args) st
  | .clo g cap => runFn r g cap args st
  | .bi id => bi id args st
  | .ty n => tyC n args st
  | _ => none

noncomputable def step : Ev := ⟨stepE r, stepT r, stepB r, stepC r⟩
end

noncomputable def ev : Nat → Ev
  | 0 => ⟨fun _ _ _ => none, fun _ _ _ => none, fun _ _ _ => none, fun _ _ _ => none⟩
  | n + 1 => step (ev n)

end Mine
end
section
namespace Mine
open PySem PySem.W PyProof.Rows

/-! What the heap says of the interpreter's values. -/

noncomputable abbrev Frz := Addr → Option Obj
noncomputable abbrev Locs := List (Addr × Addr)
noncomputable def Sub (g : Frz) (h : Heap) : Prop := ∀ a o, g a = some o → h.get? a = some o
noncomputable def Le (g g' : Frz) : Prop := ∀ a o, g a = some o → g' a = some o
theorem Le.refl (g : Frz) : Le g g := fun _ _ e => e
theorem Le.trans {g g' g'' : Frz} (x : Le g g') (y : Le g' g'') : Le g g'' := fun a o e => y a o (x a o e)
noncomputable def Frz.add (g : Frz) (a : Addr) (o : Obj) : Frz := fun b => if b = a then some o else g b
theorem Frz.add_self (g : Frz) (a : Addr) (o : Obj) : g.add a o a = some o := if_pos rfl
theorem Frz.add_ne (g : Frz) {a b : Addr} (o : Obj) (h : b ≠ a) : g.add a o b = g b := if_neg h
theorem Frz.le_add {g : Frz} {a : Addr} {o : Obj} (h : g a = none ∨ g a = some o) : Le g (g.add a o) := fun b o' e => by
  by_cases q : b = a
  · subst q
    rcases h with h | h
    · rw [h] at e; cases e
    · rw [h] at e; cases e; exact Frz.add_self g b o
  · rw [Frz.add_ne g o q]; exact e

mutual
inductive Rd (g : Frz) : Value → PyData → Prop where
  | none : Rd g .none .none
  | bool (b : Bool) : Rd g (.bool b) (.bool b)
  | int (i : Int) (t : Tok) : Rd g (.int i t) (.int i)
  | str (x : Str) (t : Tok) : Rd g (.str x t) (.str x)
  | list {a : Addr} {o : Obj} {vs : List Value} {n : Nat} {xs : List PyData} : g a = some o → o.cls = .type "list" → o.data = .seq ⟨vs⟩ n → RdL g vs xs → Rd g (.ref a) (.list xs)
  | tuple {a : Addr} {vs : List Value} {n : Nat} {xs : List PyData} : g a = some ({ cls := .type "tuple", data := .seq ⟨vs⟩ n } : Obj) → RdL g vs xs → Rd g (.ref a) (.tuple xs)
inductive RdL (g : Frz) : List Value → List PyData → Prop where
  | nil : RdL g [] []
  | cons {v : Value} {vs : List Value} {d : PyData} {ds : List PyData} : Rd g v d → RdL g vs ds → RdL g (v :: vs) (d :: ds)
end

mutual
theorem Rd.le {g g' : Frz} (h : Le g g') : ∀ {v : Value} {d : PyData}, Rd g v d → Rd g' v d
  | _, _, .none => .none
  | _, _, .bool b => .bool b
  | _, _, .int i t => .int i t
  | _, _, .str x t => .str x t
  | _, _, .list e c d r => .list (h _ _ e) c d (RdL.le h r)
  | _, _, .tuple e r => .tuple (h _ _ e) (RdL.le h r)
theorem RdL.le {g g' : Frz} (h : Le g g') : ∀ {vs : List Value} {ds : List PyData}, RdL g vs ds → RdL g' vs ds
  | _, _, .nil => .nil
  | _, _, .cons a r => .cons (Rd.le h a) (RdL.le h r)
end
mutual
theorem Rd.reads {g : Frz} {h : Heap} (k : Sub g h) : ∀ {v : Value} {d : PyData}, Rd g v d → ∃ as, Reads h v d as
  | _, _, .none => ⟨_, .none⟩
  | _, _, .bool b => ⟨_, .bool b⟩
  | _, _, .int i t => ⟨_, .int i t⟩
  | _, _, .str x t => ⟨_, .str x t⟩
  | _, _, .list e c d r => let ⟨_, q⟩ := RdL.reads k r; ⟨_, .list (k _ _ e) c d q⟩
  | _, _, .tuple e r => let ⟨_, q⟩ := RdL.reads k r; ⟨_, .tuple (k _ _ e) rfl rfl q⟩
theorem RdL.reads {g : Frz} {h : Heap} (k : Sub g h) : ∀ {vs : List Value} {ds : List PyData}, RdL g vs ds → ∃ as, ReadsAll h vs ds as
  | _, _, .nil => ⟨_, .nil⟩
  | _, _, .cons a r => let ⟨_, p⟩ := Rd.reads k a; let ⟨_, q⟩ := RdL.reads k r; ⟨_, .cons p q⟩
end

namespace RdL
variable {g : Frz}
theorem length : ∀ {vs : List Value} {ds : List PyData}, RdL g vs ds → vs.length = ds.length
  | _, _, .nil => rfl
  | _, _, .cons _ r => congrArg (· + 1) (length r)
theorem get : ∀ {vs : List Value} {ds : List PyData}, RdL g vs ds → ∀ (i : Nat) (d : PyData), ds[i]? = some d → ∃ v, vs[i]? = some v ∧ Rd g v d
  | _, _, .nil, i, d, e => by simp at e
  | _, _, .cons a r, 0, d, e => by simp at e; subst e; exact ⟨_, rfl, a⟩
  | _, _, .cons a r, i + 1, d, e => by
    simp only [List.getElem?_cons_succ] at e
    obtain ⟨v, h1, h2⟩ := get r i d e
    exact ⟨v, by simpa using h1, h2⟩
theorem get' : ∀ {vs : List Value} {ds : List PyData}, RdL g vs ds → ∀ (i : Nat) (v : Value), vs[i]? = some v → ∃ d, ds[i]? = some d ∧ Rd g v d
  | _, _, .nil, i, d, e => by simp at e
  | _, _, .cons a r, 0, d, e => by simp at e; subst e; exact ⟨_, rfl, a⟩
  | _, _, .cons a r, i + 1, d, e => by
    simp only [List.getElem?_cons_succ] at e
    obtain ⟨v, h1, h2⟩ := get' r i d e
    exact ⟨v, by simpa using h1, h2⟩
theorem append : ∀ {vs : List Value} {ds : List PyData} {us : List Value} {es : List PyData}, RdL g vs ds → RdL g us es → RdL g (vs ++ us) (ds ++ es)
  | _, _, _, _, .nil, q => q
  | _, _, _, _, .cons a r, q => .cons a (append r q)
theorem take : ∀ (n : Nat) {vs : List Value} {ds : List PyData}, RdL g vs ds → RdL g (vs.take n) (ds.take n)
  | 0, _, _, _ => by simpa using RdL.nil
  | n + 1, _, _, .nil => .nil
  | n + 1, _, _, .cons a r => .cons a (take n r)
theorem drop : ∀ (n : Nat) {vs : List Value} {ds : List PyData}, RdL g vs ds → RdL g (vs.drop n) (ds.drop n)
  | 0, _, _, r => r
  | n + 1, _, _, .nil => .nil
  | n + 1, _, _, .cons a r => drop n r
theorem set : ∀ {vs : List Value} {ds : List PyData} (i : Nat) {v : Value} {d : PyData}, RdL g vs ds → Rd g v d → RdL g (vs.set i v) (ds.set i d)
  | _, _, _, _, _, .nil, _ => .nil
  | _, _, 0, _, _, .cons _ r, q => .cons q r
  | _, _, i + 1, _, _, .cons a r, q => .cons a (set i r q)
theorem signs {t : Tok} : ∀ (l : List Nat), RdL g (l.map fun c => .str (mkS [c]) t) (l.map fun c => .str (mkS [c]))
  | [] => .nil
  | _ :: l => .cons (.str _ _) (signs l)
end RdL

/-- a closure's function object -/
structure CloFn (fd : FuncData) (f : FnRec) : Prop where
  one : ∃ q, f.params = [q] ∧ ∀ v : Value, bindArgs fd ⟨[v], []⟩ = pure [(q, v)]
  body : fd.body = .stmts f.body
  scope : fd.scope = f.scope
  gl : fd.globals = mainGlobals
  bl : fd.builtins = builtinsNs
  ok : okScope f.scope = true
  code : f.code = 0
  ncl : ∀ x c, fd.closure.lookup x = some c → f.scope.names.lookup x = some .free

inductive Rp (g : Frz) (ρ : Locs) : Value → PV → Prop where
  | d {v : Value} {x : PyData} : Rd g v x → Rp g ρ v (.d x)
  | obj {r : Nat} {p : Addr × Addr} : ρ[r]? = some p → Rp g ρ (.ref p.1) (.obj r)
  | rng {a : Addr} {o : Obj} {n : Nat} {t u w : Tok} : g a = some o → o = ({ cls := .type "range", data := .fields #[.int 0 t, .int (n : Int) u, .int 1 w] } : Obj) → Rp g ρ (.ref a) (.rng n)
  | fn (a : Addr) : Rp g ρ (.ref a) (.fn a)
  | bi (id : String) : Rp g ρ (.builtin id) (.bi id)
  | ty (n : String) : Rp g ρ (.type n) (.ty n)
  | meth {a f : Addr} {r : Nat} {p : Addr × Addr} : g a = some (methodObj (.ref f) (.ref p.1)) → ρ[r]? = some p → Rp g ρ (.ref a) (.meth f r)
  | clo {a : Addr} {f : FnRec} {cap : List (Str × PV)} {fd : FuncData} {o : Obj} (cv : Str → Value) : g a = some o → o.cls = .type "function" → o.dict = none → o.data = .func fd → CloFn fd f →
      (∀ h : Heap, Sub g h → h.CodeRec fd.code fd.qualname) →
      (∀ x y c, fd.closure.lookup x = some c → fd.closure.lookup y = some c → x = y) →
      (∀ x c, fd.closure.lookup x = some c → ∃ oc v, g c = some oc ∧ oc.data = .cell v) →
      (∀ x pv, cap.lookup x = some pv → ∃ c oc, fd.closure.lookup x = some c ∧ g c = some oc ∧ oc.data = .cell (some (cv x))) →
      (∀ x pv, cap.lookup x = some pv → Rp g ρ (cv x) pv) → Rp g ρ (.ref a) (.clo f cap)

inductive ObjI (ρ : Locs) (u : Value) (r : Nat) : Prop
  | mk (p : Addr × Addr) (e : u = .ref p.1) (h : ρ[r]? = some p)
inductive RngI (g : Frz) (u : Value) (n : Nat) : Prop
  | mk (a : Addr) (o : Obj) (t v w : Tok) (e : u = .ref a) (h : g a = some o) (q : o = ({ cls := .type "range", data := .fields #[.int 0 t, .int (n : Int) v, .int 1 w] } : Obj))
inductive MethI (g : Frz) (ρ : Locs) (u : Value) (f : Addr) (r : Nat) : Prop
  | mk (a : Addr) (p : Addr × Addr) (e : u = .ref a) (h : g a = some (methodObj (.ref f) (.ref p.1))) (q : ρ[r]? = some p)
noncomputable def RpI (g : Frz) (ρ : Locs) (u : Value) : PV → Prop
  | .d x => Rd g u x
  | .obj r => ObjI ρ u r
  | .rng n => RngI g u n
  | .fn a => u = .ref a
  | .bi id => u = .builtin id
  | .ty n => u = .type n
  | .meth f r => MethI g ρ u f r
  | .clo _ _ => True
theorem rpI {g : Frz} {ρ : Locs} {u : Value} {x : PV} (r : Rp g ρ u x) : RpI g ρ u x := by
  cases r with
  | d r => exact r
  | obj h => exact ⟨_, rfl, h⟩
  | rng h e => exact ⟨_, _, _, _, _, rfl, h, e⟩
  | fn a => rfl
  | bi i => rfl
  | ty n => rfl
  | meth h e => exact ⟨_, _, rfl, h, e⟩
  | clo => trivial
/-- inversions -/
inductive RpD (g : Frz) (u : Value) (x : PyData) : Prop
  | d (r : Rd g u x) : RpD g u x
theorem rpD {g : Frz} {ρ : Locs} {u : Value} {x : PyData} (r : Rp g ρ u (.d x)) : RpD g u x := ⟨rpI r⟩
inductive IntI (u : Value) (i : Int) : Prop
  | mk (t : Tok) (e : u = .int i t)
inductive StrI (u : Value) (x : Str) : Prop
  | mk (t : Tok) (e : u = .str x t)
inductive LstI (g : Frz) (u : Value) (xs : List PyData) : Prop
  | mk (a : Addr) (o : Obj) (vs : List Value) (n : Nat) (e : u = .ref a) (h : g a = some o) (c : o.cls = .type "list") (d : o.data = .seq ⟨vs⟩ n) (r : RdL g vs xs)
inductive TupI (g : Frz) (u : Value) (xs : List PyData) : Prop
  | mk (a : Addr) (vs : List Value) (n : Nat) (e : u = .ref a) (h : g a = some ({ cls := .type "tuple", data := .seq ⟨vs⟩ n } : Obj)) (r : RdL g vs xs)
noncomputable def RdI (g : Frz) (u : Value) : PyData → Prop
  | .none => u = .none
  | .bool b => u = .bool b
  | .int i => IntI u i
  | .str s => StrI u s
  | .list xs => LstI g u xs
  | .tuple xs => TupI g u xs
  | .dict _ => False
theorem rdI {g : Frz} {u : Value} {x : PyData} (r : Rd g u x) : RdI g u x := by
  cases r with
  | none => rfl
  | bool b => rfl
  | int i t => exact ⟨t, rfl⟩
  | str x t => exact ⟨t, rfl⟩
  | list h c d r => exact ⟨_, _, _, _, rfl, h, c, d, r⟩
  | tuple h r => exact ⟨_, _, _, rfl, h, r⟩
theorem rdLN {g : Frz} {vs : List Value} (r : RdL g vs []) : vs = [] := by cases r; rfl
theorem rdLC {g : Frz} {vs : List Value} {d : PyData} {ds : List PyData} (r : RdL g vs (d :: ds)) : ∃ v vs', vs = v :: vs' ∧ Rd g v d ∧ RdL g vs' ds := by
  cases r with | cons a r => exact ⟨_, _, rfl, a, r⟩

inductive RpO (g : Frz) (ρ : Locs) (r : Nat) : Value → Prop
  | obj {p : Addr × Addr} : ρ[r]? = some p → RpO g ρ r (.ref p.1)
theorem rpO {g : Frz} {ρ : Locs} {u : Value} {r : Nat} (x : Rp g ρ u (.obj r)) : RpO g ρ r u := by obtain ⟨p, rfl, h⟩ := rpI x; exact .obj h
inductive RdS (x : Str) : Value → Prop
  | str (t : Tok) : RdS x (.str x t)
theorem rdS {g : Frz} {u : Value} {x : Str} (r : Rd g u (.str x)) : RdS x u := by obtain ⟨t, rfl⟩ := rdI r; exact .str _
inductive RdLs (g : Frz) (xs : List PyData) : Value → Prop
  | list {a : Addr} {o : Obj} {vs : List Value} {n : Nat} : g a = some o → o.cls = .type "list" → o.data = .seq ⟨vs⟩ n → RdL g vs xs → RdLs g xs (.ref a)
theorem rdLs {g : Frz} {u : Value} {xs : List PyData} (r : Rd g u (.list xs)) : RdLs g xs u := by obtain ⟨a, o, vs, n, rfl, h1, h2, h3, r1⟩ := rdI r; exact .list h1 h2 h3 r1
inductive RdT (g : Frz) (xs : List PyData) : Value → Prop
  | tuple {a : Addr} {vs : List Value} {n : Nat} : g a = some ({ cls := .type "tuple", data := .seq ⟨vs⟩ n } : Obj) → RdL g vs xs → RdT g xs (.ref a)
theorem rdT {g : Frz} {u : Value} {xs : List PyData} (r : Rd g u (.tuple xs)) : RdT g xs u := by obtain ⟨a, vs, n, rfl, h1, r1⟩ := rdI r; exact .tuple h1 r1
inductive RdLC (g : Frz) (d : PyData) (ds : List PyData) : List Value → Prop
  | cons {v : Value} {vs : List Value} : Rd g v d → RdL g vs ds → RdLC g d ds (v :: vs)
theorem rdLC' {g : Frz} {vs : List Value} {d : PyData} {ds : List PyData} (r : RdL g vs (d :: ds)) : RdLC g d ds vs := by cases r with | cons a b => exact .cons a b
inductive RdLN : List Value → Prop
  | nil : RdLN []
theorem rdLN' {g : Frz} {vs : List Value} (r : RdL g vs []) : RdLN vs := by cases r; exact .nil

noncomputable def Pre (ρ ρ' : Locs) : Prop := ∀ (r : Nat) (p : Addr × Addr), ρ[r]? = some p → ρ'[r]? = some p
theorem Pre.refl (ρ : Locs) : Pre ρ ρ := fun _ _ e => e
theorem Pre.trans {a b c : Locs} (x : Pre a b) (y : Pre b c) : Pre a c := fun r p e => y r p (x r p e)
theorem Pre.snoc (ρ : Locs) (p : Addr × Addr) : Pre ρ (ρ ++ [p]) := fun r q e => by
  have hl : r < ρ.length := (List.getElem?_eq_some_iff.mp e).1
  rw [List.getElem?_append_left hl]; exact e
theorem Sub.le {g g' : Frz} {h : Heap} (x : Le g g') (k : Sub g' h) : Sub g h := fun a o e => k a o (x a o e)
theorem Rp.le {g g' : Frz} {ρ ρ' : Locs} (h : Le g g') (p : Pre ρ ρ') {v : Value} {x : PV} (r : Rp g ρ v x) : Rp g' ρ' v x := by
  induction r with
  | d q => exact .d (q.le h)
  | obj q => exact .obj (p _ _ q)
  | rng e o => exact .rng (h _ _ e) o
  | fn a => exact .fn a
  | bi i => exact .bi i
  | ty n => exact .ty n
  | meth e q => exact .meth (h _ _ e) (p _ _ q)
  | clo cv e c dd d k cr ap fz cl _ ih => exact .clo cv (h _ _ e) c dd d k (fun hh k' => cr hh (k'.le h)) ap (fun x c' e' => let ⟨o', v, ho, hv⟩ := fz x c' e'; ⟨o', v, h _ _ ho, hv⟩) (fun x pv e => let ⟨c', oc, a1, a2, a3⟩ := cl x pv e; ⟨c', oc, a1, h _ _ a2, a3⟩) ih

/-- an object's attributes -/
inductive AtL (g : Frz) (ρ : Locs) : List DictEntry → List (Str × PV) → Prop where
  | nil : AtL g ρ [] []
  | cons {hs : Int} {x : Str} {t : Tok} {v : Value} {pv : PV} {es : List DictEntry} {as : List (Str × PV)} : Rp g ρ v pv → AtL g ρ es as → AtL g ρ (⟨hs, .str x t, v⟩ :: es) ((x, pv) :: as)
theorem AtL.le {g g' : Frz} {ρ ρ' : Locs} (h : Le g g') (p : Pre ρ ρ') : ∀ {es : List DictEntry} {as : List (Str × PV)}, AtL g ρ es as → AtL g' ρ' es as
  | _, _, .nil => .nil
  | _, _, .cons a r => .cons (a.le h p) (AtL.le h p r)

inductive Mat (g : Frz) (ρ : Locs) (h : Heap) : Addr × Addr → MO → Prop where
  | list {a : Addr} {vs : List Value} {n : Nat} {xs : List PyData} : h.get? a = some ({ cls := .type "list", data := .seq ⟨vs⟩ n } : Obj) → RdL g vs xs → Mat g ρ h (a, a) (.list xs)
  | inst {a d c : Addr} {es : List DictEntry} {n : Nat} {as : List (Str × PV)} : h.get? a = some (instObj c d) → h.get? d = some (dictOf es n) → AtL g ρ es as → Mat g ρ h (a, d) (.inst c as)
  | fobj0 {a : Addr} {fd : FuncData} : h.get? a = some ({ cls := .type "function", data := .func fd } : Obj) → Mat g ρ h (a, a) (.fobj [])
  | fobj1 {a d : Addr} {fd : FuncData} {es : List DictEntry} {n : Nat} {x : Str} {pv : PV} : h.get? a = some ({ cls := .type "function", dict := some d, data := .func fd } : Obj) → g d = some (dictOf es n) → AtL g ρ es [(x, pv)] → Mat g ρ h (a, a) (.fobj [(x, pv)])
  | citer {a m f : Addr} {r : Nat} {p : Addr × Addr} {x : Str} {t : Tok} : h.get? a = some ({ cls := .type "callable_iterator", data := .fields #[.ref m, .str x t, .bool false] } : Obj) → sl x = [] → g m = some (methodObj (.ref f) (.ref p.1)) → ρ[r]? = some p → Mat g ρ h (a, a) (.citer f r)
  | done {a : Addr} {u v : Value} : h.get? a = some ({ cls := .type "callable_iterator", data := .fields #[u, v, .bool true] } : Obj) → Mat g ρ h (a, a) .done

inductive ListF (g : Frz) (h : Heap) (p : Addr × Addr) (xs : List PyData) : Prop
  | mk (a : Addr) (vs : List Value) (n : Nat) (e : p = (a, a)) (q : h.get? a = some ({ cls := .type "list", data := .seq ⟨vs⟩ n } : Obj)) (r : RdL g vs xs)
inductive InstF (g : Frz) (ρ : Locs) (h : Heap) (p : Addr × Addr) (c : Addr) (as : List (Str × PV)) : Prop
  | mk (a d : Addr) (es : List DictEntry) (n : Nat) (e : p = (a, d)) (h1 : h.get? a = some (instObj c d)) (h2 : h.get? d = some (dictOf es n)) (r : AtL g ρ es as)
inductive FobjF (g : Frz) (ρ : Locs) (h : Heap) (p : Addr × Addr) (as : List (Str × PV)) : Prop
  | zero (a : Addr) (fd : FuncData) (e : p = (a, a)) (n : as = []) (h1 : h.get? a = some ({ cls := .type "function", data := .func fd } : Obj))
  | one (a : Addr) (fd : FuncData) (e : p = (a, a)) (d : Addr) (es : List DictEntry) (n : Nat) (x : Str) (pv : PV) (q : as = [(x, pv)]) (h1 : h.get? a = some ({ cls := .type "function", dict := some d, data := .func fd } : Obj)) (h2 : g d = some (dictOf es n)) (r : AtL g ρ es [(x, pv)])
inductive CiterF (g : Frz) (ρ : Locs) (h : Heap) (p : Addr × Addr) (f : Addr) (r : Nat) : Prop
  | mk (a m : Addr) (q : Addr × Addr) (x : Str) (t : Tok) (e : p = (a, a)) (h1 : h.get? a = some ({ cls := .type "callable_iterator", data := .fields #[.ref m, .str x t, .bool false] } : Obj)) (h2 : sl x = []) (h3 : g m = some (methodObj (.ref f) (.ref q.1))) (h4 : ρ[r]? = some q)
inductive DoneF (h : Heap) (p : Addr × Addr) : Prop
  | mk (a : Addr) (u v : Value) (e : p = (a, a)) (h1 : h.get? a = some ({ cls := .type "callable_iterator", data := .fields #[u, v, .bool true] } : Obj))
noncomputable def MatF (g : Frz) (ρ : Locs) (h : Heap) (p : Addr × Addr) : MO → Prop
  | .list xs => ListF g h p xs
  | .inst c as => InstF g ρ h p c as
  | .fobj as => FobjF g ρ h p as
  | .citer f r => CiterF g ρ h p f r
  | .done => DoneF h p
theorem matF {g : Frz} {ρ : Locs} {h : Heap} {p : Addr × Addr} {m : MO} (x : Mat g ρ h p m) : MatF g ρ h p m := by
  cases x with
  | list a b => exact ⟨_, _, _, rfl, a, b⟩
  | inst a b c => exact ⟨_, _, _, _, rfl, a, b, c⟩
  | fobj0 a => exact .zero _ _ rfl rfl a
  | fobj1 a b c => exact .one _ _ rfl _ _ _ _ _ rfl a b c
  | citer a b c d => exact ⟨_, _, _, _, _, rfl, a, b, c, d⟩
  | done a => exact ⟨_, _, _, rfl, a⟩
inductive MatL (g : Frz) (h : Heap) (xs : List PyData) : Addr × Addr → Prop
  | list {a : Addr} {vs : List Value} {n : Nat} : h.get? a = some ({ cls := .type "list", data := .seq ⟨vs⟩ n } : Obj) → RdL g vs xs → MatL g h xs (a, a)
theorem matL {g : Frz} {ρ : Locs} {h : Heap} {p : Addr × Addr} {xs : List PyData} (m : Mat g ρ h p (.list xs)) : MatL g h xs p := by obtain ⟨a, vs, n, rfl, a, b⟩ := matF m; exact .list a b
inductive MatLa (g : Frz) (h : Heap) (xs : List PyData) (a : Addr) : Prop
  | list {vs : List Value} {n : Nat} : h.get? a = some ({ cls := .type "list", data := .seq ⟨vs⟩ n } : Obj) → RdL g vs xs → MatLa g h xs a
theorem matLa {g : Frz} {ρ : Locs} {h : Heap} {a b : Addr} {xs : List PyData} (m : Mat g ρ h (a, b) (.list xs)) : MatLa g h xs a := by obtain ⟨a, vs, n, e, h1, h2⟩ := matF m; exact .list ((Prod.mk.inj e).1 ▸ h1) h2
inductive MatI (g : Frz) (ρ : Locs) (h : Heap) (c : Addr) (as : List (Str × PV)) : Addr × Addr → Prop
  | inst {a d : Addr} {es : List DictEntry} {n : Nat} : h.get? a = some (instObj c d) → h.get? d = some (dictOf es n) → AtL g ρ es as → MatI g ρ h c as (a, d)
theorem matI {g : Frz} {ρ : Locs} {h : Heap} {p : Addr × Addr} {c : Addr} {as : List (Str × PV)} (m : Mat g ρ h p (.inst c as)) : MatI g ρ h c as p := by obtain ⟨a, d, es, n, rfl, h1, h2, h3⟩ := matF m; exact .inst h1 h2 h3

noncomputable def foot (ρ : Locs) (x : Addr) : Prop := ∃ p ∈ ρ, x = p.1 ∨ x = p.2
theorem foot_of {ρ : Locs} {r : Nat} {p : Addr × Addr} (e : ρ[r]? = some p) : foot ρ p.1 ∧ foot ρ p.2 := ⟨⟨p, List.mem_of_getElem? e, .inl rfl⟩, ⟨p, List.mem_of_getElem? e, .inr rfl⟩⟩
theorem Pre.foot {ρ ρ' : Locs} (h : Pre ρ ρ') {x : Addr} (f : foot ρ x) : foot ρ' x := by
  obtain ⟨p, hp, e⟩ := f
  obtain ⟨r, hr⟩ := List.mem_iff_getElem?.mp hp
  exact ⟨p, List.mem_of_getElem? (h r p hr), e⟩
theorem foot_snoc {ρ : Locs} {q : Addr × Addr} {x : Addr} : foot (ρ ++ [q]) x ↔ foot ρ x ∨ x = q.1 ∨ x = q.2 := by
  unfold foot
  constructor
  · rintro ⟨p, hp, e⟩
    rcases List.mem_append.mp hp with hp | hp
    · exact .inl ⟨p, hp, e⟩
    · rw [List.mem_singleton.mp hp] at e; exact .inr e
  · rintro (⟨p, hp, e⟩ | e)
    · exact ⟨p, List.mem_append_left _ hp, e⟩
    · exact ⟨q, List.mem_append_right _ (List.mem_singleton.mpr rfl), e⟩

noncomputable def tabP : Addr := 93
noncomputable def qn (pos : Pos) : Str := Str.ofString "_law_stream" ++ Str.ofString ".<locals>." ++ (if pos.line = 94 then Str.ofString "read" else Str.ofString "<lambda>")

theorem Mat.keeps {g g' : Frz} {ρ ρ' : Locs} {h h' : Heap} (l : Le g g') (q : Pre ρ ρ') {p : Addr × Addr} {mo : MO} (m : Mat g ρ h p mo)
    (k : ∀ x, (x = p.1 ∨ x = p.2) → ∀ o, h.get? x = some o → h'.get? x = some o) : Mat g' ρ' h' p mo := by
  cases m with
  | list e r => exact .list (k _ (.inl rfl) _ e) (r.le l)
  | inst e d r => exact .inst (k _ (.inl rfl) _ e) (k _ (.inr rfl) _ d) (r.le l q)
  | fobj0 e => exact .fobj0 (k _ (.inl rfl) _ e)
  | fobj1 e d r => exact .fobj1 (k _ (.inl rfl) _ e) (l _ _ d) (r.le l q)
  | citer e x y z => exact .citer (k _ (.inl rfl) _ e) x (l _ _ y) (q _ _ z)
  | done e => exact .done (k _ (.inl rfl) _ e)
theorem Mat.there {g : Frz} {ρ : Locs} {h : Heap} {p : Addr × Addr} {mo : MO} (m : Mat g ρ h p mo) : (h.get? p.1).isSome ∧ (h.get? p.2).isSome := by
  cases m with
  | list e r => simp [e]
  | inst e d r => simp [e, d]
  | fobj0 e => simp [e]
  | fobj1 e d r => simp [e]
  | citer e x y z => simp [e]
  | done e => simp [e]

/-- a function of the module -/
structure FnIs (K : Frag) (h₀ : Heap) (a : Addr) (f : FnRec) (o : Obj) (fd : FuncData) : Prop where
  at_ : h₀.get? a = some o
  data : o.data = .func fd
  cls : o.cls = .type "function"
  body : fd.body = .stmts f.body
  scope : fd.scope = f.scope
  gl : fd.globals = mainGlobals
  bl : fd.builtins = builtinsNs
  closure : fd.closure = []
  crec : h₀.CodeRec fd.code fd.qualname
  kind : f.scope.kind = .function
  gen : f.scope.isGenerator = false
  cor : f.scope.isCoroutine = false
  code : f.code ≠ 0 → fd.code = .ref f.code ∧ fd.qualname = Str.ofString "_law_stream"
  bind : ∀ vs : List Value, vs.length = f.params.length → bindArgs fd ⟨vs, []⟩ = pure (f.params.zip vs)
  uniq : ∀ x ∈ f.scope.names, f.scope.names.lookup x.1 = some x.2
  type : typeIn K (.ref a) = some (.type "function")

structure InitIs (K : Frag) (c i : Addr) : Prop where
  makes : makesIn K c = true
  init : findIn K (.ref c) "__init__" = some (some (.ref i))
  get : plainGet K c "x" = true
  hasDict : hasDictIn K c = true
  set : findIn K (.ref c) "__setattr__" = some (some (.builtin "object.__setattr__"))
  over : plainOver K c = true
  keep : keepIn K (.ref c) = true
structure MethIs (K : Frag) (c : Addr) (x : Str) (f : Addr) : Prop where
  init : (clsInit c).isSome
  find : findIn K (.ref c) x = some (some (.ref f))
  get : specialIn K (.ref f) "__get__" = some (some (.builtin "function.__get__"))
  takes : takesIn K (.ref f) = some false
  copied : copiedNames.contains x = false
  fn : (fnTab f).isSome
structure AttrIs (K : Frag) (c : Addr) (x : Str) : Prop where
  find : findIn K (.ref c) x = some none
  taker : takerIn K c x = some none
  init : (clsInit c).isSome

/-- what stands throughout -/
structure Gd (w : World) (K : Frag) (h₀ : Heap) (mg mb : Str → Option Value) : Prop where
  X : K.In h₀
  g : h₀.Ns mainGlobals mg
  b : h₀.Ns builtinsNs mb
  nolimit : h₀.NoLimit
  tab0 : h₀.get? tabP = none
  code : CodeHd h₀ 97 tabP
  bat : h₀.BuiltinsAt mg tabP
  glob : ∀ x pv, glob x = some pv → ∃ v, (mg x = some v ∨ (mg x = none ∧ mb x = some v)) ∧ Rp h₀.get? [] v pv
  fns : ∀ a f, fnTab a = some f → ∃ o fd, FnIs K h₀ a f o fd
  init : ∀ c i, clsInit c = some i → InitIs K c i
  meth : ∀ c x f, clsMeth c x = some f → MethIs K c x f
  attr : ∀ c x, instAttr c x = true → AttrIs K c x

section
variable {w : World} {K : Frag} {h₀ : Heap} {mg mb : Str → Option Value}

structure Inv (h₀ : Heap) (g : Frz) (ρ : Locs) (st : St) (h : Heap) : Prop where
  base : ∀ a o, h₀.get? a = some o → g a = some o
  sub : Sub g h
  len : ρ.length = st.length
  mat : ∀ (r : Nat) (p : Addr × Addr) (mo : MO), ρ[r]? = some p → st[r]? = some mo → Mat g ρ h p mo
  off : ∀ x, foot ρ x → g x = none ∧ x ≠ tabP
  apart : ∀ (r r' : Nat) (p p' : Addr × Addr), ρ[r]? = some p → ρ[r']? = some p' → r ≠ r' → p.1 ≠ p'.1 ∧ p.1 ≠ p'.2 ∧ p.2 ≠ p'.1 ∧ p.2 ≠ p'.2
  tab : ∃ ps, h.get? tabP = some (tabObj ps) ∧ TriplesOk ps.toList ∧ ∀ pos c, codeAmong pos ps.toList = some c → ∃ c', c = .ref c' ∧ ∀ hh : Heap, Sub g hh → hh.CodeRec (.ref c') (qn pos)
  gtab : g tabP = none
  old : ∀ a o, h₀.get? a = some o → h.get? a = some o

structure Ext (X : Addr → Prop) (g : Frz) (ρ : Locs) (h : Heap) (g' : Frz) (ρ' : Locs) (h' : Heap) : Prop where
  le : Le g g'
  pre : Pre ρ ρ'
  keep : ∀ a o, h.get? a = some o → ¬ foot ρ a → a ≠ tabP → ¬ X a → h'.get? a = some o
  clean : ∀ a o, h.get? a = some o → ¬ foot ρ a → a ≠ tabP → ¬ X a → ¬ foot ρ' a ∧ g' a = g a

theorem Ext.refl {X : Addr → Prop} {g : Frz} {ρ : Locs} {h : Heap} : Ext X g ρ h g ρ h := ⟨.refl _, .refl _, fun _ _ e _ _ _ => e, fun _ _ _ f _ _ => ⟨f, rfl⟩⟩
theorem Ext.trans {X : Addr → Prop} {g g' g'' : Frz} {ρ ρ' ρ'' : Locs} {h h' h'' : Heap} (x : Ext X g ρ h g' ρ' h') (y : Ext X g' ρ' h' g'' ρ'' h'') : Ext X g ρ h g'' ρ'' h'' where
  le := x.le.trans y.le
  pre := x.pre.trans y.pre
  keep := fun a o e f t n => y.keep a o (x.keep a o e f t n) (x.clean a o e f t n).1 t n
  clean := fun a o e f t n => by
    obtain ⟨c1, c2⟩ := x.clean a o e f t n
    obtain ⟨d1, d2⟩ := y.clean a o (x.keep a o e f t n) c1 t n
    exact ⟨d1, d2.trans c2⟩
theorem Ext.weaken {X Y : Addr → Prop} {g g' : Frz} {ρ ρ' : Locs} {h h' : Heap} (x : Ext X g ρ h g' ρ' h') (k : ∀ a o, h.get? a = some o → X a → Y a) : Ext Y g ρ h g' ρ' h' :=
  ⟨x.le, x.pre, fun a o e f t n => x.keep a o e f t fun q => n (k a o e q), fun a o e f t n => x.clean a o e f t fun q => n (k a o e q)⟩

noncomputable def noX : Addr → Prop := fun _ => False

/-- an answer: the state behind it is told by the interpreter's -/
inductive Ans {α : Type} (h₀ : Heap) (X : Addr → Prop) (g : Frz) (ρ : Locs) (s : Shared) (st' : St) (Φ : Frz → Locs → Heap → α → Prop) (a : α) (s' : Shared) : Prop
  | mk (g' : Frz) (ρ' : Locs) (h' : Heap) (tk' : Nat) (e : s' = { s with heap := h', toks := tk' }) (x : Ext X g ρ s.heap g' ρ' h') (i : Inv h₀ g' ρ' st' h') (p : Φ g' ρ' h' a) : Ans h₀ X g ρ s st' Φ a s'

theorem Ans.mono {α β : Type} {X : Addr → Prop} {g : Frz} {ρ : Locs} {s : Shared} {st' : St} {Φ : Frz → Locs → Heap → α → Prop} {Ψ : Frz → Locs → Heap → β → Prop} {a : α} {b : β} {s' : Shared} (x : Ans h₀ X g ρ s st' Φ a s')
    (k : ∀ g' ρ' h', Inv h₀ g' ρ' st' h' → Φ g' ρ' h' a → Ψ g' ρ' h' b) : Ans h₀ X g ρ s st' Ψ b s' := by
  obtain ⟨g', ρ', h', tk', e, x1, x2, x3⟩ := x
  exact ⟨g', ρ', h', tk', e, x1, x2, k _ _ _ x2 x3⟩
theorem Ans.then {β : Type} {X : Addr → Prop} {g g₁ : Frz} {ρ ρ₁ : Locs} {s : Shared} {h₁ : Heap} {tk : Nat} {st' : St} {Ψ : Frz → Locs → Heap → β → Prop} {b : β} {s' : Shared}
    (x : Ext X g ρ s.heap g₁ ρ₁ h₁) (y : Ans h₀ X g₁ ρ₁ { s with heap := h₁, toks := tk } st' Ψ b s') : Ans h₀ X g ρ s st' Ψ b s' := by
  obtain ⟨g', ρ', h', tk', e, x1, x2, x3⟩ := y
  exact ⟨g', ρ', h', tk', e, x.trans x1, x2, x3⟩
theorem Ans.here {α : Type} {X : Addr → Prop} {g : Frz} {ρ : Locs} {s : Shared} {tk : Nat} {st : St} {Φ : Frz → Locs → Heap → α → Prop} {a : α} (I : Inv h₀ g ρ st s.heap) (h : Φ g ρ s.heap a) :
    Ans h₀ X g ρ s st Φ a { s with toks := tk } := ⟨g, ρ, s.heap, tk, rfl, .refl, I, h⟩

theorem Heap.lt_of_get {h : Heap} {a : Addr} {o : Obj} (e : h.get? a = some o) : a < h.objs.size := PySem.Heap.lt_size e

/-- a new frozen object -/
theorem Inv.push {g : Frz} {ρ : Locs} {st : St} {h : Heap} {o : Obj} (I : Inv h₀ g ρ st h) (hf : o.isFreed = false) (X : Addr → Prop) :
    Inv h₀ (g.add h.objs.size o) ρ st (h.push o) ∧ Ext X g ρ h (g.add h.objs.size o) ρ (h.push o) := by
  have gn : g h.objs.size = none := by
    cases q : g h.objs.size with
    | none => rfl
    | some o' => exact absurd (PySem.Heap.lt_size (I.sub _ _ q)) (Nat.lt_irrefl _)
  have le : Le g (g.add h.objs.size o) := Frz.le_add (.inl gn)
  have fl : ∀ x, foot ρ x → x < h.objs.size := fun x ⟨p, hp, e⟩ => by
    obtain ⟨r, hr⟩ := List.mem_iff_getElem?.mp hp
    have hl : r < ρ.length := (List.getElem?_eq_some_iff.mp hr).1
    obtain ⟨mo, hm⟩ : ∃ mo, st[r]? = some mo := ⟨st[r]'(I.len ▸ hl), by simp⟩
    have m := (I.mat r p mo hr hm).there
    rcases e with rfl | rfl
    · obtain ⟨o', ho⟩ := Option.isSome_iff_exists.mp m.1; exact PySem.Heap.lt_size ho
    · obtain ⟨o', ho⟩ := Option.isSome_iff_exists.mp m.2; exact PySem.Heap.lt_size ho
  obtain ⟨ps, t1, t2, t3⟩ := I.tab
  have tl := PySem.Heap.lt_size t1
  refine ⟨⟨fun a o' e => le _ _ (I.base a o' e), fun a o' e => ?_, I.len, fun r p mo hr hm => ?_, fun x f => ?_, I.apart, ⟨ps, PySem.Heap.get?_push_of_some _ t1, t2, fun pos c e => ?_⟩, ?_, fun a o' e => PySem.Heap.get?_push_of_some _ (I.old a o' e)⟩, ?_⟩
  · by_cases q : a = h.objs.size
    · subst q; rw [Frz.add_self] at e; cases e; exact PySem.Heap.get?_push_size _ hf
    · rw [Frz.add_ne _ _ q] at e; exact PySem.Heap.get?_push_of_some _ (I.sub _ _ e)
  · exact (I.mat r p mo hr hm).keeps le (.refl _) fun x _ o' e => PySem.Heap.get?_push_of_some _ e
  · have := fl x f
    rw [Frz.add_ne _ _ (Nat.ne_of_lt this)]; exact I.off x f
  · obtain ⟨c', e1, e2⟩ := t3 pos c e
    exact ⟨c', e1, fun hh k => e2 hh (k.le le)⟩
  · rw [Frz.add_ne _ _ (Nat.ne_of_lt tl)]; exact I.gtab
  · refine ⟨le, .refl _, fun a o' e _ _ _ => PySem.Heap.get?_push_of_some _ e, fun a o' l f _ _ => ⟨f, Frz.add_ne _ _ (fun q => ?_)⟩⟩
    have l2 := PySem.Heap.lt_size l
    rw [q] at l2
    exact Nat.lt_irrefl _ l2
end
end Mine
end
section
namespace Mine
open PySem PySem.W PyProof.Rows

noncomputable abbrev TP : Program := PySem.Challenge.rw_pm0019_01.row.prog
noncomputable abbrev Fls : Value → Shared → Prop := fun _ _ => False

structure Room (n : Nat) (A : Around) : Prop where
  hd : A.handled = none
  depth : A.depth + 4 * n < 700
  units : A.units + 16 * n + 400 < cLine
theorem Room.less {n : Nat} {A : Around} (R : Room (n + 1) A) : Room n A := ⟨R.hd, by have := R.depth; omega, by have := R.units; omega⟩
theorem Room.deeper {n : Nat} {A : Around} (R : Room (n + 1) A) (env : Env) : Room n (A.deeper env) :=
  ⟨R.hd, by have := R.depth; show A.depth + 1 + _ < _; omega, by have := R.units; show A.units + 3 + _ + _ < _; omega⟩
theorem Room.lim {n : Nat} {A : Around} (R : Room n A) : A.depth < recursionLimit := by
  have := R.depth; show A.depth < 1000; omega
theorem Room.unit {n : Nat} {A : Around} (R : Room n A) : A.units < cLine := by have := R.units; omega
theorem Room.unit64 {n : Nat} {A : Around} (R : Room n A) : A.units + 64 < cLine := by have := R.units; omega

noncomputable def kindRel : NameKind → Option NameKind → Prop
  | .local, k => k = some .local
  | .cell, k => k = some .cell
  | .free, k => k = some .cell ∨ k = some .free
  | .globalImplicit, k => k = some .globalImplicit
  | .globalExplicit, _ => True

structure FmOk (g : Frz) (ρ : Locs) (h : Heap) (env : Env) (fm : Fm) : Prop where
  fk : env.scope.kind = .function
  gl : env.globals = mainGlobals
  bl : env.builtins = builtinsNs
  names : ∀ x k, fm.names.lookup x = some k → kindRel k (env.kindOf x)
  ns : ∃ m, h.Ns env.locals m ∧ ∀ x pv, fm.loc.lookup x = some pv → ∃ v, m x = some v ∧ Rp g ρ v pv
  cel : ∀ x pv, fm.cel.lookup x = some pv → ∃ c v, env.cells.lookup x = some c ∧ h.IsCell c (some v) ∧ Rp g ρ v pv
  own : ∀ x, fm.names.lookup x = some .cell → ∃ c, env.cells.lookup x = some c ∧ ∃ v, h.IsCell c v
  apart : ∀ x y c, env.cells.lookup x = some c → env.cells.lookup y = some c → x = y
  offL : ¬ foot ρ env.locals ∧ env.locals ≠ tabP ∧ g env.locals = none
  offC : ∀ x c, env.cells.lookup x = some c → ¬ foot ρ c ∧ c ≠ tabP ∧ ∃ v, h.IsCell c v
  frzC : fm.frz = false → ∀ x c, fm.names.lookup x = some .cell → env.cells.lookup x = some c → g c = none
  code : fm.code ≠ 0 → env.code = .ref fm.code ∧ env.qual = Str.ofString "_law_stream" ++ Str.ofString ".<locals>."
noncomputable def Xof (env : Env) (fm : Fm) (a : Addr) : Prop := a = env.locals ∨ ∃ x, fm.names.lookup x = some .cell ∧ env.cells.lookup x = some a

section
variable {w : World} {K : Frag} {h₀ : Heap} {mg mb : Str → Option Value}

theorem Inv.foot_lt {g : Frz} {ρ : Locs} {st : St} {h : Heap} (I : Inv h₀ g ρ st h) {x : Addr} (f : foot ρ x) : x < h.objs.size := by
  obtain ⟨p, hp, e⟩ := f
  obtain ⟨r, hr⟩ := List.mem_iff_getElem?.mp hp
  have hl : r < ρ.length := (List.getElem?_eq_some_iff.mp hr).1
  obtain ⟨mo, hm⟩ : ∃ mo, st[r]? = some mo := ⟨st[r]'(I.len ▸ hl), by simp⟩
  have m := (I.mat r p mo hr hm).there
  rcases e with rfl | rfl
  · obtain ⟨o', ho⟩ := Option.isSome_iff_exists.mp m.1; exact PySem.Heap.lt_size ho
  · obtain ⟨o', ho⟩ := Option.isSome_iff_exists.mp m.2; exact PySem.Heap.lt_size ho
theorem Inv.frz_lt {g : Frz} {ρ : Locs} {st : St} {h : Heap} (I : Inv h₀ g ρ st h) {x : Addr} {o : Obj} (e : g x = some o) : x < h.objs.size := PySem.Heap.lt_size (I.sub _ _ e)
theorem Inv.new {g : Frz} {ρ : Locs} {st : St} {h : Heap} (I : Inv h₀ g ρ st h) {x : Addr} (l : h.objs.size ≤ x) : ¬ foot ρ x ∧ x ≠ tabP ∧ g x = none := by
  refine ⟨fun f => absurd (I.foot_lt f) (Nat.not_lt.mpr l), ?_, ?_⟩
  · rintro rfl
    obtain ⟨ps, t1, _⟩ := I.tab
    exact absurd (PySem.Heap.lt_size t1) (Nat.not_lt.mpr l)
  · cases q : g x with
    | none => rfl
    | some o => exact absurd (I.frz_lt q) (Nat.not_lt.mpr l)

/-- the heap turns at places that are no part of what is told -/
theorem Inv.keeps {g : Frz} {ρ : Locs} {st : St} {h h' : Heap} (I : Inv h₀ g ρ st h) (k : ∀ a o, h.get? a = some o → (foot ρ a ∨ a = tabP ∨ g a = some o) → h'.get? a = some o) : Inv h₀ g ρ st h' := by
  obtain ⟨ps, t1, t2, t3⟩ := I.tab
  refine ⟨I.base, fun a o e => k a o (I.sub a o e) (.inr (.inr e)), I.len, fun r p mo hr hm => ?_, I.off, I.apart, ⟨ps, k _ _ t1 (.inr (.inl rfl)), t2, t3⟩, I.gtab, fun a o e => k a o (I.old a o e) (.inr (.inr (I.base a o e)))⟩
  refine (I.mat r p mo hr hm).keeps (.refl _) (.refl _) fun x hx o e => k x o e (.inl ?_)
  rcases hx with rfl | rfl
  · exact (foot_of hr).1
  · exact (foot_of hr).2
theorem Inv.sameBut {g : Frz} {ρ : Locs} {st : St} {h h' : Heap} {a : Addr} (I : Inv h₀ g ρ st h) (s : PySem.Heap.SameBut a h h') (f : ¬ foot ρ a) (t : a ≠ tabP) (n : g a = none) : Inv h₀ g ρ st h' :=
  I.keeps fun b o e q => (s.2 b (by rintro rfl; rcases q with q | q | q; exact f q; exact t q; rw [n] at q; cases q)).trans e
theorem Inv.alloc {g : Frz} {ρ : Locs} {st : St} {h : Heap} (I : Inv h₀ g ρ st h) (o : Obj) : Inv h₀ g ρ st (h.push o) := I.keeps fun _ _ e _ => PySem.Heap.get?_push_of_some _ e
theorem Inv.grown {g : Frz} {ρ : Locs} {st : St} {h h' : Heap} (I : Inv h₀ g ρ st h) (k : ∀ a o, h.get? a = some o → h'.get? a = some o) : Inv h₀ g ρ st h' := I.keeps fun a o e _ => k a o e
theorem Ext.grown {X : Addr → Prop} {g : Frz} {ρ : Locs} {h h' : Heap} (k : ∀ a o, h.get? a = some o → ¬ X a → h'.get? a = some o) : Ext X g ρ h g ρ h' :=
  ⟨.refl _, .refl _, fun _ _ e _ _ n => k _ _ e n, fun _ _ _ f _ _ => ⟨f, rfl⟩⟩
theorem Ext.alloc {X : Addr → Prop} {g : Frz} {ρ : Locs} {h : Heap} (o : Obj) : Ext X g ρ h g ρ (h.push o) := Ext.grown fun _ _ e _ => PySem.Heap.get?_push_of_some _ e
theorem Ext.sameBut {X : Addr → Prop} {g : Frz} {ρ : Locs} {h h' : Heap} {a : Addr} (s : PySem.Heap.SameBut a h h') (x : X a ∨ foot ρ a ∨ h.objs.size ≤ a) : Ext X g ρ h g ρ h' :=
  ⟨.refl _, .refl _, fun b o e f _ n => (s.2 b (by rintro rfl; rcases x with x | x | x; exact n x; exact f x; exact absurd (PySem.Heap.lt_size e) (Nat.not_lt.mpr x))).trans e, fun _ _ _ f _ _ => ⟨f, rfl⟩⟩

theorem FmOk.ext {g g' : Frz} {ρ ρ' : Locs} {h h' : Heap} {env : Env} {fm : Fm} (F : FmOk g ρ h env fm) {X : Addr → Prop} (x : Ext X g ρ h g' ρ' h') (nx : ∀ a, (a = env.locals ∨ ∃ y, env.cells.lookup y = some a) → ¬ X a) : FmOk g' ρ' h' env fm := by
  obtain ⟨m, n1, n2⟩ := F.ns
  obtain ⟨oL, es, ep, hL, rL⟩ := id n1
  have kc : ∀ y c v, env.cells.lookup y = some c → h.IsCell c v → h'.IsCell c v := fun y c v e ⟨o, ho, hd⟩ =>
    ⟨o, x.keep c o ho (F.offC y c e).1 (F.offC y c e).2.1 (nx c (.inr ⟨y, e⟩)), hd⟩
  refine ⟨F.fk, F.gl, F.bl, F.names, ⟨m, ⟨oL, es, ep, x.keep _ _ hL F.offL.1 F.offL.2.1 (nx _ (.inl rfl)), rL⟩, fun y pv e => ?_⟩, fun y pv e => ?_, fun y e => ?_, F.apart, ?_, fun y c e => ?_, fun fz y c e1 e2 => ?_, F.code⟩
  · obtain ⟨v, a, b⟩ := n2 y pv e; exact ⟨v, a, b.le x.le x.pre⟩
  · obtain ⟨c, v, a, b, d⟩ := F.cel y pv e; exact ⟨c, v, a, kc y c _ a b, d.le x.le x.pre⟩
  · obtain ⟨c, a, v, b⟩ := F.own y e; exact ⟨c, a, v, kc y c _ a b⟩
  · have cl := x.clean _ _ hL F.offL.1 F.offL.2.1 (nx _ (.inl rfl))
    exact ⟨cl.1, F.offL.2.1, cl.2.trans F.offL.2.2⟩
  · obtain ⟨a, b, v, d⟩ := F.offC y c e
    have cl := x.clean c _ d.choose_spec.1 a b (nx c (.inr ⟨y, e⟩))
    exact ⟨cl.1, b, v, kc y c v e d⟩
  · obtain ⟨a, b, v, d⟩ := F.offC y c e2
    have cl := x.clean c _ d.choose_spec.1 a b (nx c (.inr ⟨y, e2⟩))
    exact cl.2.trans (F.frzC fz y c e1 e2)
theorem FmOk.ext0 {g g' : Frz} {ρ ρ' : Locs} {h h' : Heap} {env : Env} {fm : Fm} (F : FmOk g ρ h env fm) (x : Ext noX g ρ h g' ρ' h') : FmOk g' ρ' h' env fm := F.ext x fun _ _ q => q

theorem lookup_upd (l : List (Str × PV)) (x y : Str) (v : PV) : (upd l x v).lookup y = if y = x then some v else l.lookup y := by
  induction l with
  | nil =>
    show (match y == x with | true => some v | false => none) = _
    by_cases q : y = x
    · simp [q]
    · have : (y == x) = false := by simpa using q
      simp [this, q]
  | cons p r ih =>
    obtain ⟨z, u⟩ := p
    unfold upd
    by_cases q : z = x
    · subst q
      rw [if_pos rfl, List.lookup_cons, List.lookup_cons]
      by_cases e : y = z
      · subst e; simp
      · have : (y == z) = false := by simpa using e
        simp [this, e]
    · rw [if_neg q, List.lookup_cons, List.lookup_cons, ih]
      by_cases e : y = z
      · subst e; simp [q]
      · have : (y == z) = false := by simpa using e
        simp [this]

theorem ns_of_base {g : Frz} {ρ : Locs} {st : St} {h : Heap} (I : Inv h₀ g ρ st h) {a : Addr} {m : Str → Option Value} (n : h₀.Ns a m) : h.Ns a m := n.keeps I.old

/-- a name read -/
theorem name_ok0 (D : Gd w K h₀ mg mb) {g : Frz} {ρ : Locs} {st : St} {s : Shared} {env : Env} {fm : Fm} {x : Str} {v : PV} {A : Around} {E : Value → Shared → Prop} (I : Inv h₀ g ρ st s.heap) (F : FmOk g ρ s.heap env fm) (e : fm.get0 x = some v) {Q : Value → Shared → Prop}
    (hq : ∀ u, Rp g ρ u v → Q u s) (hx : x ≠ "__classdict__") : wpAny (model TP w) A (loadName env x) Q E s := by
  unfold Fm.get0 at e
  have hx' : (x == ("__classdict__" : Str)) = false := by simpa using hx
  cases k : fm.names.lookup x with
  | none => rw [k] at e; (first | exact nsome e | (obtain ⟨rfl, rfl⟩ := pinj e; clear e) | (obtain ⟨rfl, rfl, rfl⟩ := pinj3 e; clear e) | (obtain rfl := sinj e; clear e) | cases e)
  | some kd =>
    have kr := F.names x kd k
    rw [k] at e
    cases kd with
    | «local» =>
      obtain ⟨m, n1, n2⟩ := F.ns
      obtain ⟨u, a, b⟩ := n2 x v e
      exact wpAny_loadName_local F.fk kr n1 a (hq u b)
    | cell =>
      obtain ⟨c, u, a, b, d⟩ := F.cel x v e
      exact wpAny_loadName_cell F.fk kr a b (hq u d)
    | free =>
      obtain ⟨c, u, a, b, d⟩ := F.cel x v e
      rcases kr with kr | kr
      · exact wpAny_loadName_cell F.fk kr a b (hq u d)
      · exact wpAny_loadName_free F.fk kr a b (hq u d) hx'
    | globalImplicit =>
      obtain ⟨u, a, b⟩ := D.glob x v e
      have b' : Rp g ρ u v := b.le I.base (fun r p e => by simp at e)
      have ng : s.heap.Ns env.globals mg := F.gl ▸ ns_of_base I D.g
      have nb : s.heap.Ns env.builtins mb := F.bl ▸ ns_of_base I D.b
      have kr' : env.kindOf x = some .globalImplicit := kr
      unfold loadName
      simp only [Env.blockKind, F.fk, kr', ScopeKind.isAnnotationScope, Bool.false_and, Bool.false_eq_true, if_false]
      rcases a with a | ⟨a1, a2⟩
      · exact Calls.loadGlobal_global ng a (hq u b')
      · exact Calls.loadGlobal_builtin ng a1 nb a2 (hq u b')
    | globalExplicit => (first | exact nsome e | (obtain ⟨rfl, rfl⟩ := pinj e; clear e) | (obtain ⟨rfl, rfl, rfl⟩ := pinj3 e; clear e) | (obtain rfl := sinj e; clear e) | cases e)

theorem name_ok (D : Gd w K h₀ mg mb) {g : Frz} {ρ : Locs} {st : St} {s : Shared} {env : Env} {fm : Fm} {x : Str} {v : PV} {A : Around} {E : Value → Shared → Prop} (I : Inv h₀ g ρ st s.heap) (F : FmOk g ρ s.heap env fm) (e : fm.get x = some v) {Q : Value → Shared → Prop}
    (hq : ∀ u, Rp g ρ u v → Q u s) : wpAny (model TP w) A (loadName env x) Q E s := by
  unfold Fm.get at e
  split at e
  · rename_i q
    unfold okName at q
    simp only [Bool.and_eq_true, bne_iff_ne] at q
    exact name_ok0 D I F e hq q.2
  · (first | exact nsome e | (obtain ⟨rfl, rfl⟩ := pinj e; clear e) | (obtain ⟨rfl, rfl, rfl⟩ := pinj3 e; clear e) | (obtain rfl := sinj e; clear e) | cases e)
theorem name_dbg {fm : Fm} {x : Str} {v : PV} (e : fm.get x = some v) : (x == ("__debug__" : Str)) = false := by
  unfold Fm.get at e
  split at e
  · rename_i q
    unfold okName at q
    simp only [Bool.and_eq_true, bne_iff_ne] at q
    simpa using q.1
  · (first | exact nsome e | (obtain ⟨rfl, rfl⟩ := pinj e; clear e) | (obtain ⟨rfl, rfl, rfl⟩ := pinj3 e; clear e) | (obtain rfl := sinj e; clear e) | cases e)

/-- a name stored -/
theorem store_ok {g : Frz} {ρ : Locs} {st : St} {s : Shared} {env : Env} {fm fm' : Fm} {x : Str} {v : PV} {u : Value} {A : Around} {M : Model} (I : Inv h₀ g ρ st s.heap) (F : FmOk g ρ s.heap env fm) (e : fm.put x v = some fm') (hv : Rp g ρ u v) :
    wpAny M A (storeName env x u) (Ans h₀ (Xof env fm) g ρ s st (fun g' ρ' h' _ => FmOk g' ρ' h' env fm' ∧ fm'.names = fm.names ∧ g' = g ∧ ρ' = ρ)) Fls s := by
  unfold Fm.put at e
  cases k : fm.names.lookup x with
  | none => rw [k] at e; (first | exact nsome e | (obtain ⟨rfl, rfl⟩ := pinj e; clear e) | (obtain ⟨rfl, rfl, rfl⟩ := pinj3 e; clear e) | (obtain rfl := sinj e; clear e) | cases e)
  | some kd =>
    have kr := F.names x kd k
    rw [k] at e
    cases kd with
    | «local» =>
      (first | exact nsome e | (obtain ⟨rfl, rfl⟩ := pinj e; clear e) | (obtain ⟨rfl, rfl, rfl⟩ := pinj3 e; clear e) | (obtain rfl := sinj e; clear e) | cases e)
      obtain ⟨m, n1, n2⟩ := F.ns
      refine wpAny_storeName_local kr n1 (fun h' hn hs => ?_) (by rw [F.fk]; rfl)
      have nc : ∀ y c, env.cells.lookup y = some c → c ≠ env.locals := fun y c e q => by
        obtain ⟨_, _, vv, oc, hc, hd⟩ := F.offC y c e
        obtain ⟨oL, es, ep, hL, hdL, _⟩ := n1
        rw [q, hL] at hc; cases hc; rw [hdL] at hd; cases hd
      have kc : ∀ y c v, env.cells.lookup y = some c → s.heap.IsCell c v → h'.IsCell c v := fun y c v e hc => hc.sameBut hs (nc y c e)
      refine ⟨g, ρ, h', s.toks + 1, rfl, Ext.sameBut hs (.inl (.inl rfl)), I.sameBut hs F.offL.1 F.offL.2.1 F.offL.2.2, ⟨F.fk, F.gl, F.bl, F.names, ⟨_, hn, fun y pv e => ?_⟩, fun y pv e => ?_, fun y e => ?_, F.apart, F.offL, fun y c e => ?_, F.frzC, F.code⟩, rfl, rfl, rfl⟩
      · dsimp only at e
        rw [lookup_upd] at e
        by_cases q : y = x
        · subst q
          rw [if_pos rfl] at e; (first | exact nsome e | (obtain ⟨rfl, rfl⟩ := pinj e; clear e) | (obtain ⟨rfl, rfl, rfl⟩ := pinj3 e; clear e) | (obtain rfl := sinj e; clear e) | cases e)
          exact ⟨u, by simp, hv⟩
        · rw [if_neg q] at e
          obtain ⟨v', a, b⟩ := n2 y pv e
          exact ⟨v', by simp [q, a], b⟩
      · obtain ⟨c, v', a, b, d⟩ := F.cel y pv e; exact ⟨c, v', a, kc y c _ a b, d⟩
      · obtain ⟨c, a, v', b⟩ := F.own y e; exact ⟨c, a, v', kc y c _ a b⟩
      · obtain ⟨a, b, v', d⟩ := F.offC y c e; exact ⟨a, b, v', kc y c _ e d⟩
    | cell =>
      dsimp only at e
      split at e
      · (first | exact nsome e | (obtain ⟨rfl, rfl⟩ := pinj e; clear e) | (obtain ⟨rfl, rfl, rfl⟩ := pinj3 e; clear e) | (obtain rfl := sinj e; clear e) | cases e)
      · rename_i fz
        (first | exact nsome e | (obtain ⟨rfl, rfl⟩ := pinj e; clear e) | (obtain ⟨rfl, rfl, rfl⟩ := pinj3 e; clear e) | (obtain rfl := sinj e; clear e) | cases e)
        have fz : fm.frz = false := by simpa using fz
        obtain ⟨c, hc, v₀, ic⟩ := F.own x k
        obtain ⟨o1, o2, _⟩ := F.offC x c hc
        have gn := F.frzC fz x c k hc
        refine wpAny_storeName_cell F.fk kr hc ic fun h' hn hs => ?_
        obtain ⟨m, n1, n2⟩ := F.ns
        have nl : env.locals ≠ c := fun q => by
          obtain ⟨oL, es, ep, hL, hdL, _⟩ := n1
          obtain ⟨oc, hoc, hd⟩ := ic
          rw [← q, hL] at hoc; cases hoc; rw [hdL] at hd; cases hd
        have kc : ∀ y c' v, env.cells.lookup y = some c' → y ≠ x → s.heap.IsCell c' v → h'.IsCell c' v := fun y c' v e q ic' => ic'.sameBut hs fun z => q (F.apart y x c (z ▸ e) hc)
        refine ⟨g, ρ, h', s.toks, rfl, Ext.sameBut hs (.inl (.inr ⟨x, k, hc⟩)), I.sameBut hs o1 o2 gn, ⟨F.fk, F.gl, F.bl, F.names, ⟨m, n1.sameBut hs nl, n2⟩, fun y pv e => ?_, fun y e => ?_, F.apart, F.offL, fun y c' e => ?_, F.frzC, F.code⟩, rfl, rfl, rfl⟩
        · dsimp only at e
          rw [lookup_upd] at e
          by_cases q : y = x
          · subst q
            rw [if_pos rfl] at e; (first | exact nsome e | (obtain ⟨rfl, rfl⟩ := pinj e; clear e) | (obtain ⟨rfl, rfl, rfl⟩ := pinj3 e; clear e) | (obtain rfl := sinj e; clear e) | cases e)
            exact ⟨c, u, hc, hn, hv⟩
          · rw [if_neg q] at e
            obtain ⟨c', v', a, b, d⟩ := F.cel y pv e
            exact ⟨c', v', a, kc y c' _ a q b, d⟩
        · by_cases q : y = x
          · subst q; exact ⟨c, hc, _, hn⟩
          · obtain ⟨c', a, v', b⟩ := F.own y e; exact ⟨c', a, v', kc y c' _ a q b⟩
        · by_cases q : y = x
          · subst q; rw [hc] at e; (first | exact nsome e | (obtain ⟨rfl, rfl⟩ := pinj e; clear e) | (obtain ⟨rfl, rfl, rfl⟩ := pinj3 e; clear e) | (obtain rfl := sinj e; clear e) | cases e); exact ⟨o1, o2, _, hn⟩
          · obtain ⟨a, b, v', d⟩ := F.offC y c' e; exact ⟨a, b, v', kc y c' _ e q d⟩
    | free => (first | exact nsome e | (obtain ⟨rfl, rfl⟩ := pinj e; clear e) | (obtain ⟨rfl, rfl, rfl⟩ := pinj3 e; clear e) | (obtain rfl := sinj e; clear e) | cases e)
    | globalImplicit => (first | exact nsome e | (obtain ⟨rfl, rfl⟩ := pinj e; clear e) | (obtain ⟨rfl, rfl, rfl⟩ := pinj3 e; clear e) | (obtain rfl := sinj e; clear e) | cases e)
    | globalExplicit => (first | exact nsome e | (obtain ⟨rfl, rfl⟩ := pinj e; clear e) | (obtain ⟨rfl, rfl, rfl⟩ := pinj3 e; clear e) | (obtain rfl := sinj e; clear e) | cases e)
end
end Mine
end
section
namespace Mine
open PySem PySem.W PyProof.Rows

inductive RpL (g : Frz) (ρ : Locs) : List Value → List PV → Prop where
  | nil : RpL g ρ [] []
  | cons {u : Value} {v : PV} {us : List Value} {vs : List PV} : Rp g ρ u v → RpL g ρ us vs → RpL g ρ (u :: us) (v :: vs)
theorem rpLN {g : Frz} {ρ : Locs} {us : List Value} (r : RpL g ρ us []) : us = [] := by
  cases r with | nil => rfl
inductive RpLC (g : Frz) (ρ : Locs) (v : PV) (vs : List PV) : List Value → Prop
  | cons {u : Value} {us : List Value} (r1 : Rp g ρ u v) (rs : RpL g ρ us vs) : RpLC g ρ v vs (u :: us)
theorem rpLC {g : Frz} {ρ : Locs} {us : List Value} {v : PV} {vs : List PV} (r : RpL g ρ us (v :: vs)) : RpLC g ρ v vs us := by
  cases r with | cons a r => exact .cons a r
theorem RpL.le {g g' : Frz} {ρ ρ' : Locs} (h : Le g g') (p : Pre ρ ρ') : ∀ {us : List Value} {vs : List PV}, RpL g ρ us vs → RpL g' ρ' us vs
  | _, _, .nil => .nil
  | _, _, .cons a r => .cons (a.le h p) (RpL.le h p r)
theorem RpL.length {g : Frz} {ρ : Locs} : ∀ {us : List Value} {vs : List PV}, RpL g ρ us vs → us.length = vs.length
  | _, _, .nil => rfl
  | _, _, .cons _ r => congrArg (· + 1) (RpL.length r)

section
variable {w : World} {K : Frag} {h₀ : Heap} {mg mb : Str → Option Value}

/-- an answer that is a value -/
noncomputable abbrev EA (h₀ : Heap) (g : Frz) (ρ : Locs) (s : Shared) (st : St) (v : PV) : Value → Shared → Prop := Ans h₀ noX g ρ s st (fun g' ρ' _ u => Rp g' ρ' u v)

theorem EA.now {g : Frz} {ρ : Locs} {s : Shared} {st : St} {v : PV} {u : Value} {tk : Nat} (I : Inv h₀ g ρ st s.heap) (h : Rp g ρ u v) : EA h₀ g ρ s st v u { s with toks := tk } := Ans.here I h
theorem EA.now0 {g : Frz} {ρ : Locs} {s : Shared} {st : St} {v : PV} {u : Value} (I : Inv h₀ g ρ st s.heap) (h : Rp g ρ u v) : EA h₀ g ρ s st v u s := EA.now (tk := s.toks) I h
theorem EA.grown {g : Frz} {ρ : Locs} {s : Shared} {st : St} {v : PV} {u : Value} {h' : Heap} {tk : Nat} (I : Inv h₀ g ρ st s.heap) (k : ∀ a o, s.heap.get? a = some o → h'.get? a = some o) (h : Rp g ρ u v) : EA h₀ g ρ s st v u { s with heap := h', toks := tk } :=
  ⟨g, ρ, h', tk, rfl, Ext.grown fun a o e _ => k a o e, I.grown k, h⟩
theorem EA.thenExt {g g₁ : Frz} {ρ ρ₁ : Locs} {s : Shared} {h₁ : Heap} {st' : St} {v : PV} {b : Value} {s' : Shared} (y : EA h₀ g₁ ρ₁ { s with heap := h₁ } st' v b s') (x : Ext noX g ρ s.heap g₁ ρ₁ h₁) : EA h₀ g ρ s st' v b s' :=
  Ans.then (tk := s.toks) x y
theorem Rp.int {g : Frz} {ρ : Locs} (i : Int) (t : Tok) : Rp g ρ (.int i t) (.d (.int i)) := .d (.int i t)
theorem Rp.bool {g : Frz} {ρ : Locs} (b : Bool) : Rp g ρ (.bool b) (.d (.bool b)) := .d (.bool b)
theorem Rp.str {g : Frz} {ρ : Locs} (x : Str) (t : Tok) : Rp g ρ (.str x t) (.d (.str x)) := .d (.str x t)

/-- a new frozen list or tuple -/
theorem EA.newList {g : Frz} {ρ : Locs} {s : Shared} {st : St} {vs : List Value} {xs : List PyData} {h : Heap} {tk : Nat} (I : Inv h₀ g ρ st h) (x : Ext noX g ρ s.heap g ρ h) (r : RdL g vs xs) {o : Obj} (ho : o = { cls := .type "list", data := .seq ⟨vs⟩ }) :
    EA h₀ g ρ s st (.d (.list xs)) (.ref h.objs.size) { s with heap := h.push o, toks := tk } := by
  subst ho
  obtain ⟨I', x'⟩ := I.push (o := ({ cls := .type "list", data := .seq ⟨vs⟩ } : Obj)) rfl noX
  exact ⟨_, _, _, _, rfl, x.trans x', I', .d (.list (Frz.add_self ..) rfl rfl (r.le x'.le))⟩
theorem EA.newTuple {g : Frz} {ρ : Locs} {s : Shared} {st : St} {vs : List Value} {xs : List PyData} {h : Heap} {tk : Nat} (I : Inv h₀ g ρ st h) (x : Ext noX g ρ s.heap g ρ h) (r : RdL g vs xs) {o : Obj} (ho : o = { cls := .type "tuple", data := .seq ⟨vs⟩ }) :
    EA h₀ g ρ s st (.d (.tuple xs)) (.ref h.objs.size) { s with heap := h.push o, toks := tk } := by
  subst ho
  obtain ⟨I', x'⟩ := I.push (o := ({ cls := .type "tuple", data := .seq ⟨vs⟩ } : Obj)) rfl noX
  exact ⟨_, _, _, _, rfl, x.trans x', I', .d (.tuple (Frz.add_self ..) (r.le x'.le))⟩

theorem isList_of {g : Frz} {h : Heap} {a : Addr} {xs : List PyData} (k : Sub g h) (r : Rd g (.ref a) (.list xs)) : ∃ vs, h.IsList a ⟨vs⟩ ∧ RdL g vs xs := by
  obtain ⟨b, o, vs, n, e, h1, h2, h3, r1⟩ := rdI r
  exact ⟨_, ⟨_, k _ _ ((Value.ref.inj e) ▸ h1), h2, _, h3⟩, r1⟩
theorem isTuple_of {g : Frz} {h : Heap} {a : Addr} {xs : List PyData} (k : Sub g h) (r : Rd g (.ref a) (.tuple xs)) : ∃ vs, (∃ n, IsT h a ⟨vs⟩ n) ∧ h.IsTuple a ⟨vs⟩ ∧ RdL g vs xs := by
  obtain ⟨b, vs, n, e, h1, r1⟩ := rdI r
  have h1 := k _ _ ((Value.ref.inj e) ▸ h1)
  exact ⟨_, ⟨_, h1⟩, ⟨_, h1, rfl, _, rfl⟩, r1⟩

theorem add_lists' {prog : Program} {A : Around} {E : Value → Shared → Prop} {s : Shared} {l b : Addr} {vs ws : List Value} {Q : Value → Shared → Prop} (hl : s.heap.IsList l vs.toArray) (hb : s.heap.IsList b ws.toArray)
    (h : Q (.ref s.heap.objs.size) { s with heap := s.heap.push { cls := .type "list", data := .seq ⟨vs ++ ws⟩ } }) (hsz : vs.length + ws.length ≤ sizeLine) :
    wpAny (model prog w) A (binaryOp .Add (.ref l) (.ref b)) Q E s := by
  obtain ⟨⟨cls, dd, data, sl⟩, ho, hc, n, hd⟩ := id hl
  obtain ⟨⟨cls2, dd2, data2, sl2⟩, ho2, hc2, n2, hd2⟩ := id hb
  simp only at hc hd hc2 hd2
  subst hc hd hc2 hd2
  have e : vs.toArray ++ ws.toArray = (vs ++ ws).toArray := by simp
  refine concat_meets ⟨_, ho, rfl⟩ ⟨_, ho2, rfl⟩ noFill_list_add seq_list_add PySem.F.slot_list_add PySem.F.entry_list_add (PySem.F.args_list_add_2 _ _) (list_addW l b vs.toArray ws.toArray n n2 dd dd2 sl sl2 (by simpa using hsz)) ⟨ho, ho2, ?_⟩
  rw [e]; exact h

theorem str_append (a b : Str) : a ++ b = mkS (sl a ++ sl b) := by
  show (⟨a.cps ++ b.cps⟩ : Str) = ⟨⟨a.cps.toList ++ b.cps.toList⟩⟩
  congr 1
  apply Array.toList_inj.mp
  simp
theorem mkS_sl (a : Str) : mkS (sl a) = a := rfl
theorem sl_mkS (l : List Nat) : sl (mkS l) = l := rfl
theorem sl_len (a : Str) : (sl a).length = a.length := rfl
theorem lim_size {n : Nat} (h : n ≤ lim) : n ≤ sizeLine := Nat.le_trans h (by unfold lim; decide)

theorem rdIk {g : Frz} {u : Value} {i : Int} {P : Value → Prop} (r : Rd g u (.int i)) (h : ∀ t, P (.int i t)) : P u := by obtain ⟨t, rfl⟩ := rdI r; exact h t
theorem rdSk {g : Frz} {u : Value} {i : Str} {P : Value → Prop} (r : Rd g u (.str i)) (h : ∀ t, P (.str i t)) : P u := by obtain ⟨t, rfl⟩ := rdI r; exact h t
theorem rpD' {g : Frz} {ρ : Locs} {u : Value} {x : PyData} (r : Rp g ρ u (.d x)) : Rd g u x := rpI r

theorem add_ok {g : Frz} {ρ : Locs} {st : St} {s : Shared} {a b : Value} {x y z : PyData} {A : Around} (I : Inv h₀ g ρ st s.heap) (ra : Rd g a x) (rb : Rd g b y) (e : addL y x = some z) :
    wpAny (model TP w) A (binaryOp .Add a b) (EA h₀ g ρ s st (.d z)) Fls s := by
  cases x <;> first | exact nsome e | skip
  · obtain ⟨c, h, rfl⟩ := mpd e
    apply rdIk (u := a) ra
    intro _
    apply rdIk (u := b) (intD_of h ▸ rb)
    intro _
    exact P.add_int (EA.now I (Rp.int ..))
  · obtain ⟨c, h, e⟩ := bnd e
    obtain ⟨h1, rfl⟩ := of_chk e
    apply rdSk (u := a) ra
    intro _
    apply rdSk (u := b) (strD_of h ▸ rb)
    intro _
    refine PyProof.Rows.add_str (fun t' tk => ?_) (lim_size h1)
    rw [str_append]
    exact EA.now I (Rp.str ..)
  · obtain ⟨c, h, e⟩ := bnd e
    obtain ⟨h1, rfl⟩ := of_chk e
    obtain rfl := lstD_of h
    replace ra := rdLs ra
    replace rb := rdLs rb
    cases ra with
    | list e1 c1 d1 r1 => cases rb with
      | list e2 c2 d2 r2 =>
        refine add_lists' ⟨_, I.sub _ _ e1, c1, _, d1⟩ ⟨_, I.sub _ _ e2, c2, _, d2⟩ ?_ (by rw [r1.length, r2.length]; exact lim_size h1)
        exact EA.newList (tk := s.toks) I .refl (r1.append r2) rfl
theorem mul_ok {g : Frz} {ρ : Locs} {st : St} {s : Shared} {a b : Value} {x z : PyData} {k : Int} {A : Around} (I : Inv h₀ g ρ st s.heap) (ra : Rd g a x) (rb : Rd g b (.int k)) (e : mulD k x = some z) :
    wpAny (model TP w) A (binaryOp .Mult a b) (EA h₀ g ρ s st (.d z)) Fls s := by
  apply rdIk (u := b) rb
  intro _
  cases x <;> first | exact nsome e | skip
  · obtain ⟨h1, h⟩ := ifp_of e
    obtain rfl := sinj h
    apply rdIk (u := a) ra
    intro _
    exact P.mul_int (EA.now I (Rp.int ..)) (IntMulOk.of_right (intBits_le_64 (Int.le_trans (by decide) h1.1) (Int.lt_of_le_of_lt h1.2 (by decide))))
  · apply rdSk (u := a) ra
    intro _
    cases ite_of e with
    | t q h =>
      subst q; obtain rfl := sinj h
      exact SB.mul ⟨by decide, fun q => absurd (by decide : (0 : Int) < 1) q, fun q => absurd (by decide : (0 : Int) < 1) q⟩ fun t' tk => EA.now I (Rp.str ..)
    | f q h =>
      obtain ⟨q, h⟩ := ifp_of h
      subst q; obtain rfl := sinj h
      exact SB.mul ⟨by decide, fun _ q => by simp at q, fun _ q => by simp at q⟩ fun t' tk => EA.now I (Rp.str ..)
theorem binop_ok {g : Frz} {ρ : Locs} {st : St} {s : Shared} {op : Operator} {a b : Value} {x y z : PyData} {A : Around} (hA : A.handled = none) (I : Inv h₀ g ρ st s.heap) (ra : Rd g a x) (rb : Rd g b y) (e : binop op x y = some z) :
    wpAny (model TP w) A (binaryOp op a b) (EA h₀ g ρ s st (.d z)) Fls s := by
  cases op <;> first | exact nsome e | skip
  case Add => exact add_ok I ra rb e
  case Sub =>
    obtain ⟨c, h1, e⟩ := bnd e
    obtain ⟨d, h2, rfl⟩ := mpd e
    apply rdIk (u := a) (intD_of h1 ▸ ra)
    intro _
    apply rdIk (u := b) (intD_of h2 ▸ rb)
    intro _
    exact P.sub_int (EA.now I (Rp.int ..))
  case Mult =>
    obtain ⟨c, h1, e⟩ := bnd e
    exact mul_ok I ra (intD_of h1 ▸ rb) e
  case FloorDiv =>
    obtain ⟨c, h1, e⟩ := bnd e
    obtain ⟨d, h2, e⟩ := bnd e
    obtain ⟨q, h⟩ := ifp_of e
    obtain rfl := sinj h
    apply rdIk (u := a) (intD_of h1 ▸ ra)
    intro _
    apply rdIk (u := b) (intD_of h2 ▸ rb)
    intro _
    rw [← Int.fdiv_eq_ediv_of_nonneg _ (Int.le_of_lt q.1)]
    exact floordiv_int_or hA (fun q' => absurd q' (Int.ne_of_gt q.1)) (fun _ => EA.now I (Rp.int ..)) (fun _ => Or.inl (PyProof.noPylong_small (by omega)))
  case Mod =>
    obtain ⟨c, h1, e⟩ := bnd e
    obtain ⟨d, h2, e⟩ := bnd e
    obtain ⟨q, h⟩ := ifp_of e
    obtain rfl := sinj h
    apply rdIk (u := a) (intD_of h1 ▸ ra)
    intro _
    apply rdIk (u := b) (intD_of h2 ▸ rb)
    intro _
    rw [← Int.fmod_eq_emod_of_nonneg _ (Int.le_of_lt q.1)]
    exact mod_int_or hA (fun q' => absurd q' (Int.ne_of_gt q.1)) (fun _ => EA.now I (Rp.int ..))
end
end Mine
end
section
namespace Mine
open PySem PySem.W PyProof.Rows
open PySem.AutoSeq1 (wpAny_loadPart')
open PySem.MeetsSeq PySem.MeetsSeq2 PySem.MeetsSeq3 PySem.SeqAt

theorem IntsAre.get {vs : List Value} {ns : List Int} (h : IntsAre vs ns) (i : Nat) (n : Int) (e : ns[i]? = some n) : ∃ t, vs[i]? = some (.int n t) := by
  induction h generalizing i with
  | nil => simp at e
  | cons m t r ih =>
    cases i with
    | zero => simp at e; subst e; exact ⟨t, rfl⟩
    | succ i => simp only [List.getElem?_cons_succ] at e ⊢; exact ih i e

theorem lt_loopAt (l b : Addr) (items items2 : Array Value) (n n2 : Nat) (dd dd2 : Option Addr) (sl sl2 : Array (Option Value)) (ns ms : List Int) (h1 : IntsAre items.toList ns) (h2 : IntsAre items2.toList ms) (k : Nat) :
    ∀ i : Nat, items.size - i = k → Meets (Builtin.«list.__eq__.loop» ⟨[.ref l, .ref b, rawInt i, rawInt 0], []⟩)
      (fun A R s => s.heap.get? l = some { cls := .type "list", dict := dd, data := .seq items n, slots := sl } ∧ s.heap.get? b = some { cls := .type "list", dict := dd2, data := .seq items2 n2, slots := sl2 } ∧
        i ≤ items.size ∧ i ≤ items2.size ∧ R (.ok (.ret (.bool (ltInts (ns.drop i) (ms.drop i))))) s) := by
  have l1 : ns.length = items.size := by rw [← h1.length]; simp
  have l2 : ms.length = items2.size := by rw [← h2.length]; simp
  induction k with
  | zero =>
    intro i hk prog w A R s h
    obtain ⟨hp, g, d, tk, os⟩ := s; obtain ⟨hl, hb, b1, b2, h⟩ := h
    wp_walk using wpAny_loadPart' hl, wpAny_loadPart' hb
    have hi1 : items[((i : Nat) : Int).toNat]? = none := by simp; omega
    have hd : ns.drop i = [] := by simp; omega
    rw [hd] at h
    rw [hi1]
    wp_walk using wpAny_loadPart' hl, wpAny_loadPart' hb
    show R (.ok (.ret (.bool (decide (items.size < items2.size))))) _
    by_cases q : items2.size ≤ i
    · have hd2 : ms.drop i = [] := by simp; omega
      rw [hd2] at h
      have : decide (items.size < items2.size) = false := by simp; omega
      rw [this]; exact h
    · obtain ⟨m, r, e⟩ : ∃ m r, ms.drop i = m :: r := by
        cases e : ms.drop i with
        | nil => simp at e; omega
        | cons m r => exact ⟨m, r, rfl⟩
      rw [e] at h
      have : decide (items.size < items2.size) = true := by simp; omega
      rw [this]; exact h
  | succ k ih =>
    intro i hk prog w A R s h
    obtain ⟨hp, g, d, tk, os⟩ := s; obtain ⟨hl, hb, b1, b2, h⟩ := h
    wp_walk using wpAny_loadPart' hl, wpAny_loadPart' hb
    have hlt : i < items.size := by omega
    obtain ⟨a, ea⟩ : ∃ a, ns[i]? = some a := ⟨ns[i], by simp⟩
    obtain ⟨ta, va⟩ := IntsAre.get h1 i a ea
    have hi1 : items[((i : Nat) : Int).toNat]? = some (.int a ta) := by simpa using va
    rw [hi1]
    by_cases hlt2 : i < items2.size
    · obtain ⟨c, ec⟩ : ∃ c, ms[i]? = some c := ⟨ms[i], by simp⟩
      obtain ⟨tc, vc⟩ := IntsAre.get h2 i c ec
      have hi2 : items2[((i : Nat) : Int).toNat]? = some (.int c tc) := by simpa using vc
      rw [hi2]
      have hd : ns.drop i = a :: ns.drop (i + 1) := by rw [List.drop_eq_getElem_cons (by omega)]; congr 1; simpa [List.getElem?_eq_getElem (show i < ns.length by omega)] using ea
      have hd2 : ms.drop i = c :: ms.drop (i + 1) := by rw [List.drop_eq_getElem_cons (by omega)]; congr 1; simpa [List.getElem?_eq_getElem (show i < ms.length by omega)] using ec
      have hc : ((i : Int) + 1) = ((i + 1 : Nat) : Int) := by push_cast; rfl
      rw [hd, hd2] at h
      unfold ltInts at h
      refine wpAny_bind (wpAny_eqBool_int ?_)
      by_cases q : a = c
      · rw [if_pos q] at h
        have : (a == c) = true := by simpa using q
        rw [this]
        wp_walk
        rw [hc]
        exact ⟨plainId_quiet plain_eq_loop _, codeAny_builtin entry_eq_loop (by
          rw [Around.under_plainId plain_eq_loop _]
          exact ih (i + 1) (by omega) prog w A R _ ⟨hl, hb, by omega, by omega, h⟩)⟩
      · rw [if_neg q] at h
        have : (a == c) = false := by simpa using q
        rw [this]
        wp_walk using wpAny_loadPart' hl, wpAny_loadPart' hb
        rw [hi1, hi2]
        refine wpAny_bind (richCompare_gives (op := .Lt) (typeIs_int _ a ta) (typeIs_int _ c tc) F.slot_int_lt F.entry_int_lt (F.args_int_lt_2 _ _) (gives_int_lt a c ta tc) (fun x => nomatch x) ?_)
        exact wpAny_pure h
    · have hi2 : items2[((i : Nat) : Int).toNat]? = none := by simp; omega
      rw [hi2]
      wp_walk using wpAny_loadPart' hl, wpAny_loadPart' hb
      show R (.ok (.ret (.bool (decide (items.size < items2.size))))) _
      have hd : ns.drop i = a :: ns.drop (i + 1) := by rw [List.drop_eq_getElem_cons (by omega)]; congr 1; simpa [List.getElem?_eq_getElem (show i < ns.length by omega)] using ea
      have hd2 : ms.drop i = [] := by simp; omega
      rw [hd, hd2] at h
      have : decide (items.size < items2.size) = false := by simp; omega
      rw [this]; exact h

theorem list_ltAt (l b : Addr) (items items2 : Array Value) (n n2 : Nat) (dd dd2 : Option Addr) (sl sl2 : Array (Option Value)) (ns ms : List Int) (h1 : IntsAre items.toList ns) (h2 : IntsAre items2.toList ms) :
    Meets (Builtin.«list.__lt__» ⟨[.ref l, .ref b], []⟩)
      (fun A R s => s.heap.get? l = some { cls := .type "list", dict := dd, data := .seq items n, slots := sl } ∧ s.heap.get? b = some { cls := .type "list", dict := dd2, data := .seq items2 n2, slots := sl2 } ∧
        R (.ok (.ret (.bool (ltInts ns ms)))) s) := by
  intro prog w A R s h
  obtain ⟨hp, g, d, tk, os⟩ := s; obtain ⟨hl, hb, h⟩ := h
  have f3 := AutoSeq1.sub_list_list
  wp_walk using wpAny_loadPart' hl, wpAny_loadPart' hb
  exact ⟨plainId_quiet plain_eq_loop _, codeAny_builtin entry_eq_loop (by
    rw [Around.under_plainId plain_eq_loop _]
    exact lt_loopAt l b items items2 n n2 dd dd2 sl sl2 ns ms h1 h2 _ 0 rfl prog w A R _ ⟨hl, hb, Nat.zero_le _, Nat.zero_le _, by simpa using h⟩)⟩

theorem lt_lists {prog : Program} {w : World} {A : Around} {E : Value → Shared → Prop} {s : Shared} {l b : Addr} {vs us : List Value} {ns ms : List Int} {Q : Value → Shared → Prop} (hl : s.heap.IsList l ⟨vs⟩) (hb : s.heap.IsList b ⟨us⟩) (h1 : IntsAre vs ns) (h2 : IntsAre us ms) (hu : A.units < cLine)
    (h : Q (.bool (ltInts ns ms)) s) : wpAny (model prog w) A (compareOp .Lt (.ref l) (.ref b)) Q E s := by
  obtain ⟨⟨cls, dd, data, sl⟩, ho, hc, n, hd⟩ := id hl
  obtain ⟨⟨cls2, dd2, data2, sl2⟩, ho2, hc2, n2, hd2⟩ := id hb
  simp only at hc hd hc2 hd2
  subst hc hd hc2 hd2
  show wpAny (model prog w) A (richCompare .Lt (.ref l) (.ref b)) Q E s
  exact richCompare_meets_room (op := .Lt) ⟨_, ho, rfl⟩ ⟨_, ho2, rfl⟩ F.slot_list_lt F.entry_list_lt (F.args_list_lt_2 _ _) (list_ltAt l b ⟨vs⟩ ⟨us⟩ n n2 dd dd2 sl sl2 ns ms h1 h2)
    ⟨ho, ho2, show Value.bool (ltInts ns ms) ≠ Value.notImplemented ∧ Q (.bool (ltInts ns ms)) s from ⟨(fun x => nomatch x), h⟩⟩ hu

/-! strings within strings -/
theorem starts_iff : ∀ (p l : List Nat), starts p l = true ↔ l.take p.length = p
  | [], l => by simp [starts]
  | a :: r, [] => by simp [starts]
  | a :: r, b :: t => by
    simp only [starts, Bool.and_eq_true, beq_iff_eq, List.length_cons, List.take_succ_cons, List.cons.injEq]
    rw [starts_iff r t]
    exact ⟨fun ⟨x, y⟩ => ⟨x.symm, y⟩, fun ⟨x, y⟩ => ⟨x.symm, y⟩⟩
theorem has_iff (p : List Nat) : ∀ l : List Nat, has p l = true ↔ ∃ i, i ≤ l.length ∧ (l.drop i).take p.length = p
  | [] => by
    simp only [has, List.isEmpty_iff]
    constructor
    · rintro rfl; exact ⟨0, Nat.le_refl _, rfl⟩
    · rintro ⟨i, _, h⟩; simpa using h.symm
  | b :: t => by
    simp only [has, Bool.or_eq_true]
    rw [starts_iff, has_iff p t]
    constructor
    · rintro (h | ⟨i, h1, h2⟩)
      · exact ⟨0, Nat.zero_le _, h⟩
      · exact ⟨i + 1, by simpa using h1, by simpa using h2⟩
    · rintro ⟨i, h1, h2⟩
      cases i with
      | zero => exact .inl h2
      | succ i => exact .inr ⟨i, by simpa using h1, by simpa using h2⟩
theorem has_occ (x y : Str) : (!(Builtin.Str.occurrences x y 0 x.length 1).isEmpty) = has (sl y) (sl x) := by
  rw [Bool.eq_iff_iff, StrLaws.found_iff, has_iff]
  have key : ∀ i, i + y.length ≤ x.length → (Builtin.Str.subAt x y i = true ↔ ((sl x).drop i).take (sl y).length = sl y) := fun i h => by
    rw [StrLaws.subAt_eq, beq_iff_eq]; rfl
  constructor
  · rintro ⟨i, h1, h2⟩
    exact ⟨i, by rw [sl_len]; omega, (key i h1).mp h2⟩
  · rintro ⟨i, h1, h2⟩
    have : i + y.length ≤ x.length := by
      have e := congrArg List.length h2
      rw [List.length_take, List.length_drop, sl_len, sl_len] at e
      rw [sl_len] at h1
      omega
    exact ⟨i, this, (key i this).mpr h2⟩

section
variable {w : World} {K : Frag} {h₀ : Heap} {mg mb : Str → Option Value}

theorem allInts_are {g : Frz} : ∀ {vs : List Value} {xs : List PyData} {ns : List Int}, RdL g vs xs → allInts xs = some ns → IntsAre vs ns
  | _, _, _, .nil, e => by (first | exact nsome e | (obtain ⟨rfl, rfl⟩ := pinj e; clear e) | (obtain ⟨rfl, rfl, rfl⟩ := pinj3 e; clear e) | (obtain rfl := sinj e; clear e) | cases e); exact .nil
  | _, _, _, .cons (d := d) a r, e => by
    cases d with
    | int i =>
      cases a
      simp only [allInts, Option.map_eq_some_iff] at e
      obtain ⟨l, e1, rfl⟩ := e
      exact .cons _ _ (allInts_are r e1)
    | _ => (first | exact nsome e | (obtain ⟨rfl, rfl⟩ := pinj e; clear e) | (obtain ⟨rfl, rfl, rfl⟩ := pinj3 e; clear e) | (obtain rfl := sinj e; clear e) | cases e)

/-- a value as data -/
inductive DR (g : Frz) (h : Heap) : Value → PyData → Prop where
  | rd {u : Value} {x : PyData} : Rd g u x → DR g h u x
  | li {a : Addr} {vs : List Value} {xs : List PyData} : h.IsList a ⟨vs⟩ → RdL g vs xs → DR g h (.ref a) (.list xs)
theorem drR {g : Frz} {h : Heap} {u : Value} {x : PyData} (q : (lstD x).isNone = true) (d : DR g h u x) : Rd g u x := by
  cases d with
  | rd r => exact r
  | li a b => exact absurd q Bool.false_ne_true
theorem asD_ok {g : Frz} {ρ : Locs} {st : St} {h : Heap} {u : Value} {v : PV} {x : PyData} (I : Inv h₀ g ρ st h) (r : Rp g ρ u v) (e : asD st v = some x) : DR g h u x := by
  cases v <;> first | exact nsome e | skip
  · obtain rfl := sinj e; exact .rd (rpI r)
  · rename_i q
    obtain ⟨p, rfl, hr⟩ := rpI r
    change (match st[q]? with | some (.list xs) => some (PyData.list xs) | _ => none) = _ at e
    cases hs : st[q]? with
    | none => rw [hs] at e; exact nsome e
    | some m =>
      rw [hs] at e
      cases m <;> first | exact nsome e | skip
      obtain rfl := sinj e
      cases matL (I.mat _ _ _ hr hs) with
      | list e1 r1 => exact .li ⟨_, e1, rfl, _, rfl⟩ r1
theorem DR.list {g : Frz} {h : Heap} (k : Sub g h) {u : Value} {xs : List PyData} (d : DR g h u (.list xs)) : ∃ a vs, u = .ref a ∧ h.IsList a ⟨vs⟩ ∧ RdL g vs xs := by
  cases d with
  | rd r => obtain ⟨a, o, vs, n, rfl, e, c, d, r1⟩ := rdI r; exact ⟨_, _, rfl, ⟨_, k _ _ e, c, _, d⟩, r1⟩
  | li a b => exact ⟨_, _, rfl, a, b⟩
theorem DR.reads {g : Frz} {h : Heap} (k : Sub g h) {u : Value} {x : PyData} (d : DR g h u x) : ∃ as, Reads h u x as := by
  cases d with
  | rd r => exact r.reads k
  | li a b =>
    obtain ⟨o, a1, a2, n, a3⟩ := a
    obtain ⟨as, q⟩ := b.reads k
    exact ⟨_, .list a1 a2 a3 q⟩

theorem beq_dec (a b : List Nat) : (a == b) = decide (a = b) := by rw [Bool.eq_iff_iff]; simp
theorem bne_dec (a b : List Nat) : (a != b) = !decide (a = b) := by rw [Bool.eq_iff_iff]; simp
theorem neS_ok {g : Frz} {s : Shared} {a b : Value} {x y : PyData} {c : Bool} {A : Around} {Q : Value → Shared → Prop} {E : Value → Shared → Prop} (hu : A.units + 64 < cLine) (k : Sub g s.heap) (ra : DR g s.heap a x) (rb : DR g s.heap b y) (e : neS x y = some c) (hq : Q (.bool c) s) :
    wpAny (model TP w) A (compareOp .NotEq a b) Q E s := by
  obtain ⟨q, h⟩ := ifs_of e
  obtain rfl := sinj h
  obtain ⟨as, r1⟩ := ra.reads k
  obtain ⟨bs, r2⟩ := rb.reads k
  exact ne_dataH r1 r2 (and_of q).1 (and_of q).2 hu hq
theorem intK {g : Frz} {h : Heap} {u : Value} {x : PyData} {i : Int} {P : Value → Prop} (e : intD x = some i) (r : DR g h u x) (k : ∀ t, P (.int i t)) : P u := by
  obtain rfl := intD_of e
  exact rdIk (drR rfl r) k
theorem strK {g : Frz} {h : Heap} {u : Value} {x : PyData} {i : Str} {P : Value → Prop} (e : strD x = some i) (r : DR g h u x) (k : ∀ t, P (.str i t)) : P u := by
  obtain rfl := strD_of e
  exact rdSk (drR rfl r) k
theorem boolK {g : Frz} {h : Heap} {u : Value} {x : PyData} {i : Bool} (e : boolD x = some i) (r : DR g h u x) : u = .bool i := by
  obtain rfl := boolD_of e
  exact rdI (drR rfl r)
noncomputable def cmpI : CmpOp → Int → Int → Option Bool
  | .Eq, a, b => some (decide (a = b))
  | .NotEq, a, b => some (!decide (a = b))
  | .Lt, a, b => some (decide (a < b))
  | .Gt, a, b => some (decide (b < a))
  | .GtE, a, b => some (decide (b ≤ a))
  | _, _, _ => none
theorem cmpI_ok {s : Shared} {op : CmpOp} {a b : Int} {t u : Tok} {c : Bool} {A : Around} {Q : Value → Shared → Prop} {E : Value → Shared → Prop} (e : cmpI op a b = some c) (hq : Q (.bool c) s) :
    wpAny (model TP w) A (compareOp op (.int a t) (.int b u)) Q E s := by
  cases op <;> first | exact nsome e | obtain rfl := sinj e
  · exact P.eq_int hq
  · exact P.ne_int hq
  · exact P.lt_int hq
  · exact P.gt_int hq
  · exact P.ge_int hq
noncomputable def cmpS : CmpOp → Str → Str → Option Bool
  | .Eq, a, b => some (decide (sl a = sl b))
  | .NotEq, a, b => some (!decide (sl a = sl b))
  | .Lt, a, b => some (decide (sl a < sl b))
  | .Gt, a, b => some (decide (sl b < sl a))
  | .In, a, b => some (has (sl a) (sl b))
  | .NotIn, a, b => some (!has (sl a) (sl b))
  | _, _, _ => none
theorem cmpS_ok {s : Shared} {op : CmpOp} {a b : Str} {t u : Tok} {c : Bool} {A : Around} {Q : Value → Shared → Prop} {E : Value → Shared → Prop} (e : cmpS op a b = some c) (hq : Q (.bool c) s) :
    wpAny (model TP w) A (compareOp op (.str a t) (.str b u)) Q E s := by
  cases op <;> first | exact nsome e | obtain rfl := sinj e
  · exact P.eq_str (by rw [beq_dec]; exact hq)
  · exact P.ne_str (by rw [bne_dec]; exact hq)
  · exact P.lt_str hq
  · exact P.gt_str hq
  · exact P.in_str (by rw [has_occ]; exact hq)
  · exact P.notIn_str (by rw [has_occ]; exact hq)
theorem cmpIx_ok {g : Frz} {s : Shared} {op : CmpOp} {a b : Value} {x y : PyData} {c : Bool} {A : Around} {Q : Value → Shared → Prop} {E : Value → Shared → Prop} (ra : DR g s.heap a x) (rb : DR g s.heap b y) (e : ((intD x).bind fun i => (intD y).bind fun j => cmpI op i j) = some c) (hq : Q (.bool c) s) :
    wpAny (model TP w) A (compareOp op a b) Q E s := by
  obtain ⟨i, h1, e⟩ := bnd e
  obtain ⟨j, h2, e⟩ := bnd e
  apply intK (u := a) h1 ra
  intro _
  apply intK (u := b) h2 rb
  exact fun _ => cmpI_ok e hq
theorem cmpSx_ok {g : Frz} {s : Shared} {op : CmpOp} {a b : Value} {x y : PyData} {c : Bool} {A : Around} {Q : Value → Shared → Prop} {E : Value → Shared → Prop} (ra : DR g s.heap a x) (rb : DR g s.heap b y) (e : ((strD x).bind fun i => (strD y).bind fun j => cmpS op i j) = some c) (hq : Q (.bool c) s) :
    wpAny (model TP w) A (compareOp op a b) Q E s := by
  obtain ⟨i, h1, e⟩ := bnd e
  obtain ⟨j, h2, e⟩ := bnd e
  apply strK (u := a) h1 ra
  intro _
  apply strK (u := b) h2 rb
  exact fun _ => cmpS_ok e hq
theorem map_bind {α β : Type} {x : Option α} {f : α → β} {c : β} (h : x.map f = some c) : (x.bind fun a => some (f a)) = some c := by
  cases x <;> exact h
theorem ltL_ok {g : Frz} {s : Shared} {a b : Value} {xs : List PyData} {y : PyData} {c : Bool} {A : Around} {Q : Value → Shared → Prop} {E : Value → Shared → Prop} (hu : A.units + 64 < cLine) (k : Sub g s.heap) (ra : DR g s.heap a (.list xs)) (rb : DR g s.heap b y) (e : ltD y (.list xs) = some c) (hq : Q (.bool c) s) :
    wpAny (model TP w) A (compareOp .Lt a b) Q E s := by
  obtain ⟨ys, h1, e⟩ := bnd e
  obtain rfl := lstD_of h1
  obtain ⟨ns, p, e⟩ := bnd e
  obtain ⟨ms, q, rfl⟩ := mpd e
  obtain ⟨a1, vs, rfl, l1, r1⟩ := ra.list k
  obtain ⟨a2, us, rfl, l2, r2⟩ := rb.list k
  exact lt_lists l1 l2 (allInts_are r1 p) (allInts_are r2 q) (by omega) hq
theorem cmpD_ok {g : Frz} {s : Shared} {op : CmpOp} {a b : Value} {x y : PyData} {c : Bool} {A : Around} {Q : Value → Shared → Prop} {E : Value → Shared → Prop} (hu : A.units + 64 < cLine) (k : Sub g s.heap) (ra : DR g s.heap a x) (rb : DR g s.heap b y) (e : cmpD op x y = some c) (hq : Q (.bool c) s) :
    wpAny (model TP w) A (compareOp op a b) Q E s := by
  cases op <;> first | exact nsome e | skip
  case Eq => cases x <;> first | exact nsome e | exact cmpIx_ok ra rb (map_bind e) hq | exact cmpSx_ok ra rb (map_bind e) hq
  case NotEq => cases x <;> first | exact nsome e | exact neS_ok hu k ra rb e hq | exact cmpIx_ok ra rb (map_bind e) hq | exact cmpSx_ok ra rb (map_bind e) hq
  case Lt => cases x <;> first | exact nsome e | exact cmpIx_ok ra rb (map_bind e) hq | exact cmpSx_ok ra rb (map_bind e) hq | exact ltL_ok hu k ra rb e hq
  case Gt => cases x <;> first | exact nsome e | exact cmpIx_ok ra rb (map_bind e) hq | exact cmpSx_ok ra rb (map_bind e) hq
  case GtE =>
    obtain ⟨i, h1, e⟩ := bnd e
    exact cmpIx_ok ra rb (by rw [h1]; exact map_bind e) hq
  case In =>
    obtain ⟨i, h1, e⟩ := bnd e
    exact cmpSx_ok ra rb (by rw [h1]; exact map_bind e) hq
  case NotIn =>
    obtain ⟨i, h1, e⟩ := bnd e
    exact cmpSx_ok ra rb (by rw [h1]; exact map_bind e) hq
  case Is =>
    obtain ⟨i, h1, e⟩ := bnd e
    obtain ⟨j, h2, e⟩ := bnd e
    obtain ⟨rfl, h⟩ := ifp_of e
    obtain rfl := sinj h
    obtain rfl := boolK h1 ra
    obtain rfl := boolK h2 rb
    exact is_bool (by simpa using hq)

theorem cmpV_ok {g : Frz} {ρ : Locs} {st : St} {s : Shared} {op : CmpOp} {a b : Value} {x y : PV} {c : Bool} {A : Around} {Q : Value → Shared → Prop} {E : Value → Shared → Prop} (hu : A.units + 64 < cLine) (I : Inv h₀ g ρ st s.heap) (ra : Rp g ρ a x) (rb : Rp g ρ b y) (e : cmpV op x y st = some c) (hq : Q (.bool c) s) :
    wpAny (model TP w) A (compareOp op a b) Q E s := by
  obtain ⟨x', p, e⟩ := bnd e
  obtain ⟨y', q, e⟩ := bnd e
  exact cmpD_ok hu I.sub (asD_ok I ra p) (asD_ok I rb q) e hq

theorem truthy_ok {g : Frz} {ρ : Locs} {st : St} {s : Shared} {a : Value} {x : PV} {y : PyData} {c : Bool} {A : Around} {Q : Bool → Shared → Prop} {E : Value → Shared → Prop} (I : Inv h₀ g ρ st s.heap) (ra : Rp g ρ a x) (e1 : asD st x = some y) (e : truthyD y = some c)
    (hq : ∀ tk, Q c { s with toks := tk }) : wpAny (model TP w) A (truthy a) Q E s := by
  have d := asD_ok I ra e1
  cases y <;> first | exact nsome e | skip
  · obtain rfl := sinj e
    obtain rfl := rdI (drR rfl d)
    exact wpAny_truthy_bool (hq _)
  · rename_i z
    obtain ⟨e1, rfl⟩ := of_chk e
    obtain ⟨t, rfl⟩ := rdI (drR rfl d)
    refine P.truthy_str ?_ ?_
    · rw [sl_len] at e1; unfold lim at e1; omega
    · have : ((z.length : Int) != 0) = !(sl z).isEmpty := by
        rw [← sl_len]
        cases sl z with
        | nil => rfl
        | cons a r => simp; omega
      rw [this]; exact hq _
  · obtain ⟨e1, rfl⟩ := of_chk e
    obtain ⟨a1, vs, rfl, l1, r1⟩ := d.list I.sub
    refine wpAny_truthy_list l1 ?_ ?_
    · rw [← r1.length] at e1; unfold lim at e1; show ((vs.length : Nat) : Int) < _; omega
    · rename_i xs _
      have : (!(⟨vs⟩ : Array Value).isEmpty) = !xs.isEmpty := by
        cases r1 <;> rfl
      rw [this]; exact hq _
end
end Mine
end
section
namespace Mine
open PySem PySem.W PyProof.Rows

/-! Parts of sequences. -/

theorem take_min {α : Type} (l : List α) (b : Nat) : l.take (min b l.length) = l.take b := by
  rcases Nat.le_total b l.length with h | h
  · rw [Nat.min_eq_left h]
  · rw [Nat.min_eq_right h, List.take_of_length_le (Nat.le_refl _), List.take_of_length_le h]
theorem drop_min {α : Type} (l t : List α) (a : Nat) (h : t.length ≤ l.length) : t.drop (min a l.length) = t.drop a := by
  rcases Nat.le_total a l.length with q | q
  · rw [Nat.min_eq_left q]
  · rw [Nat.min_eq_right q, List.drop_eq_nil_of_le h, List.drop_eq_nil_of_le (Nat.le_trans h q)]
theorem lo_min {a : Int} {n : Nat} (h : 0 ≤ a) : kms_lo (some a) n = min a.toNat n := if_neg (Int.not_lt.mpr h)
theorem hi_min {a : Int} {n : Nat} (h : 0 ≤ a) : kms_hi (some a) n = min a.toNat n := if_neg (Int.not_lt.mpr h)
theorem cut_kms {α : Type} (l : List α) (lo hi : Option Int) (ys : List α) (e : cut l lo hi = some ys) : (l.drop (kms_lo lo l.length)).take (kms_hi hi l.length - kms_lo lo l.length) = ys := by
  rw [← List.drop_take]
  cases lo with
  | none => cases hi with
    | none => obtain rfl := sinj e; exact List.take_of_length_le (Nat.le_refl _)
    | some b =>
      obtain ⟨q, h⟩ := ifp_of e
      obtain rfl := sinj h
      rw [hi_min q.1]
      exact take_min l _
  | some a => cases hi with
    | none =>
      obtain ⟨q, h⟩ := ifp_of e
      obtain rfl := sinj h
      rw [lo_min q.1]
      exact (congrArg _ (List.take_of_length_le (Nat.le_refl _))).trans (drop_min l l _ (Nat.le_refl _))
    | some b =>
      obtain ⟨⟨q1, q2, q3⟩, h⟩ := ifp_of e
      obtain rfl := sinj h
      rw [lo_min q1, hi_min q2, take_min]
      exact drop_min l _ _ (List.length_take_le' _ _)
theorem cut_pick {α : Type} (xs : Array α) (lo hi : Option Int) (ys : List α) (e : cut xs.toList lo hi = some ys) :
    (sliceRange (sliceBounds lo hi none xs.size).1 (sliceBounds lo hi none xs.size).2.1 (sliceBounds lo hi none xs.size).2.2).filterMap (xs[·]?) = ys := by
  rw [kms_bounds]
  dsimp only
  rw [sliceRange_one, pick_run]
  exact cut_kms xs.toList lo hi ys e
theorem cut_list (vs : List Value) (lo hi : Option Int) (ys : List Value) (e : cut vs lo hi = some ys) : slicePick ⟨vs⟩ lo hi none = ⟨ys⟩ := by
  unfold slicePick
  rw [cut_pick ⟨vs⟩ lo hi ys e]

theorem RdL.cut {g : Frz} {vs : List Value} {xs ys : List PyData} (r : RdL g vs xs) (lo hi : Option Int) (e : cut xs lo hi = some ys) : ∃ us, Mine.cut vs lo hi = some us ∧ RdL g us ys := by
  cases lo with
  | none => cases hi with
    | none => obtain rfl := sinj e; exact ⟨_, rfl, r⟩
    | some b => obtain ⟨q, h⟩ := ifp_of e; obtain rfl := sinj h; exact ⟨_, if_pos q, r.take _⟩
  | some a => cases hi with
    | none => obtain ⟨q, h⟩ := ifp_of e; obtain rfl := sinj h; exact ⟨_, if_pos q, r.drop _⟩
    | some b => obtain ⟨q, h⟩ := ifp_of e; obtain rfl := sinj h; exact ⟨_, if_pos q, (r.take _).drop _⟩
theorem cut_len {α : Type} {xs ys : List α} {lo hi : Option Int} (e : cut xs lo hi = some ys) : ys.length ≤ xs.length := by
  rw [← cut_kms xs lo hi ys e]
  exact Nat.le_trans (List.length_take_le' _ _) (by rw [List.length_drop]; exact Nat.sub_le _ _)

section
variable {prog : Program} {w : World} {A : Around} {E : Value → Shared → Prop} {s : Shared}

theorem adjust_upto (b n : Nat) (hb : b ≤ n) : Builtin.Slice.sliceAdjust none (some (b : Int)) 1 (n : Int) = (0, (b : Int)) := by
  unfold Builtin.Slice.sliceAdjust
  have h1 : ¬ ((1 : Int) < 0) := by omega
  have h2 : ¬ ((b : Int) < 0) := by omega
  simp only [h1, h2, if_false]
  congr 1
  omega
theorem places_upto (b : Nat) : Builtin.Slice.slicePlaces 0 (b : Int) 1 = b := by
  unfold Builtin.Slice.slicePlaces
  have h1 : (1 : Int) > 0 := by omega
  simp only [h1, if_true, Int.ediv_one]
  split <;> omega
theorem sliceApplied_upto {sl : Addr} {b n : Nat} {u : Tok} {Q : Int × Int × Nat → Shared → Prop} (hs : s.heap.IsSliceOf sl .none (.int b u) .none) (hb : b ≤ n) (h : Q (0, 1, b) s) :
    wpAny (model prog w) A (Builtin.Slice.sliceApplied (.ref sl) (pure (n : Int))) Q E s := by
  obtain ⟨os, hos, hcs, hds⟩ := id hs
  unfold Builtin.Slice.sliceApplied Builtin.Slice.sliceFields
  refine wpAny_bind (wpAny_bind (wpAny_field hos hds (x := .none) rfl (wpAny_bind (wpAny_field hos hds (x := .int b u) rfl (wpAny_bind (wpAny_field hos hds (x := .none) rfl (wpAny_pure ?_)))))))
  refine wpAny_bind (slicePart_none ?_)
  show wpAny _ _ (if ((1 : Int) == 0) = true then _ else _) _ _ s
  rw [if_neg (by decide)]
  refine wpAny_bind (slicePart_none (wpAny_bind (slicePart_int (wpAny_bind (wpAny_pure ?_)))))
  show wpAny _ _ (match Builtin.Slice.sliceAdjust none (some (b : Int)) 1 (n : Int) with | (lo, hi) => pure (lo, (1 : Int), Builtin.Slice.slicePlaces lo hi 1)) _ _ s
  rw [adjust_upto b n hb]
  show wpAny _ _ (pure ((0 : Int), (1 : Int), Builtin.Slice.slicePlaces 0 (b : Int) 1)) _ _ s
  rw [places_upto b]
  exact wpAny_pure h
theorem pick_upto (xs : Array Value) (b : Nat) : ((List.range b).filterMap fun (k : Nat) => xs[((0 : Int) + (k : Int) * 1).toNat]?).toArray = (xs.toList.take b).toArray := by
  have e : (fun (k : Nat) => xs[((0 : Int) + (k : Int) * 1).toNat]?) = fun k => xs[0 + k]? := by
    funext k
    have : ((0 : Int) + (k : Int) * 1).toNat = 0 + k := by omega
    rw [this]
  rw [e]
  have := pick_run xs 0 b
  rw [List.filterMap_map] at this
  have e2 : ((fun x => xs[x]?) ∘ fun x => 0 + x) = fun k => xs[0 + k]? := rfl
  rw [e2] at this
  rw [this, List.drop_zero]

theorem getItem_tuple_upto {t sl : Addr} {items : Array Value} {b : Nat} {u : Tok} {Q : Value → Shared → Prop} (ht : IsTup s.heap t items) (hs : s.heap.IsSliceOf sl .none (.int b u) .none) (hb : b < items.size)
    (h : Q (.ref s.heap.objs.size) { s with heap := s.heap.push { cls := .type "tuple", data := .seq (items.toList.take b).toArray } })
    (hsz : items.size ≤ sizeLine) : wpAny (model prog w) A (getItem (.ref t) (.ref sl)) Q E s := by
  have hdrop : sizeOk (.seq (items.toList.take b).toArray) := by
    show (items.toList.take b).toArray.size ≤ sizeLine
    rw [List.size_toArray, List.length_take, Array.length_toList]
    omega
  obtain ⟨os, hos, hcs, hds⟩ := id hs
  have hTs : s.TypeIs (.ref sl) "slice" := ⟨os, hos, hcs⟩
  unfold getItem
  try with_reducible refine wpAny_holding ?_
  first | refine wpAny_bind (wpAny_pure ?_) | skip
  refine wpAny_bind (wpAny_sequenceKey ht.typeIs (by decide) ?_)
  refine wpAny_bind (wpAny_callSpecial?_slot (name := Str.ofString "__getitem__") ht.typeIs slot_tuple_getitem
    (wpAny_call_entry slot_tuple_getitem ht.typeIs entry_tuple_getitem ?_ (args_tuple_getitem _ _)))
  show wpAny _ _ (Builtin.Tuple.tupleItemsOf (.ref t) >>= _) _ _ s
  refine wpAny_bind (tupleItemsOf_ ht ?_)
  refine wpAny_bind (wpAny_typeOf hTs ?_)
  rw [if_pos (by decide)]
  refine wpAny_bind (sliceApplied_upto hs (Nat.le_of_lt hb) ?_)
  have hno : ¬ (((0 : Int) == 0 && (1 : Int) == 1 && b == items.size) = true) := by
    have : (b == items.size) = false := by rw [beq_eq_false_iff_ne]; omega
    rw [this]; simp
  show wpAny _ _ (if ((0 : Int) == 0 && (1 : Int) == 1 && b == items.size) = true then _ else _) _ _ s
  rw [if_neg hno, pick_upto items b]
  first
    | exact wpAny_bind (m := Builtin.Tuple.tupleExact _) (wpAny_newObj_type (wpAny_pure ⟨_, rfl, wpAny_pure h⟩) hdrop)
    | exact wpAny_bind (m := Builtin.Tuple.tupleExact _) (wpAny_newObj_type (wpAny_bind (wpAny_pure (wpAny_pure ⟨_, rfl, wpAny_pure h⟩))) hdrop)
    | exact wpAny_bind (wpAny_bind (m := Builtin.Tuple.tupleExact _) (wpAny_newObj_type (wpAny_pure (wpAny_pure ⟨_, rfl, wpAny_pure h⟩)) hdrop))
    | exact wpAny_bind (wpAny_bind (m := Builtin.Tuple.tupleExact _) (wpAny_newObj_type (wpAny_pure ⟨_, rfl, wpAny_pure h⟩) hdrop))

theorem subscripted_any {slice : Expr} {o i : Value} {Q : Value → Shared → Prop} (h : wpAny (model prog w) A (getItem o i) Q E s) : wpAny (model prog w) A (subscripted slice false o i) Q E s := by
  have e : subscripted slice false o i = operate [o, i] (getItem o i) ∨ subscripted slice false o i = operate [i, o] (getItem o i) := by
    unfold subscripted
    cases slice <;> first | exact .inl rfl | skip
    rename_i c d
    cases c <;> first | exact .inl rfl | exact .inr rfl
  rcases e with e | e
  · rw [e]; exact wpAny_operating h
  · rw [e]; exact wpAny_operating h

theorem subscriptTail_any {value slice : Expr} {o i : Value} {T id : String} {Q : Value → Shared → Prop} (hT : s.TypeIs o T)
    (hl : typeLookup (.type T) "__getitem__" = pure (some (.builtin id))) (h : wpAny (model prog w) A (getItem o i) Q E s) :
    wpAny (model prog w) A (subscriptTail value slice o i) Q E s := by
  unfold subscriptTail
  refine wpAny_bind ?_
  rw [getitemInPython_of_ne hT.not_modules]
  refine wpAny_bind (wpAny_specialOf hT hl ?_)
  have fin : wpAny (model prog w) A (subscripted slice false o i) (fun r s₃ => wpAny (model prog w) A (letTemporaryGo value o r >>= fun _ => pure r) Q E s₃) E s :=
    subscripted_any (wpAny_mono h (fun r s₃ h₃ => wpAny_bind (wpAny_letTemporaryGo (wpAny_pure h₃))) fun _ _ x => x)
  first
    | exact wpAny_pure (wpAny_bind fin)
    | exact wpAny_bind (wpAny_pure (wpAny_bind fin))
    | exact wpAny_bind fin
end

section
variable {w : World} {K : Frag} {h₀ : Heap} {mg mb : Str → Option Value}

theorem seqIndex_pos {i : Int} {n : Nat} (h0 : 0 ≤ i) (h : i.toNat < n) : seqIndex? i n = some i.toNat := by
  unfold seqIndex?
  have : ¬ i < 0 := by omega
  simp only [this, if_false]
  rw [if_pos (by simp; omega)]

theorem idx_ok {g : Frz} {ρ : Locs} {st : St} {s : Shared} {a : Value} {v : PV} {x z : PyData} {k : Int} {t : Tok} {value slice : Expr} {A : Around} (I : Inv h₀ g ρ st s.heap) (ra : Rp g ρ a v) (e1 : asD st v = some x) (e : idx x k = some z) :
    wpAny (model TP w) A (subscriptTail value slice a (.int k t)) (EA h₀ g ρ s st (.d z)) Fls s := by
  have d := asD_ok I ra e1
  cases x <;> first | exact nsome e | skip
  · rename_i y
    obtain ⟨q, e⟩ := ifp_of e
    obtain ⟨t, rfl⟩ := rdI (drR rfl d)
    obtain ⟨c, hc, rfl⟩ := mpd e
    have hlt := (List.getElem?_eq_some_iff.mp hc).1
    refine subscriptTail_any (typeIs_str _ _ _) F.slot_str_getitem.lookup (P.getItem_str (by rw [decide_eq_false (Int.not_lt.mpr (Int.le_trans (by decide) q.1)), decide_eq_false (Int.not_le.mpr (Int.lt_of_le_of_lt q.2 (by decide)))]; rfl) (c := c) ?_ (EA.now I (Rp.str ..)))
    rw [seqIndex_pos q.1 (by rw [← sl_len]; exact hlt)]
    simpa using hc
  · obtain ⟨a1, vs, rfl, l1, r1⟩ := d.list I.sub
    refine subscriptTail_any l1.typeIs slot_list_getitem.lookup ?_
    replace e := ite_of e
    cases e with
    | t q e =>
      obtain ⟨u, hu, ru⟩ := r1.get _ _ e
      exact wpAny_getItem_list l1 q.1 (Int.lt_of_le_of_lt q.2 (by decide)) (by simpa using hu) (EA.now0 I (.d ru))
    | f q e =>
      replace e := ifp_of e
      obtain ⟨⟨rfl, q2, q3⟩, e⟩ := e
      obtain ⟨u, hu, ru⟩ := r1.get _ _ e
      have hl := r1.length
      have hp : 0 < vs.length := by rw [hl]; exact List.length_pos_iff.mpr q3
      have hlim : vs.length ≤ 100000 := by rw [hl]; exact q2
      clear q e d e1 ra
      refine wpAny_getItem_list_neg l1 (by decide) ?_ (by decide) ?_ (EA.now0 I (.d ru))
      · show -((vs.length : Nat) : Int) ≤ -1; omega
      · have e3 : (-1 + ((⟨vs⟩ : Array Value).size : Int)).toNat = vs.length - 1 := (congrArg Int.toNat (Int.add_comm (-1) (vs.length : Int))).trans (Int.toNat_sub vs.length 1)
        rw [e3]; rw [← hl] at hu; simpa using hu
  · obtain ⟨q, e⟩ := ifp_of e
    obtain ⟨a1, vs, n, rfl, e2, r1⟩ := rdI (drR rfl d)
    obtain ⟨u, hu, ru⟩ := r1.get _ _ e
    have ht : IsTup s.heap _ ⟨_⟩ := ⟨_, I.sub _ _ e2, rfl, _, rfl⟩
    have hlt := (List.getElem?_eq_some_iff.mp hu).1
    exact subscriptTail_any ht.typeIs slot_tuple_getitem.lookup (PyProof.Rows.getItem_tuple ht (Int.le_trans (by decide) q.1) (Int.lt_of_le_of_lt q.2 (by decide)) (seqIndex_pos q.1 hlt) (by simpa using hu) (EA.now0 I (.d ru)))

theorem IsSlice_of {h : Heap} {vl vu : Value} {l u : Option (Int × Tok)} (el : vl = partValue l) (eu : vu = partValue u) : (h.push ({ cls := .type "slice", data := .fields #[vl, vu, .none] } : Obj)).IsSlice h.objs.size l u none :=
  ⟨_, PySem.Heap.get?_push_size _ rfl, rfl, by rw [el, eu]; rfl⟩

/-- a part's value -/
inductive Part : Value → Option Int → Prop where
  | none : Part .none none
  | int (i : Int) (t : Tok) : Part (.int i t) (some i)
theorem Part.is {v : Value} {o : Option Int} (p : Part v o) : IsPart v o := by cases p <;> constructor
theorem Part.val {v : Value} {o : Option Int} (p : Part v o) : ∃ l : Option (Int × Tok), v = partValue l ∧ l.map (·.1) = o := by
  cases p with
  | none => exact ⟨Option.none, rfl, rfl⟩
  | int i t => exact ⟨some (i, t), rfl, rfl⟩

theorem whole_of {y : Str} {lo hi : Option Int} {l : List Nat} (p : (sliceRange (kms_lo lo y.cps.size : Nat) (kms_hi hi y.cps.size : Nat) 1).filterMap (y.cps[·]?) = l) (c : ((sliceRange (kms_lo lo y.cps.size : Nat) (kms_hi hi y.cps.size : Nat) 1).length == y.length) = true) : mkS l = y := by
  have hh : kms_hi hi y.cps.size ≤ y.cps.size := by
    unfold kms_hi; split
    · exact Nat.le_refl _
    · split <;> omega
  rw [sliceRange_one] at p c
  rw [pick_run] at p
  have hl2 : kms_hi hi y.cps.size - kms_lo lo y.cps.size = y.cps.size := by
    rw [List.length_map, List.length_range] at c
    exact beq_iff_eq.mp c
  rw [hl2] at p
  have : l = y.cps.toList := by
    rw [← p]
    rcases Nat.eq_zero_or_pos y.cps.size with z | z
    · have : y.cps.toList = [] := List.eq_nil_of_length_eq_zero (by simpa using z)
      rw [this]; simp
    · have : kms_lo lo y.cps.size = 0 := by omega
      rw [this, List.drop_zero, List.take_of_length_le (by simp)]
  rw [this]
theorem slc_ok {g : Frz} {ρ : Locs} {st : St} {s : Shared} {a vl vu : Value} {x z : PyData} {lo hi : Option Int} {value slice : Expr} {A : Around} (I : Inv h₀ g ρ st s.heap) (ra : Rd g a x) (pl : Part vl lo) (pu : Part vu hi) (e : slc x lo hi = some z) :
    wpAny (model TP w) A (subscriptTail value slice a (.ref s.heap.objs.size)) (EA h₀ g ρ s st (.d z)) Fls { s with heap := s.heap.push { cls := .type "slice", data := .fields #[vl, vu, .none] } } := by
  have I' : Inv h₀ g ρ st (s.heap.push ({ cls := .type "slice", data := .fields #[vl, vu, .none] } : Obj)) := I.alloc _
  have X' : Ext noX g ρ s.heap g ρ (s.heap.push ({ cls := .type "slice", data := .fields #[vl, vu, .none] } : Obj)) := Ext.alloc _
  cases x <;> first | exact nsome e | skip
  · rename_i y
    obtain ⟨q, e⟩ := ifp_of e
    obtain ⟨l, e1, rfl⟩ := mpd e
    obtain ⟨t, rfl⟩ := rdI ra
    obtain ⟨l', el, ml⟩ := pl.val
    obtain ⟨u', eu, mu⟩ := pu.val
    refine subscriptTail_any (typeIs_str _ _ _) F.slot_str_getitem.lookup (wpAny_getItem_str_slice (IsSlice_of el eu) rfl ?_)
    have e5 : slicePicked y l' u' none = sliceRange (sliceBounds lo hi none y.cps.size).1 (sliceBounds lo hi none y.cps.size).2.1 (sliceBounds lo hi none y.cps.size).2.2 := by
      unfold slicePicked
      rw [ml, mu]
      first | done | rfl
    have pk := cut_pick y.cps lo hi l e1
    rw [← e5] at pk
    unfold sliceMade
    split
    · rename_i c
      have : mkS l = y := by
        rw [e5, kms_bounds] at pk c
        exact whole_of pk (Bool.and_eq_true_iff.mp c).2
      rw [this]
      exact (EA.now (tk := s.toks) I' (Rp.str ..)).thenExt X'
    · rw [pk]
      exact ⟨Nat.le_trans (cut_len e1) (lim_size q), (EA.now (tk := s.toks + 1) I' (Rp.str ..)).thenExt X'⟩
  · obtain ⟨q, e⟩ := ifp_of e
    obtain ⟨ys, e1, rfl⟩ := mpd e
    obtain ⟨b, o, vs, n, rfl, h1, h2, h3, r1⟩ := rdI ra
    have l1 : s.heap.IsList b ⟨vs⟩ := ⟨_, I.sub _ _ h1, h2, _, h3⟩
    obtain ⟨us, c1, r2⟩ := r1.cut _ _ e1
    refine subscriptTail_any (l1.push _).typeIs slot_list_getitem.lookup (wpAny_getItem_list_slice (l1.push _) (Heap.IsSliceOf.new ..) pl.is pu.is .none (fun q => nomatch q) ?_ ?_)
    · rw [cut_list vs _ _ us c1]
      exact EA.newList (tk := s.toks) I' X' r2 rfl
    · show vs.length ≤ sizeLine; rw [r1.length]; exact lim_size q
  · obtain ⟨q0, e⟩ := ifs_of e
    obtain ⟨b, rfl, e⟩ := bnd e
    obtain ⟨q, h⟩ := ifp_of e
    obtain rfl := sinj h
    obtain ⟨c, vs, n, rfl, e2, r1⟩ := rdI ra
    obtain rfl := non_of q0
    cases pl
    cases pu with
    | int _ u =>
      have ht : IsTup (s.heap.push ({ cls := .type "slice", data := .fields #[.none, .int b u, .none] } : Obj)) c ⟨vs⟩ := ⟨_, PySem.Heap.get?_push_of_some _ (I.sub _ _ e2), rfl, _, rfl⟩
      have hl := r1.length
      obtain ⟨k, rfl⟩ := Int.eq_ofNat_of_zero_le q.1
      refine subscriptTail_any ht.typeIs slot_tuple_getitem.lookup (getItem_tuple_upto ht (Heap.IsSliceOf.new ..) ?_ ?_ ?_)
      · show k < vs.length; rw [hl]; exact q.2.1
      · exact EA.newTuple (tk := s.toks) I' X' (r1.take _) rfl
      · show vs.length ≤ sizeLine; rw [hl]; exact lim_size q.2.2
end
end Mine
end
section
namespace Mine
open PySem PySem.W PyProof.Rows PySem.Builtin PySem.Builtin.Str

section
variable {w : World} {K : Frag} {h₀ : Heap} {mg mb : Str → Option Value}

/-- an object that stands is frozen -/
theorem Inv.freeze {g : Frz} {ρ : Locs} {st : St} {h : Heap} {D : Addr} {o : Obj} (I : Inv h₀ g ρ st h) (f : ¬ foot ρ D) (t : D ≠ tabP) (n : g D = none) (e : h.get? D = some o) : Inv h₀ (g.add D o) ρ st h := by
  have le : Le g (g.add D o) := Frz.le_add (.inl n)
  obtain ⟨ps, t1, t2, t3⟩ := I.tab
  refine ⟨fun a o' e => le _ _ (I.base a o' e), fun a o' q => ?_, I.len, fun r p mo hr hm => (I.mat r p mo hr hm).keeps le (.refl _) fun _ _ _ x => x, fun x fx => ?_, I.apart, ⟨ps, t1, t2, fun pos c e => ?_⟩, ?_, I.old⟩
  · by_cases q' : a = D
    · subst q'; rw [Frz.add_self] at q; cases q; exact e
    · rw [Frz.add_ne _ _ q'] at q; exact I.sub _ _ q
  · have : x ≠ D := by rintro rfl; exact f fx
    rw [Frz.add_ne _ _ this]; exact I.off x fx
  · obtain ⟨c', e1, e2⟩ := t3 pos c e
    exact ⟨c', e1, fun hh k => e2 hh (k.le le)⟩
  · rw [Frz.add_ne _ _ t.symm]; exact I.gtab
theorem Ext.freeze {X : Addr → Prop} {g g' : Frz} {ρ ρ' : Locs} {h h' : Heap} {D : Addr} {o : Obj} (x : Ext X g ρ h g' ρ' h') (n : h.get? D = none) (n' : g' D = none) : Ext X g ρ h (g'.add D o) ρ' h' :=
  ⟨x.le.trans (Frz.le_add (.inl n')), x.pre, x.keep, fun a o' e f t nx => ⟨(x.clean a o' e f t nx).1, by
    rw [Frz.add_ne _ _ (by rintro rfl; rw [n] at e; cases e)]; exact (x.clean a o' e f t nx).2⟩⟩
theorem none_of_ge {h : Heap} {D : Addr} (l : h.objs.size ≤ D) : h.get? D = none := by
  cases q : h.get? D with
  | none => rfl
  | some o => exact absurd (PySem.Heap.lt_size q) (Nat.not_lt.mpr l)

theorem EA.listAt {g : Frz} {ρ : Locs} {s : Shared} {st : St} {vs : List Value} {xs : List PyData} {h' : Heap} {tk : Nat} {D : Addr} {o : Obj} (I : Inv h₀ g ρ st s.heap) (k : ∀ a o, s.heap.get? a = some o → h'.get? a = some o) (hD : s.heap.objs.size ≤ D)
    (e : h'.get? D = some o) (c : o.cls = .type "list") (n : Nat) (d : o.data = .seq ⟨vs⟩ n) (r : RdL g vs xs) : EA h₀ g ρ s st (.d (.list xs)) (.ref D) { s with heap := h', toks := tk } := by
  obtain ⟨n1, n2, n3⟩ := I.new hD
  have I' := (I.grown k).freeze n1 n2 n3 e
  have X := (Ext.grown (X := noX) (g := g) (ρ := ρ) fun a o e _ => k a o e).freeze (o := o) (none_of_ge hD) n3
  exact ⟨_, _, _, _, rfl, X, I', .d (.list (Frz.add_self ..) c d (r.le X.le))⟩

theorem RdL.ints {g : Frz} : ∀ {vs : List Value} {ns : List Int}, IntsAre vs ns → RdL g vs (ns.map .int)
  | _, _, .nil => .nil
  | _, _, .cons n t r => .cons (.int n t) (RdL.ints r)
theorem allInts_eq : ∀ {xs : List PyData} {ns : List Int}, allInts xs = some ns → xs = ns.map .int
  | [], _, e => by (first | exact nsome e | (obtain ⟨rfl, rfl⟩ := pinj e; clear e) | (obtain ⟨rfl, rfl, rfl⟩ := pinj3 e; clear e) | (obtain rfl := sinj e; clear e) | cases e); rfl
  | .int i :: r, _, e => by
    simp only [allInts, Option.map_eq_some_iff] at e
    obtain ⟨l, e1, rfl⟩ := e
    rw [allInts_eq e1]; rfl
theorem ins_perm (a : Int) : ∀ l : List Int, (isort.ins a l).Perm (a :: l)
  | [] => List.Perm.refl _
  | b :: t => by
    unfold isort.ins
    split
    · exact List.Perm.refl _
    · exact ((ins_perm a t).cons b).trans (List.Perm.swap a b t)
theorem isort_perm : ∀ l : List Int, (isort l).Perm l
  | [] => List.Perm.refl _
  | a :: r => (ins_perm a _).trans ((isort_perm r).cons a)
theorem ins_sorted (a : Int) : ∀ l : List Int, l.Pairwise (· ≤ ·) → (isort.ins a l).Pairwise (· ≤ ·)
  | [], _ => List.pairwise_singleton _ _
  | b :: t, h => by
    unfold isort.ins
    rw [List.pairwise_cons] at h
    split
    · rename_i q
      refine List.pairwise_cons.mpr ⟨fun x hx => ?_, List.pairwise_cons.mpr h⟩
      rcases List.mem_cons.mp hx with rfl | hx
      · exact q
      · exact Int.le_trans q (h.1 x hx)
    · rename_i q
      refine List.pairwise_cons.mpr ⟨fun x hx => ?_, ins_sorted a t h.2⟩
      rcases List.mem_cons.mp ((ins_perm a t).mem_iff.mp hx) with rfl | hx
      · omega
      · exact h.1 x hx
theorem isort_sorted : ∀ l : List Int, (isort l).Pairwise (· ≤ ·)
  | [] => List.Pairwise.nil
  | a :: r => ins_sorted a _ (isort_sorted r)
theorem sorted_unique {l l' : List Int} (p : l.Perm l') (h : l.Pairwise (· ≤ ·)) (h' : l'.Pairwise (· ≤ ·)) : l = l' :=
  p.eq_of_pairwise (fun a b _ _ x y => Int.le_antisymm x y) h h'

theorem RdL.signs' {g : Frz} : ∀ {vs : List Value} {l : List Nat}, (∀ (j : Nat) (v : Value), vs[j]? = some v → ∃ (c : Nat) (u : Tok), l[j]? = some c ∧ v = Value.str (mkS [c]) u) → vs.length = l.length → RdL g vs (l.map fun c => PyData.str (mkS [c]))
  | [], [], _, _ => .nil
  | v :: vs, c :: l, h, e => by
    obtain ⟨c', u, e1, e2⟩ := h 0 v rfl
    simp at e1; subst e1; subst e2
    exact .cons (.str _ _) (RdL.signs' (fun j v hj => by have := h (j + 1) v (by simpa using hj); simpa using this) (by simpa using e))

inductive Rp1 (g : Frz) (ρ : Locs) (x : PV) : List Value → Prop
  | mk (u : Value) (r : Rp g ρ u x) : Rp1 g ρ x [u]
theorem rp1 {g : Frz} {ρ : Locs} {us : List Value} {args : List PV} {x : PV} (ra : RpL g ρ us args) (e : one1 args = some x) : Rp1 g ρ x us := by
  obtain rfl := one1_of e
  cases rpLC ra with
  | cons r1 rs => obtain rfl := rpLN rs; exact ⟨_, r1⟩
inductive Rp2 (g : Frz) (ρ : Locs) (x y : PV) : List Value → Prop
  | mk (u v : Value) (r : Rp g ρ u x) (q : Rp g ρ v y) : Rp2 g ρ x y [u, v]
theorem rp2 {g : Frz} {ρ : Locs} {us : List Value} {args : List PV} {x : PV × PV} (ra : RpL g ρ us args) (e : two2 args = some x) : Rp2 g ρ x.1 x.2 us := by
  obtain rfl := two2_of e
  cases rpLC ra with
  | cons r1 rs => cases rpLC rs with
    | cons r2 rs2 => obtain rfl := rpLN rs2; exact ⟨_, _, r1, r2⟩
theorem intR {g : Frz} {ρ : Locs} {u : Value} {x : PV} {i : Int} (e : intV x = some i) (r : Rp g ρ u x) : IntI u i := by
  obtain rfl := intV_of e
  exact rdI (rpD' r)
theorem strR {g : Frz} {ρ : Locs} {u : Value} {x : PV} {i : Str} (e : strV x = some i) (r : Rp g ρ u x) : StrI u i := by
  obtain rfl := strV_of e
  exact rdI (rpD' r)
inductive LsR (g : Frz) (xs : List PyData) : Value → Prop
  | mk (a : Addr) (o : Obj) (vs : List Value) (n : Nat) (h1 : g a = some o) (h2 : o.cls = .type "list") (h3 : o.data = .seq ⟨vs⟩ n) (r : RdL g vs xs) : LsR g xs (.ref a)
theorem lstR {g : Frz} {ρ : Locs} {u : Value} {x : PV} {xs : List PyData} (e : lstV x = some xs) (r : Rp g ρ u x) : LsR g xs u := by
  obtain rfl := lstV_of e
  obtain ⟨a, o, vs, n, rfl, h1, h2, h3, r1⟩ := rdI (rpD' r)
  exact ⟨a, o, vs, n, h1, h2, h3, r1⟩

theorem len_ok {g : Frz} {ρ : Locs} {st st' : St} {s : Shared} {us : List Value} {args : List PV} {v : PV} {A : Around} (I : Inv h₀ g ρ st s.heap) (ra : RpL g ρ us args) (e : ((one1 args).bind fun v => (asD st v).bind fun x => (lenD x).bind fun n => chk n (PV.d (.int n), st)) = some (v, st')) :
    wpAny (model TP w) A (call (.builtin "len") us) (EA h₀ g ρ s st' v) Fls s := by
  obtain ⟨x, h1, e⟩ := bnd e
  cases rp1 ra h1 with
  | mk u r =>
    obtain ⟨y, h2, e⟩ := bnd e
    obtain ⟨n, h3, e⟩ := bnd e
    obtain ⟨e1, e2⟩ := of_chk e
    obtain ⟨rfl, rfl⟩ := Prod.mk.inj e2
    have d := asD_ok I r h2
    clear e ra h1 h2 e2 r
    unfold lim at e1
    cases y <;> first | exact nsome h3 | obtain rfl := sinj h3
    · obtain ⟨t, rfl⟩ := rdI (drR rfl d)
      refine P.len_str ?_ ?_
      · rw [sl_len] at e1; omega
      · rw [← sl_len]; exact EA.now I (Rp.int ..)
    · obtain ⟨a1, vs, rfl, l1, r1⟩ := d.list I.sub
      rw [← r1.length] at e1 ⊢
      exact Calls.call_len_list l1 (by show ((vs.length : Nat) : Int) < _; omega) (EA.now I (Rp.int ..))
    · obtain ⟨a1, vs, n, rfl, e2, r9⟩ := rdI (drR rfl d)
      rw [← r9.length] at e1 ⊢
      exact PyProof.Rows.len_tuple ⟨_, I.sub _ _ e2, rfl, _, rfl⟩ (by show ((vs.length : Nat) : Int) < _; omega) (EA.now I (Rp.int ..))
theorem sum_ok {g : Frz} {ρ : Locs} {st st' : St} {s : Shared} {us : List Value} {args : List PV} {v : PV} {A : Around} (hA : A.handled = none) (I : Inv h₀ g ρ st s.heap) (ra : RpL g ρ us args) (e : ((one1 args).bind fun v => (lstV v).bind fun xs => (allInts xs).bind fun l => if l.all (fun i => decide (-1000000000 ≤ i ∧ i ≤ 1000000000)) = true then chk l.length (PV.d (.int l.sum), st) else none) = some (v, st')) :
    wpAny (model TP w) A (call (.builtin "sum") us) (EA h₀ g ρ s st' v) Fls s := by
  obtain ⟨x, h1, e⟩ := bnd e
  cases rp1 ra h1 with
  | mk u r =>
    obtain ⟨xs, h2, e⟩ := bnd e
    obtain ⟨l, p, e⟩ := bnd e
    obtain ⟨q, e⟩ := ifs_of e
    obtain ⟨e1, e2⟩ := of_chk e
    obtain ⟨rfl, rfl⟩ := Prod.mk.inj e2
    cases lstR h2 r with
    | mk a o vs n g1 g2 g3 r1 =>
      have hi := allInts_are r1 p
      have hl : s.heap.IsList _ ⟨_⟩ := ⟨_, I.sub _ _ g1, g2, _, g3⟩
      clear e ra h1 h2 e2 r q e1 g3 g2 g1 r1
      obtain ⟨ys, hys⟩ := hi.allInts.items
      have hys' := hys
      rw [show (⟨_⟩ : Array Value) = _ from hys] at hl
      refine sum_intListG hA hl fun h' tk t' hk => ?_
      have : preSum (numAt ys) ys.size = l.sum := by
        rw [preSum_eq, List.take_of_length_le (by simp), ← nums_intItems, ← hys', ← hi.numsOf]
      rw [this]
      exact EA.grown I hk (Rp.int ..)
theorem sorted_ok {g : Frz} {ρ : Locs} {st st' : St} {s : Shared} {us : List Value} {args : List PV} {v : PV} {A : Around} (I : Inv h₀ g ρ st s.heap) (ra : RpL g ρ us args) (e : ((one1 args).bind fun v => (lstV v).bind fun xs => (allInts xs).bind fun l => if l.length < 64 then some (PV.d (.list ((isort l).map .int)), st) else none) = some (v, st')) :
    wpAny (model TP w) A (call (.builtin "sorted") us) (EA h₀ g ρ s st' v) Fls s := by
  obtain ⟨x, h1, e⟩ := bnd e
  cases rp1 ra h1 with
  | mk u r =>
    obtain ⟨xs, h2, e⟩ := bnd e
    obtain ⟨l, p, e⟩ := bnd e
    obtain ⟨q, e⟩ := ifp_of e
    obtain ⟨rfl, rfl⟩ := pinj e
    cases lstR h2 r with
    | mk a o vs n g1 g2 g3 r1 =>
      have hi := allInts_are r1 p
      refine sorted_ints ⟨_, I.sub _ _ g1, g2, _, g3⟩ hi (by rw [r1.length, allInts_eq p, List.length_map]; exact q) fun out ns' a1 a2 a3 => ?_
      obtain ⟨n, hn⟩ := sortedAll_at s.heap _ out
      obtain rfl : ns' = isort l := sorted_unique (a2.trans (isort_perm l).symm) a3 (isort_sorted l)
      exact EA.listAt (tk := s.toks) I (fun _ _ => sortedAll_old) (Nat.le_succ _) hn rfl n rfl (RdL.ints a1)
theorem EA.ite {g : Frz} {ρ : Locs} {s s' : Shared} {st : St} {c : Prop} [Decidable c] {a b : Int} {u v : Value} (h1 : EA h₀ g ρ s st (.d (.int a)) u s') (h2 : EA h₀ g ρ s st (.d (.int b)) v s') : EA h₀ g ρ s st (.d (.int (if c then a else b))) (if c then u else v) s' := by
  by_cases q : c
  · rw [if_pos q, if_pos q]; exact h1
  · rw [if_neg q, if_neg q]; exact h2
theorem bi_ok {g : Frz} {ρ : Locs} {st st' : St} {s : Shared} {id : String} {us : List Value} {args : List PV} {v : PV} {A : Around} (hA : A.handled = none) (I : Inv h₀ g ρ st s.heap) (hid : id ≠ "iter") (ra : RpL g ρ us args) (e : bi id args st = some (v, st')) :
    wpAny (model TP w) A (call (.builtin id) us) (EA h₀ g ρ s st' v) Fls s := by
  replace e := ite_of e
  cases e with
  | t q e => subst q; exact len_ok I ra e
  | f q e =>
    clear q
    replace e := ite_of e
    cases e with
    | t q e => subst q; exact sum_ok hA I ra e
    | f q e =>
      clear q
      replace e := ite_of e
      cases e with
      | t q e =>
        subst q
        obtain ⟨x, h1, e⟩ := bnd e
        cases rp2 ra h1 with
        | mk u u' r r' =>
          obtain ⟨a, h2, e⟩ := bnd e
          obtain ⟨b, h3, e⟩ := mpd e
          obtain ⟨rfl, rfl⟩ := Prod.mk.inj e
          obtain ⟨t, rfl⟩ := intR h2 r
          obtain ⟨t', rfl⟩ := intR h3 r'
          exact max_two_ints hA fun h' tk hk => EA.ite (EA.grown I hk (Rp.int ..)) (EA.grown I hk (Rp.int ..))
      | f q e =>
        clear q
        replace e := ite_of e
        cases e with
        | t q e =>
          subst q
          obtain ⟨x, h1, e⟩ := bnd e
          cases rp2 ra h1 with
          | mk u u' r r' =>
            obtain ⟨a, h2, e⟩ := bnd e
            obtain ⟨b, h3, e⟩ := mpd e
            obtain ⟨rfl, rfl⟩ := Prod.mk.inj e
            obtain ⟨t, rfl⟩ := intR h2 r
            obtain ⟨t', rfl⟩ := intR h3 r'
            exact min_two_ints hA fun h' tk hk => EA.ite (EA.grown I hk (Rp.int ..)) (EA.grown I hk (Rp.int ..))
        | f q e =>
          clear q
          replace e := ite_of e
          cases e with
          | t q e => subst q; exact sorted_ok I ra e
          | f q e => exact absurd (ifp_of e).1 hid

theorem tyC_ok {g : Frz} {ρ : Locs} {st st' : St} {s : Shared} {n : String} {us : List Value} {args : List PV} {v : PV} {A : Around} (hA : A.handled = none) (I : Inv h₀ g ρ st s.heap) (ra : RpL g ρ us args) (e : tyC n args st = some (v, st')) :
    wpAny (model TP w) A (call (.type n) us) (EA h₀ g ρ s st' v) Fls s := by
  replace e := ite_of e
  cases e with
  | t q e =>
    subst q
    obtain ⟨x, h1, e⟩ := bnd e
    cases rp1 ra h1 with
    | mk u r =>
      obtain ⟨k, h2, e⟩ := bnd e
      obtain ⟨q, e⟩ := ifp_of e
      obtain ⟨rfl, rfl⟩ := pinj e
      obtain ⟨t, rfl⟩ := intR h2 r
      clear h2 r e h1 ra
      obtain ⟨j, rfl⟩ := Int.eq_ofNat_of_zero_le q.1
      refine call_range_1 ?_
      obtain ⟨I', x'⟩ := I.push (o := ({ cls := .type "range", data := .fields #[.int 0 s.toks, .int (j : Int) t, .int 1 (s.toks + 1)] } : Obj)) rfl noX
      exact ⟨_, _, _, _, rfl, x', I', .rng (n := j) (Frz.add_self ..) rfl⟩
  | f q e =>
    replace e := ifp_of e
    obtain ⟨q, e⟩ := e
    subst q
    obtain ⟨x, h1, e⟩ := bnd e
    cases rp1 ra h1 with
    | mk u r =>
      obtain ⟨z, h2, e⟩ := bnd e
      obtain ⟨e1, e2⟩ := of_chk e
      obtain ⟨rfl, rfl⟩ := Prod.mk.inj e2
      obtain ⟨t, rfl⟩ := strR h2 r
      refine call_list_str hA _ _ (fun h' tk acc c hk hD hacc => ?_) (lim_size e1)
      refine EA.listAt I hk (Nat.le_refl _) hD rfl c rfl (RdL.signs' (fun j v hj => ?_) ?_)
      · obtain ⟨cc, u, a1, a2⟩ := hacc.2 j v (by simpa using hj)
        exact ⟨cc, u, by simpa using a1, a2⟩
      · simpa using hacc.1
end
end Mine
end
section
namespace Mine
open PySem PySem.W PyProof.Rows PySem.Builtin PySem.Builtin.Str

theorem gives_str_find_fromto (x y : Str) (i : Int) (t u v z : Tok) (h : 0 ≤ i) :
    Gives («str.find» ⟨[.str x t, .str y u, .int i v, .int (x.length : Int) z], []⟩) (.int (match occurrences x y i.toNat x.length 1 with | k :: _ => (k : Int) | [] => -1)) := by
  show Gives (match occurrences x y (max 0 (if i < 0 then i + x.length else i)).toNat (min (max 0 (if (x.length : Int) < 0 then (x.length : Int) + x.length else x.length)).toNat x.length) 1 with | k :: _ => retInt k | [] => (do rule "str.find.not-found"; retInt (-1))) _
  have e1 : (max 0 (if i < 0 then i + x.length else i)).toNat = i.toNat := by rw [if_neg (Int.not_lt.mpr h), Int.max_eq_right h]
  have e2 : min (max 0 (if (x.length : Int) < 0 then (x.length : Int) + x.length else x.length)).toNat x.length = x.length := by rw [if_neg (Int.not_lt.mpr (Int.natCast_nonneg _)), Int.max_eq_right (Int.natCast_nonneg _), Int.toNat_natCast, Nat.min_self]
  rw [e1, e2]
  cases occurrences x y i.toNat x.length 1 with
  | nil => exact .rule (.of_eq rfl)
  | cons k _ => exact .of_eq rfl

theorem findFrom_spec (p : List Nat) : ∀ (l : List Nat) (i : Nat),
    (findFrom p l i = none ∧ ∀ k, k ≤ l.length → ¬ (l.drop k).take p.length = p) ∨ (∃ k, findFrom p l i = some (i + k) ∧ k ≤ l.length ∧ (l.drop k).take p.length = p ∧ ∀ j, j < k → ¬ (l.drop j).take p.length = p)
  | [], i => by
    unfold findFrom
    by_cases q : p = []
    · subst q
      exact .inr ⟨0, by simp, Nat.le_refl _, by simp, fun j hj => absurd hj (Nat.not_lt_zero _)⟩
    · refine .inl ⟨by simp [q], fun k _ h => q ?_⟩
      simpa using h.symm
  | b :: t, i => by
    unfold findFrom
    by_cases q : starts p (b :: t) = true
    · rw [if_pos q]
      exact .inr ⟨0, rfl, Nat.zero_le _, (starts_iff _ _).mp q, fun j hj => absurd hj (Nat.not_lt_zero _)⟩
    · rw [if_neg q]
      have q' : ¬ ((b :: t).drop 0).take p.length = p := fun h => q ((starts_iff _ _).mpr h)
      rcases findFrom_spec p t (i + 1) with ⟨h1, h2⟩ | ⟨k, h1, h2, h3, h4⟩
      · refine .inl ⟨h1, fun k hk h => ?_⟩
        cases k with
        | zero => exact q' h
        | succ k => exact h2 k (by simpa using hk) h
      · refine .inr ⟨k + 1, by rw [h1]; congr 1; omega, by simpa using h2, h3, fun j hj h => ?_⟩
        cases j with
        | zero => exact q' h
        | succ j => exact h4 j (by omega) h

theorem at_iff (x y : Str) (i : Nat) : StrLaws.At x y x.length i ↔ (i ≤ x.length ∧ ((sl x).drop i).take (sl y).length = sl y) := by
  unfold StrLaws.At
  rw [StrLaws.subAt_eq, beq_iff_eq]
  constructor
  · rintro ⟨a, b⟩; exact ⟨by omega, b⟩
  · rintro ⟨a, b⟩
    refine ⟨?_, b⟩
    have e := congrArg List.length b
    rw [List.length_take, List.length_drop, sl_len, sl_len] at e
    omega

theorem find3_occ (x y : Str) (a : Nat) : (match occurrences x y a x.length 1 with | k :: _ => (k : Int) | [] => -1) = (if a ≤ x.length then find3 (sl x) (sl y) a else -1) := by
  rcases StrLaws.occ_head_from x y a 1 (Nat.le_refl 1) with ⟨h1, h2⟩ | ⟨i, r, h1, h2, h3, h4⟩
  · rw [h1]
    dsimp only
    by_cases q : a ≤ x.length
    · rw [if_pos q]
      unfold find3
      rcases findFrom_spec (sl y) ((sl x).drop a) a with ⟨g1, g2⟩ | ⟨k, g1, g2, g3, g4⟩
      · rw [g1]
      · exfalso
        rw [List.length_drop, sl_len] at g2
        rw [List.drop_drop] at g3
        exact h2 (a + k) (by omega) ((at_iff x y _).mpr ⟨by omega, g3⟩)
    · rw [if_neg q]
  · rw [h1]
    have h3' := (at_iff x y i).mp h3
    rw [if_pos (by omega)]
    unfold find3
    rcases findFrom_spec (sl y) ((sl x).drop a) a with ⟨g1, g2⟩ | ⟨k, g1, g2, g3, g4⟩
    · exfalso
      refine g2 (i - a) (by rw [List.length_drop, sl_len]; omega) ?_
      rw [List.drop_drop, show a + (i - a) = i by omega]
      exact h3'.2
    · rw [g1]
      rw [List.length_drop, sl_len] at g2
      rw [List.drop_drop] at g3
      have : i = a + k := by
        rcases Nat.lt_trichotomy i (a + k) with q | q | q
        · exfalso
          refine g4 (i - a) (by omega) ?_
          rw [List.drop_drop, show a + (i - a) = i by omega]
          exact h3'.2
        · exact q
        · exact absurd ((at_iff x y _).mpr ⟨by omega, g3⟩) (h4 (a + k) (by omega) q)
      rw [this]

theorem count_eq (x : Str) (c : Nat) : Txt.count x (mkS [c]) = ((sl x).count c : Nat) := by
  show Txt.count x ⟨#[c]⟩ = _
  rw [PyProof.Rows.count_is]
  show PyProof.Rows.cnt c (sl x) = _
  induction sl x with
  | nil => rfl
  | cons b t ih =>
    rw [PyProof.Rows.cnt_cons, ih, List.count_cons]
    by_cases q : b = c
    · subst q; simp; omega
    · have : (b == c) = false := by simpa using q
      simp [q, this]

section
variable {w : World} {K : Frag} {h₀ : Heap} {mg mb : Str → Option Value}

theorem strs_are {g : Frz} : ∀ {vs : List Value} {xs : List PyData} {l : List Str}, RdL g vs xs → allStrs xs = some l → ∃ m : List (Str × Tok), vs = strValues m ∧ m.map (·.1) = l
  | _, _, _, .nil, e => by (first | exact nsome e | (obtain ⟨rfl, rfl⟩ := pinj e; clear e) | (obtain ⟨rfl, rfl, rfl⟩ := pinj3 e; clear e) | (obtain rfl := sinj e; clear e) | cases e); exact ⟨[], rfl, rfl⟩
  | _, _, _, .cons (d := d) a r, e => by
    cases d with
    | str i =>
      replace a := rdS a; cases a with
      | str t =>
        simp only [allStrs, Option.map_eq_some_iff] at e
        obtain ⟨l, e1, rfl⟩ := e
        obtain ⟨m, rfl, rfl⟩ := strs_are r e1
        exact ⟨(i, t) :: m, rfl, rfl⟩
    | _ => (first | exact nsome e | (obtain ⟨rfl, rfl⟩ := pinj e; clear e) | (obtain ⟨rfl, rfl, rfl⟩ := pinj3 e; clear e) | (obtain rfl := sinj e; clear e) | cases e)
theorem RdL.strs {g : Frz} : ∀ (m : List (Str × Tok)), RdL g (strValues m) ((m.map (·.1)).map .str)
  | [] => .nil
  | (x, t) :: r => .cons (.str x t) (RdL.strs r)

theorem joinOk_of {sep : Str} {texts : List Str} (h : (texts.map (·.length)).sum + texts.length * sep.length ≤ lim) : JoinOk sep texts = true := by
  unfold JoinOk
  rw [StrLaws.joinTotal]
  have : tooLong ((texts.map (·.length)).sum + texts.length * sep.length) = false := by
    unfold tooLong
    apply decide_eq_false
    have := lim_size h
    omega
  rw [this]; rfl

theorem split_plain {prog : Program} {A : Around} {E : Value → Shared → Prop} {s : Shared} {x y : Str} {t u : Tok} {Q : Value → Shared → Prop} (hy : (y.length == 0) = false)
    (h : ∀ l tk, l.map (·.1) = Txt.split x y → Q (.ref s.heap.objs.size) { s with heap := s.heap.push { cls := .type "list", data := .seq ⟨strValues l⟩ }, toks := tk })
    (hsz : x.length + 2 ≤ sizeLine) :
    wpAny (model prog w) A (call (.builtin "str.split") [.str x t, .str y u]) Q E s := by
  have hn : (partsBetween x (occurrences x y 0 x.length (x.length + 1)) y.length).length ≤ sizeLine := by
    have e1 := StrLaws.occ_length_le x y 0 x.length (x.length + 1)
    rw [length_partsBetween]; omega
  cases h1 : (decide (x.length < y.length) || decide (strKind x < strKind y))
  · cases hf : (occurrences x y 0 x.length (x.length + 1)).isEmpty
    · refine call_meets F.slot_str_split (typeIs_str _ _ _) F.entry_str_split (F.args_str_split_2 _ _) (meets_str_split_sep x y t u h1 hy hf (by omega) hn) ?_
      show wants Q E _ { s with toks := _, heap := s.heap.push { cls := .type "list", data := .seq (strsFrom s.toks (partsBetween x (occurrences x y 0 x.length (x.length + 1)) y.length)).toArray } }
      rw [strsFrom_eq]
      exact h (numbered s.toks _) _ ((numbered_texts _ _).trans ((if_neg (ne_true_of_eq_false h1)).trans (if_neg (ne_true_of_eq_false hf))).symm)
    · exact call_meets F.slot_str_split (typeIs_str _ _ _) F.entry_str_split (F.args_str_split_2 _ _) (meets_str_split_not_found x y t u h1 hy hf)
        (h [(x, t)] s.toks ((if_neg (ne_true_of_eq_false h1)).trans (if_pos hf)).symm)
  · exact call_meets F.slot_str_split (typeIs_str _ _ _) F.entry_str_split (F.args_str_split_2 _ _) (meets_str_split_cannot_occur x y t u h1)
      (h [(x, t)] s.toks (if_pos h1).symm)

theorem join_ok {g : Frz} {ρ : Locs} {st : St} {s : Shared} {x : Str} {t : Tok} {u : Value} {y z : PyData} {A : Around} (hA : A.handled = none) (I : Inv h₀ g ρ st s.heap) (r : Rd g u y) (e : glueD x y = some z) :
    wpAny (model TP w) A (call (.builtin "str.join") [.str x t, u]) (EA h₀ g ρ s st (.d z)) Fls s := by
  cases y <;> first | exact nsome e | skip
  · rename_i y
    obtain ⟨e1, rfl⟩ := of_chk e
    obtain ⟨t', rfl⟩ := rdI r
    have hs : PyProof.Rows.signs y = (sl y).map fun c => mkS [c] := rfl
    refine SC.joinStr hA (joinOk_of ?_) fun h' k t' hk => ?_
    · rw [signs_sumLen, hs, List.length_map]; exact e1
    · rw [show Txt.join x (PyProof.Rows.signs y) = PySem.Str.join x (PyProof.Rows.signs y) from StrLaws.glued_eq_join x _, hs]
      exact EA.grown I hk (Rp.str ..)
  · obtain ⟨l, p, e⟩ := bnd e
    obtain ⟨e1, rfl⟩ := of_chk e
    obtain ⟨a, o, vs, n, rfl, h1, h2, h3, r1⟩ := rdI r
    obtain ⟨m, rfl, rfl⟩ := strs_are r1 p
    refine SC.join ⟨_, I.sub _ _ h1, h2, _, h3⟩ rfl (joinOk_of e1) fun t' k => ?_
    rw [show Txt.join x (m.map (·.1)) = PySem.Str.join x (m.map (·.1)) from StrLaws.glued_eq_join x _]
    exact EA.now I (Rp.str ..)
theorem find_ok {g : Frz} {ρ : Locs} {st : St} {s : Shared} {x : Str} {t : Tok} {us : List Value} {args : List PV} {i : Int} {A : Around} (I : Inv h₀ g ρ st s.heap) (ra : RpL g ρ us args) (e : find1 x args = some i) :
    wpAny (model TP w) A (call (.builtin "str.find") (.str x t :: us)) (EA h₀ g ρ s st (.d (.int i))) Fls s := by
  cases args with
  | nil => exact nsome e
  | cons v args =>
    obtain ⟨p, h1, e⟩ := bnd e
    cases rpLC ra with
    | cons r1 rs =>
      obtain ⟨t1, rfl⟩ := strR h1 r1
      cases args with
      | nil =>
        obtain rfl := rpLN rs
        obtain rfl := sinj e
        exact SC.find (EA.now I (Rp.int ..))
      | cons v2 args =>
        obtain ⟨y, h2, e⟩ := bnd e
        obtain ⟨a, h3, e⟩ := bnd e
        obtain ⟨b, h4, e⟩ := bnd e
        obtain ⟨q, e⟩ := ifp_of e
        obtain rfl := sinj e
        cases rpLC rs with
        | cons r2 rs2 =>
          cases rp1 rs2 h2 with
          | mk u r3 =>
            obtain ⟨t2, rfl⟩ := intR h3 r2
            obtain ⟨t3, rfl⟩ := intR h4 r3
            obtain ⟨q2, rfl, q3⟩ := q
            refine call_gives F.slot_str_find (typeIs_str _ _ _) F.entry_str_find (F.args_str_find_4 _ _ _ _) (gives_str_find_fromto _ _ _ _ _ _ _ q2) ?_
            rw [find3_occ, if_pos (Int.toNat_le.mpr q3)]
            exact EA.now I (Rp.int ..)
theorem strM_ok {g : Frz} {ρ : Locs} {st st' : St} {s : Shared} {name x : Str} {t : Tok} {id : String} {us : List Value} {args : List PV} {v : PV} {A : Around} (hA : A.handled = none) (I : Inv h₀ g ρ st s.heap) (hid : strId name = some id) (ra : RpL g ρ us args) (e : strM name x args st = some (v, st')) :
    wpAny (model TP w) A (call (.builtin id) (.str x t :: us)) (EA h₀ g ρ s st' v) Fls s := by
  unfold strId at hid
  replace e := ite_of e
  cases e with
  | t q e =>
    obtain rfl := sinj ((if_pos q).symm.trans hid)
    clear hid q
    obtain ⟨y, h1, e⟩ := bnd e
    obtain ⟨z, h2, e⟩ := bnd e
    obtain ⟨k, h3, e⟩ := mpd e
    obtain ⟨rfl, rfl⟩ := Prod.mk.inj e
    obtain rfl := datV_of h2
    cases rp1 ra h1 with
    | mk u r => exact join_ok hA I (rpD' r) h3
  | f q e =>
    replace hid := (if_neg q).symm.trans hid
    clear q
    replace e := ite_of e
    cases e with
    | t q e =>
      obtain rfl := sinj ((if_pos q).symm.trans hid)
      clear hid q
      obtain ⟨y, h1, e⟩ := bnd e
      obtain ⟨p, h2, e⟩ := bnd e
      obtain ⟨q2, e⟩ := ifn_of e
      obtain ⟨e1, e2⟩ := of_chk e
      obtain ⟨rfl, rfl⟩ := Prod.mk.inj e2
      cases rp1 ra h1 with
      | mk u r =>
        obtain ⟨t2, rfl⟩ := strR h2 r
        refine split_plain (beq_eq_false_iff_ne.mpr q2) (fun l tk hl => ?_) (lim_size e1)
        rw [← hl]
        exact EA.newList I .refl (RdL.strs l) rfl
    | f q e =>
      replace hid := (if_neg q).symm.trans hid
      clear q
      replace e := ite_of e
      cases e with
      | t q e =>
        obtain rfl := sinj ((if_pos q).symm.trans hid)
        obtain ⟨i, h1, e⟩ := mpd e
        obtain ⟨rfl, rfl⟩ := Prod.mk.inj e
        exact find_ok I ra h1
      | f q e =>
        replace hid := (if_neg q).symm.trans hid
        clear q
        replace e := ifp_of e
        obtain ⟨q, e⟩ := e
        obtain rfl := sinj ((if_pos q).symm.trans hid)
        clear hid q
        obtain ⟨y, h1, e⟩ := bnd e
        obtain ⟨p, h2, e⟩ := bnd e
        obtain ⟨c, h3, e⟩ := mpd e
        obtain ⟨rfl, rfl⟩ := Prod.mk.inj e
        cases rp1 ra h1 with
        | mk u r =>
          obtain ⟨t2, rfl⟩ := strR h2 r
          obtain rfl : p = mkS [c] := by rw [← one1_of h3]
          refine SC.count ?_
          rw [count_eq]
          exact EA.now I (Rp.int ..)
end
end Mine
end
section
namespace Mine
open PySem PySem.W PyProof.Rows

section
variable {w : World} {K : Frag} {h₀ : Heap} {mg mb : Str → Option Value}

theorem Inv.setAt {g : Frz} {ρ : Locs} {st : St} {h h' : Heap} {r : Nat} {p : Addr × Addr} {mo : MO} (I : Inv h₀ g ρ st h) (hp : ρ[r]? = some p) (k : ∀ a o, a ≠ p.1 → a ≠ p.2 → h.get? a = some o → h'.get? a = some o) (m : Mat g ρ h' p mo) : Inv h₀ g ρ (st.set r mo) h' := by
  have fp := foot_of hp
  have hl : r < st.length := I.len ▸ (List.getElem?_eq_some_iff.mp hp).1
  obtain ⟨ps, t1, t2, t3⟩ := I.tab
  have kg : ∀ a o, g a = some o → h'.get? a = some o := fun a o e => k a o (by rintro rfl; rw [(I.off _ fp.1).1] at e; cases e) (by rintro rfl; rw [(I.off _ fp.2).1] at e; cases e) (I.sub a o e)
  refine ⟨I.base, kg, by rw [List.length_set]; exact I.len, fun r' p' mo' hr hm => ?_, I.off, I.apart, ⟨ps, k _ _ (I.off _ fp.1).2.symm (I.off _ fp.2).2.symm t1, t2, t3⟩, I.gtab, fun a o e => kg a o (I.base a o e)⟩
  by_cases q : r' = r
  · subst q
    rw [hp] at hr; cases hr
    rw [List.getElem?_set_self hl] at hm; cases hm
    exact m
  · rw [List.getElem?_set_ne (Ne.symm q)] at hm
    have ap := I.apart r' r p' p hr hp q
    refine (I.mat r' p' mo' hr hm).keeps (.refl _) (.refl _) fun x hx o e => ?_
    rcases hx with rfl | rfl
    · exact k _ _ ap.1 ap.2.1 e
    · exact k _ _ ap.2.2.1 ap.2.2.2 e
theorem Ext.setAt {X : Addr → Prop} {g : Frz} {ρ : Locs} {h h' : Heap} {r : Nat} {p : Addr × Addr} (hp : ρ[r]? = some p) (k : ∀ a o, a ≠ p.1 → a ≠ p.2 → h.get? a = some o → h'.get? a = some o) : Ext X g ρ h g ρ h' :=
  ⟨.refl _, .refl _, fun a o e f _ _ => k a o (by rintro rfl; exact f (foot_of hp).1) (by rintro rfl; exact f (foot_of hp).2) e, fun _ _ _ f _ _ => ⟨f, rfl⟩⟩

theorem Inv.newAt {g : Frz} {ρ : Locs} {st : St} {h h' : Heap} {p : Addr × Addr} {mo : MO} (I : Inv h₀ g ρ st h) (l1 : h.objs.size ≤ p.1) (l2 : h.objs.size ≤ p.2) (k : ∀ a o, h.get? a = some o → h'.get? a = some o) (m : Mat g (ρ ++ [p]) h' p mo) : Inv h₀ g (ρ ++ [p]) (st ++ [mo]) h' := by
  obtain ⟨ps, t1, t2, t3⟩ := I.tab
  have n1 := I.new l1
  have n2 := I.new l2
  have fl : ∀ x, foot ρ x → x < h.objs.size := fun x f => I.foot_lt f
  refine ⟨I.base, fun a o e => k a o (I.sub a o e), by simp [I.len], fun r' p' mo' hr hm => ?_, fun x f => ?_, fun r r' q q' hr hr' hne => ?_, ⟨ps, k _ _ t1, t2, t3⟩, I.gtab, fun a o e => k a o (I.old a o e)⟩
  · by_cases q : r' < ρ.length
    · rw [List.getElem?_append_left q] at hr
      rw [List.getElem?_append_left (by rw [← I.len]; exact q)] at hm
      exact (I.mat r' p' mo' hr hm).keeps (.refl _) (Pre.snoc _ _) fun x _ o e => k x o e
    · have hlt := (List.getElem?_eq_some_iff.mp hr).1
      have : r' = ρ.length := by simp at hlt; omega
      subst this
      rw [List.getElem?_append_right (Nat.le_refl _), Nat.sub_self] at hr
      rw [I.len, List.getElem?_append_right (Nat.le_refl _), Nat.sub_self] at hm
      simp at hr hm
      subst hr hm
      exact m
  · rcases foot_snoc.mp f with f | rfl | rfl
    · exact I.off x f
    · exact ⟨n1.2.2, n1.2.1⟩
    · exact ⟨n2.2.2, n2.2.1⟩
  · have key : ∀ (i : Nat) (q : Addr × Addr), (ρ ++ [p])[i]? = some q → (ρ[i]? = some q ∧ q.1 < h.objs.size ∧ q.2 < h.objs.size) ∨ (i = ρ.length ∧ q = p) := fun i q hi => by
      by_cases c : i < ρ.length
      · rw [List.getElem?_append_left c] at hi
        exact .inl ⟨hi, fl _ (foot_of hi).1, fl _ (foot_of hi).2⟩
      · have hlt := (List.getElem?_eq_some_iff.mp hi).1
        have : i = ρ.length := by simp at hlt; omega
        subst this
        rw [List.getElem?_append_right (Nat.le_refl _), Nat.sub_self] at hi
        simp at hi
        exact .inr ⟨rfl, hi.symm⟩
    rcases key r q hr with ⟨a1, a2, a3⟩ | ⟨a1, rfl⟩ <;> rcases key r' q' hr' with ⟨b1, b2, b3⟩ | ⟨b1, rfl⟩
    · exact I.apart r r' q q' a1 b1 hne
    · exact ⟨Nat.ne_of_lt (Nat.lt_of_lt_of_le a2 l1), Nat.ne_of_lt (Nat.lt_of_lt_of_le a2 l2), Nat.ne_of_lt (Nat.lt_of_lt_of_le a3 l1), Nat.ne_of_lt (Nat.lt_of_lt_of_le a3 l2)⟩
    · exact ⟨Nat.ne_of_gt (Nat.lt_of_lt_of_le b2 l1), Nat.ne_of_gt (Nat.lt_of_lt_of_le b3 l1), Nat.ne_of_gt (Nat.lt_of_lt_of_le b2 l2), Nat.ne_of_gt (Nat.lt_of_lt_of_le b3 l2)⟩
    · exact absurd (a1.trans b1.symm) hne
theorem Ext.newAt {X : Addr → Prop} {g : Frz} {ρ : Locs} {h h' : Heap} {p : Addr × Addr} (l1 : h.objs.size ≤ p.1) (l2 : h.objs.size ≤ p.2) (k : ∀ a o, h.get? a = some o → h'.get? a = some o) : Ext X g ρ h g (ρ ++ [p]) h' :=
  ⟨.refl _, Pre.snoc _ _, fun a o e _ _ _ => k a o e, fun a o e f _ _ => ⟨fun f' => by
    have := PySem.Heap.lt_size e
    rcases foot_snoc.mp f' with f' | rfl | rfl
    · exact f f'
    · exact absurd this (Nat.not_lt.mpr l1)
    · exact absurd this (Nat.not_lt.mpr l2), rfl⟩⟩
theorem snoc_get {α : Type} (l : List α) (x : α) (n : Nat) (h : l.length = n) : (l ++ [x])[n]? = some x := by
  subst h; simp

/-! lists that turn -/
theorem setItem_list_upd {prog : Program} {w : World} {A : Around} {E : Value → Shared → Prop} {s : Shared} {l : Addr} {items : Array Value} {k : Int} {t : Tok} {v : Value} {Q : Unit → Shared → Prop} (hl : s.heap.IsList l items)
    (h0 : 0 ≤ k) (hfit : k < 2 ^ 63) (hn : k < items.size)
    (hQ : Q () { s with heap := s.heap.update l (Obj.mapSeq (·.setIfInBounds k.toNat v)) }) :
    wpAny (model prog w) A (setItem (.ref l) (.int k t) v) Q E s := by
  obtain ⟨o, ho, hc, ne, hd⟩ := id hl
  unfold setItem
  try with_reducible refine wpAny_holding ?_
  first | refine wpAny_bind (wpAny_pure ?_) | skip
  refine wpAny_bind (wpAny_sequenceKey hl.typeIs (by decide) ?_)
  refine wpAny_bind (wpAny_callSpecial?_slot (name := Str.ofString "__setitem__") hl.typeIs slot_list_setitem
    (wpAny_call_entry slot_list_setitem hl.typeIs entry_list_setitem ?_ (args_list_setitem _ _ _)))
  show wpAny _ _ (Builtin.List.listSubscript? (.int k t) >>= _) _ _ s
  refine wpAny_bind (wpAny_listSubscript_int (fitsIndex_of h0 hfit) ?_)
  clear hfit
  obtain ⟨j, rfl⟩ := Int.eq_ofNat_of_zero_le h0
  have hj : j < items.size := by omega
  have hx' : items[j]? = some items[j] := Array.getElem?_eq_getElem hj
  show wpAny _ _ ((seqItemAt l j >>= fun r => pure (r.map (j, ·))) >>= _) _ _ s
  refine wpAny_bind (wpAny_bind (wpAny_seqItemAt ho hd (wpAny_pure ?_)))
  rw [hx']
  show wpAny _ _ (setSeqItemAt l j v >>= _) _ _ s
  refine wpAny_bind (wpAny_setSeqItemAt ho hd ?_)
  first
    | exact wpAny_bind (wpAny_pure (wpAny_pure ⟨.none, rfl, wpAny_pure hQ⟩))
    | exact wpAny_pure ⟨.none, rfl, wpAny_pure hQ⟩
theorem lst_upd {g : Frz} {ρ : Locs} {st : St} {s : Shared} {r : Nat} {a : Addr} {f : Array Value → Array Value} {vs us : List Value} {n tk : Nat} {xs : List PyData} {v : PV} {u : Value} (I : Inv h₀ g ρ st s.heap) (hp : ρ[r]? = some (a, a)) (e : s.heap.get? a = some ({ cls := .type "list", data := .seq ⟨vs⟩ n } : Obj))
    (hf : f ⟨vs⟩ = ⟨us⟩) (rr : RdL g us xs) (hu : Rp g ρ u v) : EA h₀ g ρ s (st.set r (.list xs)) v u { s with heap := s.heap.update a (Obj.mapSeq f), toks := tk } := by
  have k : ∀ b o, b ≠ a → b ≠ a → s.heap.get? b = some o → (s.heap.update a (Obj.mapSeq f)).get? b = some o := fun b o q _ e => (PySem.Heap.get?_update_other _ _ (Ne.symm q)).trans e
  have m : Mat g ρ (s.heap.update a (Obj.mapSeq f)) (a, a) (.list xs) := by
    have := PySem.Heap.get?_update_self (Obj.mapSeq f) e rfl
    unfold Obj.mapSeq at this
    dsimp only at this
    rw [hf] at this
    exact .list this rr
  exact ⟨g, ρ, _, tk, rfl, Ext.setAt hp k, I.setAt hp k m, hu⟩

theorem Inv.lst {g : Frz} {ρ : Locs} {st : St} {h : Heap} {r : Nat} {p : Addr × Addr} {xs : List PyData} (I : Inv h₀ g ρ st h) (hp : ρ[r]? = some p) (e : (st[r]?).bind moL = some xs) : MatF g ρ h p (.list xs) := by
  obtain ⟨m, h1, h2⟩ := bnd e
  exact moL_of h2 ▸ matF (I.mat _ _ _ hp h1)
theorem lstM_ok {g : Frz} {ρ : Locs} {st st' : St} {s : Shared} {name : Str} {r : Nat} {p : Addr × Addr} {id : String} {us : List Value} {args : List PV} {v : PV} {A : Around} (I : Inv h₀ g ρ st s.heap) (hp : ρ[r]? = some p) (hid : lstId name = some id) (ra : RpL g ρ us args) (e : lstM name r args st = some (v, st')) :
    wpAny (model TP w) A (call (.builtin id) (.ref p.1 :: us)) (EA h₀ g ρ s st' v) Fls s := by
  obtain ⟨xs, hs, e⟩ := bnd e
  obtain ⟨a, vs, n, rfl, e1, r1⟩ := I.lst hp hs
  unfold lstId at hid
  replace e := ite_of e
  cases e with
  | t q e =>
    obtain rfl := sinj ((if_pos q).symm.trans hid)
    clear hid q hs
    obtain ⟨y, h1, e⟩ := bnd e
    obtain ⟨z, h2, e⟩ := bnd e
    obtain ⟨e2, e3⟩ := of_chk e
    obtain ⟨rfl, rfl⟩ := Prod.mk.inj e3
    obtain rfl := datV_of h2
    cases rp1 ra h1 with
    | mk u q1 =>
      refine call_meets F.slot_list_append ⟨_, e1, rfl⟩ F.entry_list_append (F.args_list_append_2 _ _) (list_append a ⟨vs⟩ n _ (by show vs.length ≤ sizeLine; rw [r1.length]; exact lim_size e2)) ⟨e1, ?_⟩
      exact lst_upd (tk := s.toks) I hp e1 (us := vs ++ [_]) (by simp) (r1.append (.cons (rpD' q1) .nil)) (.d .none)
  | f q e =>
    replace hid := (if_neg q).symm.trans hid
    clear q hs
    replace e := ifp_of e
    obtain ⟨q, e⟩ := e
    obtain rfl := sinj ((if_pos q).symm.trans hid)
    clear hid q
    obtain ⟨y, h1, e⟩ := bnd e
    obtain ⟨i, h2, e⟩ := bnd e
    obtain ⟨q, e⟩ := ifp_of e
    subst q
    obtain ⟨⟨x, t⟩, h3, e⟩ := bnd e
    obtain rfl := popL_of h3
    obtain ⟨e2, e3⟩ := of_chk e
    obtain ⟨rfl, rfl⟩ := Prod.mk.inj e3
    cases rp1 ra h1 with
    | mk u r =>
      obtain ⟨tt, rfl⟩ := intR h2 r
      cases rdLC' r1 with
      | @cons u us q3 q4 =>
        have hl : (u :: us).length ≤ sizeLine := by
          rw [List.length_cons, q4.length]; exact lim_size e2
        refine call_meets F.slot_list_pop ⟨_, e1, rfl⟩ F.entry_list_pop (F.args_list_pop_2 _ _) (MeetsSeq.list_pop_at a ⟨u :: us⟩ n 0 _ 0 u (by decide +kernel) (by simp [seqIndex?]) rfl hl) ⟨e1, ?_⟩
        exact lst_upd (tk := s.toks) I hp e1 (us := us) (by simp [Array.eraseIdxIfInBounds]) q4 (.d q3)

theorem setI_ok {g : Frz} {ρ : Locs} {st st' : St} {s : Shared} {a i u : Value} {v x y : PV} {A : Around} {Q : Unit → Shared → Prop} (I : Inv h₀ g ρ st s.heap) (ra : Rp g ρ a v) (ri : Rp g ρ i x) (ru : Rp g ρ u y) (e : setI v x y st = some st')
    (hq : ∀ h', Ext noX g ρ s.heap g ρ h' → Inv h₀ g ρ st' h' → Q () { s with heap := h' }) : wpAny (model TP w) A (setItem a i u) Q Fls s := by
  obtain ⟨r, h1, e⟩ := bnd e
  obtain ⟨k, h2, e⟩ := bnd e
  obtain ⟨y', h3, e⟩ := bnd e
  obtain ⟨xs, hs, e⟩ := bnd e
  obtain ⟨q, e⟩ := ifp_of e
  obtain ⟨e2, rfl⟩ := of_chk e
  obtain rfl := objV_of h1
  obtain ⟨t, rfl⟩ := intR h2 ri
  obtain rfl := datV_of h3
  cases rpO ra with
  | obj hp =>
    obtain ⟨a, vs, n, e5, e1, r1⟩ := I.lst hp hs
    subst e5
    clear e h1 h2 h3 ri ra hs
    have hl := r1.length
    have hj : k.toNat < vs.length := by rw [hl]; exact q.2
    have hk : k < ((vs.length : Nat) : Int) := (Int.toNat_lt q.1).mp hj
    refine setItem_list_upd (l := a) ⟨_, e1, rfl, _, rfl⟩ q.1 (Int.lt_trans hk (Int.ofNat_lt.mpr (Nat.lt_of_le_of_lt (hl ▸ e2) (by decide)))) hk ?_
    have kk : ∀ b o, b ≠ a → b ≠ a → s.heap.get? b = some o → (s.heap.update a (Obj.mapSeq (·.setIfInBounds k.toNat u))).get? b = some o := fun b o q _ e => (PySem.Heap.get?_update_other _ _ (Ne.symm q)).trans e
    have m : Mat g ρ (s.heap.update a (Obj.mapSeq (·.setIfInBounds k.toNat u))) (a, a) (.list (xs.set k.toNat y')) := by
      have := PySem.Heap.get?_update_self (Obj.mapSeq (·.setIfInBounds k.toNat u)) e1 rfl
      unfold Obj.mapSeq at this
      dsimp only at this
      rw [show (⟨vs⟩ : Array Value).setIfInBounds k.toNat u = ⟨vs.set k.toNat u⟩ from Array.toList_inj.mp (by simp)] at this
      exact .list this (r1.set k.toNat (rpD' ru))
    exact hq _ (Ext.setAt hp kk) (I.setAt hp kk m)
end
end Mine
end
section
namespace Mine
open PySem PySem.W PyProof.Rows

section
variable {w : World} {K : Frag} {h₀ : Heap} {mg mb : Str → Option Value}

theorem AtL.find {g : Frz} {ρ : Locs} {x : Str} : ∀ {es : List DictEntry} {as : List (Str × PV)}, AtL g ρ es as → ∀ {pv : PV}, as.lookup x = some pv → ∃ en : DictEntry, es.find? (·.key.isStr x) = some en ∧ Rp g ρ en.val pv
  | _, _, .nil, _, e => by (first | exact nsome e | (obtain ⟨rfl, rfl⟩ := pinj e; clear e) | (obtain ⟨rfl, rfl, rfl⟩ := pinj3 e; clear e) | (obtain rfl := sinj e; clear e) | cases e)
  | _, _, .cons (hs := hs) (x := y) (t := t) (v := v) r tt, pv, e => by
    rw [List.lookup_cons] at e
    by_cases q : x = y
    · subst q
      rw [beq_self_eq_true] at e
      (first | exact nsome e | (obtain ⟨rfl, rfl⟩ := pinj e; clear e) | (obtain ⟨rfl, rfl, rfl⟩ := pinj3 e; clear e) | (obtain rfl := sinj e; clear e) | cases e)
      refine ⟨⟨hs, .str x t, v⟩, ?_, r⟩
      simp [List.find?_cons, Value.isStr]
    · have b : (x == y) = false := by simpa using q
      have b' : (y == x) = false := by simpa using fun h => q h.symm
      rw [b] at e
      obtain ⟨en, e1, e2⟩ := AtL.find tt e
      refine ⟨en, ?_, e2⟩
      rw [List.find?_cons]
      simp only [Value.isStr, b']
      exact e1
theorem AtL.get {g : Frz} {ρ : Locs} {x : Str} {es : List DictEntry} {as : List (Str × PV)} (a : AtL g ρ es as) {pv : PV} (e : as.lookup x = some pv) : ∃ v, getL x es = some (some v) ∧ Rp g ρ v pv := by
  obtain ⟨en, e1, e2⟩ := a.find e
  exact ⟨en.val, by unfold getL; rw [e1], e2⟩
theorem AtL.noref {g : Frz} {ρ : Locs} : ∀ {es : List DictEntry} {as : List (Str × PV)}, AtL g ρ es as → es.any (·.refKey) = false
  | _, _, .nil => rfl
  | _, _, .cons r t => by
    rw [List.any_cons, AtL.noref t]
    rfl
theorem AtL.none {g : Frz} {ρ : Locs} {x : Str} : ∀ {es : List DictEntry} {as : List (Str × PV)}, AtL g ρ es as → as.lookup x = none → es.find? (·.key.isStr x) = none
  | _, _, .nil, _ => rfl
  | _, _, .cons (x := y) r t, e => by
    rw [List.lookup_cons] at e
    by_cases q : x = y
    · subst q; rw [beq_self_eq_true] at e; (first | exact nsome e | (obtain ⟨rfl, rfl⟩ := pinj e; clear e) | (obtain ⟨rfl, rfl, rfl⟩ := pinj3 e; clear e) | (obtain rfl := sinj e; clear e) | cases e)
    · have b : (x == y) = false := by simpa using q
      have b' : (y == x) = false := by simpa using fun h => q h.symm
      rw [b] at e
      rw [List.find?_cons]
      simp only [Value.isStr, b']
      exact AtL.none t e
theorem AtL.getNone {g : Frz} {ρ : Locs} {x : Str} {es : List DictEntry} {as : List (Str × PV)} (a : AtL g ρ es as) (e : as.lookup x = Option.none) : getL x es = some Option.none := by
  unfold getL
  rw [a.none e]
  simp [a.noref]
theorem AtL.isSome {g : Frz} {ρ : Locs} {x : Str} {es : List DictEntry} {as : List (Str × PV)} (a : AtL g ρ es as) : (getL x es).isSome = true := by
  cases e : as.lookup x with
  | none => rw [a.getNone e]; rfl
  | some pv => obtain ⟨v, e1, _⟩ := a.get e; rw [e1]; rfl
theorem AtL.put {g : Frz} {ρ : Locs} {x : Str} {hsh : Int} {t : Tok} {v : Value} {pv : PV} (hv : Rp g ρ v pv) : ∀ {es : List DictEntry} {as : List (Str × PV)}, AtL g ρ es as → AtL g ρ (putL x hsh (.str x t) v es) (upd as x pv)
  | _, _, .nil => .cons hv .nil
  | _, _, .cons (x := y) r tt => by
    unfold putL upd
    by_cases q : y = x
    · subst q
      simp only [Value.isStr, beq_self_eq_true, if_true]
      exact .cons hv tt
    · have b : (y == x) = false := by simpa using q
      simp only [Value.isStr, b, Bool.false_eq_true, if_false, q]
      exact .cons r (AtL.put hv tt)
theorem AtL.len {g : Frz} {ρ : Locs} : ∀ {es : List DictEntry} {as : List (Str × PV)}, AtL g ρ es as → es.length = as.length
  | _, _, .nil => rfl
  | _, _, .cons _ t => congrArg (· + 1) (AtL.len t)
theorem upd_len (as : List (Str × PV)) (x : Str) (v : PV) : (upd as x v).length ≤ as.length + 1 := by
  induction as with
  | nil => simp [upd]
  | cons p r ih => obtain ⟨y, u⟩ := p; unfold upd; split <;> simp <;> omega

theorem handed_rp {g : Frz} {ρ : Locs} {u : Value} {v : PV} (r : Rp g ρ u v) (h : ∀ i, v ≠ .bi i) : handedIn u = true := by
  cases r with
  | d r => cases r <;> rfl
  | bi i => exact absurd rfl (h i)
  | _ => rfl

theorem InstAt_of {h : Heap} {a d c : Addr} {es : List DictEntry} {n : Nat} (e1 : h.get? a = some (instObj c d)) (e2 : h.get? d = some (dictOf es n)) : InstAt h a (instObj c d) c (some (dictOf es n)) := ⟨e1, rfl, rfl, e2⟩

/-- an object's attribute is stored -/
theorem set_inst (D : Gd w K h₀ mg mb) {g : Frz} {ρ : Locs} {st : St} {s : Shared} {r : Nat} {p : Addr × Addr} {c : Addr} {as : List (Str × PV)} {name : Str} {u : Value} {v : PV} {A : Around} {Q : Unit → Shared → Prop} (I : Inv h₀ g ρ st s.heap) (hp : ρ[r]? = some p) (hs : st[r]? = some (.inst c as))
    (hi : instAttr c name = true) (hl : as.length ≤ lim) (ru : Rp g ρ u v)
    (hq : ∀ h' tk, Ext noX g ρ s.heap g ρ h' → Inv h₀ g ρ (st.set r (.inst c (upd as name v))) h' → Q () { s with heap := h', toks := tk }) :
    wpAny (model TP w) A (setAttr (.ref p.1) name u) Q Fls s := by
  have M := D.attr c name hi
  obtain ⟨i, hi'⟩ := Option.isSome_iff_exists.mp M.init
  have N := D.init c i hi'
  clear hi hi'
  have X : K.In s.heap := D.X.keeps I.old
  obtain ⟨a, d, es, n, rfl, e1, e2, e3⟩ := matF (I.mat _ _ _ hp hs)
  · have II := InstAt_of e1 e2
    refine set_plain X II N.set (osa_open (s := { s with toks := s.toks + 1 }) X II N.over M.taker fun b => ?_)
    obtain ⟨cd, hc, hd'⟩ := any_some N.hasDict
    have X' : K.In ({ s with toks := s.toks + 1 } : Shared).heap := X
    have ap : a ≠ d := by rintro rfl; rw [e1] at e2; (first | exact nsome e2 | (obtain ⟨rfl, rfl⟩ := pinj e2; clear e2) | (obtain ⟨rfl, rfl, rfl⟩ := pinj3 e2; clear e2) | (obtain rfl := sinj e2; clear e2) | cases e2)
    have D' := PySem.Heap.get?_update_self (h := s.heap) (Obj.putName name (PyData.keyHash w.params name) (.str name (s.toks + 1)) u) e2 (by rw [putName_dict]; rfl)
    rw [putName_dict] at D'
    refine wpAny_bind (wpAny_pure (wpAny_bind (wpAny_bind (wpAny_loadPart e1 (wpAny_bind ((looks_clsIn X' hc).here ?_))))))
    rw [hd']
    refine wpAny_pure (a := some d) (wpAny_bind (wpAny_pure (wpAny_bind ?_)))
    unfold nsSet
    refine wpAny_bind (wpAny_bind (wpAny_askSetting (wpAny_pure (wpAny_bind (wpAny_mkText (wpAny_bind (wpAny_loadPart e2 ?_)))))))
    dsimp only [dictOf]
    have cc : (!es.toArray.any (·.key.isStr name) && es.toArray.any (·.refKey)) = false := by
      have : (es.toArray.any fun x => x.refKey) = false := by rw [List.any_toArray]; exact e3.noref
      rw [this, Bool.and_false]
    rw [aRefKeyMayBeTheName_at, cc]
    refine wpAny_updatePart e2 ?_
    have hz : (putL name (PyData.keyHash w.params name) (.str name (s.toks + 1)) u es).length ≤ 100001 := by
      unfold lim at hl
      have := (e3.put (x := name) (hsh := PyData.keyHash w.params name) (t := s.toks + 1) ru).len
      rw [this]
      have := upd_len as name v
      omega
    refine wpAny_bind (wpAny_lookBehind D' (pastItsLine_dict (by rw [List.size_toArray, sizeLine_eq]; omega)) ?_)
    have k : ∀ b o, b ≠ a → b ≠ d → s.heap.get? b = some o → (s.heap.update d (Obj.putName name (PyData.keyHash w.params name) (.str name (s.toks + 1)) u)).get? b = some o := fun b o _ q e => (PySem.Heap.get?_update_other _ _ (Ne.symm q)).trans e
    have e1' := (PySem.Heap.get?_update_other s.heap (Obj.putName name (PyData.keyHash w.params name) (.str name (s.toks + 1)) u) (Ne.symm ap)).trans e1
    exact wpAny_pure (hq _ _ (Ext.setAt hp k) (I.setAt hp k (.inst e1' D' (e3.put ru))))

theorem getF_ok (D : Gd w K h₀ mg mb) {g : Frz} {ρ : Locs} {st : St} {s : Shared} {a d c f : Addr} {r : Nat} {es : List DictEntry} {n : Nat} {as : List (Str × PV)} {name : Str} {A : Around} {b : Bool} (I : Inv h₀ g ρ st s.heap) (hp : ρ[r]? = some (a, d)) (e1 : s.heap.get? a = some (instObj c d)) (e2 : s.heap.get? d = some (dictOf es n)) (e3 : AtL g ρ es as)
    (hn : as.lookup name = none) (l1 : clsMeth c name = some f) : wpAny (model TP w) A (getAttr (.ref a) name b) (EA h₀ g ρ s st (.meth f r)) Fls s := by
  have X : K.In s.heap := D.X.keeps I.old
  have M := D.meth c name f l1
  obtain ⟨i, hi'⟩ := Option.isSome_iff_exists.mp M.init
  have N := D.init c i hi'
  obtain ⟨ff, hff⟩ := Option.isSome_iff_exists.mp M.fn
  obtain ⟨o, fd, F⟩ := D.fns f ff hff
  obtain ⟨cd, hc, hd⟩ := any_some N.hasDict
  clear hff l1 hi'
  have hf : findObj K c (some (dictOf es n)) name = some (.bind (.builtin "function.__get__") (.ref f)) := by
    unfold findObj PySem.W.ownOf
    rw [hc, Option.bind_some, M.find, Option.bind_some]
    dsimp only
    rw [M.get, Option.bind_some]
    dsimp only
    rw [M.takes, Option.bind_some]
    dsimp only
    rw [if_pos hd, lookIn_dict, e3.getNone hn, Option.bind_some]
    dsimp only
    rw [M.copied]
    simp
  refine get_bind X (InstAt_of e1 e2) (plainGet_of N.get).1 hf (plainGet_of N.get).2 (wpAny_call (fn_get (s := { s with toks := s.toks + 1 }) X F.type ?_))
  show wpAny _ _ (handedOut (.ref s.heap.objs.size)) _ _ _
  rw [handedOut_of rfl]
  refine wpAny_pure ?_
  obtain ⟨I', x'⟩ := I.push (o := methodObj (.ref f) (.ref a)) rfl noX
  exact ⟨_, _, _, _, rfl, x', I', .meth (p := (a, d)) (Frz.add_self ..) hp⟩
theorem getA_ok (D : Gd w K h₀ mg mb) {g : Frz} {ρ : Locs} {st : St} {s : Shared} {u : Value} {v : PV} {name : Str} {x : PV × Bool} {A : Around} {b : Bool} (I : Inv h₀ g ρ st s.heap) (ru : Rp g ρ u v) (e : getA v name st = some x) :
    wpAny (model TP w) A (getAttr u name b) (EA h₀ g ρ s st x.1) Fls s := by
  obtain ⟨r, h1, e⟩ := bnd e
  obtain ⟨m, h2, e⟩ := bnd e
  obtain rfl := objV_of h1
  obtain ⟨p, rfl, hp⟩ := rpI ru
  cases m <;> first | exact nsome e | skip
  rename_i c as
  obtain ⟨a, d, es, n, rfl, e1, e2, e3⟩ := matF (I.mat _ _ _ hp h2)
  replace e := ite_of e
  cases e with
  | t q e =>
    have M := D.attr c name q
    obtain ⟨i, hi'⟩ := Option.isSome_iff_exists.mp M.init
    have N := D.init c i hi'
    obtain ⟨pv, l1, e⟩ := bnd e
    obtain ⟨nb, e⟩ := ifs_of e
    obtain rfl := sinj e
    obtain ⟨y, g1, g2⟩ := e3.get l1
    exact get_value (D.X.keeps I.old) (InstAt_of e1 e2) (plainGet_of N.get).1 (findObj_own N.hasDict M.find rfl (by rw [lookIn_dict]; exact g1)) (handed_rp g2 (by rintro i rfl; exact absurd nb Bool.false_ne_true)) (EA.now I g2)
  | f q e =>
    obtain ⟨q, e⟩ := ifs_of e
    obtain ⟨f, l1, rfl⟩ := mpd e
    exact getF_ok D I hp e1 e2 e3 (non_of q) l1
end
end Mine
end
section
namespace Mine
open PySem PySem.W PyProof.Rows

/-! Frames. -/

structure CelIs (h : Heap) (lo : Nat) (S : Str → Prop) (cl cs : List (Str × Addr)) : Prop where
  out : ∀ x, ¬ S x → cs.lookup x = cl.lookup x
  own : ∀ x, S x → ∃ c, cs.lookup x = some c ∧ lo ≤ c ∧ h.IsCell c none
  inj : ∀ x y c, S x → S y → cs.lookup x = some c → cs.lookup y = some c → x = y

theorem cells_are : ∀ (names : List (Str × NameKind)) (h : Heap) (lo : Nat) (S : Str → Prop) (cl acc : List (Str × Addr)), CelIs h lo S cl acc → lo ≤ h.objs.size →
    CelIs (pushCells h names) lo (fun x => S x ∨ (x, NameKind.cell) ∈ names) cl (cellsFrom h.objs.size names acc)
  | [], h, lo, S, cl, acc, x, _ => ⟨fun y hy => x.out y fun s => hy (.inl s), fun y hy => x.own y (hy.elim id fun m => nomatch m), fun y z c hy hz => x.inj y z c (hy.elim id fun m => nomatch m) (hz.elim id fun m => nomatch m)⟩
  | (name, kind) :: r, h, lo, S, cl, acc, x, hlo => by
    unfold pushCells cellsFrom
    split
    · rename_i hk
      have hk : kind = .cell := by simpa using hk
      subst hk
      have key : CelIs (h.push { cls := .type "cell", data := .cell none }) lo (fun y => S y ∨ y = name) cl ((name, h.objs.size) :: acc) := by
        refine ⟨fun y hy => ?_, fun y hy => ?_, fun y z c hy hz ey ez => ?_⟩
        · have : (y == name) = false := by simpa using fun e => hy (.inr e)
          rw [List.lookup_cons, this]
          exact x.out y fun s => hy (.inl s)
        · by_cases q : y = name
          · subst q
            exact ⟨h.objs.size, by rw [List.lookup_cons, beq_self_eq_true], hlo, _, PySem.Heap.get?_push_size _ rfl, rfl⟩
          · have : (y == name) = false := by simpa using q
            obtain ⟨c, a, b, d⟩ := x.own y (hy.elim id fun e => absurd e q)
            exact ⟨c, by rw [List.lookup_cons, this]; exact a, b, d.keeps fun b o e => PySem.Heap.get?_push_of_some _ e⟩
        · by_cases qy : y = name <;> by_cases qz : z = name
          · rw [qy, qz]
          · subst qy
            have : (z == y) = false := by simpa using qz
            rw [List.lookup_cons, beq_self_eq_true] at ey
            rw [List.lookup_cons, this] at ez
            cases ey
            obtain ⟨c, a, b, d⟩ := x.own z (hz.elim id fun e => absurd e qz)
            rw [a] at ez; cases ez
            exact absurd d.lt (Nat.lt_irrefl _)
          · subst qz
            have : (y == z) = false := by simpa using qy
            rw [List.lookup_cons, beq_self_eq_true] at ez
            rw [List.lookup_cons, this] at ey
            cases ez
            obtain ⟨c, a, b, d⟩ := x.own y (hy.elim id fun e => absurd e qy)
            rw [a] at ey; cases ey
            exact absurd d.lt (Nat.lt_irrefl _)
          · have hy' : (y == name) = false := by simpa using qy
            have hz' : (z == name) = false := by simpa using qz
            rw [List.lookup_cons, hy'] at ey
            rw [List.lookup_cons, hz'] at ez
            exact x.inj y z c (hy.elim id fun e => absurd e qy) (hz.elim id fun e => absurd e qz) ey ez
      have := cells_are r (h.push { cls := .type "cell", data := .cell none }) lo _ cl _ key (by rw [PySem.Heap.size_push]; omega)
      rw [PySem.Heap.size_push] at this
      have e : (fun y => (S y ∨ y = name) ∨ (y, NameKind.cell) ∈ r) = fun y => S y ∨ (y, NameKind.cell) ∈ (name, NameKind.cell) :: r := by
        funext y
        simp only [List.mem_cons, Prod.mk.injEq, and_true, or_assoc]
      rw [e] at this
      exact this
    · rename_i hk
      have := cells_are r h lo S cl acc x hlo
      have e : (fun y => S y ∨ (y, NameKind.cell) ∈ r) = fun y => S y ∨ (y, NameKind.cell) ∈ (name, kind) :: r := by
        funext y
        have : ¬ NameKind.cell = kind := fun e => hk (by rw [← e]; rfl)
        simp only [List.mem_cons, Prod.mk.injEq, this, and_false, false_or]
      rw [e] at this
      exact this

section
variable {w : World} {K : Frag} {h₀ : Heap} {mg mb : Str → Option Value}

/-- the cells that a block takes along -/
structure CapOk (g : Frz) (ρ : Locs) (h : Heap) (cl : List (Str × Addr)) (cap : List (Str × PV)) : Prop where
  val : ∀ x pv, cap.lookup x = some pv → ∃ c v, cl.lookup x = some c ∧ h.IsCell c (some v) ∧ Rp g ρ v pv
  off : ∀ x c, cl.lookup x = some c → ¬ foot ρ c ∧ c ≠ tabP ∧ ∃ v, h.IsCell c v
  inj : ∀ x y c, cl.lookup x = some c → cl.lookup y = some c → x = y

theorem bindAll {g : Frz} {ρ : Locs} {st : St} {env : Env} {A : Around} {M : Model} (f : Str × Value → PUnit → Sem (ForInStep PUnit)) (hf : ∀ n v u, f (n, v) u = (do storeName env n v; pure (.yield ⟨⟩)))
    (params : List Str) : ∀ (us : List Value) (args : List PV) (fm fm' : Fm) (s : Shared) (Q : PUnit → Shared → Prop), Inv h₀ g ρ st s.heap → FmOk g ρ s.heap env fm → RpL g ρ us args → binds.go fm (params.zip args) = some fm' →
      (∀ h' tk, Ext (Xof env fm) g ρ s.heap g ρ h' → Inv h₀ g ρ st h' → FmOk g ρ h' env fm' → fm'.names = fm.names → Q ⟨⟩ { s with heap := h', toks := tk }) → wpAny M A (forIn (params.zip us) ⟨⟩ f) Q Fls s := by
  induction params with
  | nil =>
    intro us args fm fm' s Q I F r e h
    rw [List.zip_nil_left] at e ⊢
    unfold binds.go at e
    (first | exact nsome e | (obtain ⟨rfl, rfl⟩ := pinj e; clear e) | (obtain ⟨rfl, rfl, rfl⟩ := pinj3 e; clear e) | (obtain rfl := sinj e; clear e) | cases e)
    rw [List.forIn_nil]
    exact wpAny_pure (h s.heap s.toks .refl I F rfl)
  | cons x params ih =>
    intro us args fm fm' s Q I F r e h
    cases r with
    | nil =>
      rw [List.zip_nil_right] at e ⊢
      unfold binds.go at e
      (first | exact nsome e | (obtain ⟨rfl, rfl⟩ := pinj e; clear e) | (obtain ⟨rfl, rfl, rfl⟩ := pinj3 e; clear e) | (obtain rfl := sinj e; clear e) | cases e)
      rw [List.forIn_nil]
      exact wpAny_pure (h s.heap s.toks .refl I F rfl)
    | cons r1 r =>
      rw [List.zip_cons_cons] at e ⊢
      unfold binds.go at e
      replace e := bnd e; obtain ⟨fm1, e1, e2⟩ := e
      rw [List.forIn_cons, hf]
      refine wpAny_bind (wpAny_bind (wpAny_mono (store_ok I F e1 r1) (fun _ s' hs => ?_) fun _ _ x => x))
      obtain ⟨g', ρ', h', tk, rfl, X1, I1, F1, n1, rfl, rfl⟩ := hs
      refine wpAny_pure (ih _ _ fm1 fm' _ Q I1 F1 r e2 fun h'' tk' X2 I2 F2 n2 => ?_)
      refine h h'' tk' (X1.trans ?_) I2 F2 (n2.trans n1)
      have : Xof env fm1 = Xof env fm := by funext a; unfold Xof; rw [n1]
      rw [← this]; exact X2

theorem frame_new {g : Frz} {ρ : Locs} {st : St} {s : Shared} {scope : Scope} {cl : List (Str × Addr)} {cap : List (Str × PV)} {params : List Str} {us : List Value} {args : List PV} {qual : Str} {func : Option Addr} {code : Value} {around : Option Env} {cd : Nat} {fm : Fm} {A : Around} {M : Model}
    {Q : Env → Shared → Prop} (I : Inv h₀ g ρ st s.heap) (hk : scope.kind = .function) (uq : ∀ x ∈ scope.names, scope.names.lookup x.1 = some x.2) (C : CapOk g ρ s.heap cl cap)
    (ncl : ∀ x c, cl.lookup x = some c → scope.names.lookup x = some .free) (hcd : cd ≠ 0 → around = none ∧ code = .ref cd ∧ qual = Str.ofString "_law_stream" ++ Str.ofString ".<locals>.") (hbl : ∀ o, around = some o → o.builtins = builtinsNs)
    (r : RpL g ρ us args) (e : binds.go ⟨scope.names, [], cap, false, cd⟩ (params.zip args) = some fm)
    (h : ∀ env h' tk, env.scope = scope → env.qual = qual → (∀ a, Xof env fm a → s.heap.objs.size ≤ a) → Ext noX g ρ s.heap g ρ h' → Inv h₀ g ρ st h' → FmOk g ρ h' env fm → fm.names = scope.names → (∀ x c, env.cells.lookup x = some c → scope.names.lookup x = some .cell ∨ cl.lookup x = some c) →
      (∀ o, s.heap.get? env.locals = some o → False) → Q env { s with heap := h', toks := tk }) :
    wpAny M A (newFunctionEnv scope mainGlobals cl (params.zip us) qual func code around builtinsNs) Q Fls s := by
  have hbl' : ∀ L cs, (newEnv scope L mainGlobals cs qual func code around builtinsNs).builtins = builtinsNs := fun L cs => by
    unfold newEnv; cases around with
    | none => rfl
    | some o => exact hbl o rfl
  unfold newFunctionEnv
  refine wpAny_bind (wpAny_alloc ?_)
  refine wpAny_bind (wpAny_layCells _ (fun name kind cells => by cases hkc : kind == NameKind.cell <;> simp [hkc]) _ _ _ _ ?_)
  dsimp only
  generalize hH : s.heap.push { cls := .type (if around.isSome = true then "dict" else "frame"), dict := none, data := .dict #[] } = H
  have hsz : H.objs.size = s.heap.objs.size + 1 := by rw [← hH, PySem.Heap.size_push]
  have old : ∀ a o, s.heap.get? a = some o → (pushCells H scope.names).get? a = some o := fun a o e => pushCells_keeps _ _ _ _ (hH ▸ PySem.Heap.get?_push_of_some _ e)
  have cs := cells_are scope.names H (s.heap.objs.size + 1) (fun _ => False) cl cl ⟨fun _ _ => rfl, fun _ f => f.elim, fun _ _ _ f => f.elim⟩ (by omega)
  have mem : ∀ x, (False ∨ (x, NameKind.cell) ∈ scope.names) ↔ scope.names.lookup x = some .cell := fun x => by
    constructor
    · rintro (f | m)
      · exact f.elim
      · exact uq _ m
    · intro e; exact .inr (mem_of_lookup e)
  generalize hE : newEnv scope s.heap.objs.size mainGlobals (cellsFrom H.objs.size scope.names cl) qual func code around builtinsNs = env
  have hEs : env.scope = scope := by rw [← hE]; unfold newEnv; cases around <;> rfl
  have hEl : env.locals = s.heap.objs.size := by rw [← hE]; unfold newEnv; cases around <;> rfl
  have hEc : env.cells = cellsFrom H.objs.size scope.names cl := by rw [← hE]; unfold newEnv; cases around <;> rfl
  have hEq : env.qual = qual := by rw [← hE]; unfold newEnv; cases around <;> rfl
  have hEg : env.globals = mainGlobals := by rw [← hE]; unfold newEnv; cases around <;> rfl
  have hEk : ∀ x, env.kindOf x = scope.names.lookup x := fun x => by unfold Env.kindOf; rw [hEs]
  have I1 : Inv h₀ g ρ st (pushCells H scope.names) := I.grown old
  have X1 : Ext noX g ρ s.heap g ρ (pushCells H scope.names) := Ext.grown fun a o e _ => old a o e
  have nL := I.new (Nat.le_refl s.heap.objs.size)
  have cell : ∀ x c, env.cells.lookup x = some c → (scope.names.lookup x = some .cell ∧ s.heap.objs.size + 1 ≤ c ∧ (pushCells H scope.names).IsCell c none) ∨ (scope.names.lookup x ≠ some .cell ∧ cl.lookup x = some c) := fun x c e => by
    rw [hEc] at e
    by_cases q : scope.names.lookup x = some .cell
    · obtain ⟨c', a, b, d⟩ := cs.own x ((mem x).mpr q)
      rw [a] at e; (first | exact nsome e | (obtain ⟨rfl, rfl⟩ := pinj e; clear e) | (obtain ⟨rfl, rfl, rfl⟩ := pinj3 e; clear e) | (obtain rfl := sinj e; clear e) | cases e)
      exact .inl ⟨q, b, d⟩
    · rw [cs.out x fun m => q ((mem x).mp m)] at e
      exact .inr ⟨q, e⟩
  have F1 : FmOk g ρ (pushCells H scope.names) env ⟨scope.names, [], cap, false, cd⟩ := by
    refine ⟨by rw [hEs]; exact hk, hEg, by rw [← hE]; exact hbl' _ _, fun x k e => ?_, ⟨fun _ => none, ?_, fun x pv e => by cases e⟩, fun x pv e => ?_, fun x e => ?_, fun x y c e1 e2 => ?_, ?_, fun x c e => ?_, fun _ x c e1 e2 => ?_, fun hc => ?_⟩
    · rw [hEk, e]
      cases k <;> simp [kindRel]
    · rw [hEl]
      refine PySem.Heap.Ns.keeps ?_ (pushCells_keeps scope.names H)
      rw [← hH]; exact PySem.Heap.Ns.new s.heap (.type _)
    · obtain ⟨c, v, a, b, d⟩ := C.val x pv e
      have hf := ncl x c a
      refine ⟨c, v, ?_, b.keeps old, d⟩
      rw [hEc, cs.out x fun m => by rw [(mem x).mp m] at hf; cases hf]
      exact a
    · obtain ⟨c, a, b, d⟩ := cs.own x ((mem x).mpr e)
      exact ⟨c, by rw [hEc]; exact a, _, d⟩
    · rcases cell x c e1 with ⟨a1, a2, a3⟩ | ⟨a1, a2⟩ <;> rcases cell y c e2 with ⟨b1, b2, b3⟩ | ⟨b1, b2⟩
      · rw [hEc] at e1 e2
        exact cs.inj x y c ((mem x).mpr a1) ((mem y).mpr b1) e1 e2
      · obtain ⟨_, _, v, ic⟩ := C.off y c b2
        exact absurd ic.lt (Nat.not_lt.mpr (Nat.le_of_succ_le a2))
      · obtain ⟨_, _, v, ic⟩ := C.off x c a2
        exact absurd ic.lt (Nat.not_lt.mpr (Nat.le_of_succ_le b2))
      · exact C.inj x y c a2 b2
    · rw [hEl]; exact nL
    · rcases cell x c e with ⟨a1, a2, a3⟩ | ⟨a1, a2⟩
      · have := I.new (x := c) (Nat.le_of_succ_le a2)
        exact ⟨this.1, this.2.1, _, a3⟩
      · obtain ⟨b1, b2, v, ic⟩ := C.off x c a2
        exact ⟨b1, b2, v, ic.keeps old⟩
    · rcases cell x c e2 with ⟨a1, a2, a3⟩ | ⟨a1, a2⟩
      · exact (I.new (x := c) (Nat.le_of_succ_le a2)).2.2
      · exact absurd e1 a1
    · obtain ⟨rfl, b, c⟩ := hcd hc
      exact ⟨by rw [← hE]; exact b, by rw [hEq]; exact c⟩
  have fresh : ∀ a, Xof env ⟨scope.names, [], cap, false, cd⟩ a → s.heap.objs.size ≤ a := fun a q => by
    rcases q with rfl | ⟨x, e1, e2⟩
    · rw [hEl]; exact Nat.le_refl _
    · rcases cell x a e2 with ⟨a1, a2, a3⟩ | ⟨a1, a2⟩
      · exact Nat.le_of_succ_le a2
      · exact absurd e1 a1
  have tail : wpAny M A (forIn (params.zip us) PUnit.unit (fun (x : Str × Value) (_ : PUnit) => (do storeName env x.1 x.2; pure (ForInStep.yield PUnit.unit) : Sem (ForInStep PUnit)))) (fun _ s' => Q env s') Fls { s with heap := pushCells H scope.names } := by
    refine bindAll _ (fun _ _ _ => rfl) params us args _ fm _ _ I1 F1 r e fun h' tk X2 I2 F2 n2 => ?_
    have fresh' : ∀ a, Xof env fm a → s.heap.objs.size ≤ a := fun a q => fresh a (by unfold Xof at q ⊢; rw [n2] at q; exact q)
    refine h env h' tk hEs hEq fresh' ?_ I2 F2 n2 (fun x c e => ?_) (fun o e => ?_)
    · refine ⟨.refl _, .refl _, fun a o e f t _ => X2.keep a o (X1.keep a o e f t id) f t fun q => ?_, fun a o e f t _ => ⟨f, rfl⟩⟩
      exact absurd (PySem.Heap.lt_size e) (Nat.not_lt.mpr (fresh a q))
    · rcases cell x c e with ⟨a1, _⟩ | ⟨_, a2⟩
      · exact .inl a1
      · exact .inr a2
    · rw [hEl] at e; exact absurd (PySem.Heap.lt_size e) (Nat.lt_irrefl _)
  subst hE
  cases around with
  | none => exact wpAny_bind (wpAny_mono tail (fun _ s' h => wpAny_pure h) fun _ _ x => x)
  | some o => exact wpAny_bind (wpAny_mono tail (fun _ s' h => wpAny_pure h) fun _ _ x => x)
end
end Mine
end
section
namespace Mine
open PySem PySem.W PyProof.Rows

section
variable {w : World} {K : Frag} {h₀ : Heap} {mg mb : Str → Option Value}

inductive FlOk (g : Frz) (ρ : Locs) : Flow → Fl → Prop where
  | nx : FlOk g ρ .next .nx
  | br : FlOk g ρ .brk .br
  | ct : FlOk g ρ .cont .ct
  | rt {u : Value} {v : PV} : Rp g ρ u v → FlOk g ρ (.ret u) (.rt v)

/-- what a block of statements leaves -/
noncomputable abbrev BA (h₀ : Heap) (env : Env) (fm : Fm) (g : Frz) (ρ : Locs) (s : Shared) (st' : St) (fl : Fl) (fm' : Fm) : Flow → Shared → Prop :=
  Ans h₀ (Xof env fm) g ρ s st' (fun g' ρ' h' f => FlOk g' ρ' f fl ∧ FmOk g' ρ' h' env fm' ∧ fm'.names = fm.names)

noncomputable def SndE (w : World) (h₀ : Heap) (r : Ev) (n : Nat) : Prop := ∀ (A : Around) (env : Env) (fm : Fm) (g : Frz) (ρ : Locs) (st st' : St) (s : Shared) (e : Expr) (v : PV), Room n A → Inv h₀ g ρ st s.heap → FmOk g ρ s.heap env fm → r.E fm st e = some (v, st') →
  wpAny (model TP w) A (eval e env) (EA h₀ g ρ s st' v) Fls s
noncomputable def SndT (w : World) (h₀ : Heap) (r : Ev) (n : Nat) : Prop := ∀ (A : Around) (env : Env) (fm : Fm) (g : Frz) (ρ : Locs) (st st' : St) (s : Shared) (e : Expr) (b : Bool), Room n A → Inv h₀ g ρ st s.heap → FmOk g ρ s.heap env fm → r.T fm st e = some (b, st') →
  wpAny (model TP w) A (isTrue e env (eval e env)) (Ans h₀ noX g ρ s st' fun _ _ _ c => c = b) Fls s
noncomputable def SndB (w : World) (h₀ : Heap) (r : Ev) (n : Nat) : Prop := ∀ (A : Around) (env : Env) (fm fm' : Fm) (g : Frz) (ρ : Locs) (st st' : St) (s : Shared) (b : List Stmt) (fl : Fl), Room n A → Inv h₀ g ρ st s.heap → FmOk g ρ s.heap env fm → r.B fm st b = some (fl, fm', st') →
  wpAny (model TP w) A (execs b env) (BA h₀ env fm g ρ s st' fl fm') Fls s
/-- what a callable is called with -/
noncomputable def CallsTo (w : World) (h₀ : Heap) (r : Ev) (n : Nat) (f : PV) : Prop := ∀ (A : Around) (g : Frz) (ρ : Locs) (st st' : St) (s : Shared) (u : Value) (us : List Value) (args : List PV) (v : PV), Room n A → Inv h₀ g ρ st s.heap → Rp g ρ u f → RpL g ρ us args → r.C f args st = some (v, st') →
  wpAny (model TP w) A (call u us) (EA h₀ g ρ s st' v) Fls s
structure Snd (w : World) (h₀ : Heap) (r : Ev) (n : Nat) : Prop where
  E : SndE w h₀ r n
  T : SndT w h₀ r n
  B : SndB w h₀ r n
  C : ∀ f, CallsTo w h₀ r n f

theorem EA.ext {g g₁ : Frz} {ρ ρ₁ : Locs} {s : Shared} {h₁ : Heap} {tk : Nat} {st' : St} {v : PV} {b : Value} {s' : Shared} (x : Ext noX g ρ s.heap g₁ ρ₁ h₁) (y : EA h₀ g₁ ρ₁ { s with heap := h₁, toks := tk } st' v b s') : EA h₀ g ρ s st' v b s' := Ans.then x y

noncomputable abbrev callR (Q : Value → Shared → Prop) : Result → Shared → Prop := fun res s' => match res with | .ok (.ret u) => Q u s' | .ok _ => False | .error _ => False

theorem runFn_ok (D : Gd w K h₀ mg mb) {r : Ev} {n : Nat} (H : Snd w h₀ r n) {A : Around} {g : Frz} {ρ : Locs} {st st' : St} {s : Shared} {a : Addr} {o : Obj} {fd : FuncData} {f : FnRec} {cap : List (Str × PV)} {us : List Value} {args : List PV} {v : PV}
    (R : Room (n + 1) A) (I : Inv h₀ g ρ st s.heap) (ho : s.heap.get? a = some o) (hd : o.data = .func fd) (hb : fd.body = .stmts f.body) (hs : fd.scope = f.scope) (hg : fd.globals = mainGlobals) (hbl : fd.builtins = builtinsNs) (hc : s.heap.CodeRec fd.code fd.qualname)
    (hk : f.scope.kind = .function) (hgen : f.scope.isGenerator = false) (hcor : f.scope.isCoroutine = false) (hbind : us.length = f.params.length → bindArgs fd ⟨us, []⟩ = pure (f.params.zip us)) (C : CapOk g ρ s.heap fd.closure cap)
    (ncl : ∀ x c, fd.closure.lookup x = some c → f.scope.names.lookup x = some .free) (uq : ∀ x ∈ f.scope.names, f.scope.names.lookup x.1 = some x.2) (hcd : f.code ≠ 0 → fd.code = .ref f.code ∧ fd.qualname = Str.ofString "_law_stream")
    (ra : RpL g ρ us args) (e : runFn r f cap args st = some (v, st')) : codeAny (model TP w) A (.call (.ref a) ⟨us, []⟩) (callR (EA h₀ g ρ s st' v)) s := by
  unfold runFn at e
  split at e
  · rename_i hl
    replace e := bnd e; obtain ⟨fm, e1, e2⟩ := e
    replace e2 := bnd e2; obtain ⟨⟨fl, fm', st1⟩, e3, e4⟩ := e2
    refine codeAny_call_function R.lim ho hd (by rw [hs]; exact hcor) (by rw [hs]; exact hgen) hb hc ?_
    rw [hbind (by rw [ra.length]; exact hl.symm), hs, hg, hbl]
    refine wpAny_pure (wpAny_mono (frame_new (h₀ := h₀) (st := st) (cap := cap) (cd := f.code) I hk uq C ncl (fun hne => ⟨rfl, (hcd hne).1, by rw [(hcd hne).2]⟩) (fun _ q => nomatch q) ra e1 (Q := fun env s₂ => s₂.heap.NoLimit ∧ codeAny (model TP w) A (.func f.body env) (callR (EA h₀ g ρ s st' v)) s₂) ?_) (fun _ _ x => x) fun _ _ x => x.elim)
    intro env h' tk hes heq fresh X1 I1 F1 n1 _ _
    refine ⟨D.nolimit.keeps I1.old, codeAny_func (wpAny_mono (H.B (A.deeper env) env fm fm' g ρ st st1 _ f.body fl (R.deeper env) I1 F1 e3) (fun fw s' hq => ?_) fun _ _ x => x.elim)⟩
    obtain ⟨g', ρ', h'', tk', rfl, X2, I2, fo, F2, n2⟩ := hq
    have X3 : Ext noX g ρ s.heap g' ρ' h'' := by
      refine ⟨X1.le.trans X2.le, X1.pre.trans X2.pre, fun b ob eb fb tb _ => X2.keep b ob (X1.keep b ob eb fb tb id) (X1.clean b ob eb fb tb id).1 tb fun q => absurd (PySem.Heap.lt_size eb) (Nat.not_lt.mpr (fresh b q)), fun b ob eb fb tb _ => ?_⟩
      obtain ⟨c1, c2⟩ := X1.clean b ob eb fb tb id
      obtain ⟨d1, d2⟩ := X2.clean b ob (X1.keep b ob eb fb tb id) c1 tb fun q => absurd (PySem.Heap.lt_size eb) (Nat.not_lt.mpr (fresh b q))
      exact ⟨d1, d2.trans c2⟩
    cases fo with
    | nx => (first | exact nsome e4 | (obtain ⟨rfl, rfl⟩ := pinj e4; clear e4) | (obtain ⟨rfl, rfl, rfl⟩ := pinj3 e4; clear e4) | (obtain rfl := sinj e4; clear e4) | cases e4); exact ⟨g', ρ', h'', tk', rfl, X3, I2, .d .none⟩
    | br => (first | exact nsome e4 | (obtain ⟨rfl, rfl⟩ := pinj e4; clear e4) | (obtain ⟨rfl, rfl, rfl⟩ := pinj3 e4; clear e4) | (obtain rfl := sinj e4; clear e4) | cases e4)
    | ct => (first | exact nsome e4 | (obtain ⟨rfl, rfl⟩ := pinj e4; clear e4) | (obtain ⟨rfl, rfl, rfl⟩ := pinj3 e4; clear e4) | (obtain rfl := sinj e4; clear e4) | cases e4)
    | rt ru => (first | exact nsome e4 | (obtain ⟨rfl, rfl⟩ := pinj e4; clear e4) | (obtain ⟨rfl, rfl, rfl⟩ := pinj3 e4; clear e4) | (obtain rfl := sinj e4; clear e4) | cases e4); exact ⟨g', ρ', h'', tk', rfl, X3, I2, ru⟩
  · (first | exact nsome e | (obtain ⟨rfl, rfl⟩ := pinj e; clear e) | (obtain ⟨rfl, rfl, rfl⟩ := pinj3 e; clear e) | (obtain rfl := sinj e; clear e) | cases e)

theorem CapOk.nil {g : Frz} {ρ : Locs} {h : Heap} : CapOk g ρ h [] [] := ⟨fun _ _ e => (nomatch e), fun _ _ e => (nomatch e), fun _ _ _ e => (nomatch e)⟩

/-- a function of the module -/
theorem fn_ok (D : Gd w K h₀ mg mb) {r : Ev} {n : Nat} (H : Snd w h₀ r n) {A : Around} {g : Frz} {ρ : Locs} {st st' : St} {s : Shared} {a : Addr} {f : FnRec} {us : List Value} {args : List PV} {v : PV}
    (R : Room (n + 1) A) (I : Inv h₀ g ρ st s.heap) (hf : fnTab a = some f) (ra : RpL g ρ us args) (e : runFn r f [] args st = some (v, st')) : codeAny (model TP w) A (.call (.ref a) ⟨us, []⟩) (callR (EA h₀ g ρ s st' v)) s := by
  obtain ⟨o, fd, F⟩ := D.fns a f hf
  refine runFn_ok D H R I (I.old _ _ F.at_) F.data F.body F.scope F.gl F.bl ?_ F.kind F.gen F.cor (fun h => F.bind us h) (by rw [F.closure]; exact .nil) (fun x c q => by rw [F.closure] at q; cases q) F.uniq F.code ra e
  exact F.crec.keeps I.old

theorem clo_ok (D : Gd w K h₀ mg mb) {r : Ev} {n : Nat} (H : Snd w h₀ r n) {A : Around} {g : Frz} {ρ : Locs} {st st' : St} {s : Shared} {u : Value} {f : FnRec} {cap : List (Str × PV)} {us : List Value} {args : List PV} {v : PV}
    (R : Room (n + 1) A) (I : Inv h₀ g ρ st s.heap) (hf : Rp g ρ u (.clo f cap)) (ra : RpL g ρ us args) (e : runFn r f cap args st = some (v, st')) : wpAny (model TP w) A (call u us) (EA h₀ g ρ s st' v) Fls s := by
  cases hf with
  | @clo a _ _ fd o cv e1 c1 d1 dt cf cr ap fz cl rv =>
    obtain ⟨q, hp, hbd⟩ := cf.one
    have ok := cf.ok
    unfold okScope at ok
    simp only [Bool.and_eq_true, beq_iff_eq, Bool.not_eq_true', List.all_eq_true] at ok
    obtain ⟨⟨⟨ok1, ok2⟩, ok3⟩, ok4⟩ := ok
    refine wpAny_call (codeAny_mono (runFn_ok D H R I (I.sub _ _ e1) dt cf.body cf.scope cf.gl cf.bl (cr _ I.sub) ok1 ok2 ok3 (fun hl => ?_) ⟨fun x pv q => ?_, fun x c q => ?_, fun x y c q1 q2 => ap x y c q1 q2⟩ cf.ncl (fun x hx => (ok4 x hx).2) (fun hne => absurd cf.code hne) ra e) fun res s' z => ?_)
    · rw [hp] at hl ⊢
      obtain ⟨z, rfl⟩ : ∃ z, us = [z] := by
        cases us with
        | nil => cases hl
        | cons z t => cases t with
          | nil => exact ⟨z, rfl⟩
          | cons _ _ => simp at hl
      exact hbd z
    · obtain ⟨c, oc, a1, a2, a3⟩ := cl x pv q
      exact ⟨c, cv x, a1, ⟨oc, I.sub _ _ a2, a3⟩, rv x pv q⟩
    · obtain ⟨oc, v, a1, a2⟩ := fz x c q
      refine ⟨fun ff => ?_, ?_, v, oc, I.sub _ _ a1, a2⟩
      · rw [(I.off c ff).1] at a1; cases a1
      · rintro rfl; rw [I.gtab] at a1; cases a1
    · rcases res with e | (v | _ | _ | _) <;> first | exact z | exact z.elim
end
end Mine
end
section
namespace Mine
open PySem PySem.W PyProof.Rows

/-! An iterator over a method. -/
theorem owner_citer : Manifest.owners.lookup (String.ofList "callable_iterator".toList.reverse.reverse) = Manifest.owners.lookup "callable_iterator" := by kernel_rfl
theorem slot_citer_next : Slot "callable_iterator" "__next__" "callable_iterator.__next__" :=
  .of (owner := "callable_iterator") (n := "__next__") (by rw [typeLookup_type, builtinLookup_eq_fast]; kernel_rfl) (by decide +kernel) (by decide +kernel) (by decide +kernel)
    (by first | exact .inl (by decide +kernel) | exact .inr (by decide +kernel)) (by rw [isSubtype_type]; kernel_rfl)
theorem entry_citer_next : entryFor table "callable_iterator.__next__" = some Builtin.«callable_iterator.__next__» := by first | exact entryFor_of_tree (by kernel_rfl) | exact entryFor_of_fast (by kernel_rfl)
theorem args_citer_next (a : Value) : argsOk "callable_iterator.__next__" ⟨[a], []⟩ := by unfold argsOk; kernel_rfl
theorem slot_citer_iter : Slot "callable_iterator" "__iter__" "callable_iterator.__iter__" :=
  .of (owner := "callable_iterator") (n := "__iter__") (by rw [typeLookup_type, builtinLookup_eq_fast]; kernel_rfl) (by decide +kernel) (by decide +kernel) (by decide +kernel)
    (by first | exact .inl (by decide +kernel) | exact .inr (by decide +kernel)) (by rw [isSubtype_type]; kernel_rfl)
theorem entry_citer_iter : entryFor table "callable_iterator.__iter__" = some Builtin.«dict_keyiterator.__iter__» :=
  entryFor_alias (id' := "dict_keyiterator.__iter__") (by kernel_rfl) (by first | rfl | decide +kernel | (unfold String.splitOn; simp +decide [String.splitOnAux])) (by decide +kernel) (by kernel_rfl)
theorem args_citer_iter (a : Value) : argsOk "callable_iterator.__iter__" ⟨[a], []⟩ := by unfold argsOk; kernel_rfl
theorem args_iter2 (a b : Value) : argsOk "iter" ⟨[a, b], []⟩ := by unfold argsOk; kernel_rfl
theorem callBorrowed_eq (f : Value) (pos : List Value) : callBorrowed f pos = (call f pos).keep [borrowed] := by
  unfold callBorrowed call runValue run
  simp only [Sem.keep, bind, Sem.bind, pure]
  congr 1
  funext r
  rcases r with e | (v | _ | _ | _) <;> rfl

section
variable {prog : Program} {w : World} {A : Around} {E : Value → Shared → Prop} {s : Shared}
theorem pyIter_citer {it : Addr} {Q : Value → Shared → Prop} (hT : s.TypeIs (.ref it) "callable_iterator") (h : Q (.ref it) s) : wpAny (model prog w) A (pyIter (.ref it)) Q E s := by
  refine wpAny_pyIter_slot hT slot_citer_iter (wpAny_call_entry slot_citer_iter hT entry_citer_iter ?_ (args_citer_iter _))
  show wpAny _ _ (ret (.ref it)) _ _ s
  exact wpAny_pure ⟨_, rfl, "callable_iterator", _, hT, slot_citer_next.lookup, h⟩

theorem borrows_meth {q f : Addr} {self : Value} {o : Obj} {fd : FuncData} {Q : Bool → Shared → Prop} (hq : s.heap.get? q = some (methodObj (.ref f) self)) (ho : s.heap.get? f = some o) (hd : o.data = .func fd) (h : Q true s) : wpAny (model prog w) A (borrowsExactly (.ref q)) Q E s := by
  unfold borrowsExactly
  refine wpAny_bind (wpAny_load hq ?_)
  dsimp only [methodObj]
  refine wpAny_bind (wpAny_load ho ?_)
  rw [hd]
  exact wpAny_pure h
theorem callable_meth {q f : Addr} {self : Value} {Q : Option Value → Shared → Prop} (hq : s.heap.get? q = some (methodObj (.ref f) self)) (h : ∀ v, Q (some v) s) : wpAny (model prog w) A (specialOf (.ref q) "__call__") Q E s := by
  refine wpAny_specialOf (T := "method") ⟨_, hq, rfl⟩ (name := "__call__") (r := some (.builtin "method.__call__")) (by rw [typeLookup_type, builtinLookup_eq_fast]; kernel_rfl) (h _)
theorem call_iter2 {q f : Addr} {self : Value} {x : Str} {t : Tok} {Q : Value → Shared → Prop} (hq : s.heap.get? q = some (methodObj (.ref f) self))
    (h : Q (.ref s.heap.objs.size) { s with heap := s.heap.push { cls := .type "callable_iterator", data := .fields #[.ref q, .str x t, .bool false] } }) :
    wpAny (model prog w) A (call (.builtin "iter") [.ref q, .str x t]) Q E s := by
  refine Calls.call_function_entry (by decide +kernel) (by decide +kernel) kdk_entry_iter (args_iter2 _ _) ?_
  unfold Builtin.«iter»
  refine wpAny_bind (m := someArgs "iter" 1 2 _) (wpAny_of_eq (a := [Value.ref q, Value.str x t]) (by first | rfl | kernel_rfl!) ?_)
  dsimp only
  refine wpAny_bind (callable_meth hq fun v => ?_)
  simp only [Option.isNone_some, Bool.false_eq_true, if_false]
  refine wpAny_bind (wpAny_rule ?_)
  show wpAny _ _ (newObj (.type "callable_iterator") (.fields #[.ref q, .str x t, .bool false]) none >>= _) _ _ s
  exact wpAny_bind (wpAny_newObj_type (wpAny_pure ⟨_, rfl, h⟩) (by size_fits))
end
end Mine
end
section
set_option maxRecDepth 100000
namespace Mine
open PySem PySem.W PyProof.Rows

theorem fn_ga : typeLookup (.type "function") "__getattribute__" = pure (some (.builtin "object.__getattribute__")) := by rw [typeLookup_type, builtinLookup_eq_fast]; kernel_rfl
theorem fn_gattr : typeLookup (.type "function") "__getattr__" = pure none := by rw [typeLookup_type, builtinLookup_eq_fast]; kernel_rfl
theorem fn_read : typeLookup (.type "function") (Str.ofString "read") = pure none := by rw [typeLookup_type, builtinLookup_eq_fast]; kernel_rfl
theorem slot_fn_ga : Slot "function" "__getattribute__" "object.__getattribute__" :=
  .of (owner := "object") (n := "__getattribute__") (by rw [typeLookup_type, builtinLookup_eq_fast]; kernel_rfl) (by decide +kernel) (by decide +kernel) (by decide +kernel)
    (by first | exact .inl (by decide +kernel) | exact .inr (by decide +kernel)) (by rw [isSubtype_type]; kernel_rfl)
theorem entry_ga : entryFor table "object.__getattribute__" = some Builtin.«object.__getattribute__» := by first | exact entryFor_of_tree (by kernel_rfl) | exact entryFor_of_fast (by kernel_rfl)
theorem args_ga (a b : Value) : argsOk "object.__getattribute__" ⟨[a, b], []⟩ := by unfold argsOk; kernel_rfl

section
variable {prog : Program} {w : World} {A : Around} {E : Value → Shared → Prop} {s : Shared}
theorem fn_get_own {a d : Addr} {fd : FuncData} {o : Obj} {v : Value} {Q : Value → Shared → Prop} (e1 : s.heap.get? a = some ({ cls := .type "function", dict := some d, data := .func fd } : Obj)) (e2 : s.heap.get? d = some o) (e3 : lookIn (Str.ofString "read") o = some (some v)) (hh : handedIn v = true)
    (h : Q v { s with toks := s.toks + 1 }) : wpAny (model prog w) A (getAttr (.ref a) (Str.ofString "read")) Q E s := by
  have hT : s.TypeIs (.ref a) "function" := ⟨_, e1, rfl⟩
  have hT' : ({ s with toks := s.toks + 1 } : Shared).TypeIs (.ref a) "function" := ⟨_, e1, rfl⟩
  unfold getAttr getAttrBy
  refine wpAny_bind (wpAny_mkText (wpAny_holding (wpAny_bind (wpAny_typeOf hT' ?_))))
  refine wpAny_bind (wpAny_of_eq fn_ga ?_)
  dsimp only
  rw [if_neg (by decide)]
  unfold getAttrByItsOwn
  refine wpAny_bind (m := hookBefore _) (wpAny_of_eq (a := none) rfl ?_)
  refine wpAny_bind (wpAny_attempt (wpAny_holding ?_))
  show wpAny _ _ (boundAndCalled (.builtin "object.__getattribute__") (.ref a) (.str (Str.ofString "read") s.toks)) _ _ _
  unfold boundAndCalled
  rw [slot_fn_ga.bind]
  refine wpAny_bind (wpAny_pure ?_)
  refine wpAny_call_entry slot_fn_ga hT' entry_ga ?_ (args_ga _ _)
  show wpAny _ _ (typeOf (.ref a) >>= _) _ _ _
  refine wpAny_bind (wpAny_typeOf hT' ?_)
  unfold Builtin.ObjectAttr.find
  refine wpAny_bind (wpAny_bind (wpAny_of_eq fn_read ?_))
  refine wpAny_bind (m := Builtin.ObjectAttr.getOf none) (wpAny_pure ?_)
  refine wpAny_bind (m := Builtin.ObjectAttr.dataDescriptor? none none) (wpAny_pure ?_)
  dsimp only
  unfold Builtin.ObjectAttr.ownThenClass
  refine wpAny_bind (m := Builtin.ObjectAttr.inOwnDict _ _) ?_
  show wpAny _ _ (Builtin.ObjectAttr.ownDict a >>= fun x => Builtin.ObjectAttr.inDict (Str.ofString "read") x) _ _ _
  unfold Builtin.ObjectAttr.ownDict loadHead instanceDict
  refine wpAny_bind (wpAny_bind (wpAny_loadPart (s := { s with toks := s.toks + 1 }) e1 ?_))
  dsimp only
  refine wpAny_bind (wpAny_loadPart (s := { s with toks := s.toks + 1 }) e1 ?_)
  dsimp only
  refine wpAny_pure ?_
  show wpAny _ _ (nsGet d (Str.ofString "read")) _ _ _
  unfold nsGet
  refine wpAny_bind (wpAny_loadPart (s := { s with toks := s.toks + 1 }) e2 ?_)
  rw [nsLook_of e3]
  refine wpAny_pure ?_
  dsimp only
  refine wpAny_bind (wpAny_rule (wpAny_pure ?_))
  dsimp only
  refine wpAny_pure ⟨_, rfl, ?_⟩
  rw [handedOut_of hh]
  exact wpAny_pure h

theorem fn_method_own {a d : Addr} {fd : FuncData} {o : Obj} {v : Value} {pl : Sem Bool} {Q : Value × List Value → Shared → Prop} (e1 : s.heap.get? a = some ({ cls := .type "function", dict := some d, data := .func fd } : Obj)) (e2 : s.heap.get? d = some o) (e3 : lookIn (Str.ofString "read") o = some (some v)) (hh : handedIn v = true)
    (h : Q (v, []) { s with toks := s.toks + 1 }) : wpAny (model prog w) A (getMethod (.ref a) (Str.ofString "read") pl) Q E s := by
  have hT : s.TypeIs (.ref a) "function" := ⟨_, e1, rfl⟩
  unfold getMethod
  refine wpAny_bind (wpAny_specialOf hT fn_ga ?_)
  dsimp only
  rw [PySem.F.canon_object_ga, if_neg (by decide)]
  refine wpAny_bind (wpAny_specialOf hT fn_gattr ?_)
  refine wpAny_bind (wpAny_specialOf hT fn_read ?_)
  refine wpAny_bind (fn_get_own e1 e2 e3 hh ?_)
  exact wpAny_pure h
end
end Mine
end
section
set_option maxRecDepth 100000
namespace Mine
open PySem PySem.W PyProof.Rows

theorem fn_sa : typeLookup (.type "function") "__setattr__" = pure (some (.builtin "object.__setattr__")) := by rw [typeLookup_type, builtinLookup_eq_fast]; kernel_rfl
theorem slot_fn_sa : Slot "function" "__setattr__" "object.__setattr__" :=
  .of (owner := "object") (n := "__setattr__") (by rw [typeLookup_type, builtinLookup_eq_fast]; kernel_rfl) (by decide +kernel) (by decide +kernel) (by decide +kernel)
    (by first | exact .inl (by decide +kernel) | exact .inr (by decide +kernel)) (by rw [isSubtype_type]; kernel_rfl)
theorem fn_mro : fastBuiltinMro "function" = some [.type "function", .type "object"] := by kernel_rfl
theorem fn_own : classOwn (.type "function") (Str.ofString "__setattr__") = pure none := by kernel_rfl
theorem fn_refuse (self : Value) : PySem.refuseLoop self "__setattr__" [.type "function", .type "object"] = pure () := by
  have h := PySem.F.store_object.passes self
  unfold PySem.refuseLoop at h ⊢
  rw [List.forIn_cons]
  dsimp only
  rw [if_neg (by decide), if_neg (by decide), fn_own]
  exact h
theorem fn_mroOf : mroOf (.type "function") = pure [.type "function", .type "object"] := by kernel_rfl
section
variable {prog : Program} {w : World} {A : Around} {E : Value → Shared → Prop} {s : Shared}
theorem fn_set_own {a : Addr} {fd : FuncData} {v : Value} {Q : Unit → Shared → Prop} (e1 : s.heap.get? a = some ({ cls := .type "function", data := .func fd } : Obj))
    (h : ∀ h' es n tk hs, es = [(⟨hs, .str (Str.ofString "read") tk, v⟩ : DictEntry)] → (∀ b o, b ≠ a → s.heap.get? b = some o → h'.get? b = some o) → h'.get? s.heap.objs.size = some (dictOf es n) → h'.get? a = some ({ cls := .type "function", dict := some s.heap.objs.size, data := .func fd } : Obj) → Q () { s with heap := h', toks := s.toks + 2 }) :
    wpAny (model prog w) A (setAttr (.ref a) (Str.ofString "read") v) Q E s := by
  have hT : s.TypeIs (.ref a) "function" := ⟨_, e1, rfl⟩
  have hT' : ({ s with toks := s.toks + 1 } : Shared).TypeIs (.ref a) "function" := ⟨_, e1, rfl⟩
  unfold setAttr
  refine wpAny_bind (wpAny_mkText (wpAny_bind (wpAny_callSpecial?_slot hT' slot_fn_sa (wpAny_call_entry slot_fn_sa hT' PySem.F.entry_object_sa ?_ (PySem.F.store_object.args _ _ _)))))
  rw [osa_eq, refuse_eq]
  refine wpAny_bind (wpAny_bind (wpAny_typeOf hT' (wpAny_bind (wpAny_of_eq fn_mroOf ?_))))
  rw [fn_refuse]
  refine wpAny_pure (wpAny_bind (wpAny_typeOf hT' (wpAny_bind (wpAny_of_eq fn_read ?_))))
  refine wpAny_bind (m := Builtin.ObjectAttr.storeTaker? none) (wpAny_pure ?_)
  dsimp only
  unfold Builtin.ObjectAttr.storeInOwnDict
  refine wpAny_bind (m := ownStreamTells _ _) (wpAny_of_eq (a := ()) (by first | rfl | kernel_rfl) ?_)
  rw [if_neg (by decide)]
  refine wpAny_bind (m := Builtin.ObjectAttr.ownDictForStores _) ?_
  show wpAny _ _ (instanceDict a true) _ _ _
  unfold instanceDict
  refine wpAny_bind (wpAny_loadPart (s := { s with toks := s.toks + 1 }) e1 ?_)
  dsimp only
  rw [if_neg (by first | decide +kernel | kernel_rfl)]
  have b1 := PySem.Heap.get?_push_of_some ({ cls := .type "dict", data := .dict #[] } : Obj) e1
  refine wpAny_bind (wpAny_alloc (wpAny_bind (wpAny_update (s := { s with heap := s.heap.push { cls := .type "dict", data := .dict #[] }, toks := s.toks + 1 }) b1 ?_)))
  have ne : a ≠ s.heap.objs.size := Nat.ne_of_lt (PySem.Heap.lt_size e1)
  have b2 := PySem.Heap.get?_update_self (fun o : Obj => { o with dict := some s.heap.objs.size }) b1 rfl
  have b3 := (PySem.Heap.get?_update_other (s.heap.push ({ cls := .type "dict", data := .dict #[] } : Obj)) (fun o : Obj => { o with dict := some s.heap.objs.size }) ne).trans (PySem.Heap.get?_push_size s.heap rfl)
  refine wpAny_of_eq (a := some s.heap.objs.size) (by first | rfl | kernel_rfl) ?_
  dsimp only
  unfold Builtin.ObjectAttr.storeInDict
  refine wpAny_bind (m := Builtin.ObjectAttr.newKeyGuard _ _ _) (wpAny_pure (wpAny_bind ?_))
  unfold nsSet
  refine wpAny_bind (wpAny_bind (wpAny_askSetting (wpAny_pure (wpAny_bind (wpAny_mkText (wpAny_bind (wpAny_loadPart b3 ?_)))))))
  dsimp only
  rw [aRefKeyMayBeTheName_at, show (!(#[] : Array DictEntry).any (·.key.isStr (Str.ofString "read")) && (#[] : Array DictEntry).any (·.refKey)) = false by simp]
  refine wpAny_updatePart b3 ?_
  have b4 := PySem.Heap.get?_update_self (Obj.putName (Str.ofString "read") (PyData.keyHash w.params (Str.ofString "read")) (.str (Str.ofString "read") (s.toks + 1)) v) b3 (by rw [show ({ cls := .type "dict", data := .dict #[] } : Obj) = dictOf [] 0 from rfl, putName_dict]; rfl)
  rw [show ({ cls := .type "dict", data := .dict #[] } : Obj) = dictOf [] 0 from rfl, putName_dict] at b4
  refine wpAny_bind (wpAny_lookBehind b4 (pastItsLine_dict (by rw [List.size_toArray]; show 1 ≤ _; decide)) ?_)
  refine wpAny_pure ⟨_, rfl, wpAny_pure ?_⟩
  refine h _ _ _ _ _ rfl (fun b o q e => ?_) b4 ((PySem.Heap.get?_update_other _ _ ne.symm).trans b2)
  have c : b ≠ s.heap.objs.size := Nat.ne_of_lt (PySem.Heap.lt_size e)
  exact (PySem.Heap.get?_update_other _ _ (Ne.symm c)).trans ((PySem.Heap.get?_update_other _ _ (Ne.symm q)).trans (PySem.Heap.get?_push_of_some _ e))
end
end Mine
end
section
namespace Mine
open PySem PySem.W PyProof.Rows

theorem Room.in1 {n : Nat} {A : Around} (R : Room (n + 1) A) : Room n A.in1 := ⟨R.hd, by have := R.depth; show A.depth + _ < _; omega, by have := R.units; show A.units + 1 + _ + _ < _; omega⟩

theorem stop_now {prog : Program} {w : World} {A : Around} {s : Shared} {α : Type} {Q : α → Shared → Prop} {E : Value → Shared → Prop} (hh : A.handled = none)
    (h : ∀ h', (∀ b o, s.heap.get? b = some o → h'.get? b = some o) → ∀ e, (∃ o, h'.get? e = some o ∧ o.cls = .type "StopIteration") → E (.ref e) { s with heap := h' }) : wpAny (model prog w) A (Builtin.SmallTypes.stopIteration : Sem α) Q E s := by
  show wpAny _ _ (newExc (.type "StopIteration") [] >>= _) _ _ _
  refine wpAny_bind ?_
  simp only [newExc, newTuple]
  refine wpAny_bind (wpAny_newObj_type ?_ (by size_fits))
  refine wpAny_bind (m := firstArgMember _ _) (wpAny_of_eq (a := Value.none) (by first | rfl | (simp only [firstArgMember]; rfl)) ?_)
  refine wpAny_newObj_type ?_ (by size_fits)
  unfold raiseNew
  refine wpAny_bind (wpAny_handled ?_)
  rw [hh]
  refine wpAny_bind (wpAny_pure (wpAny_throw ?_))
  exact h _ (fun b o e => PySem.Heap.get?_push_of_some _ (PySem.Heap.get?_push_of_some _ e)) _ ⟨_, PySem.Heap.get?_push_size _ rfl, rfl⟩

section
variable {w : World} {K : Frag} {h₀ : Heap} {mg mb : Str → Option Value}

noncomputable def NextOk (g : Frz) (ρ : Locs) : Option PV → Option Value → Prop
  | none, none => True
  | some v, some u => Rp g ρ u v
  | _, _ => False

theorem next_ok (D : Gd w K h₀ mg mb) {r : Ev} {n : Nat} (H : Snd w h₀ r n) {A : Around} {g : Frz} {ρ : Locs} {st st' : St} {s : Shared} {q : Nat} {p : Addr × Addr} {x : Option PV} (R : Room (n + 1) A) (I : Inv h₀ g ρ st s.heap) (hq : ρ[q]? = some p) (e : nextC r q st = some (x, st')) :
    wpAny (model TP w) A (pyNext (.ref p.1)) (Ans h₀ noX g ρ s st' fun g' ρ' _ ov => NextOk g' ρ' x ov) Fls s := by
  obtain ⟨m, hs, e⟩ := bnd e
  cases m <;> first | exact nsome e | skip
  · rename_i f o
    replace e := ifs_of e
    obtain ⟨hf, e⟩ := e
    replace e := bnd e
    obtain ⟨⟨v, st1⟩, e1, e⟩ := e
    replace e := bnd e
    obtain ⟨sx, e2, e⟩ := e
    replace e := bnd e
    obtain ⟨⟨f', o'⟩, e3, e⟩ := e
    replace e3 := bnd e3
    obtain ⟨mo, hs1, e3⟩ := e3
    obtain rfl := moC_of e3
    clear e3
    obtain ⟨a, m, p', y, t, rfl, m1, m2, m3, m4⟩ := matF (I.mat _ _ _ hq hs)
    have hT : s.TypeIs (.ref a) "callable_iterator" := ⟨_, m1, rfl⟩
    obtain ⟨ff, hff⟩ := Option.isSome_iff_exists.mp hf
    obtain ⟨of, fd, F⟩ := D.fns f ff hff
    clear hff hf hs
    unfold pyNext
    refine wpAny_bind (wpAny_attempt (wpAny_callSpecial?_slot (name := Str.ofString "__next__") hT slot_citer_next (wpAny_call_entry slot_citer_next hT entry_citer_next ?_ (args_citer_next _))))
    clear hT
    show wpAny _ _ (field (.ref a) 2 >>= _) _ _ s
    refine wpAny_bind (wpAny_field m1 rfl (x := .bool false) rfl ?_)
    show wpAny _ _ (field (.ref a) 0 >>= _) _ _ s
    refine wpAny_bind (wpAny_field m1 rfl (x := .ref m) rfl ?_)
    unfold callOutOfASlot
    refine wpAny_bind (wpAny_attempt (wpAny_bind (borrows_meth (I.sub _ _ m3) (I.old _ _ F.at_) F.data ?_)))
    rw [if_pos rfl, callBorrowed_eq]
    refine Calls.wpAny_keep (wpAny_mono (H.C (.meth f o) A.in1 g ρ st st1 s (.ref m) [] [] v R.in1 I (.meth m3 m4) .nil e1) (fun u s' hs' => ?_) fun _ _ z => z.elim)
    clear m1 m2 m3 m4 F e1 H
    obtain ⟨g1, ρ1, h1, tk1, rfl, X1, I1, ru⟩ := hs'
    obtain ⟨tu, rfl⟩ := strR e2 ru
    have hq1 : ρ1[q]? = some (a, a) := X1.pre _ _ hq
    obtain ⟨_, m', p'', y', t', e7, n1, n2, n3, n4⟩ := matF (I1.mat _ _ _ hq1 hs1)
    obtain rfl := (Prod.mk.inj e7).1
    clear e7 I hq
    show wpAny _ _ (field (.ref a) 2 >>= _) _ _ _
    refine wpAny_bind (wpAny_field n1 rfl (x := .bool false) rfl ?_)
    show wpAny _ _ (field (.ref a) 1 >>= _) _ _ _
    refine wpAny_bind (wpAny_field n1 rfl (x := .str y' t') rfl ?_)
    show wpAny _ _ (holding _ (eqBool (.str y' t') (.str sx tu)) >>= _) _ _ _
    refine wpAny_bind (wpAny_holding (wpAny_eqBool_str ?_))
    replace e := ifs_of e
    obtain ⟨hf', e⟩ := e
    replace e := ite_of e
    cases e with
    | t c e =>
      obtain ⟨rfl, rfl⟩ := pinj e
      rw [decide_eq_true (show y' = sx from congrArg mkS (n2.trans c.symm))]
      clear e c e2 ru
      obtain ⟨ff', hff'⟩ := Option.isSome_iff_exists.mp hf'
      obtain ⟨of', fd', F'⟩ := D.fns f' ff' hff'
      refine wpAny_bind (wpAny_rule (wpAny_bind ?_))
      show wpAny _ _ (field (.ref a) 0 >>= _) _ _ _
      refine wpAny_bind (wpAny_field n1 rfl (x := .ref m') rfl ?_)
      unfold slotLetsGo
      refine wpAny_bind (wpAny_bind (borrows_meth (I1.sub _ _ n3) (I1.old _ _ F'.at_) F'.data ?_))
      clear F' hff' hf' n2 n3 n4
      rw [if_pos rfl]
      refine wpAny_pure ?_
      refine wpAny_bind (wpAny_setField n1 rfl (by simp) ?_)
      have b1 := PySem.Heap.get?_update_self (Obj.mapFields (·.setIfInBounds 0 Value.none)) n1 rfl
      refine wpAny_bind (wpAny_setField b1 rfl (by simp) ?_)
      have b2 := PySem.Heap.get?_update_self (Obj.mapFields (·.setIfInBounds 1 Value.none)) b1 rfl
      refine wpAny_setField b2 rfl (by simp) ?_
      have b3 := PySem.Heap.get?_update_self (Obj.mapFields (·.setIfInBounds 2 (Value.bool true))) b2 rfl
      refine stop_now (show A.in1.handled = none from R.hd) fun h' k e he => ?_
      obtain ⟨oe, he1, he2⟩ := he
      refine wpAny_bind (wpAny_isInstance (T := "StopIteration") (b := true) ⟨oe, he1, he2⟩ isSubtype_stop ?_)
      have kk : ∀ b o, b ≠ a → b ≠ a → h1.get? b = some o → h'.get? b = some o := fun b o q _ e => k b o ((PySem.Heap.get?_update_other _ _ (Ne.symm q)).trans ((PySem.Heap.get?_update_other _ _ (Ne.symm q)).trans ((PySem.Heap.get?_update_other _ _ (Ne.symm q)).trans e)))
      exact wpAny_pure ⟨g1, ρ1, h', tk1, rfl, X1.trans (Ext.setAt hq1 kk), I1.setAt hq1 kk (.done (k _ _ b3)), trivial⟩
    | f c e =>
      obtain ⟨rfl, rfl⟩ := pinj e
      rw [decide_eq_false fun h : y' = sx => c (h ▸ n2)]
      exact wpAny_pure ⟨_, rfl, wpAny_pure ⟨g1, ρ1, h1, tk1, rfl, X1, I1, ru⟩⟩
  · obtain ⟨rfl, rfl⟩ := pinj e
    obtain ⟨a, u, v, rfl, m1⟩ := matF (I.mat _ _ _ hq hs)
    have hT : s.TypeIs (.ref a) "callable_iterator" := ⟨_, m1, rfl⟩
    unfold pyNext
    refine wpAny_bind (wpAny_attempt (wpAny_callSpecial?_slot (name := Str.ofString "__next__") hT slot_citer_next (wpAny_call_entry slot_citer_next hT entry_citer_next ?_ (args_citer_next _))))
    show wpAny _ _ (field (.ref a) 2 >>= _) _ _ s
    refine wpAny_bind (wpAny_field m1 rfl (x := .bool true) rfl ?_)
    refine wpAny_bind (wpAny_rule (wpAny_bind (stop_now (show A.in1.handled = none from R.hd) fun h' k e he => ?_)))
    obtain ⟨oe, he1, he2⟩ := he
    refine wpAny_bind (wpAny_isInstance (T := "StopIteration") (b := true) ⟨oe, he1, he2⟩ isSubtype_stop ?_)
    exact wpAny_pure ⟨g, ρ, h', s.toks, rfl, Ext.grown fun a o e _ => k a o e, I.grown k, trivial⟩
end
end Mine
end
section
namespace Mine
open PySem PySem.W PyProof.Rows

section
variable {w : World} {K : Frag} {h₀ : Heap} {mg mb : Str → Option Value}

theorem Room.typeCall {n : Nat} {A : Around} (R : Room (n + 1) A) (C : Addr) (rest : List Value) : Room n (A.under (.builtin "type.__call__" ⟨.ref C :: rest, []⟩)) := by
  have hw : (Code.builtin "type.__call__" ⟨.ref C :: rest, []⟩).weight = 1 := by kernel_rfl
  have hu : (Code.builtin "type.__call__" ⟨.ref C :: rest, []⟩).cUnits = 1 := by kernel_rfl
  refine ⟨R.hd, ?_, ?_⟩
  · have := R.depth; show A.depth + _ + _ < _; rw [hw]; omega
  · have := R.units; show A.units + _ + _ + _ < _; rw [hu]; omega

/-- a plain call -/
theorem fnC_ok (D : Gd w K h₀ mg mb) {r : Ev} {n : Nat} (H : Snd w h₀ r n) {a : Addr} {A : Around} {g : Frz} {ρ : Locs} {st st' : St} {s : Shared} {us : List Value} {args : List PV} {v : PV} (R : Room (n + 1) A) (I : Inv h₀ g ρ st s.heap) (ra : RpL g ρ us args)
    (e : ((fnTab a).bind fun f => runFn r f [] args st) = some (v, st')) : wpAny (model TP w) A (call (.ref a) us) (EA h₀ g ρ s st' v) Fls s := by
  obtain ⟨ff, hff, e⟩ := bnd e
  exact wpAny_call (codeAny_mono (fn_ok D H R I hff ra e) fun res s' z => by rcases res with e | (v | _ | _ | _) <;> first | exact z | exact z.elim)
theorem new_ok (D : Gd w K h₀ mg mb) {r : Ev} {n : Nat} (H : Snd w h₀ r n) {a i : Addr} (hi : clsInit a = some i) {A : Around} {g : Frz} {ρ : Locs} {st st1 : St} {s : Shared} {us : List Value} {args : List PV} (R : Room (n + 2) A) (I : Inv h₀ g ρ st s.heap) (ra : RpL g ρ us args)
    (e : ((fnTab i).bind fun f => runFn r f [] (.obj st.length :: args) (st ++ [.inst a []])) = some (.d .none, st1)) : wpAny (model TP w) A (call (.ref a) us) (EA h₀ g ρ s st1 (.obj st.length)) Fls s := by
  obtain ⟨ff, hff, e⟩ := bnd e
  have X : K.In s.heap := D.X.keeps I.old
  have N := D.init a i hi
  obtain ⟨o, fd, F⟩ := D.fns i ff hff
  obtain ⟨hh, gg, dd, tt, os⟩ := s
  refine wpAny_call (make_core (makes_of X N.makes) (looks_findIn X N.init) (fun self => bind_fn X self F.type) (.inl rfl) ?_)
  clear F N X
  have k : ∀ b o, hh.get? b = some o → ((hh.push emptyDict).push (instObj a hh.objs.size)).get? b = some o := fun b o e => PySem.Heap.get?_push_of_some _ (PySem.Heap.get?_push_of_some _ e)
  have hx : ((hh.push emptyDict).push (instObj a hh.objs.size)).get? (hh.objs.size + 1) = some (instObj a hh.objs.size) := by
    have := PySem.Heap.get?_push_size (hh.push emptyDict) (o := instObj a hh.objs.size) rfl
    rwa [PySem.Heap.size_push] at this
  have hd : ((hh.push emptyDict).push (instObj a hh.objs.size)).get? hh.objs.size = some emptyDict := PySem.Heap.get?_push_of_some _ (PySem.Heap.get?_push_size _ rfl)
  have hg : (ρ ++ [(hh.objs.size + 1, hh.objs.size)])[st.length]? = some (hh.objs.size + 1, hh.objs.size) := snoc_get _ _ _ I.len
  refine codeAny_mono (fn_ok D H (s := ⟨_, gg, dd, tt, os⟩) (R.typeCall _ _) (I.newAt (p := (hh.objs.size + 1, hh.objs.size)) (Nat.le_succ _) (Nat.le_refl _) k (.inst hx hd .nil)) hff (.cons (.obj hg) (ra.le (.refl _) (Pre.snoc _ _))) e) fun res s' z => ?_
  rcases res with e | (u | _ | _ | _) <;> first | exact z.elim | skip
  obtain ⟨g', ρ', h', tk', rfl, X2, I2, ru⟩ := z
  obtain rfl := rdI (rpD' ru)
  exact ⟨rfl, g', ρ', h', tk', rfl, (Ext.newAt (p := (hh.objs.size + 1, hh.objs.size)) (Nat.le_succ _) (Nat.le_refl _) k).trans X2, I2, .obj (X2.pre _ _ hg)⟩
theorem iterC_ok {A : Around} {g : Frz} {ρ : Locs} {st st' : St} {s : Shared} {us : List Value} {args : List PV} {v : PV} (I : Inv h₀ g ρ st s.heap) (ra : RpL g ρ us args)
    (e : ((two2 args).bind fun v => (mthV v.1).bind fun m => (strV v.2).bind fun s => if sl s = [] then some (PV.obj st.length, st ++ [MO.citer m.1 m.2]) else none) = some (v, st')) : wpAny (model TP w) A (call (.builtin "iter") us) (EA h₀ g ρ s st' v) Fls s := by
  obtain ⟨x, h1, e⟩ := bnd e
  cases rp2 ra h1 with
  | mk u u' r1 r2 =>
    obtain ⟨m, h2, e⟩ := bnd e
    obtain ⟨y, h3, e⟩ := bnd e
    obtain ⟨hy, e⟩ := ifp_of e
    obtain ⟨rfl, rfl⟩ := pinj e
    rw [mthV_of h2] at r1
    obtain ⟨t, rfl⟩ := strR h3 r2
    clear e h1 h2 h3 r2 ra
    obtain ⟨a, p, rfl, a1, a2⟩ := rpI r1
    · refine call_iter2 (I.sub _ _ a1) ?_
      have k : ∀ b o, s.heap.get? b = some o → (s.heap.push ({ cls := .type "callable_iterator", data := .fields #[.ref a, .str y t, .bool false] } : Obj)).get? b = some o := fun b o e => PySem.Heap.get?_push_of_some _ e
      have l : s.heap.objs.size ≤ (s.heap.objs.size, s.heap.objs.size).1 := Nat.le_refl _
      exact ⟨g, ρ ++ [(s.heap.objs.size, s.heap.objs.size)], _, s.toks, rfl, Ext.newAt l l k, I.newAt l l k (.citer (PySem.Heap.get?_push_size _ rfl) hy a1 (Pre.snoc _ _ _ _ a2)), .obj (snoc_get _ _ _ I.len)⟩
theorem C_ok (D : Gd w K h₀ mg mb) {r : Ev} {n : Nat} (H : Snd w h₀ r n) (f : PV) : CallsTo w h₀ (step r) (n + 3) f := by
  intro A g ρ st st' s u us args v R I ru ra e
  cases f <;> first | exact nsome e | skip
  · rename_i a
    obtain rfl : u = .ref a := rpI ru
    cases hi : clsInit a with
    | none =>
      change (match clsInit a with | some i => newC r a i args st | none => fnC r a args st) = _ at e
      rw [hi] at e
      exact fnC_ok D H R.less.less I ra e
    | some i =>
      change (match clsInit a with | some i => newC r a i args st | none => fnC r a args st) = _ at e
      rw [hi] at e
      obtain ⟨ff, hff, e⟩ := bnd e
      obtain ⟨x, e1, e⟩ := bnd e
      obtain ⟨h, e⟩ := ifs_of e
      obtain ⟨rfl, rfl⟩ := pinj e
      refine new_ok D H hi R.less I ra ?_
      rw [hff, ← isNoneV_of h]; exact e1
  · rename_i id
    obtain rfl : u = .builtin id := rpI ru
    by_cases q : id = "iter"
    · subst q; exact iterC_ok I ra e
    · exact bi_ok R.hd I q ra e
  · rename_i n
    obtain rfl : u = .type n := rpI ru
    exact tyC_ok R.hd I ra e
  · rename_i fm q
    obtain ⟨ff, hff, e⟩ := bnd e
    obtain ⟨a, p, rfl, a1, a2⟩ := rpI ru
    exact wpAny_call (method_call (I.sub _ _ a1) (codeAny_mono (fn_ok D H R.less.less I hff (.cons (.obj a2) ra) e) fun res s' z => by rcases res with e | (v | _ | _ | _) <;> first | exact z | exact z.elim))
  · exact clo_ok D H R.less.less I ru ra e
end
end Mine
end
section
namespace Mine
open PySem PySem.W PyProof.Rows

section
variable {w : World} {K : Frag} {h₀ : Heap} {mg mb : Str → Option Value}

/-- two answers, one after the other -/
theorem Ans.seq {α β : Type} {g : Frz} {ρ : Locs} {s : Shared} {st st' : St} {M : Model} {A : Around} {m : Sem α} {Φ : Frz → Locs → Heap → α → Prop} {Q : β → Shared → Prop} {f : α → Sem β}
    (h : wpAny M A m (Ans h₀ noX g ρ s st Φ) Fls s)
    (k : ∀ a g₁ ρ₁ h₁ tk, Ext noX g ρ s.heap g₁ ρ₁ h₁ → Inv h₀ g₁ ρ₁ st h₁ → Φ g₁ ρ₁ h₁ a → wpAny M A (f a) Q Fls { s with heap := h₁, toks := tk }) : wpAny M A m (fun a s' => wpAny M A (f a) Q Fls s') Fls s := by
  refine wpAny_mono h (fun a s' hs => ?_) fun _ _ x => x
  obtain ⟨g₁, ρ₁, h₁, tk, rfl, x, i, p⟩ := hs
  exact k a g₁ ρ₁ h₁ tk x i p
theorem Ans.use {α : Type} {g : Frz} {ρ : Locs} {s : Shared} {st : St} {M : Model} {A : Around} {m : Sem α} {X : Addr → Prop} {Φ : Frz → Locs → Heap → α → Prop} {Q : α → Shared → Prop}
    (h : wpAny M A m (Ans h₀ X g ρ s st Φ) Fls s)
    (k : ∀ a g₁ ρ₁ h₁ tk, Ext X g ρ s.heap g₁ ρ₁ h₁ → Inv h₀ g₁ ρ₁ st h₁ → Φ g₁ ρ₁ h₁ a → Q a { s with heap := h₁, toks := tk }) : wpAny M A m Q Fls s := by
  refine wpAny_mono h (fun a s' hs => ?_) fun _ _ x => x
  obtain ⟨g₁, ρ₁, h₁, tk, rfl, x, i, p⟩ := hs
  exact k a g₁ ρ₁ h₁ tk x i p

theorem star_plain {e : Expr} {rest : List Expr} {env : Env} (h : plainE e = true) : starEach (e :: rest) env = (false, eval e env) :: starEach rest env := by
  cases e <;> first | rfl | ((first | exact nsome h | (obtain ⟨rfl, rfl⟩ := pinj h; clear h) | (obtain ⟨rfl, rfl, rfl⟩ := pinj3 h; clear h) | (obtain rfl := sinj h; clear h) | cases h))

theorem evL_ok {r : Ev} {n : Nat} (H : Snd w h₀ r n) {A : Around} {env : Env} {fm : Fm} {pos : Pos} (R : Room n A) : ∀ (es : List Expr) (g : Frz) (ρ : Locs) (st st' : St) (s : Shared) (vs : List PV), Inv h₀ g ρ st s.heap → FmOk g ρ s.heap env fm → evL r fm st es = some (vs, st') →
    wpAny (model TP w) A (spliced (backTo pos (starEach es env))) (Ans h₀ noX g ρ s st' fun g' ρ' _ us => RpL g' ρ' us vs) Fls s
  | [], g, ρ, st, st', s, vs, I, F, e => by
    (first | exact nsome e | (obtain ⟨rfl, rfl⟩ := pinj e; clear e) | (obtain ⟨rfl, rfl, rfl⟩ := pinj3 e; clear e) | (obtain rfl := sinj e; clear e) | cases e)
    exact wpAny_items_nil (Ans.here (tk := s.toks) I .nil)
  | e :: es, g, ρ, st, st', s, vs, I, F, h => by
    unfold evL at h
    split at h
    · rename_i hp
      replace h := bnd h; obtain ⟨⟨v, st1⟩, h1, h2⟩ := h
      replace h2 := bnd h2; obtain ⟨⟨us, st2⟩, h2, h3⟩ := h2
      (first | exact nsome h3 | (obtain ⟨rfl, rfl⟩ := pinj h3; clear h3) | (obtain ⟨rfl, rfl, rfl⟩ := pinj3 h3; clear h3) | (obtain rfl := sinj h3; clear h3) | cases h3)
      refine wpAny_items_cons (Ans.use (H.E A env fm g ρ st st1 s e v R I F h1) fun u g1 ρ1 h1 tk X1 I1 ru => ?_) (star_plain hp)
      refine Ans.use (evL_ok H R es g1 ρ1 st1 _ { s with heap := h1, toks := tk } us I1 (F.ext0 X1) h2) fun us' g2 ρ2 h2' tk2 X2 I2 rus => ?_
      exact ⟨g2, ρ2, h2', tk2, rfl, X1.trans X2, I2, .cons (ru.le X2.le X2.pre) rus⟩
    · (first | exact nsome h | (obtain ⟨rfl, rfl⟩ := pinj h; clear h) | (obtain ⟨rfl, rfl, rfl⟩ := pinj3 h; clear h) | (obtain rfl := sinj h; clear h) | cases h)

theorem evL_len {r : Ev} {fm : Fm} : ∀ {es : List Expr} {st st' : St} {vs : List PV}, evL r fm st es = some (vs, st') → es.all plainE = true
  | [], _, _, _, _ => rfl
  | e :: es, st, st', vs, h => by
    unfold evL at h
    split at h
    · rename_i hp
      replace h := bnd h; obtain ⟨⟨v, st1⟩, h1, h2⟩ := h
      replace h2 := bnd h2; obtain ⟨⟨us, st2⟩, h2, h3⟩ := h2
      rw [List.all_cons, hp, evL_len h2]; rfl
    · (first | exact nsome h | (obtain ⟨rfl, rfl⟩ := pinj h; clear h) | (obtain ⟨rfl, rfl, rfl⟩ := pinj3 h; clear h) | (obtain rfl := sinj h; clear h) | cases h)

theorem keeps_pv (D : Gd w K h₀ mg mb) {M : Model} {g : Frz} {ρ : Locs} {st : St} {h : Heap} {u : Value} {f : PV} (I : Inv h₀ g ρ st h) (ru : Rp g ρ u f) (hf : okCal f = true) :
    ∃ k, (k = Keeper.frame ∨ k = Keeper.machine ∨ k = Keeper.boundFrame) ∧ Looks M h (keeperOf u) k := by
  have X : K.In h := D.X.keeps I.old
  have fn : ∀ a ff, fnTab a = some ff → ∃ o fd, h.get? a = some o ∧ o.data = .func fd := fun a ff e => let ⟨o, fd, F⟩ := D.fns a ff e; ⟨o, fd, I.old _ _ F.at_, F.data⟩
  have frame : ∀ a o fd, h.get? a = some o → o.data = .func fd → ∃ k, (k = Keeper.frame ∨ k = Keeper.machine ∨ k = Keeper.boundFrame) ∧ Looks M h (keeperOf (.ref a)) k := fun a o fd ho hd => by
    refine ⟨.frame, .inl rfl, (Looks.ld (part := none) ho).andThen ?_⟩
    rw [hd]; exact .now
  cases ru with
  | fn a =>
    change ((fnTab a).isSome || (clsInit a).isSome) = true at hf
    cases q : fnTab a with
    | some ff => obtain ⟨o, fd, a1, a2⟩ := fn a ff q; exact frame a o fd a1 a2
    | none =>
      rw [q] at hf
      obtain ⟨i, hi⟩ := Option.isSome_iff_exists.mp hf
      exact keeps_K (D.init a i hi).keep h X
  | meth e1 e2 =>
    obtain ⟨ff, hff⟩ := Option.isSome_iff_exists.mp hf
    obtain ⟨o, fd, a1, a2⟩ := fn _ ff hff
    refine ⟨.boundFrame, .inr (.inr rfl), (Looks.ld (part := none) (I.sub _ _ e1)).andThen ?_⟩
    refine (Looks.ld (part := none) a1).andThen ?_
    rw [a2]; exact .now
  | clo cv e1 c1 d1 dt => exact frame _ _ _ (I.sub _ _ e1) dt
  | bi id => exact ⟨.machine, .inr (.inl rfl), .now⟩
  | ty n => exact ⟨.machine, .inr (.inl rfl), .now⟩
  | _ => cases hf

theorem callWith_pv (D : Gd w K h₀ mg mb) {r : Ev} {n : Nat} (H : Snd w h₀ r n) {A : Around} {env : Env} {fm : Fm} {pos p : Pos} {g : Frz} {ρ : Locs} {st st1 : St} {s : Shared} {u : Value} {first : List Value} {args : List Expr} {vs : List PV} {Q : Value → Shared → Prop} (R : Room n A) (I : Inv h₀ g ρ st s.heap) (F : FmOk g ρ s.heap env fm)
    (hk : ∀ g₁ ρ₁ h₁, Ext noX g ρ s.heap g₁ ρ₁ h₁ → Inv h₀ g₁ ρ₁ st1 h₁ → ∃ k, (k = Keeper.frame ∨ k = Keeper.machine ∨ k = Keeper.boundFrame) ∧ Looks (model TP w) h₁ (keeperOf u) k) (e : evL r fm st args = some (vs, st1))
    (h : ∀ us g₁ ρ₁ h₁ tk, Ext noX g ρ s.heap g₁ ρ₁ h₁ → Inv h₀ g₁ ρ₁ st1 h₁ → RpL g₁ ρ₁ us vs → wpAny (model TP w) A (call u (first ++ us)) Q Fls { s with heap := h₁, toks := tk }) :
    wpAny (model TP w) A (callWith p u first (backTo pos (starEach args env)) []) Q Fls s := by
  have hpl := evL_len e
  have key := evL_ok (pos := pos) H R args g ρ st st1 s vs I F e
  have plain : ∀ l : List Expr, l.all plainE = true → (backTo pos (starEach l env)).any (·.1) = false := fun l => by
    induction l with
    | nil => exact fun _ => rfl
    | cons a t ih =>
      intro hl
      rw [List.all_cons, Bool.and_eq_true] at hl
      rw [star_plain hl.1]
      show (false || (backTo pos (starEach t env)).any (·.1)) = false
      rw [ih hl.2]; rfl
  refine callWith_of (P := fun h => ∃ k, (k = Keeper.frame ∨ k = Keeper.machine ∨ k = Keeper.boundFrame) ∧ Looks (model TP w) h (keeperOf u) k) ?_ (fun _ z => z) ?_
  · rw [plain args hpl]; rfl
  · cases args with
    | nil =>
      refine evalArgs_nil3 ?_
      (first | exact nsome e | (obtain ⟨rfl, rfl⟩ := pinj e; clear e) | (obtain ⟨rfl, rfl, rfl⟩ := pinj3 e; clear e) | (obtain rfl := sinj e; clear e) | cases e)
      exact ⟨hk g ρ s.heap .refl I, h [] g ρ s.heap s.toks .refl I .nil⟩
    | cons a t =>
      rw [List.all_cons, Bool.and_eq_true] at hpl
      rw [star_plain hpl.1] at key ⊢
      refine Calls.evalArgs_plain (Ans.use key fun us g₁ ρ₁ h₁ tk X₁ I₁ rus => ?_)
      exact ⟨hk g₁ ρ₁ h₁ X₁ I₁, h us g₁ ρ₁ h₁ tk X₁ I₁ rus⟩
end
end Mine
end
section
namespace Mine
open PySem PySem.W PyProof.Rows

theorem base_plain {o : Expr} {name : Str} {env : Env} {whole : Sem Value} (h : noCall0 o = true) : attributeBase o name env whole = whole := by
  cases o <;> first | rfl | skip
  rename_i f args kws pos
  cases f <;> first | rfl | skip
  cases args with
  | cons a l => rfl
  | nil => cases kws with
    | cons a l => rfl
    | nil => exact absurd h Bool.false_ne_true

theorem few_plain {args : List Expr} {env : Env} {pos : Pos} (hp : args.all plainE = true) (hl : args.length ≤ 5) : methodCallForm (args.length + ([] : List Keyword).length) (backTo pos (starEach args env)) (backToKw pos (keywordEach [] env)) = true := by
  have plain : ∀ l : List Expr, l.all plainE = true → (backTo pos (starEach l env)).all (fun x => !x.1) = true := fun l => by
    induction l with
    | nil => exact fun _ => rfl
    | cons a t ih =>
      intro hl
      rw [List.all_cons, Bool.and_eq_true] at hl
      rw [star_plain hl.1]
      show (true && (backTo pos (starEach t env)).all (fun x => !x.1)) = true
      rw [ih hl.2]; rfl
  unfold methodCallForm
  rw [plain args hp]
  show (true && true && decide (args.length + 0 + 0 < 30)) = true
  rw [decide_eq_true (by omega)]; rfl

section
variable {w : World} {K : Frag} {h₀ : Heap} {mg mb : Str → Option Value}

theorem mcall {A : Around} {E : Value → Shared → Prop} {s : Shared} {env : Env} {o : Expr} {name : Str} {apos pos : Pos} {args : List Expr} {Q : Value → Shared → Prop} (hb : noCall0 o = true) (hline : (apos.endLine == pos.line) = true) (hp : args.all plainE = true) (hl : args.length ≤ 5)
    (h : wpAny (model TP w) A (eval o env) (fun ov s₁ => ∀ pl, wpAny (model TP w) A (getMethod ov name pl) (fun fx s₂ => wpAny (model TP w) A (callWith pos fx.1 fx.2 (backTo pos (starEach args env)) []) Q E s₂) E s₁) E s) :
    wpAny (model TP w) A (eval (.Call (.Attribute o name apos) args [] pos) env) Q E s := by
  rw [arm_eval_Call, base_plain hb]
  refine wpAny_bind (wpAny_mono h (fun ov s₁ h₁ => ?_) fun _ _ e => e)
  refine wpAny_bind (wpAny_standAt ?_)
  have hpos : methodCallPos true o env apos pos = pure pos := by unfold methodCallPos; simp [hline]
  unfold methodCall
  rw [few_plain hp hl]
  refine wpAny_bind (wpAny_holding (wpAny_mono (h₁ _) (fun fx s₂ h₂ => ?_) fun _ _ x => x))
  exact wpAny_bind (wpAny_of_eq hpos h₂)

inductive CalOk (g : Frz) (ρ : Locs) : Value × List Value → Cal → Prop where
  | sm {name : Str} {id : String} (x : Str) (t : Tok) : strId name = some id → CalOk g ρ (.builtin id, [.str x t]) (.sm name x)
  | lm {name : Str} {id : String} {r : Nat} {p : Addr × Addr} : ρ[r]? = some p → lstId name = some id → CalOk g ρ (.builtin id, [.ref p.1]) (.lm name r)
  | pv {f : Value} {first : List Value} {v : PV} {vs : List PV} : Rp g ρ f v → RpL g ρ first vs → CalOk g ρ (f, first) (.pv v vs)

theorem fobj_method (D : Gd w K h₀ mg mb) {g : Frz} {ρ : Locs} {st : St} {s : Shared} {a d : Addr} {fd : FuncData} {es : List DictEntry} {n : Nat} {x name : Str} {pv : PV} {A : Around} {pl : Sem Bool} {Q : Value × List Value → Shared → Prop}
    (I : Inv h₀ g ρ st s.heap) (e1 : s.heap.get? a = some ({ cls := .type "function", dict := some d, data := .func fd } : Obj)) (e2 : g d = some (dictOf es n)) (at_ : AtL g ρ es [(x, pv)]) (hx : x = name) (hn : name = Str.ofString "read") (nb : notBi pv = true)
    (h : ∀ u tk, Rp g ρ u pv → Q (u, []) { s with toks := tk }) : wpAny (model TP w) A (getMethod (.ref a) name pl) Q Fls s := by
  subst hx hn
  obtain ⟨v, l1, l2⟩ := at_.get (x := Str.ofString "read") (pv := pv) (by rw [List.lookup_cons, beq_self_eq_true])
  exact fn_method_own e1 (I.sub _ _ e2) (by rw [lookIn_dict]; exact l1) (handed_rp l2 (by rintro i rfl; exact absurd nb Bool.false_ne_true)) (h v _ l2)

theorem strMeth_ok {g : Frz} {ρ : Locs} {st : St} {s : Shared} {name x : Str} {t : Tok} {id : String} {A : Around} {pl : Sem Bool} (I : Inv h₀ g ρ st s.heap) (hid : strId name = some id) :
    wpAny (model TP w) A (getMethod (.str x t) name pl) (Ans h₀ noX g ρ s st fun g' ρ' _ fx => CalOk g' ρ' fx (.sm name x)) Fls s := by
  have fin : (Ans h₀ noX g ρ s st fun g' ρ' _ fx => CalOk g' ρ' fx (.sm name x)) (.builtin id, [.str x t]) s := Ans.here (tk := s.toks) I (.sm x t hid)
  cases ite_of hid with
  | t q e => subst q; obtain rfl := sinj e; with_reducible refine GM.join ?_; exact fin
  | f q e =>
    clear q
    cases ite_of e with
    | t q e => subst q; obtain rfl := sinj e; with_reducible refine GM.split ?_; exact fin
    | f q e =>
      clear q
      cases ite_of e with
      | t q e => subst q; obtain rfl := sinj e; with_reducible refine GM.find ?_; exact fin
      | f q e =>
        clear q
        obtain ⟨q, e⟩ := ifp_of e
        subst q; obtain rfl := sinj e; with_reducible refine GM.count ?_; exact fin
theorem lstMeth_ok {g : Frz} {ρ : Locs} {st : St} {s : Shared} {name : Str} {id : String} {r : Nat} {a : Addr} {vs : List Value} {n : Nat} {A : Around} {pl : Sem Bool} (I : Inv h₀ g ρ st s.heap) (hp : ρ[r]? = some (a, a)) (e1 : s.heap.get? a = some ({ cls := .type "list", data := .seq ⟨vs⟩ n } : Obj)) (hid : lstId name = some id) :
    wpAny (model TP w) A (getMethod (.ref a) name pl) (Ans h₀ noX g ρ s st fun g' ρ' _ fx => CalOk g' ρ' fx (.lm name r)) Fls s := by
  have fin : (Ans h₀ noX g ρ s st fun g' ρ' _ fx => CalOk g' ρ' fx (.lm name r)) (.builtin id, [.ref a]) s := Ans.here (tk := s.toks) I (.lm (p := (a, a)) hp hid)
  have hd : ∀ b, Value.ref a = .ref b → ∃ o, s.heap.get? b = some o ∧ o.dict = none := fun b hb => Value.ref.inj hb ▸ ⟨_, e1, rfl⟩
  cases ite_of hid with
  | t q e => subst q; obtain rfl := sinj e; exact getMethod_builtin (T := "list") ⟨_, e1, rfl⟩ F.plainAttrs_list F.slot_list_append F.type_list_append hd fin
  | f q e =>
    clear q
    obtain ⟨q, e⟩ := ifp_of e
    subst q; obtain rfl := sinj e; exact getMethod_builtin (T := "list") ⟨_, e1, rfl⟩ F.plainAttrs_list F.slot_list_pop F.type_list_pop hd fin
theorem lookup_one {x y : Str} {u v : PV} (h : [(x, u)].lookup y = some v) : x = y ∧ u = v := by
  rw [List.lookup_cons] at h
  cases c : y == x with
  | true => rw [c] at h; exact ⟨(beq_iff_eq.mp c).symm, sinj h⟩
  | false => rw [c] at h; exact nsome h
theorem instMeth_ok (D : Gd w K h₀ mg mb) {g : Frz} {ρ : Locs} {st : St} {s : Shared} {a d c f : Addr} {r : Nat} {es : List DictEntry} {n : Nat} {as : List (Str × PV)} {name : Str} {A : Around} {pl : Sem Bool} (I : Inv h₀ g ρ st s.heap) (hp : ρ[r]? = some (a, d)) (e1 : s.heap.get? a = some (instObj c d)) (e2 : s.heap.get? d = some (dictOf es n)) (e3 : AtL g ρ es as)
    (hn : as.lookup name = none) (l1 : clsMeth c name = some f) : wpAny (model TP w) A (getMethod (.ref a) name pl) (Ans h₀ noX g ρ s st fun g' ρ' _ fx => CalOk g' ρ' fx (.pv (.fn f) [.obj r])) Fls s := by
  have M := D.meth c name f l1
  obtain ⟨i, hi'⟩ := Option.isSome_iff_exists.mp M.init
  have N := D.init c i hi'
  obtain ⟨ff, hff⟩ := Option.isSome_iff_exists.mp M.fn
  obtain ⟨o, fd, F⟩ := D.fns f ff hff
  exact method_fn (D.X.keeps I.old) (InstAt_of e1 e2) (plainGet_of N.get).1 (plainGet_of N.get).2 M.find F.type (by show (lookIn name (dictOf es n)).map _ = _; rw [lookIn_dict, e3.getNone hn]; rfl)
    (Ans.here (tk := s.toks) I (.pv (.fn f) (.cons (.obj (p := (a, d)) hp) .nil)))
theorem meth_ok (D : Gd w K h₀ mg mb) {g : Frz} {ρ : Locs} {st : St} {s : Shared} {u : Value} {v : PV} {name : Str} {cal : Cal} {A : Around} {pl : Sem Bool} (I : Inv h₀ g ρ st s.heap) (ru : Rp g ρ u v) (e : methOf v name st = some cal) :
    wpAny (model TP w) A (getMethod u name pl) (Ans h₀ noX g ρ s st fun g' ρ' _ fx => CalOk g' ρ' fx cal) Fls s := by
  cases v <;> first | exact nsome e | skip
  · change (strD _).bind (fun s => if (strId name).isSome = true then some (Cal.sm name s) else none) = _ at e
    obtain ⟨x, h1, e⟩ := bnd e
    obtain ⟨hs, e⟩ := ifs_of e
    obtain rfl := sinj e
    obtain rfl := strD_of h1
    obtain ⟨t, rfl⟩ := rdI (rpI ru)
    obtain ⟨id, hid⟩ := Option.isSome_iff_exists.mp hs
    with_reducible exact strMeth_ok I hid
  · rename_i r
    obtain ⟨m, hm, e⟩ := bnd e
    obtain ⟨p, rfl, hp⟩ := rpI ru
    have mm := matF (I.mat _ _ _ hp hm)
    cases m <;> first | exact nsome e | skip
    · obtain ⟨hs, e⟩ := ifs_of e
      obtain rfl := sinj e
      obtain ⟨id, hid⟩ := Option.isSome_iff_exists.mp hs
      obtain ⟨a, vs, n, rfl, e1, r1⟩ := mm
      exact lstMeth_ok I hp e1 hid
    · obtain ⟨q, e⟩ := ifs_of e
      obtain ⟨f, l1, rfl⟩ := mpd e
      obtain ⟨a, d, es, n, rfl, e1, e2, e3⟩ := mm
      exact instMeth_ok D I hp e1 e2 e3 (non_of (and_of q).1) l1
    · obtain ⟨q, e⟩ := ifp_of e
      obtain ⟨pv, l1, e⟩ := bnd e
      obtain ⟨nb, e⟩ := ifs_of e
      obtain rfl := sinj e
      rcases mm with ⟨a, fd, rfl, rfl, _⟩ | ⟨a, fd, rfl, d, es, n, x, pv', rfl, e1, e2, e3⟩
      · exact nsome l1
      · obtain ⟨rfl, rfl⟩ := lookup_one l1
        exact fobj_method D I e1 e2 e3 rfl q nb fun u tk ru => Ans.here I (.pv ru .nil)

/-! Expressions. -/
theorem dbg_ne {env : Env} {x : Str} {pos : Pos} {A : Around} {E : Value → Shared → Prop} {s : Shared} {Q : Value → Shared → Prop} (hd : (x == ("__debug__" : Str)) = false) (h : wpAny (model TP w) A (loadName env x) Q E s) : wpAny (model TP w) A (eval (.Name x pos) env) Q E s := wpAny_Name h hd

/-- what an attribute of an expression's value gives -/
theorem attr_eval {A : Around} {E : Value → Shared → Prop} {s : Shared} {env : Env} {o : Expr} {name : Str} {pos : Pos} {Q : Value → Shared → Prop} (hb : noCall0 o = true)
    (h : wpAny (model TP w) A (eval o env) (fun ov s₁ => wpAny (model TP w) A (getAttr ov name true) Q E s₁) E s) : wpAny (model TP w) A (eval (.Attribute o name pos) env) Q E s := by
  rw [arm_eval_Attribute, base_plain hb]
  refine wpAny_bind (wpAny_mono h (fun ov s₁ h₁ => ?_) fun _ _ x => x)
  refine wpAny_bind (wpAny_standAt (wpAny_bind (wpAny_holding (wpAny_mono h₁ (fun r s₂ h₂ => ?_) fun _ _ x => x))))
  exact wpAny_bind (wpAny_letTemporaryGo (wpAny_pure h₂))

theorem datas_ok {g : Frz} {ρ : Locs} : ∀ {us : List Value} {vs : List PV} {xs : List PyData}, RpL g ρ us vs → datas vs = some xs → RdL g us xs
  | _, _, _, .nil, e => by (first | exact nsome e | (obtain ⟨rfl, rfl⟩ := pinj e; clear e) | (obtain ⟨rfl, rfl, rfl⟩ := pinj3 e; clear e) | (obtain rfl := sinj e; clear e) | cases e); exact .nil
  | _, _, _, .cons (v := v) r rs, e => by
    cases v with
    | d x =>
      simp only [datas, Option.map_eq_some_iff] at e
      obtain ⟨l, e1, rfl⟩ := e
      replace r := rpD r; cases r with | d r => exact .cons r (datas_ok rs e1)
    | _ => (first | exact nsome e | (obtain ⟨rfl, rfl⟩ := pinj e; clear e) | (obtain ⟨rfl, rfl, rfl⟩ := pinj3 e; clear e) | (obtain rfl := sinj e; clear e) | cases e)

theorem optI_ok {r : Ev} {n : Nat} (H : Snd w h₀ r n) {A : Around} {env : Env} {fm : Fm} {g : Frz} {ρ : Locs} {st st' : St} {s : Shared} {o : Option Expr} {i : Option Int} (R : Room n A) (I : Inv h₀ g ρ st s.heap) (F : FmOk g ρ s.heap env fm) (e : optI r fm st o = some (i, st')) :
    wpAny (model TP w) A (evalPart o env) (Ans h₀ noX g ρ s st' fun _ _ _ u => Part u i) Fls s := by
  cases o with
  | none => (first | exact nsome e | (obtain ⟨rfl, rfl⟩ := pinj e; clear e) | (obtain ⟨rfl, rfl, rfl⟩ := pinj3 e; clear e) | (obtain rfl := sinj e; clear e) | cases e); exact wpAny_pure (Ans.here (tk := s.toks) I .none)
  | some ex =>
    simp only [optI, Option.bind_eq_some_iff] at e
    obtain ⟨⟨v, st1⟩, e1, e2⟩ := e
    dsimp only at e2
    split at e2
    · (first | exact nsome e2 | (obtain ⟨rfl, rfl⟩ := pinj e2; clear e2) | (obtain ⟨rfl, rfl, rfl⟩ := pinj3 e2; clear e2) | (obtain rfl := sinj e2; clear e2) | cases e2)
      refine Ans.use (H.E A env fm g ρ st _ s ex _ R I F e1) fun u g1 ρ1 h1 tk X1 I1 ru => ?_
      replace ru := rpD ru; cases ru with | d ru => (first | (obtain ⟨_, rfl⟩ := rdI ru; clear ru) | (obtain rfl := rdI ru; clear ru) | (obtain rfl := rpLN ru; clear ru) | (obtain rfl := rdLN ru; clear ru) | cases ru); exact ⟨g1, ρ1, h1, tk, rfl, X1, I1, .int _ _⟩
    · (first | exact nsome e2 | (obtain ⟨rfl, rfl⟩ := pinj e2; clear e2) | (obtain ⟨rfl, rfl, rfl⟩ := pinj3 e2; clear e2) | (obtain rfl := sinj e2; clear e2) | cases e2)

noncomputable def CompOk (w : World) (h₀ : Heap) (r : Ev) (n : Nat) : Prop := ∀ (A : Around) (env : Env) (fm : Fm) (g : Frz) (ρ : Locs) (st st' : St) (s : Shared) (elt : Expr) (gens : List Comprehension) (scope : Scope) (pos : Pos) (v : PV), Room n A → Inv h₀ g ρ st s.heap → FmOk g ρ s.heap env fm →
  comp r fm st elt gens scope = some (v, st') → wpAny (model TP w) A (eval (.ListComp elt gens scope pos) env) (EA h₀ g ρ s st' v) Fls s
end
end Mine
end
section
namespace Mine
open PySem PySem.W PyProof.Rows

theorem triples_snoc : ∀ (l : List Value) (a b : Int) (t u : Tok) (c : Value), TriplesOk l → TriplesOk (l ++ [.int a t, .int b u, c]) := by
  intro l a b t u c h
  fun_induction TriplesOk l with
  | case1 => trivial
  | case2 i t1 j t2 x rest ih => exact ih h
  | case3 l h1 h2 => exact h.elim
theorem among_snoc {pos' : Pos} {a b : Int} {t u : Tok} {c x : Value} : ∀ (l : List Value), TriplesOk l → codeAmong pos' (l ++ [.int a t, .int b u, c]) = some x → codeAmong pos' l = some x ∨ (a = (pos'.line : Int) ∧ x = c) := by
  intro l h e
  fun_induction TriplesOk l with
  | case1 =>
    right
    simp only [List.nil_append, codeAmong] at e
    split at e
    · rename_i q
      simp only [Bool.and_eq_true, beq_iff_eq] at q
      (first | exact nsome e | (obtain ⟨rfl, rfl⟩ := pinj e; clear e) | (obtain ⟨rfl, rfl, rfl⟩ := pinj3 e; clear e) | (obtain rfl := sinj e; clear e) | cases e)
      exact ⟨q.1, rfl⟩
    · (first | exact nsome e | (obtain ⟨rfl, rfl⟩ := pinj e; clear e) | (obtain ⟨rfl, rfl, rfl⟩ := pinj3 e; clear e) | (obtain rfl := sinj e; clear e) | cases e)
  | case2 i t1 j t2 y rest ih =>
    simp only [List.cons_append, codeAmong] at e ⊢
    split
    · rename_i q
      rw [if_pos q] at e; exact .inl e
    · rename_i q
      rw [if_neg q] at e
      exact ih h e
  | case3 l h1 h2 => exact h.elim

section
variable {w : World} {K : Frag} {h₀ : Heap} {mg mb : Str → Option Value}

theorem Inv.newCode {g : Frz} {ρ : Locs} {st : St} {h h' : Heap} {c' : Addr} {ps : Array Value} {pos : Pos} (I : Inv h₀ g ρ st h) (k : PySem.Heap.ExtBut tabP h h') (hc : h.objs.size ≤ c') (hr : h'.CodeRec (.ref c') (qn pos)) (t1 : h.get? tabP = some (tabObj ps)) (t2 : TriplesOk ps.toList)
    (t3 : ∀ pos c, codeAmong pos ps.toList = some c → ∃ c', c = .ref c' ∧ ∀ hh : Heap, Sub g hh → hh.CodeRec (.ref c') (qn pos)) (tn : h'.get? tabP = some (tabObj (ps ++ #[rawInt pos.line, rawInt pos.col, .ref c']))) :
    ∃ g', Inv h₀ g' ρ st h' ∧ Ext noX g ρ h g' ρ h' ∧ ∀ hh : Heap, Sub g' hh → hh.CodeRec (.ref c') (qn pos) := by
  obtain ⟨c'', oc, vs, tq, e0, e1, e2, e3⟩ := hr
  cases e0
  obtain ⟨n1, n2, n3⟩ := I.new hc
  have le : Le g (g.add c' oc) := Frz.le_add (.inl n3)
  have rec' : ∀ hh : Heap, Sub (g.add c' oc) hh → hh.CodeRec (.ref c') (qn pos) := fun hh sb => ⟨c', oc, vs, tq, rfl, sb _ _ (Frz.add_self ..), e2, e3⟩
  have kg : ∀ a o, g a = some o → h'.get? a = some o := fun a o e => k a o (by rintro rfl; rw [I.gtab] at e; cases e) (I.sub a o e)
  refine ⟨g.add c' oc, ⟨fun a o e => le _ _ (I.base a o e), fun a o e => ?_, I.len, fun r p mo hr hm => ?_, fun x f => ?_, I.apart, ⟨_, tn, ?_, fun pos' c e => ?_⟩, ?_, fun a o e => kg a o (I.base a o e)⟩, ⟨le, .refl _, fun a o e _ t _ => k a o t e, fun a o e f _ _ => ⟨f, Frz.add_ne _ _ (fun q => ?_)⟩⟩, rec'⟩
  · by_cases q : a = c'
    · subst q; rw [Frz.add_self] at e; (first | exact nsome e | (obtain ⟨rfl, rfl⟩ := pinj e; clear e) | (obtain ⟨rfl, rfl, rfl⟩ := pinj3 e; clear e) | (obtain rfl := sinj e; clear e) | cases e); exact e1
    · rw [Frz.add_ne _ _ q] at e; exact kg a o e
  · refine (I.mat r p mo hr hm).keeps le (.refl _) fun x hx o e => k x o ?_ e
    rcases hx with rfl | rfl
    · exact (I.off _ (foot_of hr).1).2
    · exact (I.off _ (foot_of hr).2).2
  · rw [Frz.add_ne _ _ (by rintro rfl; exact n1 f)]; exact I.off x f
  · rw [Array.toList_append]
    exact triples_snoc _ _ _ _ _ _ t2
  · rw [Array.toList_append] at e
    rcases among_snoc _ t2 e with e | ⟨e4, rfl⟩
    · obtain ⟨d, a1, a2⟩ := t3 pos' c e
      exact ⟨d, a1, fun hh sb => a2 hh (sb.le le)⟩
    · refine ⟨c', rfl, fun hh sb => ?_⟩
      have : qn pos' = qn pos := by
        unfold qn
        have : pos'.line = pos.line := by omega
        rw [this]
      rw [this]; exact rec' hh sb
  · rw [Frz.add_ne _ _ n2.symm]; exact I.gtab
  · have := PySem.Heap.lt_size e
    rw [q] at this
    exact absurd this (Nat.not_lt.mpr hc)

theorem lambda_ok' (D : Gd w K h₀ mg mb) {A : Around} {env : Env} {fm : Fm} {g : Frz} {ρ : Locs} {st : St} {s : Shared} {k : Nat} {p1 p2 : Pos} (R : Room 3 A) (I : Inv h₀ g ρ st s.heap) (F : FmOk g ρ s.heap env fm) (hc : fm.code = 97) (hl : p2.line ≠ 94) :
    wpAny (model TP w) A (eval (.Lambda ⟨[], [], none, [], [], none, []⟩ (.Constant .none k p1) ⟨.function, [], false, false, []⟩ p2) env) (EA h₀ g ρ s (st ++ [.fobj []]) (.obj st.length)) Fls s := by
  obtain ⟨f1, f2⟩ := F.code (by rw [hc]; decide)
  rw [hc] at f1
  obtain ⟨ps, t1, t2, t3⟩ := I.tab
  have qe : env.qual ++ Str.ofString "<lambda>" = qn p2 := by
    rw [f2]; unfold qn; rw [if_neg hl]
  have fin : ∀ g' h' tk fd, Inv h₀ g' ρ st h' → Ext noX g ρ s.heap g' ρ h' → EA h₀ g ρ s (st ++ [.fobj []]) (.obj st.length) (.ref h'.objs.size) { s with heap := h'.push ({ cls := .type "function", data := .func fd } : Obj), toks := tk } := fun g' h' tk fd I' X' => by
    have kk : ∀ b o, h'.get? b = some o → (h'.push ({ cls := .type "function", data := .func fd } : Obj)).get? b = some o := fun b o e => PySem.Heap.get?_push_of_some _ e
    have l : h'.objs.size ≤ (h'.objs.size, h'.objs.size).1 := Nat.le_refl _
    exact ⟨g', ρ ++ [(h'.objs.size, h'.objs.size)], _, tk, rfl, X'.trans (Ext.newAt l l kk), I'.newAt l l kk (.fobj0 (PySem.Heap.get?_push_size _ rfl)), .obj (snoc_get _ _ _ I'.len)⟩
  rw [arm_eval_Lambda]
  show wpAny _ _ (evalAll [] >>= _) _ _ _
  refine wpAny_bind (wpAny_evalAll_nil ?_)
  refine wpAny_bind (wpAny_holding (m := evalAllOpt []) (wpAny_pure ?_))
  have hq : (env.qual ++ "<lambda>" : Str) = qn p2 := qe
  rw [hq]
  have hg := ns_of_base I D.g
  have hb := D.bat.keeps I.old
  have C := D.code.keeps I.old
  cases q : codeAmong p2 ps.toList with
  | none =>
    refine kla_makeFunction (closureFor_none (by simp)) F.gl hg f1 C t1 t2 q (by decide) hb fun c' ctv h' tk k1 k2 k3 k4 k5 => ?_
    obtain ⟨g', I', X', _⟩ := I.newCode k1 k2 k4 t1 t2 t3 k5
    exact fin g' h' tk _ I' X'
  | some c =>
    refine kla_makeFunctionHit (closureFor_none (by simp)) F.gl hg f1 C t1 t2 q hb fun ctv h' tk k1 k2 => ?_
    exact fin g h' tk _ (I.grown k1) (Ext.grown fun a o e _ => k1 a o e)
end
end Mine
end
section
namespace Mine
open PySem PySem.W PyProof.Rows

noncomputable def closL (cells : List (Str × Addr)) : List (Str × NameKind) → List (Str × Addr) → List (Str × Addr)
  | [], acc => acc
  | (x, k) :: r, acc => if k == .free then (match cells.lookup x with | some c => closL cells r ((x, c) :: acc) | none => closL cells r acc) else closL cells r acc

theorem clos_loop {env : Env} (f : Str × NameKind → List (Str × Addr) → Sem (ForInStep (List (Str × Addr))))
    (hf : ∀ name kind cs, f (name, kind) cs = if kind == .free then (do let a ← cellOf env name; pure (.yield ((name, a) :: cs))) else pure (.yield cs)) :
    ∀ (names : List (Str × NameKind)) (acc : List (Str × Addr)), (∀ x ∈ names, x.2 = .free → (env.cells.lookup x.1).isSome) → (forIn names acc f : Sem (List (Str × Addr))) = pure (closL env.cells names acc)
  | [], acc, _ => by rw [List.forIn_nil]; rfl
  | (x, k) :: r, acc, h => by
    rw [List.forIn_cons, hf]
    unfold closL
    have hr : ∀ y ∈ r, y.2 = .free → (env.cells.lookup y.1).isSome := fun y hy => h y (List.mem_cons_of_mem _ hy)
    by_cases q : k = .free
    · subst q
      obtain ⟨c, hc⟩ := Option.isSome_iff_exists.mp (h (x, .free) List.mem_cons_self rfl)
      dsimp only at hc ⊢
      rw [if_pos (show (NameKind.free == NameKind.free) = true from rfl), if_pos (show (NameKind.free == NameKind.free) = true from rfl)]
      unfold cellOf
      rw [hc]
      exact clos_loop f hf r _ hr
    · have q' : (k == NameKind.free) = false := by simpa using q
      rw [q', if_neg Bool.false_ne_true, if_neg Bool.false_ne_true]
      exact clos_loop f hf r _ hr
theorem closure_eq {scope : Scope} {env : Env} (h : ∀ x ∈ scope.names, x.2 = .free → (env.cells.lookup x.1).isSome) : closureFor scope env = pure (closL env.cells scope.names []) := by
  unfold closureFor
  show (forIn scope.names [] _ >>= fun s => pure s) = _
  rw [clos_loop (env := env) _ (fun name kind cs => by cases kind <;> rfl) scope.names [] h]
  rfl

theorem closL_lookup {cells : List (Str × Addr)} {x : Str} {c : Addr} : ∀ (names : List (Str × NameKind)) (acc : List (Str × Addr)), (closL cells names acc).lookup x = some c → acc.lookup x = some c ∨ ((x, NameKind.free) ∈ names ∧ cells.lookup x = some c)
  | [], acc, e => .inl e
  | (y, k) :: r, acc, e => by
    unfold closL at e
    split at e
    · rename_i q
      have q : k = .free := by simpa using q
      subst q
      split at e
      · rename_i c' hc
        rcases closL_lookup r _ e with e | ⟨a, b⟩
        · rw [List.lookup_cons] at e
          by_cases z : x = y
          · subst z
            rw [beq_self_eq_true] at e
            (first | exact nsome e | (obtain ⟨rfl, rfl⟩ := pinj e; clear e) | (obtain ⟨rfl, rfl, rfl⟩ := pinj3 e; clear e) | (obtain rfl := sinj e; clear e) | cases e)
            exact .inr ⟨List.mem_cons_self, hc⟩
          · have : (x == y) = false := by simpa using z
            rw [this] at e; exact .inl e
        · exact .inr ⟨List.mem_cons_of_mem _ a, b⟩
      · rcases closL_lookup r _ e with e | ⟨a, b⟩
        · exact .inl e
        · exact .inr ⟨List.mem_cons_of_mem _ a, b⟩
    · rcases closL_lookup r _ e with e | ⟨a, b⟩
      · exact .inl e
      · exact .inr ⟨List.mem_cons_of_mem _ a, b⟩
theorem closL_keep {cells : List (Str × Addr)} {x : Str} {c : Addr} (hc : cells.lookup x = some c) : ∀ (names : List (Str × NameKind)) (acc : List (Str × Addr)), acc.lookup x = some c ∨ (x, NameKind.free) ∈ names → (closL cells names acc).lookup x = some c
  | [], acc, h => by rcases h with h | h; exact h; (first | exact nsome h | (obtain ⟨rfl, rfl⟩ := pinj h; clear h) | (obtain ⟨rfl, rfl, rfl⟩ := pinj3 h; clear h) | (obtain rfl := sinj h; clear h) | cases h)
  | (y, k) :: r, acc, h => by
    unfold closL
    have acc' : ∀ c', cells.lookup y = some c' → acc.lookup x = some c → ((y, c') :: acc).lookup x = some c := fun c' hc' ha => by
      rw [List.lookup_cons]
      by_cases z : x = y
      · subst z; rw [hc] at hc'; cases hc'; rw [beq_self_eq_true]
      · have : (x == y) = false := by simpa using z
        rw [this]; exact ha
    split
    · rename_i q
      have q : k = .free := by simpa using q
      subst q
      split
      · rename_i c' hc'
        refine closL_keep hc r _ ?_
        rcases h with h | h
        · exact .inl (acc' c' hc' h)
        · rcases List.mem_cons.mp h with h | h
          · (first | exact nsome h | (obtain ⟨rfl, rfl⟩ := pinj h; clear h) | (obtain ⟨rfl, rfl, rfl⟩ := pinj3 h; clear h) | (obtain rfl := sinj h; clear h) | cases h)
            rw [hc] at hc'; cases hc'
            exact .inl (by rw [List.lookup_cons, beq_self_eq_true])
          · exact .inr h
      · rename_i hn
        refine closL_keep hc r _ ?_
        rcases h with h | h
        · exact .inl h
        · rcases List.mem_cons.mp h with h | h
          · (first | exact nsome h | (obtain ⟨rfl, rfl⟩ := pinj h; clear h) | (obtain ⟨rfl, rfl, rfl⟩ := pinj3 h; clear h) | (obtain rfl := sinj h; clear h) | cases h); rw [hc] at hn; cases hn
          · exact .inr h
    · rename_i q
      refine closL_keep hc r _ ?_
      rcases h with h | h
      · exact .inl h
      · rcases List.mem_cons.mp h with h | h
        · (first | exact nsome h | (obtain ⟨rfl, rfl⟩ := pinj h; clear h) | (obtain ⟨rfl, rfl, rfl⟩ := pinj3 h; clear h) | (obtain rfl := sinj h; clear h) | cases h); exact absurd rfl q
        · exact .inr h

theorem capture_lookup {fm : Fm} {x : Str} {pv : PV} : ∀ (names : List (Str × NameKind)), (capture fm names).lookup x = some pv → (x, NameKind.free) ∈ names ∧ fm.cel.lookup x = some pv
  | [], e => by (first | exact nsome e | (obtain ⟨rfl, rfl⟩ := pinj e; clear e) | (obtain ⟨rfl, rfl, rfl⟩ := pinj3 e; clear e) | (obtain rfl := sinj e; clear e) | cases e)
  | (y, k) :: r, e => by
    have ih := @capture_lookup fm x pv r
    cases k with
    | free =>
      simp only [capture] at e
      split at e
      · rename_i v hv
        rw [List.lookup_cons] at e
        by_cases z : x = y
        · subst z
          rw [beq_self_eq_true] at e
          (first | exact nsome e | (obtain ⟨rfl, rfl⟩ := pinj e; clear e) | (obtain ⟨rfl, rfl, rfl⟩ := pinj3 e; clear e) | (obtain rfl := sinj e; clear e) | cases e)
          exact ⟨List.mem_cons_self, hv⟩
        · have : (x == y) = false := by simpa using z
          rw [this] at e
          exact ⟨List.mem_cons_of_mem _ (ih e).1, (ih e).2⟩
      · exact ⟨List.mem_cons_of_mem _ (ih e).1, (ih e).2⟩
    | _ => simp only [capture] at e; exact ⟨List.mem_cons_of_mem _ (ih e).1, (ih e).2⟩
end Mine
end
section
namespace Mine
open PySem PySem.W PyProof.Rows

section
variable {w : World} {K : Frag} {h₀ : Heap} {mg mb : Str → Option Value}

/-- many objects that stand are frozen -/
theorem Inv.freezeAll {X : Addr → Prop} {ρ : Locs} {st : St} {h : Heap} : ∀ (l : List (Str × Addr)) (g : Frz), Inv h₀ g ρ st h → (∀ p ∈ l, X p.2 ∧ ¬ foot ρ p.2 ∧ p.2 ≠ tabP ∧ (g p.2 = none ∨ g p.2 = h.get? p.2) ∧ (h.get? p.2).isSome) →
    ∃ g', Inv h₀ g' ρ st h ∧ Ext X g ρ h g' ρ h ∧ ∀ p ∈ l, g' p.2 = h.get? p.2
  | [], g, I, _ => ⟨g, I, .refl, fun _ q => nomatch q⟩
  | (x, c) :: r, g, I, H => by
    obtain ⟨x1, x2, x3, x4, x5⟩ := H (x, c) List.mem_cons_self
    obtain ⟨o, ho⟩ := Option.isSome_iff_exists.mp x5
    have hr := fun p hp => H p (List.mem_cons_of_mem _ hp)
    rcases x4 with n | n
    · have I1 := I.freeze x2 x3 n ho
      have le : Le g (g.add c o) := Frz.le_add (.inl n)
      have X1 : Ext X g ρ h (g.add c o) ρ h := ⟨le, .refl _, fun _ _ e _ _ _ => e, fun a o' e f t nx => ⟨f, Frz.add_ne _ _ (by rintro rfl; exact nx x1)⟩⟩
      obtain ⟨g', I', X', k'⟩ := Inv.freezeAll r (g.add c o) I1 fun p hp => by
        obtain ⟨a1, a2, a3, a4, a5⟩ := hr p hp
        refine ⟨a1, a2, a3, ?_, a5⟩
        by_cases q : p.2 = c
        · rw [q, Frz.add_self, ho]; exact .inr rfl
        · rw [Frz.add_ne _ _ q]; exact a4
      refine ⟨g', I', X1.trans X', fun p hp => ?_⟩
      rcases List.mem_cons.mp hp with rfl | hp
      · exact (X'.le _ _ (Frz.add_self ..)).trans ho.symm
      · exact k' p hp
    · obtain ⟨g', I', X', k'⟩ := Inv.freezeAll r g I hr
      refine ⟨g', I', X', fun p hp => ?_⟩
      rcases List.mem_cons.mp hp with rfl | hp
      · exact (X'.le _ _ (n.trans ho)).trans ho.symm
      · exact k' p hp

theorem closL_mem {cells : List (Str × Addr)} {p : Str × Addr} : ∀ (names : List (Str × NameKind)) (acc : List (Str × Addr)), p ∈ closL cells names acc → p ∈ acc ∨ ((p.1, NameKind.free) ∈ names ∧ cells.lookup p.1 = some p.2)
  | [], acc, e => .inl e
  | (y, k) :: r, acc, e => by
    unfold closL at e
    split at e
    · rename_i q
      have q : k = .free := by simpa using q
      subst q
      split at e
      · rename_i c' hc
        rcases closL_mem r _ e with e | ⟨a, b⟩
        · rcases List.mem_cons.mp e with rfl | e
          · exact .inr ⟨List.mem_cons_self, hc⟩
          · exact .inl e
        · exact .inr ⟨List.mem_cons_of_mem _ a, b⟩
      · rcases closL_mem r _ e with e | ⟨a, b⟩
        · exact .inl e
        · exact .inr ⟨List.mem_cons_of_mem _ a, b⟩
    · rcases closL_mem r _ e with e | ⟨a, b⟩
      · exact .inl e
      · exact .inr ⟨List.mem_cons_of_mem _ a, b⟩

theorem bind_one {fd : FuncData} {q : Arg} (hp : fd.params = ⟨[], [q], none, [], [], none, []⟩) (hd : fd.defaults = .none) (v : Value) : bindArgs fd ⟨[v], []⟩ = pure [(q.arg, v)] := by
  unfold bindArgs
  rw [hp, hd]
  have e : seqItems? Value.none = pure none := rfl
  simp [e]

theorem def_ok (D : Gd w K h₀ mg mb) {A : Around} {env : Env} {fm fm' : Fm} {g : Frz} {ρ : Locs} {st : St} {s : Shared} {nm : Str} {q : Arg} {body : List Stmt} {scope : Scope} {bind : Str} {pos : Pos} (R : Room 3 A) (I : Inv h₀ g ρ st s.heap) (F : FmOk g ρ s.heap env fm)
    (hf : fm.frz = false) (hc : fm.code = 97) (ho : okScope scope = true) (hm : (nm == Str.ofString "read" && pos.line == 94 && bind == nm && q.annotation.isNone && fm.names.lookup bind == some .local && scope.names.all fun x => x.2 != .free || fm.names.lookup x.1 == some .cell) = true)
    (e : fm.put bind (.clo ⟨[q.arg], body, scope, 0⟩ (capture fm scope.names)) = some fm') :
    wpAny (model TP w) A (exec (.FunctionDef nm ⟨[], [q], none, [], [], none, []⟩ body [] none [] scope none bind pos) env) (BA h₀ env fm g ρ s st .nx { fm' with frz := true }) Fls s := by
  simp only [Bool.and_eq_true, beq_iff_eq] at hm
  obtain ⟨⟨⟨⟨⟨m1, m2⟩, m3⟩, m4⟩, m5⟩, m6⟩ := hm
  subst m3
  obtain ⟨f1, f2⟩ := F.code (by rw [hc]; decide)
  rw [hc] at f1
  obtain ⟨ps, t1, t2, t3⟩ := I.tab
  have ok := ho
  unfold okScope at ok
  simp only [Bool.and_eq_true, beq_iff_eq, Bool.not_eq_true', List.all_eq_true] at ok
  obtain ⟨⟨⟨ok1, ok2⟩, ok3⟩, ok4⟩ := ok
  have hk : env.kindOf bind = some .local := F.names _ _ m5
  have qe : qualnameIn env bind bind = qn pos := by
    unfold qualnameIn
    rw [hk, f2, m1]; unfold qn; rw [if_pos m2]; rfl
  have own : ∀ x, (x, NameKind.free) ∈ scope.names → fm.names.lookup x = some .cell := fun x hx => by
    have := List.all_eq_true.mp m6 _ hx
    simpa using this
  have hcl : closureFor scope env = pure (closL env.cells scope.names []) := closure_eq fun x hx hxf => by
    obtain ⟨c, hc, _⟩ := F.own x.1 (own x.1 (by rw [← hxf]; exact hx))
    rw [hc]; rfl
  have cl : ∀ x c, (closL env.cells scope.names []).lookup x = some c → (x, NameKind.free) ∈ scope.names ∧ env.cells.lookup x = some c := fun x c h => by
    rcases closL_lookup _ _ h with h | h
    · (first | exact nsome h | (obtain ⟨rfl, rfl⟩ := pinj h; clear h) | (obtain ⟨rfl, rfl, rfl⟩ := pinj3 h; clear h) | (obtain rfl := sinj h; clear h) | cases h)
    · exact h
  have clm : ∀ p, p ∈ closL env.cells scope.names [] → (p.1, NameKind.free) ∈ scope.names ∧ env.cells.lookup p.1 = some p.2 := fun p h => by
    rcases closL_mem _ _ h with h | h
    · (first | exact nsome h | (obtain ⟨rfl, rfl⟩ := pinj h; clear h) | (obtain ⟨rfl, rfl, rfl⟩ := pinj3 h; clear h) | (obtain rfl := sinj h; clear h) | cases h)
    · exact h
  have clk : ∀ x c, (x, NameKind.free) ∈ scope.names → env.cells.lookup x = some c → (closL env.cells scope.names []).lookup x = some c := fun x c h1 h2 => closL_keep h2 _ _ (.inr h1)
  generalize hH : closL env.cells scope.names [] = clos at hcl cl clm clk
  have fin : ∀ g1 h1 tk fd, Inv h₀ g1 ρ st h1 → Ext noX g ρ s.heap g1 ρ h1 → fd.params = ⟨[], [q], none, [], [], none, []⟩ → fd.defaults = .none → fd.body = .stmts body → fd.scope = scope → fd.globals = mainGlobals → fd.builtins = builtinsNs → fd.closure = clos →
      (∀ hh : Heap, Sub g1 hh → hh.CodeRec fd.code fd.qualname) → wpAny (model TP w) A (storeName env bind (.ref h1.objs.size)) (fun _ s'' => BA h₀ env fm g ρ s st .nx { fm' with frz := true } .next s'') Fls { s with heap := h1.push ({ cls := .type "function", data := .func fd } : Obj), toks := tk } := fun g1 h1 tk fd I1 X1 p1 p2 p3 p4 p5 p6 p7 p8 => by
    obtain ⟨I2, X2⟩ := I1.push (o := ({ cls := .type "function", data := .func fd } : Obj)) rfl noX
    have F2 := (F.ext0 X1).ext0 X2
    have X12 := X1.trans X2
    generalize hH : h1.push ({ cls := .type "function", data := .func fd } : Obj) = H at I2 X2 F2 X12 ⊢
    generalize hg2 : g1.add h1.objs.size ({ cls := .type "function", data := .func fd } : Obj) = g2 at I2 X2 F2 X12
    have ga : g2 h1.objs.size = some ({ cls := .type "function", data := .func fd } : Obj) := by rw [← hg2]; exact Frz.add_self ..
    obtain ⟨g3, I3, X3, k3⟩ := Inv.freezeAll (X := fun a => ∃ x, fm.names.lookup x = some .cell ∧ env.cells.lookup x = some a) clos g2 I2 fun p hp => by
      obtain ⟨a1, a2⟩ := clm p hp
      obtain ⟨b1, b2, v, ic⟩ := F2.offC _ _ a2
      refine ⟨⟨p.1, own _ a1, a2⟩, b1, b2, .inl (F2.frzC hf _ _ (own _ a1) a2), ?_⟩
      obtain ⟨oc, hoc, _⟩ := ic
      rw [hoc]; rfl
    obtain ⟨m, n1, n2⟩ := F2.ns
    obtain ⟨oL, es, ep, hL, hdL, rL⟩ := id n1
    have nL : ¬ ∃ x, fm.names.lookup x = some .cell ∧ env.cells.lookup x = some env.locals := fun ⟨x, _, q⟩ => by
      obtain ⟨_, _, v, oc, hoc, hd⟩ := F2.offC _ _ q
      rw [hL] at hoc; cases hoc; rw [hdL] at hd; cases hd
    have F3 : FmOk g3 ρ H env { fm with frz := true } := ⟨F2.fk, F2.gl, F2.bl, F2.names, ⟨m, n1, fun x pv z => let ⟨v, a, b⟩ := n2 x pv z; ⟨v, a, b.le X3.le X3.pre⟩⟩,
      fun x pv z => let ⟨c, v, a, b, d⟩ := F2.cel x pv z; ⟨c, v, a, b, d.le X3.le X3.pre⟩, F2.own, F2.apart, ⟨F2.offL.1, F2.offL.2.1, (X3.clean _ _ hL F2.offL.1 F2.offL.2.1 nL).2.trans F2.offL.2.2⟩, F2.offC, (fun z => by cases z), F2.code⟩
    have ch : ∀ x, ∃ v : Value, ∀ pv, fm.cel.lookup x = some pv → ∃ c, env.cells.lookup x = some c ∧ H.IsCell c (some v) ∧ Rp g3 ρ v pv := fun x => by
      cases q : fm.cel.lookup x with
      | none => exact ⟨.none, fun _ z => nomatch z⟩
      | some pv =>
        obtain ⟨c, v, a, b, d⟩ := F3.cel x pv q
        exact ⟨v, fun pv' z => by cases z; exact ⟨c, a, b, d⟩⟩
    obtain ⟨cv, hcv⟩ := Classical.axiomOfChoice ch
    have rp : Rp g3 ρ (.ref h1.objs.size) (.clo ⟨[q.arg], body, scope, 0⟩ (capture fm scope.names)) := by
      refine Rp.clo cv (X3.le _ _ ga) rfl rfl rfl ⟨⟨q.arg, rfl, fun v => bind_one p1 p2 v⟩, p3, p4, p5, p6, ho, rfl, fun x c z => ?_⟩ (fun hh sb => p8 hh fun a o z => sb a o (X3.le _ _ (X2.le _ _ z))) (fun x y c z1 z2 => ?_) (fun x c z => ?_) (fun x pv z => ?_) (fun x pv z => ?_)
      · rw [p7] at z
        exact (ok4 _ (cl x c z).1).2
      · rw [p7] at z1 z2
        exact F2.apart x y c (cl x c z1).2 (cl y c z2).2
      · rw [p7] at z
        obtain ⟨_, _, v, oc, hoc, hd⟩ := F2.offC _ _ (cl x c z).2
        exact ⟨oc, v, (k3 (x, c) (mem_of_lookup z)).trans hoc, hd⟩
      · obtain ⟨z1, z2⟩ := capture_lookup _ z
        obtain ⟨c, a, ⟨oc, hoc, hd⟩, d⟩ := hcv x pv z2
        have lk := clk x c z1 a
        exact ⟨c, oc, by rw [p7]; exact lk, (k3 (x, c) (mem_of_lookup lk)).trans hoc, hd⟩
      · obtain ⟨z1, z2⟩ := capture_lookup _ z
        obtain ⟨c, a, _, d⟩ := hcv x pv z2
        exact d
    have e' : ({ fm with frz := true } : Fm).put bind (.clo ⟨[q.arg], body, scope, 0⟩ (capture fm scope.names)) = some { fm' with frz := true } := by
      unfold Fm.put at e ⊢
      dsimp only at e ⊢
      rw [m5] at e ⊢
      (first | exact nsome e | (obtain ⟨rfl, rfl⟩ := pinj e; clear e) | (obtain ⟨rfl, rfl, rfl⟩ := pinj3 e; clear e) | (obtain rfl := sinj e; clear e) | cases e); rfl
    refine wpAny_mono (store_ok (s := { s with heap := H, toks := tk }) I3 F3 e' rp) (fun _ s' z => ?_) fun _ _ z => z
    obtain ⟨g4, ρ4, h4, tk4, rfl, X4, I4, F4, n4, rfl, rfl⟩ := z
    refine ⟨_, _, h4, tk4, rfl, (((X12.weaken fun _ _ _ f => f.elim).trans (X3.weaken fun a o _ q => .inr q)).trans X4), I4, .nx, F4, n4⟩
  have hg := ns_of_base I D.g
  have hb := D.bat.keeps I.old
  have C := D.code.keeps I.old
  refine nestDef_K rfl rfl (by unfold annTrees; cases q; simp at m4; subst m4; rfl) ?_
  rw [qe]
  cases z : codeAmong pos ps.toList with
  | none =>
    refine makeFunction_K hcl F.gl hg f1 C t1 t2 z (by decide) hb fun c' ctv doc h' tk k1 k2 k3 k4 k5 => ?_
    obtain ⟨g', I', X', r'⟩ := I.newCode k1 k2 k4 t1 t2 t3 k5
    exact fin g' h' tk _ I' X' rfl rfl rfl rfl rfl rfl rfl r'
  | some c =>
    refine makeFunction_hit hcl F.gl hg f1 C t1 t2 z hb fun ctv doc h' tk k1 k2 => ?_
    obtain ⟨c', rfl, r'⟩ := t3 pos c z
    exact fin g h' tk _ (I.grown k1) (Ext.grown fun a o e _ => k1 a o e) rfl rfl rfl rfl rfl rfl rfl r'

end
end Mine
end
section
namespace Mine
open PySem PySem.W PyProof.Rows

section
variable {w : World} {K : Frag} {h₀ : Heap} {mg mb : Str → Option Value}

theorem marks_plain {op : CmpOp} {e : Expr} (h : plainE e = true) : behindInMarks op e = false := by
  cases e <;> first | rfl | ((first | exact nsome h | (obtain ⟨rfl, rfl⟩ := pinj h; clear h) | (obtain ⟨rfl, rfl, rfl⟩ := pinj3 h; clear h) | (obtain rfl := sinj h; clear h) | cases h))
theorem call_plain {func : Expr} {args : List Expr} {pos : Pos} {env : Env} (h : isAttr func = false) : eval (.Call func args [] pos) env = (do callWith pos (← eval func env) [] (backTo pos (starEach args env)) (backToKw pos (keywordEach [] env))) := by
  cases func <;> first | rfl | ((first | exact nsome h | (obtain ⟨rfl, rfl⟩ := pinj h; clear h) | (obtain ⟨rfl, rfl, rfl⟩ := pinj3 h; clear h) | (obtain rfl := sinj h; clear h) | cases h))
theorem RpL.append {g : Frz} {ρ : Locs} : ∀ {us : List Value} {vs : List PV} {us' : List Value} {vs' : List PV}, RpL g ρ us vs → RpL g ρ us' vs' → RpL g ρ (us ++ us') (vs ++ vs')
  | _, _, _, _, .nil, q => q
  | _, _, _, _, .cons a r, q => .cons a (RpL.append r q)
set_option maxHeartbeats 4000000 in
theorem E_ok (D : Gd w K h₀ mg mb) {r : Ev} {n : Nat} (H : Snd w h₀ r n) (CO : CompOk w h₀ r n) : SndE w h₀ (step r) (n + 3) := by
  intro A env fm g ρ st st' s e v R I F h0
  have R0 : Room n A := R.less.less.less
  have Rq : Room 3 A := ⟨R.hd, by have := R.depth; omega, by have := R.units; omega⟩
  have hu : A.units + 64 < cLine := R.unit64
  obtain ⟨x, hx, h⟩ := bnd (show (viewE e).bind (stepX r fm st) = some (v, st') from h0)
  clear h0
  obtain rfl := viewE_of hx
  clear hx
  cases x with
  | cst c k p =>
    change (match c with | .none => some (PV.d .none, st) | .bool b => some (.d (.bool b), st) | .int i => some (.d (.int i), st) | .str s => some (.d (.str s), st) | _ => none) = _ at h
    cases c <;> first | exact nsome h | (obtain ⟨rfl, rfl⟩ := pinj h)
    · exact wpAny_Constant_none (EA.now0 I (.d .none))
    · exact wpAny_Constant_bool (EA.now0 I (.d (.bool _)))
    · exact wpAny_Constant_int (EA.now I (Rp.int ..))
    · exact wpAny_Constant_str (EA.now I (Rp.str ..))
  | nam x p =>
    replace h := mpd h; obtain ⟨v', h1, h2⟩ := h
    obtain ⟨rfl, rfl⟩ := Prod.mk.inj h2
    exact wpAny_Name (name_ok D I F h1 fun u ru => EA.now0 I ru) (name_dbg h1)
  | bin a op b p =>
    replace h := bnd h; obtain ⟨⟨x, st1⟩, h1, h⟩ := h
    replace h := bnd h; obtain ⟨⟨y, st2⟩, h2, h⟩ := h
    replace h := mpd h; obtain ⟨z, h3, h4⟩ := h
    obtain ⟨rfl, rfl⟩ := Prod.mk.inj h4
    obtain ⟨x, y, rfl, rfl, h3⟩ := binopV_of h3
    refine wpAny_BinOp (Ans.use (H.E A env fm g ρ st st1 s _ _ R0 I F h1) fun a g1 ρ1 s1 tk X1 I1 ra => ?_)
    refine Ans.use (H.E A env fm g1 ρ1 st1 _ _ _ _ R0 I1 (F.ext0 X1) h2) fun b g2 ρ2 s2 tk2 X2 I2 rb => ?_
    replace ra := rpD ra; cases ra with | d ra => replace rb := rpD rb; cases rb with
      | d rb => exact wpAny_mono (binop_ok R.hd I2 (ra.le X2.le) rb h3) (fun u s' hs => EA.ext (X1.trans X2) hs) fun _ _ x => x
  | neg a p =>
    replace h := bnd h; obtain ⟨⟨x, st1⟩, h1, h⟩ := h
    replace h := mpd h; obtain ⟨z, h3, h4⟩ := h
    obtain ⟨rfl, rfl⟩ := Prod.mk.inj h4
    obtain ⟨i, rfl, rfl⟩ := negV_of h3
    refine wpAny_UnaryOp (Ans.use (H.E A env fm g ρ st _ s _ _ R0 I F h1) fun a g1 ρ1 s1 tk X1 I1 ra => ?_)
    replace ra := rpD ra; cases ra with | d ra =>
      obtain ⟨_, rfl⟩ := rdI ra
      exact P.neg_int (EA.ext X1 (tk := tk) (EA.now (s := { s with heap := s1, toks := tk }) I1 (Rp.int ..)))
  | ife t a b p =>
    replace h := bnd h; obtain ⟨⟨c, st1⟩, h1, h⟩ := h
    refine wpAny_IfExp (Ans.use (H.T A env fm g ρ st st1 s _ _ R0 I F h1) fun b g1 ρ1 s1 tk X1 I1 rb => ?_)
    subst rb
    cases b with
    | true => exact wpAny_mono (H.E A env fm g1 ρ1 st1 _ _ _ _ R0 I1 (F.ext0 X1) h) (fun u s' hs => EA.ext X1 hs) fun _ _ x => x
    | false => exact wpAny_mono (H.E A env fm g1 ρ1 st1 _ _ _ _ R0 I1 (F.ext0 X1) h) (fun u s' hs => EA.ext X1 hs) fun _ _ x => x
  | cmp a op b p =>
    replace h := ifs_of h; obtain ⟨hp, h⟩ := h
    replace h := bnd h; obtain ⟨⟨x, st1⟩, h1, h⟩ := h
    replace h := bnd h; obtain ⟨⟨y, st2⟩, h2, h⟩ := h
    replace h := mpd h; obtain ⟨c, h3, h4⟩ := h
    obtain ⟨rfl, rfl⟩ := Prod.mk.inj h4
    refine wpAny_Compare1 (Ans.use (H.E A env fm g ρ st st1 s _ _ R0 I F h1) fun a g1 ρ1 s1 tk X1 I1 ra => ?_) (marks_plain hp)
    refine Ans.use (H.E A env fm g1 ρ1 st1 _ _ _ _ R0 I1 (F.ext0 X1) h2) fun b g2 ρ2 s2 tk2 X2 I2 rb => ?_
    exact cmpV_ok hu I2 (ra.le X2.le X2.pre) rb h3 (EA.ext (X1.trans X2) (tk := tk2) (EA.now0 (s := { s with heap := s2, toks := tk2 }) I2 (Rp.bool _)))
  | mca o name apos args pos =>
    replace h := ifs_of h; obtain ⟨hc, h⟩ := h
    obtain ⟨hc, hc3⟩ := and_of hc
    obtain ⟨hc1, hc2⟩ := and_of hc
    replace h := bnd h; obtain ⟨⟨ov, st1⟩, h1, h⟩ := h
    replace h := bnd h; obtain ⟨cal, h2, h⟩ := h
    replace h := ifs_of h; obtain ⟨hm, h⟩ := h
    replace h := bnd h; obtain ⟨⟨vs, st2⟩, h3, h⟩ := h
    refine mcall hc1 hc2 (evL_len h3) (of_decide_eq_true hc3) (Ans.use (H.E A env fm g ρ st st1 s _ _ R0 I F h1) fun u g1 ρ1 s1 tk X1 I1 ru => ?_)
    intro pl
    refine Ans.use (meth_ok D I1 ru h2) fun fx g2 ρ2 s2 tk2 X2 I2 rc => ?_
    have F2 := (F.ext0 X1).ext0 X2
    cases rc with
    | @sm name id x t hid =>
      refine callWith_pv D H R0 (s := { s with heap := s2, toks := tk2 }) I2 F2 (fun _ _ _ _ _ => ⟨.machine, .inr (.inl rfl), .now⟩) h3 fun us g3 ρ3 s3 tk3 X3 I3 rus => ?_
      exact wpAny_mono (strM_ok R.hd (s := { s with heap := s3, toks := tk3 }) I3 hid rus h) (fun u s' hs => EA.ext ((X1.trans X2).trans X3) hs) fun _ _ x => x
    | @lm name id q p hp hid =>
      refine callWith_pv D H R0 (s := { s with heap := s2, toks := tk2 }) I2 F2 (fun _ _ _ _ _ => ⟨.machine, .inr (.inl rfl), .now⟩) h3 fun us g3 ρ3 s3 tk3 X3 I3 rus => ?_
      exact wpAny_mono (lstM_ok (s := { s with heap := s3, toks := tk3 }) I3 (X3.pre _ _ hp) hid rus h) (fun u s' hs => EA.ext ((X1.trans X2).trans X3) hs) fun _ _ x => x
    | @pv f first fv pfirst rf rfs =>
      refine callWith_pv D H R0 (s := { s with heap := s2, toks := tk2 }) I2 F2 (fun g3 ρ3 s3 X3 I3 => keeps_pv D I3 (rf.le X3.le X3.pre) hm) h3 fun us g3 ρ3 s3 tk3 X3 I3 rus => ?_
      exact wpAny_mono (H.C fv A g3 ρ3 st2 _ { s with heap := s3, toks := tk3 } f (first ++ us) (pfirst ++ vs) v R0 I3 (rf.le X3.le X3.pre) ((rfs.le X3.le X3.pre).append rus) h) (fun u s' hs => EA.ext ((X1.trans X2).trans X3) hs) fun _ _ x => x
  | cal f args pos =>
    replace h := ifs_of h; obtain ⟨hc, h⟩ := h
    obtain ⟨hc1, hc2⟩ := and_of hc
    replace h := bnd h; obtain ⟨⟨fv, st1⟩, h1, h⟩ := h
    replace h := ifs_of h; obtain ⟨hm, h⟩ := h
    replace h := bnd h; obtain ⟨⟨vs, st2⟩, h3, h⟩ := h
    refine Call_ (Ans.use (H.E A env fm g ρ st st1 s _ _ R0 I F h1) fun u g1 ρ1 s1 tk X1 I1 ru => ?_) (call_plain (not_of hc1))
    refine callWith_pv D H R0 (s := { s with heap := s1, toks := tk }) I1 (F.ext0 X1) (fun g3 ρ3 s3 X3 I3 => keeps_pv D I3 (ru.le X3.le X3.pre) hm) h3 fun us g3 ρ3 s3 tk3 X3 I3 rus => ?_
    exact wpAny_mono (H.C fv A g3 ρ3 st2 _ { s with heap := s3, toks := tk3 } u us vs v R0 I3 (ru.le X3.le X3.pre) rus h) (fun u s' hs => EA.ext (X1.trans X3) hs) fun _ _ x => x
  | att o name p =>
    replace h := ifs_of h; obtain ⟨hc, h⟩ := h
    replace h := bnd h; obtain ⟨⟨ov, st1⟩, h1, h⟩ := h
    replace h := mpd h; obtain ⟨x, h2, h3⟩ := h
    obtain ⟨rfl, rfl⟩ := Prod.mk.inj h3
    refine attr_eval hc (Ans.use (H.E A env fm g ρ st _ s _ _ R0 I F h1) fun u g1 ρ1 s1 tk X1 I1 ru => ?_)
    exact wpAny_mono (getA_ok D (s := { s with heap := s1, toks := tk }) I1 ru h2) (fun u s' hs => EA.ext X1 hs) fun _ _ x => x
  | slc o lo hi sp p =>
    replace h := bnd h; obtain ⟨⟨ov, st1⟩, h1, h⟩ := h
    replace h := bnd h; obtain ⟨⟨a, st2⟩, h2, h⟩ := h
    replace h := bnd h; obtain ⟨⟨b, st3⟩, h3, h⟩ := h
    replace h := mpd h; obtain ⟨y, h4, h5⟩ := h
    obtain ⟨rfl, rfl⟩ := Prod.mk.inj h5
    obtain ⟨x, rfl, h4⟩ := slcV_of h4
    refine Subscript_ (Ans.use (H.E A env fm g ρ st st1 s _ _ R0 I F h1) fun u g1 ρ1 s1 tk X1 I1 ru => ?_)
    refine wpAny_Slice (Ans.use (optI_ok H R0 I1 (F.ext0 X1) h2) fun vl g2 ρ2 s2 tk2 X2 I2 rl => ?_)
    refine Ans.use (optI_ok H R0 I2 ((F.ext0 X1).ext0 X2) h3) fun vu g3 ρ3 s3 tk3 X3 I3 rh => ?_
    rw [evalPart_none]
    refine wpAny_pure ?_
    replace ru := rpD ru; cases ru with | d ru =>
      exact wpAny_mono (slc_ok (s := { s with heap := s3, toks := tk3 }) I3 ((ru.le X2.le).le X3.le) rl rh h4) (fun u s' hs => EA.ext ((X1.trans X2).trans X3) hs) fun _ _ x => x
  | sub o i p =>
    replace h := ifs_of h; obtain ⟨hn, h⟩ := h
    replace h := bnd h; obtain ⟨⟨ov, st1⟩, h1, h⟩ := h
    replace h := bnd h; obtain ⟨⟨iv, st2⟩, h2, h⟩ := h
    replace h := bnd h; obtain ⟨k, h0, h⟩ := h
    replace h := bnd h; obtain ⟨x, h3, h⟩ := h
    replace h := mpd h; obtain ⟨y, h4, h5⟩ := h
    obtain ⟨rfl, rfl⟩ := Prod.mk.inj h5
    obtain rfl := intV_of h0
    refine Subscript_ (Ans.use (H.E A env fm g ρ st st1 s _ _ R0 I F h1) fun u g1 ρ1 s1 tk X1 I1 ru => ?_)
    refine Ans.use (H.E A env fm g1 ρ1 st1 _ _ _ _ R0 I1 (F.ext0 X1) h2) fun iu g2 ρ2 s2 tk2 X2 I2 ri => ?_
    replace ri := rpD ri; cases ri with | d ri =>
      obtain ⟨_, rfl⟩ := rdI ri
      exact wpAny_mono (idx_ok (s := { s with heap := s2, toks := tk2 }) I2 (ru.le X2.le X2.pre) h3 h4) (fun u s' hs => EA.ext (X1.trans X2) hs) fun _ _ x => x
  | lst es p =>
    replace h := bnd h; obtain ⟨⟨vs, st1⟩, h1, h⟩ := h
    replace h := bnd h; obtain ⟨xs, h2, h⟩ := h
    obtain ⟨h3, h4⟩ := of_chk h
    obtain ⟨rfl, rfl⟩ := Prod.mk.inj h4
    refine wpAny_List (Ans.use (evL_ok H R0 _ g ρ st _ s vs I F h1) fun us g1 ρ1 s1 tk X1 I1 rus => ?_)
    have rd := datas_ok rus h2
    refine ⟨by rw [rd.length]; exact lim_size h3, EA.ext X1 (tk := tk) ?_⟩
    exact EA.newList (s := { s with heap := s1, toks := tk }) (tk := tk) I1 .refl rd rfl
  | tup es k p =>
    replace h := bnd h; obtain ⟨⟨vs, st1⟩, h1, h⟩ := h
    replace h := bnd h; obtain ⟨xs, h2, h⟩ := h
    obtain ⟨h3, h4⟩ := of_chk h
    obtain ⟨rfl, rfl⟩ := Prod.mk.inj h4
    refine wpAny_Tuple (Ans.use (evL_ok H R0 _ g ρ st _ s vs I F h1) fun us g1 ρ1 s1 tk X1 I1 rus => ?_)
    have rd := datas_ok rus h2
    refine ⟨by rw [rd.length]; exact lim_size h3, EA.ext X1 (tk := tk) ?_⟩
    exact EA.newTuple (s := { s with heap := s1, toks := tk }) (tk := tk) I1 .refl rd rfl
  | cpr elt gens scope p => exact CO A env fm g ρ st st' s _ _ _ _ v R0 I F h
  | lam k cp pos =>
    change (if fm.code ≠ 97 || pos.line == 94 then none else some (PV.obj st.length, st ++ [.fobj []])) = _ at h
    split at h
    · exact nsome h
    · rename_i hc
      obtain ⟨rfl, rfl⟩ := pinj h
      simp only [Bool.or_eq_true, decide_eq_true_eq, not_or, Decidable.not_not, beq_iff_eq] at hc
      exact lambda_ok' D Rq I F hc.1 hc.2
  | ors es p => exact nsome h
end
end Mine
end
section
namespace Mine
open PySem PySem.W PyProof.Rows

section
variable {w : World} {K : Frag} {h₀ : Heap} {mg mb : Str → Option Value}

theorem truth_plain {e : Expr} {env : Env} {whole : Sem Value} (h : truthE e = true) : isTrue e env whole = (do let v ← whole; standAt e.pos; holding [v] (truthy v)) := by
  cases e <;> first | rfl | ((first | exact nsome h | (obtain ⟨rfl, rfl⟩ := pinj h; clear h) | (obtain ⟨rfl, rfl, rfl⟩ := pinj3 h; clear h) | (obtain rfl := sinj h; clear h) | cases h))

noncomputable abbrev TA (h₀ : Heap) (g : Frz) (ρ : Locs) (s : Shared) (st' : St) (b : Bool) : Bool → Shared → Prop := Ans h₀ noX g ρ s st' fun _ _ _ c => c = b
theorem TA.ext {g g₁ : Frz} {ρ ρ₁ : Locs} {s : Shared} {h₁ : Heap} {tk : Nat} {st' : St} {v : Bool} {b : Bool} {s' : Shared} (x : Ext noX g ρ s.heap g₁ ρ₁ h₁) (y : TA h₀ g₁ ρ₁ { s with heap := h₁, toks := tk } st' v b s') : TA h₀ g ρ s st' v b s' := Ans.then x y

theorem evOr_ok {r : Ev} {n : Nat} (H : Snd w h₀ r n) {A : Around} {env : Env} {fm : Fm} (R : Room n A) : ∀ (es : List Expr) (g : Frz) (ρ : Locs) (st st' : St) (s : Shared) (b : Bool), Inv h₀ g ρ st s.heap → FmOk g ρ s.heap env fm → evOr r fm st es = some (b, st') →
    wpAny (model TP w) A (allTrue .Or es env) (TA h₀ g ρ s st' b) Fls s
  | [], g, ρ, st, st', s, b, I, F, e => by
    (first | exact nsome e | (obtain ⟨rfl, rfl⟩ := pinj e; clear e) | (obtain ⟨rfl, rfl, rfl⟩ := pinj3 e; clear e) | (obtain rfl := sinj e; clear e) | cases e)
    exact wpAny_allTrue_Or_nil (Ans.here (tk := s.toks) I rfl)
  | e :: es, g, ρ, st, st', s, b, I, F, h => by
    unfold evOr at h
    replace h := bnd h; obtain ⟨⟨c, st1⟩, h1, h2⟩ := h
    dsimp only at h2
    refine wpAny_allTrue_Or_cons (Ans.use (H.T A env fm g ρ st st1 s e c R I F h1) fun u g1 ρ1 s1 tk X1 I1 ru => ?_)
    subst ru
    cases u with
    | true =>
      (first | exact nsome h2 | (obtain ⟨rfl, rfl⟩ := pinj h2; clear h2) | (obtain ⟨rfl, rfl, rfl⟩ := pinj3 h2; clear h2) | (obtain rfl := sinj h2; clear h2) | cases h2)
      exact ⟨g1, ρ1, s1, tk, rfl, X1, I1, rfl⟩
    | false => exact wpAny_mono (evOr_ok H R es g1 ρ1 st1 st' _ b I1 (F.ext0 X1) h2) (fun u s' hs => TA.ext X1 hs) fun _ _ x => x

theorem T_ok (D : Gd w K h₀ mg mb) {r : Ev} {n : Nat} (H : Snd w h₀ r n) : SndT w h₀ (step r) (n + 3) := by
  intro A env fm g ρ st st' s e b R I F h0
  have R0 : Room n A := R.less.less.less
  have hu : A.units + 64 < cLine := R.unit64
  obtain ⟨x, hx, h⟩ := bnd (show (viewT e).bind (stepY r fm st) = some (b, st') from h0)
  clear h0
  obtain ⟨rfl, hv⟩ := viewT_of hx
  clear hx
  cases x with
  | cmp a op b p =>
    replace h := ifs_of h; obtain ⟨hp, h⟩ := h
    replace h := bnd h; obtain ⟨⟨x, st1⟩, h1, h⟩ := h
    replace h := bnd h; obtain ⟨⟨y, st2⟩, h2, h⟩ := h
    replace h := mpd h; obtain ⟨c, h3, h4⟩ := h
    obtain ⟨rfl, rfl⟩ := Prod.mk.inj h4
    refine wpAny_isTrue_Compare1 (Ans.use (H.E A env fm g ρ st st1 s _ _ R0 I F h1) fun a g1 ρ1 s1 tk X1 I1 ra => ?_) (marks_plain hp)
    refine Ans.use (H.E A env fm g1 ρ1 st1 _ _ _ _ R0 I1 (F.ext0 X1) h2) fun b g2 ρ2 s2 tk2 X2 I2 rb => ?_
    exact cmpV_ok hu I2 (ra.le X2.le X2.pre) rb h3 (wpAny_truthy_bool ⟨g2, ρ2, s2, tk2, rfl, X1.trans X2, I2, rfl⟩)
  | ors es p => exact wpAny_isTrue_BoolOp (evOr_ok H R0 _ g ρ st st' s b I F h)
  | ife t a b p =>
    replace h := bnd h; obtain ⟨⟨c, st1⟩, h1, h⟩ := h
    show wpAny _ _ (isTrue (.IfExp t a b p) env (eval (.IfExp t a b p) env)) _ _ _
    rw [arm_isTrue_IfExp]
    refine wpAny_bind (Ans.use (H.T A env fm g ρ st st1 s _ _ R0 I F h1) fun u g1 ρ1 s1 tk X1 I1 ru => ?_)
    subst ru
    cases u with
    | true => exact wpAny_mono (H.T A env fm g1 ρ1 st1 _ _ _ _ R0 I1 (F.ext0 X1) h) (fun u s' hs => TA.ext X1 hs) fun _ _ x => x
    | false => exact wpAny_mono (H.T A env fm g1 ρ1 st1 _ _ _ _ R0 I1 (F.ext0 X1) h) (fun u s' hs => TA.ext X1 hs) fun _ _ x => x
  | val e =>
    replace h := bnd h; obtain ⟨⟨v, st1⟩, h1, h⟩ := h
    replace h := bnd h; obtain ⟨x, h2, h⟩ := h
    replace h := mpd h; obtain ⟨c, h3, h4⟩ := h
    obtain ⟨rfl, rfl⟩ := Prod.mk.inj h4
    refine wpAny_isTrue_value (Ans.use (H.E A env fm g ρ st _ s _ _ R0 I F h1) fun a g1 ρ1 s1 tk X1 I1 ra => ?_) (truth_plain (hv e rfl))
    exact truthy_ok (s := { s with heap := s1, toks := tk }) I1 ra h2 h3 fun tk' => ⟨g1, ρ1, s1, tk', rfl, X1, I1, rfl⟩

/-! Targets. -/
noncomputable abbrev PA (h₀ : Heap) (env : Env) (fm : Fm) (g : Frz) (ρ : Locs) (s : Shared) (st : St) (fm' : Fm) : Unit → Shared → Prop :=
  Ans h₀ (Xof env fm) g ρ s st (fun g' ρ' h' _ => FmOk g' ρ' h' env fm' ∧ fm'.names = fm.names ∧ g' = g ∧ ρ' = ρ)
theorem Xof_eq {env : Env} {fm fm' : Fm} (h : fm'.names = fm.names) : Xof env fm' = Xof env fm := by funext a; unfold Xof; rw [h]

theorem putT_ok {g : Frz} {ρ : Locs} {st : St} {s : Shared} {env : Env} {fm fm' : Fm} {t : Expr} {v : PV} {u : Value} {A : Around} (hA : A.handled = none) (I : Inv h₀ g ρ st s.heap) (F : FmOk g ρ s.heap env fm) (e : putT fm t v = some fm') (hv : Rp g ρ u v) :
    wpAny (model TP w) A (assign t env u) (PA h₀ env fm g ρ s st fm') Fls s := by
  cases t <;> first | exact nsome e | skip
  · exact wpAny_assign_Name (store_ok I F e hv)
  · obtain ⟨⟨x, y⟩, q1, e'⟩ := bnd e
    obtain ⟨⟨da, db⟩, q2, e⟩ := bnd e'
    clear e'
    obtain ⟨fm1, e1, e2⟩ := bnd e
    obtain ⟨px, py, rfl⟩ := pairN_of q1
    obtain rfl := pairD_of q2
    clear e q1 q2
    obtain ⟨a, vs, n, rfl, e3, r1⟩ := rdI (rpI hv)
    cases rdLC' r1 with
    | @cons va _ ra r2 => cases rdLC' r2 with
      | @cons vb _ rb r3 =>
        obtain rfl := rdLN r3
        have ht : s.heap.IsTuple a ⟨[va, vb]⟩ := ⟨_, I.sub _ _ e3, rfl, _, rfl⟩
        clear e3 hv
        refine wpAny_assign_Tuple hA ht rfl rfl fun h' hb => ?_
        have kp : ∀ b o, s.heap.get? b = some o → h'.get? b = some o := fun b o q => hb b o (Nat.ne_of_lt (PySem.Heap.lt_size q)) q
        have I' := I.grown kp
        have X' : Ext (Xof env fm) g ρ s.heap g ρ h' := Ext.grown fun a o q _ => kp a o q
        have F' : FmOk g ρ h' env fm := F.ext (X := noX) (Ext.grown fun a o q _ => kp a o q) fun _ _ q => q
        clear kp hb ht I F
        show wpAny _ _ (do holding [vb] (assign (.Name x px) env va); assignInOrder [assign (.Name y py) env] [vb]) _ _ _
        refine wpAny_bind (wpAny_holding (wpAny_assign_Name (Ans.use (store_ok (s := { s with heap := h' }) I' F' e1 (.d ra)) fun _ g1 ρ1 h1 tk1 X1 I1 P1 => ?_)))
        obtain ⟨F1, n1, rfl, rfl⟩ := P1
        show wpAny _ _ (do holding [] (assign (.Name y py) env vb); assignInOrder [] []) _ _ _
        refine wpAny_bind (wpAny_holding (wpAny_assign_Name (Ans.use (store_ok (s := { s with heap := h1, toks := tk1 }) I1 F1 e2 (.d rb)) fun _ g2 ρ2 h2 tk2 X2 I2 P2 => ?_)))
        obtain ⟨F2, n2, rfl, rfl⟩ := P2
        refine wpAny_pure ⟨_, _, h2, tk2, rfl, (X'.trans X1).trans ?_, I2, F2, n2.trans n1, rfl, rfl⟩
        rw [← Xof_eq n1]; exact X2

theorem not_set {e : Expr} {env : Env} (h : plainE e = true) : ∀ x, foldedSetIterable e env x = pure x := by
  intro x; cases e <;> first | rfl | ((first | exact nsome h | (obtain ⟨rfl, rfl⟩ := pinj h; clear h) | (obtain ⟨rfl, rfl, rfl⟩ := pinj3 h; clear h) | (obtain rfl := sinj h; clear h) | cases h))
end
end Mine
end
section
namespace Mine
open PySem PySem.W PyProof.Rows

/-! Loops' sources. -/
noncomputable def okTy (ty : String) : Prop := ["enumerate", "zip", "dict_itemiterator", "dict_reverseitemiterator", "odict_iterator", "itertools.zip_longest", "itertools.pairwise"].contains ty = false

inductive Src (w : World) (g : Frz) (ρ : Locs) (h : Heap) (I : Addr) : It → Prop where
  | items {fp : List Addr} {n i : Nat} {P : Nat → Value → Prop} {St : Nat → Heap → Prop} {vs : List PV} : (∀ A' : Around, A'.handled = none → Walks TP w A' I fp [I] n P St) → (∀ b ∈ fp, b = I ∨ ∃ o, g b = some o) → St i h → i + vs.length = n →
      (∀ j pv u, vs[j]? = some pv → P (i + j) u → Rp g ρ u pv) → (∀ i h, St i h → ∃ o ty, h.get? I = some o ∧ o.cls = .type ty ∧ okTy ty) → Src w g ρ h I (.items vs)
  | mlist {q i : Nat} {a : Addr} : ρ[q]? = some (a, a) → h.IsListIter I a i → Src w g ρ h I (.mlist q i)
  | call {q : Nat} {p : Addr × Addr} : ρ[q]? = some p → I = p.1 → Src w g ρ h I (.call q)

inductive SrcI (w : World) (g : Frz) (ρ : Locs) (h : Heap) (I : Addr) (vs : List PV) : Prop
  | items {fp : List Addr} {n i : Nat} {P : Nat → Value → Prop} {St : Nat → Heap → Prop} : (∀ A' : Around, A'.handled = none → Walks TP w A' I fp [I] n P St) → (∀ b ∈ fp, b = I ∨ ∃ o, g b = some o) → St i h → i + vs.length = n →
      (∀ j pv u, vs[j]? = some pv → P (i + j) u → Rp g ρ u pv) → (∀ i h, St i h → ∃ o ty, h.get? I = some o ∧ o.cls = .type ty ∧ okTy ty) → SrcI w g ρ h I vs
theorem srcI {w : World} {g : Frz} {ρ : Locs} {h : Heap} {I : Addr} {vs : List PV} (s : Src w g ρ h I (.items vs)) : SrcI w g ρ h I vs := by cases s with | items a b c d e f => exact .items a b c d e f
inductive SrcM (ρ : Locs) (h : Heap) (I : Addr) (q i : Nat) : Prop
  | mlist {a : Addr} : ρ[q]? = some (a, a) → h.IsListIter I a i → SrcM ρ h I q i
theorem srcM {w : World} {g : Frz} {ρ : Locs} {h : Heap} {I : Addr} {q i : Nat} (s : Src w g ρ h I (.mlist q i)) : SrcM ρ h I q i := by cases s with | mlist a b => exact .mlist a b

/-- the iterator is a thing of its own -/
structure Own (g : Frz) (ρ : Locs) (h : Heap) (env : Env) (fm : Fm) (I : Addr) : Prop where
  ex : ∃ o, h.get? I = some o
  off : ¬ foot ρ I
  tab : I ≠ tabP
  frz : g I = none
  env : ¬ Xof env fm I
noncomputable def isC : It → Prop
  | .call _ => True
  | _ => False

section
variable {w : World} {K : Frag} {h₀ : Heap} {mg mb : Str → Option Value}

theorem Src.keep {g g' : Frz} {ρ ρ' : Locs} {h h' : Heap} {I : Addr} {it : It} (x : Src w g ρ h I it) (l : Le g g') (p : Pre ρ ρ') (sb : Sub g h) (sb' : Sub g' h') (k : isC it ∨ ∀ o, h.get? I = some o → h'.get? I = some o) : Src w g' ρ' h' I it := by
  cases x with
  | items W fp st hl hp ht =>
    have k : ∀ o, h.get? I = some o → h'.get? I = some o := k.elim (fun f => f.elim) id
    refine .items W (fun b hb => (fp b hb).imp id fun ⟨o, ho⟩ => ⟨o, l _ _ ho⟩) ((W callerA rfl).frame _ _ _ st fun b hb o e => ?_) hl (fun j pv u a b => (hp j pv u a b).le l p) ht
    rcases fp b hb with rfl | ⟨o', ho⟩
    · exact k o e
    · have := sb _ _ ho
      rw [e] at this; cases this
      exact sb' _ _ (l _ _ ho)
  | mlist e q =>
    have k : ∀ o, h.get? I = some o → h'.get? I = some o := k.elim (fun f => f.elim) id
    obtain ⟨o, ho, r⟩ := q
    exact .mlist (p _ _ e) ⟨o, k _ ho, r⟩
  | call e q => exact .call (p _ _ e) q

theorem Own.ext {g g' : Frz} {ρ ρ' : Locs} {h h' : Heap} {env : Env} {fm : Fm} {I : Addr} (o : Own g ρ h env fm I) (x : Ext (Xof env fm) g ρ h g' ρ' h') : Own g' ρ' h' env fm I := by
  obtain ⟨ob, ho⟩ := o.ex
  obtain ⟨c1, c2⟩ := x.clean I ob ho o.off o.tab o.env
  exact ⟨⟨ob, x.keep I ob ho o.off o.tab o.env⟩, c1, o.tab, c2.trans o.frz, o.env⟩
theorem Own.kept {g g' : Frz} {ρ ρ' : Locs} {h h' : Heap} {env : Env} {fm : Fm} {I : Addr} (o : Own g ρ h env fm I) (x : Ext (Xof env fm) g ρ h g' ρ' h') : ∀ ob, h.get? I = some ob → h'.get? I = some ob := fun ob ho => x.keep I ob ho o.off o.tab o.env

theorem mem2 {a b x : Addr} (h : x ∈ [a, b]) : x = a ∨ x = b := by
  rcases List.mem_cons.mp h with h | h
  · exact .inl h
  · exact .inr (List.mem_singleton.mp h)
theorem seq_src {g : Frz} {ρ : Locs} {h' : Heap} {J a : Addr} {vs : List Value} {xs : List PyData} {S : Nat → Heap → Prop} (W : ∀ A' : Around, A'.handled = none → Walks TP w A' J [J, a] [J] (⟨vs⟩ : Array Value).size (fun i v => (⟨vs⟩ : Array Value)[i]? = some v) S) (ha : ∃ o, g a = some o) (s0 : S 0 h') (r1 : RdL g vs xs)
    (ht : ∀ i h, S i h → ∃ o ty, h.get? J = some o ∧ o.cls = .type ty ∧ okTy ty) : Src w g ρ h' J (.items (xs.map .d)) := by
  refine .items W (i := 0) (fun b hb => (mem2 hb).imp id fun (q : b = a) => q ▸ ha) s0 ?_ (fun j pv u a1 a2 => ?_) ht
  · rw [List.length_map, Nat.zero_add]; exact r1.length.symm
  · rw [List.getElem?_map] at a1
    obtain ⟨d', a3, rfl⟩ := mpd a1
    obtain ⟨u', b1, b2⟩ := r1.get j d' a3
    have a4 : (⟨vs⟩ : Array Value)[0 + j]? = some u := a2
    rw [Nat.zero_add] at a4
    have a5 : vs[j]? = some u := by simpa using a4
    obtain rfl := sinj (b1.symm.trans a5)
    exact .d b2
/-- the iterator made -/
theorem iter_ok {g : Frz} {ρ : Locs} {st : St} {s : Shared} {u : Value} {v : PV} {it : It} {A : Around} (hA : A.handled = none) (I : Inv h₀ g ρ st s.heap) (ru : Rp g ρ u v) (e : iterOf v st = some it) {Q : Value → Shared → Prop}
    (h : ∀ J h' tk, Ext noX g ρ s.heap g ρ h' → Inv h₀ g ρ st h' → Src w g ρ h' J it → (isC it ∨ (s.heap.objs.size ≤ J ∧ ∃ o, h'.get? J = some o)) → Q (.ref J) { s with heap := h', toks := tk }) : wpAny (model TP w) A (pyIter u) Q Fls s := by
  have new : ∀ (o : Obj) (it : It), o.isFreed = false → (∀ h', h' = s.heap.push o → Src w g ρ h' s.heap.objs.size it) → ∀ tk, (∀ J h' tk, Ext noX g ρ s.heap g ρ h' → Inv h₀ g ρ st h' → Src w g ρ h' J it → (isC it ∨ (s.heap.objs.size ≤ J ∧ ∃ o, h'.get? J = some o)) → Q (.ref J) { s with heap := h', toks := tk }) →
      Q (.ref s.heap.objs.size) { s with heap := s.heap.push o, toks := tk } := fun o it hf hs tk h =>
    h _ _ tk (Ext.alloc _) (I.alloc _) (hs _ rfl) (.inr ⟨Nat.le_refl _, o, PySem.Heap.get?_push_size _ hf⟩)
  have ne : ∀ {a : Addr} {o : Obj}, s.heap.get? a = some o → a ≠ s.heap.objs.size := fun e q => absurd (PySem.Heap.lt_size e) (by rw [q]; exact Nat.lt_irrefl _)
  cases v <;> first | exact nsome e | skip
  · rename_i x
    replace ru := rpI ru
    cases x <;> first | exact nsome e | skip
    · rename_i x
      obtain ⟨e1, rfl⟩ := of_chk e
      obtain ⟨t, rfl⟩ := rdI ru
      have key : ∀ (ty : String) (St : Nat → Heap → Prop), okTy ty → (∀ i h, St i h → ∃ o ty', h.get? s.heap.objs.size = some o ∧ o.cls = .type ty' ∧ okTy ty') → (∀ A' : Around, A'.handled = none → Walks TP w A' s.heap.objs.size [s.heap.objs.size] [s.heap.objs.size] x.cps.size (SignAt x) St) → ∀ h', St 0 h' → Src w g ρ h' s.heap.objs.size (.items ((sl x).map fun c => .d (.str (mkS [c])))) := fun ty St hty hst W h' hs' => by
        refine .items W (i := 0) (fun b hb => ?_) hs' ?_ (fun j pv u a1 a2 => ?_) hst
        · simp at hb; exact .inl hb
        · simp
        · simp only [List.getElem?_map, Option.map_eq_some_iff] at a1
          obtain ⟨c, a3, rfl⟩ := a1
          obtain ⟨c', u', b1, rfl⟩ := a2
          rw [Nat.zero_add] at b1
          have : c = c' := by
            have b2 : (sl x)[j]? = some c' := by simpa using b1
            rw [a3] at b2; exact Option.some.inj b2
          subst this
          exact Rp.str _ _
      cases ha : x.cps.all (· < 128)
      · refine wpAny_pyIter_wide ha (new _ _ rfl (fun h' hh => ?_) s.toks h)
        subst hh
        exact key "str_iterator" _ (by unfold okTy; decide) (fun i h ⟨o, ho, hc, _⟩ => ⟨o, _, ho, hc, by unfold okTy; decide⟩) (fun A' hA' => Walks.strWide hA' _ x t) _ ⟨_, PySem.Heap.get?_push_size _ rfl, rfl, rfl⟩
      · refine wpAny_pyIter_ascii ha (new _ _ rfl (fun h' hh => ?_) s.toks h)
        subst hh
        exact key "str_ascii_iterator" _ (by unfold okTy; decide) (fun i h ⟨o, ho, hc, _⟩ => ⟨o, _, ho, hc, by unfold okTy; decide⟩) (fun A' hA' => Walks.strAscii hA' _ x t) _ ⟨_, PySem.Heap.get?_push_size _ rfl, rfl, rfl⟩

    · obtain ⟨e1, rfl⟩ := of_chk e
      obtain ⟨a, o, vs, n, rfl, e2, c, d, r1⟩ := rdI ru
      have hl : s.heap.IsList a ⟨vs⟩ := ⟨_, I.sub _ _ e2, c, _, d⟩
      refine wpAny_pyIter_list hl (new _ _ rfl (fun h' hh => ?_) s.toks h)
      subst hh
      exact seq_src (fun A' hA' => Walks.list hA' _ a (ne (I.sub _ _ e2)) ⟨vs⟩) ⟨_, e2⟩ ⟨⟨_, PySem.Heap.get?_push_size _ rfl, rfl, rfl⟩, hl.push _⟩ r1 fun i h hh => hh.1.elim fun o q => ⟨o, _, q.1, q.2.1, by unfold okTy; decide⟩
    · obtain ⟨e1, rfl⟩ := of_chk e
      obtain ⟨a, vs, n, rfl, e2, r1⟩ := rdI ru
      have hl : s.heap.IsTuple a ⟨vs⟩ := ⟨_, I.sub _ _ e2, rfl, _, rfl⟩
      refine wpAny_pyIter_tuple hl (new _ _ rfl (fun h' hh => ?_) s.toks h)
      subst hh
      exact seq_src (fun A' hA' => Walks.tuple hA' _ a (ne (I.sub _ _ e2)) ⟨vs⟩) ⟨_, e2⟩ ⟨⟨_, PySem.Heap.get?_push_size _ rfl, rfl, rfl⟩, ⟨_, PySem.Heap.get?_push_of_some _ (I.sub _ _ e2), rfl, _, rfl⟩⟩ r1 fun i h hh => hh.1.elim fun o q => ⟨o, _, q.1, q.2.1, by unfold okTy; decide⟩
  · rename_i r
    obtain ⟨m, hs, e⟩ := bnd e
    obtain ⟨p, rfl, hp⟩ := rpI ru
    have mm := matF (I.mat _ _ _ hp hs)
    cases m <;> first | exact nsome e | skip
    · obtain rfl := sinj e
      obtain ⟨a, vs, n, rfl, e1, r1⟩ := mm
      refine wpAny_pyIter_list ⟨_, e1, rfl, _, rfl⟩ (new _ _ rfl (fun h' hh => ?_) s.toks h)
      subst hh
      exact .mlist hp ⟨_, PySem.Heap.get?_push_size _ rfl, rfl, rfl⟩
    · obtain rfl := sinj e
      obtain ⟨a, m, q, x, t, rfl, e1, _⟩ := mm
      exact pyIter_citer ⟨_, e1, rfl⟩ (h _ s.heap s.toks .refl I (.call hp rfl) (.inl trivial))
    · obtain rfl := sinj e
      obtain ⟨a, u, v, rfl, e1⟩ := mm
      exact pyIter_citer ⟨_, e1, rfl⟩ (h _ s.heap s.toks .refl I (.call hp rfl) (.inl trivial))
  · rename_i n
    obtain ⟨e0, rfl⟩ := of_chk e
    obtain ⟨a, o, t, u, w', rfl, e1, rfl⟩ := rpI ru
    unfold lim at e0
    have hr : IsRange s.heap a 0 (n : Int) 1 t u w' := I.sub _ _ e1
    have hz : Builtin.Range.rangeSize 0 (n : Int) 1 = (n : Int) := by rw [rangeSize_one]; split <;> omega
    refine wpAny_pyIter_range hr (small_one (by omega) (by omega) (by omega) (by omega)) ?_
    rw [hz]
    refine new _ _ rfl (fun h' hh => ?_) s.toks h
    subst hh
    refine .items (i := 0) (fun A' hA' => Walks.range hA' _ 0 1 n) (fun b hb => ?_) ?_ ?_ (fun j pv u a1 a2 => ?_) fun i h hh => ⟨_, _, hh, rfl, by unfold okTy; decide⟩
    · simp at hb; exact .inl hb
    · have := PySem.Heap.get?_push_size s.heap (o := ({ cls := .type "range_iterator", data := .fields #[rawInt 0, rawInt (n : Int), rawInt 1] } : Obj)) rfl
      simpa using this
    · simp [rngL]
    · obtain ⟨t', rfl⟩ := a2
      unfold rngL at a1
      simp only [List.getElem?_map, Option.map_eq_some_iff] at a1
      obtain ⟨c, a3, rfl⟩ := a1
      have : c = j := by
        have h1 := (List.getElem?_eq_some_iff.mp a3).2
        simpa using h1.symm
      subst this
      have : (0 + ((0 + c : Nat) : Int) * 1) = Int.ofNat c := by simp
      rw [this]
      exact Rp.int _ _
end
end Mine
end
section
namespace Mine
open PySem PySem.W PyProof.Rows

section
variable {w : World} {K : Frag} {h₀ : Heap} {mg mb : Str → Option Value}

noncomputable abbrev okR (Z : Flow → Shared → Prop) : Result → Shared → Prop := fun r s' => match r with | .ok f => Z f s' | .error _ => False

theorem go_ok {target : Expr} {J : Addr} {v : Value} {s : Shared} {A : Around} {Q : Unit → Shared → Prop} {o : Obj} {ty : String} (ho : s.heap.get? J = some o) (hc : o.cls = .type ty) (hty : okTy ty) (h : Q () s) : wpAny (model TP w) A (letOwnedTupleGo target (.ref J) v) Q Fls s := by
  unfold letOwnedTupleGo
  have fin : wpAny (model TP w) A (do
      let (.ref r, .ref a) := (Value.ref J, v) | return ()
      let o ← load r
      match o.cls, o.data with
      | .type n, .fields vs =>
        if ["enumerate", "zip", "dict_itemiterator", "dict_reverseitemiterator", "odict_iterator", "itertools.zip_longest", "itertools.pairwise"].contains n && vs[0]? == some (rawInt a) then
          rule "for.unpacks-the-owned-tuple"
          updateField r 0 .none
      | _, _ => pure ()) Q Fls s := by
    cases v with
    | ref a =>
      refine wpAny_bind (wpAny_load ho ?_)
      rw [hc]
      cases o.data <;> first | exact wpAny_pure h | skip
      dsimp only
      rw [show (["enumerate", "zip", "dict_itemiterator", "dict_reverseitemiterator", "odict_iterator", "itertools.zip_longest", "itertools.pairwise"].contains ty) = false from hty]
      exact wpAny_pure h
    | _ => exact wpAny_pure h
  cases target <;> first | exact fin | exact wpAny_pure h

theorem loop_step {A : Around} {target : Expr} {it : Value} {body : List Stmt} {env : Env} {Z : Flow → Shared → Prop} {s : Shared}
    (h : wpAny (model TP w) A (pyNext it) (fun r s₁ => match r with
      | none => Z .next s₁
      | some v => wpAny (model TP w) A (letOwnedTupleGo target it v) (fun _ s₁' => wpAny (model TP w) A (assign target env v) (fun _ s₂ => wpAny (model TP w) A (execs body env) (fun f s₃ => match f with
          | .next => codeAny (model TP w) A (.forLoop target it body [] env) (okR Z) s₃
          | .cont => codeAny (model TP w) A (.forLoop target it body [] env) (okR Z) s₃
          | .brk => Z .next s₃
          | .ret v => Z (.ret v) s₃) Fls s₂) Fls s₁') Fls s₁) Fls s) : codeAny (model TP w) A (.forLoop target it body [] env) (okR Z) s := by
  refine codeAny_of_tree ?_
  show wpAny _ _ ((forTurn target it body [] env).onRaise (fun x => do noteFrame x env; theTreesLotGoes x)) _ _ s
  refine wpAny_noted ?_
  simp only [forTurn]
  refine wpAny_bind (wpAny_standAt (wpAny_bind (wpAny_onRaise (wpAny_mono h (fun r s₁ h₁ => ?_) fun _ _ h' => h'.elim))))
  cases r with
  | none =>
    refine wpAny_pure ⟨rfl, codeAny_block ?_⟩
    exact wpAny_execs_nil h₁
  | some v =>
    refine wpAny_bind (wpAny_mono h₁ (fun _ s₁' h₁' => ?_) fun _ _ h' => h'.elim)
    refine wpAny_bind (wpAny_mono h₁' (fun _ s₂ h₂ => wpAny_bind (wpAny_mono h₂ (fun f s₃ h₃ => ?_) fun _ _ h' => h'.elim)) fun _ _ h' => h'.elim)
    cases f with
    | next => exact wpAny_pure ⟨rfl, h₃⟩
    | cont => exact wpAny_pure ⟨rfl, h₃⟩
    | brk => exact wpAny_pure h₃
    | ret v => exact wpAny_pure h₃

noncomputable abbrev XJ (env : Env) (fm : Fm) (J : Addr) : Addr → Prop := fun a => Xof env fm a ∨ a = J
noncomputable abbrev LA (h₀ : Heap) (env : Env) (fm : Fm) (J : Addr) (g : Frz) (ρ : Locs) (s : Shared) (st' : St) (fl : Fl) (fm' : Fm) : Flow → Shared → Prop :=
  Ans h₀ (XJ env fm J) g ρ s st' (fun g' ρ' h' f => FlOk g' ρ' f fl ∧ FmOk g' ρ' h' env fm' ∧ fm'.names = fm.names)

theorem Inv.but {g : Frz} {ρ : Locs} {st : St} {h h' : Heap} {J : Addr} (I : Inv h₀ g ρ st h) (f : ¬ foot ρ J) (t : J ≠ tabP) (n : g J = none) (k : ∀ b o, b ∉ [J] → h.get? b = some o → h'.get? b = some o) : Inv h₀ g ρ st h' :=
  I.keeps fun a o e q => k a o (by simp only [List.mem_singleton]; rintro rfl; rcases q with q | q | q; exact f q; exact t q; rw [n] at q; cases q) e
theorem Ext.but {X : Addr → Prop} {g : Frz} {ρ : Locs} {h h' : Heap} {J : Addr} (k : ∀ b o, b ∉ [J] → h.get? b = some o → h'.get? b = some o) (x : X J) : Ext X g ρ h g ρ h' := Ext.grown fun a o e n => k a o (by simp only [List.mem_singleton]; rintro rfl; exact n x) e
theorem FmOk.but {g : Frz} {ρ : Locs} {h h' : Heap} {env : Env} {fm : Fm} {J : Addr} (F : FmOk g ρ h env fm) (k : ∀ b o, b ∉ [J] → h.get? b = some o → h'.get? b = some o) (n : J ≠ env.locals) (n2 : ∀ y, env.cells.lookup y ≠ some J) : FmOk g ρ h' env fm :=
  F.ext (X := fun a => a = J) (Ext.but k rfl) fun a q e => by subst e; rcases q with q | ⟨y, q⟩; exact n q; exact n2 y q

/-- the loop's iterator is no part of the frame -/
structure Free (env : Env) (J : Addr) : Prop where
  loc : J ≠ env.locals
  cel : ∀ y, env.cells.lookup y ≠ some J
theorem Free.xof {env : Env} {J : Addr} (F : Free env J) (fm : Fm) : ¬ Xof env fm J := fun q => by rcases q with q | ⟨y, _, q⟩; exact F.loc q; exact F.cel y q

theorem forItems_ok {r : Ev} {n : Nat} (H : Snd w h₀ r n) {A : Around} {env : Env} {tgt : Expr} {body : List Stmt} {J : Addr} (R : Room n A) (FJ : Free env J) : ∀ (vs : List PV) (g : Frz) (ρ : Locs) (st st' : St) (fm fm' : Fm) (s : Shared) (fl : Fl), Inv h₀ g ρ st s.heap → FmOk g ρ s.heap env fm → Src w g ρ s.heap J (.items vs) → Own g ρ s.heap env fm J →
    forItems r tgt body vs fm st = some (fl, fm', st') → codeAny (model TP w) A (.forLoop tgt (.ref J) body [] env) (okR (LA h₀ env fm J g ρ s st' fl fm')) s
  | [], g, ρ, st, st', fm, fm', s, fl, I, F, S, O, e => by
    (first | exact nsome e | (obtain ⟨rfl, rfl⟩ := pinj e; clear e) | (obtain ⟨rfl, rfl, rfl⟩ := pinj3 e; clear e) | (obtain rfl := sinj e; clear e) | cases e)
    replace S := srcI S; cases S with
    | @items fp nn i P St W hfp hst hl hp ht =>
      refine loop_step ((W A R.hd).done s _ _ (by simpa using (show nn = i by simpa using hl.symm) ▸ hst) fun h' tk k => ?_)
      exact ⟨g, ρ, h', tk, rfl, Ext.but k (.inr rfl), I.but O.off O.tab O.frz k, .nx, F.but k FJ.loc FJ.cel, rfl⟩
  | v :: vs, g, ρ, st, st', fm, fm', s, fl, I, F, S, O, e => by
    unfold forItems at e
    replace e := bnd e; obtain ⟨fm1, e1, e⟩ := e
    replace e := bnd e; obtain ⟨⟨fl1, fm2, st1⟩, e2, e⟩ := e
    dsimp only at e
    replace S := srcI S; cases S with
    | @items fp nn i P St W hfp hst hl hp ht =>
      refine loop_step ((W A R.hd).item i s _ _ (by simp at hl; omega) hst fun u h1 tk1 hP hst1 k => ?_)
      have ru := hp 0 v u rfl hP
      have I1 := I.but O.off O.tab O.frz k
      have F1 := F.but k FJ.loc FJ.cel
      have X1 : Ext (XJ env fm J) g ρ s.heap g ρ h1 := Ext.but k (.inr rfl)
      obtain ⟨oJ, tyJ, hoJ, hcJ, htJ⟩ := ht _ _ hst1
      have O1 : Own g ρ h1 env fm J := ⟨⟨oJ, hoJ⟩, O.off, O.tab, O.frz, O.env⟩
      have S1 : Src w g ρ h1 J (.items vs) := .items W hfp hst1 (by simp at hl; omega) (fun j pv u a b => hp (j + 1) pv u (by simpa using a) (by rw [show i + (j + 1) = i + 1 + j by omega]; exact b)) ht
      refine go_ok hoJ hcJ htJ (Ans.use (putT_ok R.hd (s := { s with heap := h1, toks := tk1 }) I1 F1 e1 ru) fun _ g2 ρ2 h2 tk2 X2 I2 P2 => ?_)
      obtain ⟨F2, n2, rfl, rfl⟩ := P2
      refine Ans.use (H.B A env fm1 fm2 g2 ρ2 st st1 { s with heap := h2, toks := tk2 } body fl1 R I2 F2 e2) fun f g3 ρ3 h3 tk3 X3 I3 P3 => ?_
      obtain ⟨fo, F3, n3⟩ := P3
      have X23 : Ext (Xof env fm) g2 ρ2 h1 g3 ρ3 h3 := by
        refine Ext.trans X2 ?_
        rw [← Xof_eq n2]; exact X3
      have nn' : fm2.names = fm.names := n3.trans n2
      have X13 : Ext (XJ env fm J) g2 ρ2 s.heap g3 ρ3 h3 := X1.trans (X23.weaken fun a o _ q => .inl q)
      have again : forItems r tgt body vs fm2 st1 = some (fl, fm', st') → codeAny (model TP w) A (.forLoop tgt (.ref J) body [] env) (okR (LA h₀ env fm J g2 ρ2 s st' fl fm')) { s with heap := h3, toks := tk3 } := fun e => by
        have O3 : Own g3 ρ3 h3 env fm2 J := by
          have := O1.ext X23
          exact ⟨this.ex, this.off, this.tab, this.frz, FJ.xof _⟩
        have S3 : Src w g3 ρ3 h3 J (.items vs) := S1.keep X23.le X23.pre I1.sub I3.sub (.inr (O1.kept X23))
        refine codeAny_mono (forItems_ok H R FJ vs g3 ρ3 st1 st' fm2 fm' { s with heap := h3, toks := tk3 } fl I3 F3 S3 O3 e) fun res s' z => ?_
        cases res with
        | error _ => exact z
        | ok f =>
          obtain ⟨g4, ρ4, h4, tk4, rfl, X4, I4, fo4, F4, n4⟩ := z
          refine ⟨g4, ρ4, h4, tk4, rfl, X13.trans (X4.weaken fun a o _ q => ?_), I4, fo4, F4, n4.trans nn'⟩
          rcases q with q | q
          · exact .inl (by rw [Xof_eq nn'] at q; exact q)
          · exact .inr q
      cases fo with
      | nx => exact again e
      | ct => exact again e
      | br => (first | exact nsome e | (obtain ⟨rfl, rfl⟩ := pinj e; clear e) | (obtain ⟨rfl, rfl, rfl⟩ := pinj3 e; clear e) | (obtain rfl := sinj e; clear e) | cases e); exact ⟨g3, ρ3, h3, tk3, rfl, X13, I3, .nx, F3, nn'⟩
      | rt rr => (first | exact nsome e | (obtain ⟨rfl, rfl⟩ := pinj e; clear e) | (obtain ⟨rfl, rfl, rfl⟩ := pinj3 e; clear e) | (obtain rfl := sinj e; clear e) | cases e); exact ⟨g3, ρ3, h3, tk3, rfl, X13, I3, .rt rr, F3, nn'⟩

theorem turn_ok {r : Ev} {n : Nat} (H : Snd w h₀ r n) {A : Around} {env : Env} {tgt : Expr} {body : List Stmt} {it : Value} (R : Room n A) {g : Frz} {ρ : Locs} {st st1 : St} {fm fm1 fm2 : Fm} {s : Shared} {fl1 : Fl} {u : Value} {v : PV} {Z : Flow → Shared → Prop} (I1 : Inv h₀ g ρ st s.heap) (F1 : FmOk g ρ s.heap env fm)
    (e1 : putT fm tgt v = some fm1) (e2 : r.B fm1 st body = some (fl1, fm2, st1)) (ru : Rp g ρ u v)
    (k : ∀ f g3 ρ3 h3 tk3, Ext (Xof env fm) g ρ s.heap g3 ρ3 h3 → Inv h₀ g3 ρ3 st1 h3 → FlOk g3 ρ3 f fl1 → FmOk g3 ρ3 h3 env fm2 → fm2.names = fm.names → (match f with
      | .next => codeAny (model TP w) A (.forLoop tgt it body [] env) (okR Z) { s with heap := h3, toks := tk3 }
      | .cont => codeAny (model TP w) A (.forLoop tgt it body [] env) (okR Z) { s with heap := h3, toks := tk3 }
      | .brk => Z .next { s with heap := h3, toks := tk3 }
      | .ret v => Z (.ret v) { s with heap := h3, toks := tk3 })) :
    wpAny (model TP w) A (assign tgt env u) (fun _ s₂ => wpAny (model TP w) A (execs body env) (fun f s₃ => match f with
          | .next => codeAny (model TP w) A (.forLoop tgt it body [] env) (okR Z) s₃
          | .cont => codeAny (model TP w) A (.forLoop tgt it body [] env) (okR Z) s₃
          | .brk => Z .next s₃
          | .ret v => Z (.ret v) s₃) Fls s₂) Fls s := by
  refine Ans.use (putT_ok R.hd I1 F1 e1 ru) fun _ g2 ρ2 h2 tk2 X2 I2 P2 => ?_
  obtain ⟨F2, n2, rfl, rfl⟩ := P2
  refine Ans.use (H.B A env fm1 fm2 g2 ρ2 st st1 { s with heap := h2, toks := tk2 } body fl1 R I2 F2 e2) fun f g3 ρ3 h3 tk3 X3 I3 P3 => ?_
  obtain ⟨fo, F3, n3⟩ := P3
  have X23 : Ext (Xof env fm) g2 ρ2 s.heap g3 ρ3 h3 := by
    refine Ext.trans X2 ?_
    rw [← Xof_eq n2]; exact X3
  have z := k f g3 ρ3 h3 tk3 X23 I3 fo F3 (n3.trans n2)
  cases f <;> exact z

theorem forList_ok {r : Ev} {n : Nat} (H : Snd w h₀ r n) {A : Around} {env : Env} {tgt : Expr} {body : List Stmt} {J : Addr} {q : Nat} (R : Room n A) (FJ : Free env J) : ∀ (fuel i : Nat) (g : Frz) (ρ : Locs) (st st' : St) (fm fm' : Fm) (s : Shared) (fl : Fl), Inv h₀ g ρ st s.heap → FmOk g ρ s.heap env fm → Src w g ρ s.heap J (.mlist q i) → Own g ρ s.heap env fm J →
    forList r tgt body q fuel i fm st = some (fl, fm', st') → codeAny (model TP w) A (.forLoop tgt (.ref J) body [] env) (okR (LA h₀ env fm J g ρ s st' fl fm')) s
  | 0, i, g, ρ, st, st', fm, fm', s, fl, I, F, S, O, e => by (first | exact nsome e | (obtain ⟨rfl, rfl⟩ := pinj e; clear e) | (obtain ⟨rfl, rfl, rfl⟩ := pinj3 e; clear e) | (obtain rfl := sinj e; clear e) | cases e)
  | fuel + 1, i, g, ρ, st, st', fm, fm', s, fl, I, F, S, O, e => by
    unfold forList at e
    split at e
    · rename_i xs hs
      split at e
      · replace S := srcM S; cases S with
        | @mlist a hp hit =>
          have m := I.mat _ _ _ hp hs
          replace m := matLa m; cases m with
          | @list vs nn e1 r1 =>
            have hl : s.heap.IsList a ⟨vs⟩ := ⟨_, e1, rfl, _, rfl⟩
            split at e
            · rename_i x hx
              replace e := bnd e; obtain ⟨fm1, e1', e⟩ := e
              replace e := bnd e; obtain ⟨⟨fl1, fm2, st1⟩, e2, e⟩ := e
              dsimp only at e
              obtain ⟨u, hu, ru⟩ := r1.get i x hx
              refine loop_step (wpAny_pyNext_list_item hit hl (by simpa using hu) fun h1 hit1 hs1 => ?_)
              have k : ∀ b o, b ∉ [J] → s.heap.get? b = some o → h1.get? b = some o := fun b o nb e => hs1.extBut b o (by simpa using nb) e
              have I1 := I.but O.off O.tab O.frz k
              have F1 := F.but k FJ.loc FJ.cel
              have X1 : Ext (XJ env fm J) g ρ s.heap g ρ h1 := Ext.but k (.inr rfl)
              obtain ⟨oJ, hoJ, hcJ, hdJ⟩ := id hit1
              have O1 : Own g ρ h1 env fm J := ⟨⟨oJ, hoJ⟩, O.off, O.tab, O.frz, O.env⟩
              have S1 : Src w g ρ h1 J (.mlist q (i + 1)) := .mlist hp hit1
              refine go_ok (s := { s with heap := h1 }) hoJ hcJ (by unfold okTy; decide) (turn_ok H (s := { s with heap := h1 }) R I1 F1 e1' e2 (.d ru) fun f g3 ρ3 h3 tk3 X23 I3 fo F3 nn' => ?_)
              have X13 : Ext (XJ env fm J) g ρ s.heap g3 ρ3 h3 := X1.trans (X23.weaken fun a o _ q => .inl q)
              have again : forList r tgt body q fuel (i + 1) fm2 st1 = some (fl, fm', st') → codeAny (model TP w) A (.forLoop tgt (.ref J) body [] env) (okR (LA h₀ env fm J g ρ s st' fl fm')) { s with heap := h3, toks := tk3 } := fun e => by
                have O3 : Own g3 ρ3 h3 env fm2 J := by
                  have := O1.ext X23
                  exact ⟨this.ex, this.off, this.tab, this.frz, FJ.xof _⟩
                have S3 : Src w g3 ρ3 h3 J (.mlist q (i + 1)) := S1.keep X23.le X23.pre I1.sub I3.sub (.inr (O1.kept X23))
                refine codeAny_mono (forList_ok H R FJ fuel (i + 1) g3 ρ3 st1 st' fm2 fm' { s with heap := h3, toks := tk3 } fl I3 F3 S3 O3 e) fun res s' z => ?_
                cases res with
                | error _ => exact z
                | ok f =>
                  obtain ⟨g4, ρ4, h4, tk4, rfl, X4, I4, fo4, F4, n4⟩ := z
                  refine ⟨g4, ρ4, h4, tk4, rfl, X13.trans (X4.weaken fun a o _ q => ?_), I4, fo4, F4, n4.trans nn'⟩
                  rcases q with q | q
                  · exact .inl (by rw [Xof_eq nn'] at q; exact q)
                  · exact .inr q
              cases fo with
              | nx => exact again e
              | ct => exact again e
              | br => (first | exact nsome e | (obtain ⟨rfl, rfl⟩ := pinj e; clear e) | (obtain ⟨rfl, rfl, rfl⟩ := pinj3 e; clear e) | (obtain rfl := sinj e; clear e) | cases e); exact ⟨g3, ρ3, h3, tk3, rfl, X13, I3, .nx, F3, nn'⟩
              | rt rr => (first | exact nsome e | (obtain ⟨rfl, rfl⟩ := pinj e; clear e) | (obtain ⟨rfl, rfl, rfl⟩ := pinj3 e; clear e) | (obtain rfl := sinj e; clear e) | cases e); exact ⟨g3, ρ3, h3, tk3, rfl, X13, I3, .rt rr, F3, nn'⟩
            · rename_i hx
              (first | exact nsome e | (obtain ⟨rfl, rfl⟩ := pinj e; clear e) | (obtain ⟨rfl, rfl, rfl⟩ := pinj3 e; clear e) | (obtain rfl := sinj e; clear e) | cases e)
              have hx' : (⟨vs⟩ : Array Value)[i]? = none := by
                rw [List.getElem?_eq_none_iff] at hx
                have := r1.length
                simp; omega
              refine loop_step (wpAny_pyNext_list_end R.hd hit hl hx' fun h' he => ?_)
              have k : ∀ b o, b ∉ [J] → s.heap.get? b = some o → h'.get? b = some o := fun b o nb e => he b o (by simpa using nb) e
              exact ⟨g, ρ, h', s.toks, rfl, Ext.but k (.inr rfl), I.but O.off O.tab O.frz k, .nx, F.but k FJ.loc FJ.cel, rfl⟩
      · (first | exact nsome e | (obtain ⟨rfl, rfl⟩ := pinj e; clear e) | (obtain ⟨rfl, rfl, rfl⟩ := pinj3 e; clear e) | (obtain rfl := sinj e; clear e) | cases e)
    · (first | exact nsome e | (obtain ⟨rfl, rfl⟩ := pinj e; clear e) | (obtain ⟨rfl, rfl, rfl⟩ := pinj3 e; clear e) | (obtain rfl := sinj e; clear e) | cases e)

theorem forCall_ok (D : Gd w K h₀ mg mb) {r : Ev} {n : Nat} (H : Snd w h₀ r n) {A : Around} {env : Env} {tgt : Expr} {body : List Stmt} {q : Nat} (ht : ∀ it v, letOwnedTupleGo tgt it v = pure ()) (R : Room (n + 1) A) : ∀ (fuel : Nat) (g : Frz) (ρ : Locs) (p : Addr × Addr) (st st' : St) (fm fm' : Fm) (s : Shared) (fl : Fl), Inv h₀ g ρ st s.heap → FmOk g ρ s.heap env fm → ρ[q]? = some p →
    forCall r tgt body q fuel fm st = some (fl, fm', st') → codeAny (model TP w) A (.forLoop tgt (.ref p.1) body [] env) (okR (BA h₀ env fm g ρ s st' fl fm')) s
  | 0, g, ρ, p, st, st', fm, fm', s, fl, I, F, S, e => by (first | exact nsome e | (obtain ⟨rfl, rfl⟩ := pinj e; clear e) | (obtain ⟨rfl, rfl, rfl⟩ := pinj3 e; clear e) | (obtain rfl := sinj e; clear e) | cases e)
  | fuel + 1, g, ρ, p, st, st', fm, fm', s, fl, I, F, S, e => by
    unfold forCall at e
    replace e := bnd e; obtain ⟨⟨x, st0⟩, e0, e⟩ := e
    refine loop_step (Ans.use (next_ok D H R I S e0) fun ov g1 ρ1 h1 tk1 X1 I1 P1 => ?_)
    have F1 := F.ext0 X1
    cases x with
    | none =>
      cases ov with
      | some _ => exact P1.elim
      | none => (first | exact nsome e | (obtain ⟨rfl, rfl⟩ := pinj e; clear e) | (obtain ⟨rfl, rfl, rfl⟩ := pinj3 e; clear e) | (obtain rfl := sinj e; clear e) | cases e); exact ⟨g1, ρ1, h1, tk1, rfl, X1.weaken fun _ _ _ q => q.elim, I1, .nx, F1, rfl⟩
    | some v =>
      cases ov with
      | none => exact P1.elim
      | some u =>
        dsimp only at e ⊢
        replace e := bnd e; obtain ⟨fm1, e1', e⟩ := e
        replace e := bnd e; obtain ⟨⟨fl1, fm2, st1⟩, e2, e⟩ := e
        dsimp only at e
        rw [ht]
        refine wpAny_pure (turn_ok H (s := { s with heap := h1, toks := tk1 }) R.less I1 F1 e1' e2 P1 fun f g3 ρ3 h3 tk3 X23 I3 fo F3 nn' => ?_)
        have X13 : Ext (Xof env fm) g ρ s.heap g3 ρ3 h3 := (X1.weaken fun _ _ _ q => q.elim).trans X23
        have again : forCall r tgt body q fuel fm2 st1 = some (fl, fm', st') → codeAny (model TP w) A (.forLoop tgt (.ref p.1) body [] env) (okR (BA h₀ env fm g ρ s st' fl fm')) { s with heap := h3, toks := tk3 } := fun e => by
          refine codeAny_mono (forCall_ok D H ht R fuel g3 ρ3 p st1 st' fm2 fm' { s with heap := h3, toks := tk3 } fl I3 F3 (X13.pre _ _ S) e) fun res s' z => ?_
          cases res with
          | error _ => exact z
          | ok f =>
            obtain ⟨g4, ρ4, h4, tk4, rfl, X4, I4, fo4, F4, n4⟩ := z
            refine ⟨g4, ρ4, h4, tk4, rfl, X13.trans ?_, I4, fo4, F4, n4.trans nn'⟩
            rw [← Xof_eq nn']; exact X4
        cases fo with
        | nx => exact again e
        | ct => exact again e
        | br => (first | exact nsome e | (obtain ⟨rfl, rfl⟩ := pinj e; clear e) | (obtain ⟨rfl, rfl, rfl⟩ := pinj3 e; clear e) | (obtain rfl := sinj e; clear e) | cases e); exact ⟨g3, ρ3, h3, tk3, rfl, X13, I3, .nx, F3, nn'⟩
        | rt rr => (first | exact nsome e | (obtain ⟨rfl, rfl⟩ := pinj e; clear e) | (obtain ⟨rfl, rfl, rfl⟩ := pinj3 e; clear e) | (obtain rfl := sinj e; clear e) | cases e); exact ⟨g3, ρ3, h3, tk3, rfl, X13, I3, .rt rr, F3, nn'⟩
end
end Mine
end
section
namespace Mine
open PySem PySem.W PyProof.Rows

/-! List comprehensions. -/
section
variable {w : World} {K : Frag} {h₀ : Heap} {mg mb : Str → Option Value}

noncomputable def ifsLoop (ifs : List Expr) (env : Env) : Sem Bool := forIn ifs true fun c r => if r = true then do let ok ← isTrue c env (eval c env); pure (ForInStep.yield ok) else pure (ForInStep.yield r)

theorem comp_step {A : Around} {elt : Expr} {gens : List Comprehension} {scope : Scope} {pos : Pos} {depth : Nat} {g : Comprehension} {it acc : Value} {env : Env} {Z : Shared → Prop} {s : Shared} (hg : gens[depth]? = some g) (ha : g.is_async = 0)
    (h : wpAny (model TP w) A (pyNext it) (fun r s₁ => match r with
      | none => Z s₁
      | some v => wpAny (model TP w) A (letOwnedTupleGo g.target it v) (fun _ s₂ => wpAny (model TP w) A (assign g.target env v) (fun _ s₃ => wpAny (model TP w) A (ifsLoop g.ifs env) (fun ok s₄ => if ok = true then
          (match gens[depth + 1]? with
            | some g' => g'.is_async = 0 ∧ wpAny (model TP w) A (eval g'.iter env) (fun x s₅ => wpAny (model TP w) A (foldedSetIterable g'.iter env x) (fun x s₆ => wpAny (model TP w) A (pyIter x) (fun J s₇ => codeAny (model TP w) A (.compStart (.ListComp elt gens scope pos) (depth + 1) J acc env)
                (okR fun _ s₈ => codeAny (model TP w) A (.compLoop (.ListComp elt gens scope pos) depth it acc env) (okR fun _ => Z) s₈) s₇) Fls s₆) Fls s₅) Fls s₄
            | none => wpAny (model TP w) A (eval elt env) (fun v s₅ => wpAny (model TP w) A (call (.builtin "list.append") [acc, v]) (fun _ s₆ => codeAny (model TP w) A (.compLoop (.ListComp elt gens scope pos) depth it acc env) (okR fun _ => Z) s₆) Fls s₅) Fls s₄)
          else codeAny (model TP w) A (.compLoop (.ListComp elt gens scope pos) depth it acc env) (okR fun _ => Z) s₄) Fls s₃) Fls s₂) Fls s₁) Fls s) :
    codeAny (model TP w) A (.compLoop (.ListComp elt gens scope pos) depth it acc env) (okR fun _ => Z) s := by
  refine codeAny_of_tree ?_
  show wpAny _ _ ((compTurn (.ListComp elt gens scope pos) depth it acc env).onRaise (fun x => do noteFrame x env; theTreesLotGoes x)) _ _ s
  refine wpAny_noted ?_
  unfold compTurn
  dsimp only
  rw [hg]
  dsimp only
  have hna : ¬ ((g.is_async != 0) = true) := by rw [ha]; exact Bool.false_ne_true
  rw [if_neg hna, if_neg hna]
  clear hna
  refine wpAny_bind (wpAny_standAt ?_)
  refine wpAny_bind (wpAny_mono h (fun r s₁ h₁ => ?_) fun _ _ h' => h'.elim)
  cases r with
  | none => exact wpAny_pure h₁
  | some v =>
    refine wpAny_bind (wpAny_mono h₁ (fun _ s₂ h₂ => ?_) fun _ _ h' => h'.elim)
    refine wpAny_bind (wpAny_mono h₂ (fun _ s₃ h₃ => ?_) fun _ _ h' => h'.elim)
    refine wpAny_bind (wpAny_mono h₃ (fun ok s₄ h₄ => ?_) fun _ _ h' => h'.elim)
    cases ok with
    | false =>
      exact wpAny_pure ⟨rfl, h₄⟩
    | true =>
      rw [if_pos rfl] at h₄
      clear h h₁ h₂ h₃
      split at h₄
      · rename_i g' hg'
        obtain ⟨ha', h₄⟩ := h₄
        simp only [hg', ha', if_true]
        refine wpAny_bind (wpAny_mono h₄ (fun x s₅ h₅ => ?_) fun _ _ h' => h'.elim)
        refine wpAny_bind (wpAny_standAt ?_)
        refine wpAny_bind (wpAny_mono h₅ (fun x s₆ h₆ => ?_) fun _ _ h' => h'.elim)
        refine wpAny_bind (wpAny_holding (wpAny_mono h₆ (fun J s₇ h₇ => ?_) fun _ _ h' => h'.elim))
        refine wpAny_bind (wpAny_runOwn (codeAny_mono h₇ fun res s₈ h₈ => ?_))
        cases res with
        | error _ => exact h₈.elim
        | ok f => exact wpAny_pure ⟨rfl, h₈⟩
      · rename_i hg'
        simp only [hg', if_true]
        refine wpAny_bind (wpAny_bind (wpAny_mono h₄ (fun x s₅ h₅ => ?_) fun _ _ h' => h'.elim))
        refine wpAny_bind (wpAny_mono h₅ (fun x s₆ h₆ => ?_) fun _ _ h' => h'.elim)
        exact wpAny_pure (wpAny_pure ⟨rfl, h₆⟩)

theorem start_step {A : Around} {elt : Expr} {gens : List Comprehension} {scope : Scope} {pos : Pos} {depth : Nat} {g : Comprehension} {it acc : Value} {env : Env} {Z : Shared → Prop} {s : Shared} (hg : gens[depth]? = some g) (ha : g.is_async = 0)
    (h : wpAny (model TP w) A (pyIter it) (fun it' s' => it' = it ∧ s' = s) Fls s) (h0 : codeAny (model TP w) A (.compLoop (.ListComp elt gens scope pos) depth it acc env) (okR fun _ => Z) s) :
    codeAny (model TP w) A (.compStart (.ListComp elt gens scope pos) depth it acc env) (okR fun _ => Z) s := by
  refine codeAny_of_tree ?_
  show wpAny _ _ ((compStart (.ListComp elt gens scope pos) depth it acc env).onRaise (fun x => do noteFrame x env; standAt theWindowsPlace)) _ _ s
  refine wpAny_notedAt ?_
  unfold compStart
  have hc : clausesOf (.ListComp elt gens scope pos) = gens := rfl
  rw [hc, hg]
  have ha' : ((some g).elim false fun x => x.is_async != 0) = false := by simp [ha]
  rw [ha']
  show wpAny _ _ (ask >>= _) _ _ s
  refine wpAny_bind (wpAny_askSetting (wpAny_ite ?_))
  split
  · exact wpAny_bind (wpAny_pure (wpAny_pure (And.intro rfl h0)))
  · refine wpAny_bind (wpAny_rule (wpAny_bind (wpAny_standAt (wpAny_bind (wpAny_mono h (fun it' s' h' => ?_) fun _ _ x => x.elim)))))
    obtain ⟨rfl, rfl⟩ := h'
    exact wpAny_pure (And.intro rfl h0)

theorem ifs_done (env : Env) : ∀ l : List Expr, (forIn l false fun (c : Expr) (r : Bool) => if r = true then do let ok ← isTrue c env (eval c env); pure (ForInStep.yield ok) else (pure (ForInStep.yield r) : Sem (ForInStep Bool))) = pure false
  | [] => rfl
  | c :: l => by rw [List.forIn_cons]; simp only [Bool.false_eq_true, if_false]; exact ifs_done env l
theorem ifs_ok {r : Ev} {n : Nat} (H : Snd w h₀ r n) {A : Around} {env : Env} {fm : Fm} (R : Room n A) : ∀ (l : List Expr) (g : Frz) (ρ : Locs) (st st' : St) (s : Shared) (b : Bool), Inv h₀ g ρ st s.heap → FmOk g ρ s.heap env fm → evIfs r fm st l = some (b, st') →
    wpAny (model TP w) A (ifsLoop l env) (Ans h₀ noX g ρ s st' fun _ _ _ c => c = b) Fls s
  | [], g, ρ, st, st', s, b, I, F, e => by (first | exact nsome e | (obtain ⟨rfl, rfl⟩ := pinj e; clear e) | (obtain ⟨rfl, rfl, rfl⟩ := pinj3 e; clear e) | (obtain rfl := sinj e; clear e) | cases e); exact wpAny_pure (Ans.here (tk := s.toks) I rfl)
  | c :: l, g, ρ, st, st', s, b, I, F, e => by
    unfold evIfs at e
    replace e := bnd e; obtain ⟨⟨b1, st1⟩, e1, e2⟩ := e
    dsimp only at e2
    unfold ifsLoop
    rw [List.forIn_cons, if_pos rfl]
    refine wpAny_bind (wpAny_bind (Ans.use (H.T A env fm g ρ st st1 s c b1 R I F e1) fun c1 g1 ρ1 h1 tk X1 I1 e3 => ?_))
    subst e3
    refine wpAny_pure ?_
    cases c1 with
    | false =>
      (first | exact nsome e2 | (obtain ⟨rfl, rfl⟩ := pinj e2; clear e2) | (obtain ⟨rfl, rfl, rfl⟩ := pinj3 e2; clear e2) | (obtain rfl := sinj e2; clear e2) | cases e2)
      dsimp only
      rw [ifs_done]
      exact wpAny_pure ⟨g1, ρ1, h1, tk, rfl, X1, I1, rfl⟩
    | true =>
      refine wpAny_mono (ifs_ok H R l g1 ρ1 st1 st' { s with heap := h1, toks := tk } b I1 (F.ext0 X1) e2) (fun _ _ z => Ans.then X1 z) fun _ _ z => z

/-- the list that a comprehension fills -/
structure AccIs (g : Frz) (ρ : Locs) (h : Heap) (D : Addr) (xs : List PyData) : Prop where
  at_ : ∃ vs, h.PlainList D ⟨vs⟩ ∧ RdL g vs xs
  off : ¬ foot ρ D
  tab : D ≠ tabP
  frz : g D = none
theorem AccIs.ext {X : Addr → Prop} {g g' : Frz} {ρ ρ' : Locs} {h h' : Heap} {D : Addr} {xs : List PyData} (a : AccIs g ρ h D xs) (x : Ext X g ρ h g' ρ' h') (n : ¬ X D) : AccIs g' ρ' h' D xs := by
  obtain ⟨vs, ⟨m, e⟩, r⟩ := a.at_
  obtain ⟨c1, c2⟩ := x.clean D _ e a.off a.tab n
  exact ⟨⟨vs, ⟨m, x.keep D _ e a.off a.tab n⟩, r.le x.le⟩, c1, a.tab, c2.trans a.frz⟩
theorem Own.ext' {X : Addr → Prop} {g g' : Frz} {ρ ρ' : Locs} {h h' : Heap} {env : Env} {fm fm' : Fm} {J : Addr} (o : Own g ρ h env fm J) (FJ : Free env J) (x : Ext X g ρ h g' ρ' h') (n : ¬ X J) : Own g' ρ' h' env fm' J := by
  obtain ⟨ob, ho⟩ := o.ex
  obtain ⟨c1, c2⟩ := x.clean J ob ho o.off o.tab n
  exact ⟨⟨ob, x.keep J ob ho o.off o.tab n⟩, c1, o.tab, c2.trans o.frz, FJ.xof _⟩

noncomputable abbrev XDJ (env : Env) (fm : Fm) (D J : Addr) : Addr → Prop := fun a => XJ env fm D a ∨ a = J

/-- what follows a clause's tests -/
noncomputable def After (w : World) (A : Around) (elt : Expr) (gens : List Comprehension) (scope : Scope) (pos : Pos) (depth : Nat) (acc : Value) (env : Env) (T : Shared → Prop) (s₄ : Shared) : Prop :=
  match gens[depth + 1]? with
  | some g' => g'.is_async = 0 ∧ wpAny (model TP w) A (eval g'.iter env) (fun x s₅ => wpAny (model TP w) A (foldedSetIterable g'.iter env x) (fun x s₆ => wpAny (model TP w) A (pyIter x) (fun J s₇ => codeAny (model TP w) A (.compStart (.ListComp elt gens scope pos) (depth + 1) J acc env)
      (okR fun _ s₈ => T s₈) s₇) Fls s₆) Fls s₅) Fls s₄
  | none => wpAny (model TP w) A (eval elt env) (fun v s₅ => wpAny (model TP w) A (call (.builtin "list.append") [acc, v]) (fun _ s₆ => T s₆) Fls s₅) Fls s₄

noncomputable def Cont (h₀ : Heap) (env : Env) (fm : Fm) (D : Addr) (X : Addr → Prop) (g : Frz) (ρ : Locs) (s : Shared) (st' : St) (fm' : Fm) (xs' : List PyData) (T : Shared → Prop) : Prop :=
  ∀ g' ρ' h' tk, Ext X g ρ s.heap g' ρ' h' → Inv h₀ g' ρ' st' h' → FmOk g' ρ' h' env fm' → fm'.names = fm.names → AccIs g' ρ' h' D xs' → T { s with heap := h', toks := tk }

noncomputable def InnerOk (w : World) (h₀ : Heap) (k : CSt → Option CSt) (A : Around) (env : Env) (D : Addr) (elt : Expr) (gens : List Comprehension) (scope : Scope) (pos : Pos) (depth : Nat) : Prop :=
  ∀ (T : Shared → Prop) (g : Frz) (ρ : Locs) (st st' : St) (fm fm' : Fm) (xs xs' : List PyData) (s : Shared), Inv h₀ g ρ st s.heap → FmOk g ρ s.heap env fm → AccIs g ρ s.heap D xs → k (fm, st, xs) = some (fm', st', xs') →
    Cont h₀ env fm D (XJ env fm D) g ρ s st' fm' xs' T → After w A elt gens scope pos depth (.ref D) env T s

theorem turnC_ok {r : Ev} {n : Nat} (H : Snd w h₀ r n) {A : Around} {env : Env} {k : CSt → Option CSt} {D : Addr} {elt : Expr} {gens : List Comprehension} {scope : Scope} {pos : Pos} {depth : Nat} (R : Room n A) (FD : Free env D) (K : InnerOk w h₀ k A env D elt gens scope pos depth)
    {T : Shared → Prop} {g : Frz} {ρ : Locs} {st st' : St} {fm fm' : Fm} {xs xs' : List PyData} {s : Shared} {tgt : Expr} {ifs : List Expr} {u : Value} {v : PV} (I : Inv h₀ g ρ st s.heap) (F : FmOk g ρ s.heap env fm) (Ac : AccIs g ρ s.heap D xs) (ru : Rp g ρ u v)
    (e : compTurn1 r tgt ifs k v (fm, st, xs) = some (fm', st', xs')) (hT : Cont h₀ env fm D (XJ env fm D) g ρ s st' fm' xs' T) :
    wpAny (model TP w) A (assign tgt env u) (fun _ s₃ => wpAny (model TP w) A (ifsLoop ifs env) (fun ok s₄ => if ok = true then After w A elt gens scope pos depth (.ref D) env T s₄ else T s₄) Fls s₃) Fls s := by
  unfold compTurn1 at e
  replace e := bnd e; obtain ⟨fm1, e1, e⟩ := e
  replace e := bnd e; obtain ⟨⟨b, st1⟩, e2, e⟩ := e
  dsimp only at e1 e2 e
  refine Ans.use (putT_ok R.hd I F e1 ru) fun _ g2 ρ2 h2 tk2 X2 I2 P2 => ?_
  obtain ⟨F2, n2, rfl, rfl⟩ := P2
  have A2 := Ac.ext X2 (FD.xof fm)
  refine Ans.use (ifs_ok H R ifs g2 ρ2 st st1 { s with heap := h2, toks := tk2 } b I2 F2 e2) fun c g3 ρ3 h3 tk3 X3 I3 e3 => ?_
  subst e3
  have F3 := F2.ext0 X3
  have A3 := A2.ext X3 id
  have X23 : Ext (XJ env fm D) g2 ρ2 s.heap g3 ρ3 h3 := (X2.weaken fun _ _ _ q => .inl q).trans (X3.weaken fun _ _ _ q => q.elim)
  cases c with
  | false =>
    (first | exact nsome e | (obtain ⟨rfl, rfl⟩ := pinj e; clear e) | (obtain ⟨rfl, rfl, rfl⟩ := pinj3 e; clear e) | (obtain rfl := sinj e; clear e) | cases e)
    rw [if_neg Bool.false_ne_true]
    exact hT g3 ρ3 h3 tk3 X23 I3 F3 n2 A3
  | true =>
    rw [if_pos rfl] at e ⊢
    refine K T g3 ρ3 st1 st' fm1 fm' xs xs' { s with heap := h3, toks := tk3 } I3 F3 A3 e fun g4 ρ4 h4 tk4 X4 I4 F4 n4 A4 => ?_
    refine hT g4 ρ4 h4 tk4 (X23.trans ?_) I4 F4 (n4.trans n2) A4
    have : XJ env fm1 D = XJ env fm D := by unfold XJ; rw [Xof_eq n2]
    rw [← this]; exact X4

theorem itemsC_ok {r : Ev} {n : Nat} (H : Snd w h₀ r n) {A : Around} {env : Env} {k : CSt → Option CSt} {D J : Addr} {elt : Expr} {gens : List Comprehension} {scope : Scope} {pos : Pos} {depth : Nat} {gc : Comprehension} (hg : gens[depth]? = some gc) (ha : gc.is_async = 0) (R : Room n A) (FD : Free env D) (FJ : Free env J) (hJD : J ≠ D)
    (K : InnerOk w h₀ k A env D elt gens scope pos depth) (Z : Shared → Prop) : ∀ (vs : List PV) (g : Frz) (ρ : Locs) (st st' : St) (fm fm' : Fm) (xs xs' : List PyData) (s : Shared), Inv h₀ g ρ st s.heap → FmOk g ρ s.heap env fm → AccIs g ρ s.heap D xs → Src w g ρ s.heap J (.items vs) → Own g ρ s.heap env fm J →
    overItems (compTurn1 r gc.target gc.ifs k) vs (fm, st, xs) = some (fm', st', xs') → Cont h₀ env fm D (XDJ env fm D J) g ρ s st' fm' xs' Z → codeAny (model TP w) A (.compLoop (.ListComp elt gens scope pos) depth (.ref J) (.ref D) env) (okR fun _ => Z) s
  | [], g, ρ, st, st', fm, fm', xs, xs', s, I, F, Ac, S, O, e, hZ => by
    (first | exact nsome e | (obtain ⟨rfl, rfl⟩ := pinj e; clear e) | (obtain ⟨rfl, rfl, rfl⟩ := pinj3 e; clear e) | (obtain rfl := sinj e; clear e) | cases e)
    replace S := srcI S; cases S with
    | @items fp nn i P St W hfp hst hl hp ht =>
      refine comp_step hg ha ((W A R.hd).done s _ _ (by simpa using (show nn = i by simpa using hl.symm) ▸ hst) fun h' tk k => ?_)
      exact hZ g ρ h' tk (Ext.but k (.inr rfl)) (I.but O.off O.tab O.frz k) (F.but k FJ.loc FJ.cel) rfl (Ac.ext (Ext.but (X := fun a => a = J) k rfl) fun q => hJD q.symm)
  | v :: vs, g, ρ, st, st', fm, fm', xs, xs', s, I, F, Ac, S, O, e, hZ => by
    unfold overItems at e
    replace e := bnd e; obtain ⟨⟨fm1, st1, xs1⟩, e1, e⟩ := e
    replace S := srcI S; cases S with
    | @items fp nn i P St W hfp hst hl hp ht =>
      refine comp_step hg ha ((W A R.hd).item i s _ _ (by simp at hl; omega) hst fun u h1 tk1 hP hst1 kk => ?_)
      have ru := hp 0 v u rfl hP
      have I1 := I.but O.off O.tab O.frz kk
      have F1 := F.but kk FJ.loc FJ.cel
      have A1 := Ac.ext (Ext.but (X := fun a => a = J) (g := g) (ρ := ρ) kk rfl) fun q => hJD q.symm
      have X1 : Ext (XDJ env fm D J) g ρ s.heap g ρ h1 := Ext.but kk (.inr rfl)
      obtain ⟨oJ, tyJ, hoJ, hcJ, htJ⟩ := ht _ _ hst1
      have O1 : Own g ρ h1 env fm J := ⟨⟨oJ, hoJ⟩, O.off, O.tab, O.frz, O.env⟩
      have S1 : Src w g ρ h1 J (.items vs) := .items W hfp hst1 (by simp at hl; omega) (fun j pv u a b => hp (j + 1) pv u (by simpa using a) (by rw [show i + (j + 1) = i + 1 + j by omega]; exact b)) ht
      refine go_ok hoJ hcJ htJ (turnC_ok H (s := { s with heap := h1, toks := tk1 }) R FD K I1 F1 A1 ru e1 fun g3 ρ3 h3 tk3 X3 I3 F3 n3 A3 => ?_)
      have nJ : ¬ XJ env fm D J := fun q => by rcases q with q | q; exact FJ.xof _ q; exact hJD q
      have O3 : Own g3 ρ3 h3 env fm1 J := O1.ext' FJ X3 nJ
      have S3 : Src w g3 ρ3 h3 J (.items vs) := S1.keep X3.le X3.pre I1.sub I3.sub (.inr fun o ho => X3.keep J o ho O1.off O1.tab nJ)
      refine itemsC_ok H hg ha R FD FJ hJD K Z vs g3 ρ3 st1 st' fm1 fm' xs1 xs' { s with heap := h3, toks := tk3 } I3 F3 A3 S3 O3 e fun g4 ρ4 h4 tk4 X4 I4 F4 n4 A4 => ?_
      refine hZ g4 ρ4 h4 tk4 (X1.trans ((X3.weaken fun _ _ _ q => .inl q).trans ?_)) I4 F4 (n4.trans n3) A4
      have : XDJ env fm1 D J = XDJ env fm D J := by unfold XDJ XJ; rw [Xof_eq n3]
      rw [← this]; exact X4

theorem listC_ok {r : Ev} {n : Nat} (H : Snd w h₀ r n) {A : Around} {env : Env} {k : CSt → Option CSt} {D J : Addr} {q : Nat} {elt : Expr} {gens : List Comprehension} {scope : Scope} {pos : Pos} {depth : Nat} {gc : Comprehension} (hg : gens[depth]? = some gc) (ha : gc.is_async = 0) (R : Room n A) (FD : Free env D) (FJ : Free env J) (hJD : J ≠ D)
    (K : InnerOk w h₀ k A env D elt gens scope pos depth) (Z : Shared → Prop) : ∀ (fuel i : Nat) (g : Frz) (ρ : Locs) (st st' : St) (fm fm' : Fm) (xs xs' : List PyData) (s : Shared), Inv h₀ g ρ st s.heap → FmOk g ρ s.heap env fm → AccIs g ρ s.heap D xs → Src w g ρ s.heap J (.mlist q i) → Own g ρ s.heap env fm J →
    overList (compTurn1 r gc.target gc.ifs k) q fuel i (fm, st, xs) = some (fm', st', xs') → Cont h₀ env fm D (XDJ env fm D J) g ρ s st' fm' xs' Z → codeAny (model TP w) A (.compLoop (.ListComp elt gens scope pos) depth (.ref J) (.ref D) env) (okR fun _ => Z) s
  | 0, i, g, ρ, st, st', fm, fm', xs, xs', s, I, F, Ac, S, O, e, hZ => by (first | exact nsome e | (obtain ⟨rfl, rfl⟩ := pinj e; clear e) | (obtain ⟨rfl, rfl, rfl⟩ := pinj3 e; clear e) | (obtain rfl := sinj e; clear e) | cases e)
  | fuel + 1, i, g, ρ, st, st', fm, fm', xs, xs', s, I, F, Ac, S, O, e, hZ => by
    unfold overList at e
    dsimp only at e
    split at e
    · rename_i ys hs
      split at e
      · replace S := srcM S; cases S with
        | @mlist a hp hit =>
          have m := I.mat _ _ _ hp hs
          replace m := matLa m; cases m with
          | @list vs nn e1 r1 =>
            have hl : s.heap.IsList a ⟨vs⟩ := ⟨_, e1, rfl, _, rfl⟩
            split at e
            · rename_i x hx
              replace e := bnd e; obtain ⟨⟨fm1, st1, xs1⟩, e2, e⟩ := e
              obtain ⟨u, hu, ru⟩ := r1.get i x hx
              refine comp_step hg ha (wpAny_pyNext_list_item hit hl (by simpa using hu) fun h1 hit1 hs1 => ?_)
              have kk : ∀ b o, b ∉ [J] → s.heap.get? b = some o → h1.get? b = some o := fun b o nb e => hs1.extBut b o (by simpa using nb) e
              have I1 := I.but O.off O.tab O.frz kk
              have F1 := F.but kk FJ.loc FJ.cel
              have A1 := Ac.ext (Ext.but (X := fun a => a = J) (g := g) (ρ := ρ) kk rfl) fun q => hJD q.symm
              have X1 : Ext (XDJ env fm D J) g ρ s.heap g ρ h1 := Ext.but kk (.inr rfl)
              obtain ⟨oJ, hoJ, hcJ, hdJ⟩ := id hit1
              have O1 : Own g ρ h1 env fm J := ⟨⟨oJ, hoJ⟩, O.off, O.tab, O.frz, O.env⟩
              have S1 : Src w g ρ h1 J (.mlist q (i + 1)) := .mlist hp hit1
              refine go_ok (s := { s with heap := h1 }) hoJ hcJ (by unfold okTy; decide) (turnC_ok H (s := { s with heap := h1 }) R FD K I1 F1 A1 (.d ru) e2 fun g3 ρ3 h3 tk3 X3 I3 F3 n3 A3 => ?_)
              have nJ : ¬ XJ env fm D J := fun q => by rcases q with q | q; exact FJ.xof _ q; exact hJD q
              have O3 : Own g3 ρ3 h3 env fm1 J := O1.ext' FJ X3 nJ
              have S3 : Src w g3 ρ3 h3 J (.mlist q (i + 1)) := S1.keep X3.le X3.pre I1.sub I3.sub (.inr fun o ho => X3.keep J o ho O1.off O1.tab nJ)
              refine listC_ok H hg ha R FD FJ hJD K Z fuel (i + 1) g3 ρ3 st1 st' fm1 fm' xs1 xs' { s with heap := h3, toks := tk3 } I3 F3 A3 S3 O3 e fun g4 ρ4 h4 tk4 X4 I4 F4 n4 A4 => ?_
              refine hZ g4 ρ4 h4 tk4 (X1.trans ((X3.weaken fun _ _ _ q => .inl q).trans ?_)) I4 F4 (n4.trans n3) A4
              have : XDJ env fm1 D J = XDJ env fm D J := by unfold XDJ XJ; rw [Xof_eq n3]
              rw [← this]; exact X4
            · rename_i hx
              (first | exact nsome e | (obtain ⟨rfl, rfl⟩ := pinj e; clear e) | (obtain ⟨rfl, rfl, rfl⟩ := pinj3 e; clear e) | (obtain rfl := sinj e; clear e) | cases e)
              have hx' : (⟨vs⟩ : Array Value)[i]? = none := by
                rw [List.getElem?_eq_none_iff] at hx
                have := r1.length
                simp; omega
              refine comp_step hg ha (wpAny_pyNext_list_end R.hd hit hl hx' fun h' he => ?_)
              have kk : ∀ b o, b ∉ [J] → s.heap.get? b = some o → h'.get? b = some o := fun b o nb e => he b o (by simpa using nb) e
              exact hZ g ρ h' s.toks (Ext.but kk (.inr rfl)) (I.but O.off O.tab O.frz kk) (F.but kk FJ.loc FJ.cel) rfl (Ac.ext (Ext.but (X := fun a => a = J) kk rfl) fun q => hJD q.symm)
      · (first | exact nsome e | (obtain ⟨rfl, rfl⟩ := pinj e; clear e) | (obtain ⟨rfl, rfl, rfl⟩ := pinj3 e; clear e) | (obtain rfl := sinj e; clear e) | cases e)
    · (first | exact nsome e | (obtain ⟨rfl, rfl⟩ := pinj e; clear e) | (obtain ⟨rfl, rfl, rfl⟩ := pinj3 e; clear e) | (obtain rfl := sinj e; clear e) | cases e)

/-- a clause begun: its iterator is new -/
theorem startC_ok {r : Ev} {n : Nat} (H : Snd w h₀ r n) {A : Around} {env : Env} {k : CSt → Option CSt} {D J : Addr} {it : It} {elt : Expr} {gens : List Comprehension} {scope : Scope} {pos : Pos} {depth : Nat} {gc : Comprehension} (hg : gens[depth]? = some gc) (ha : gc.is_async = 0) (R : Room n A) (FD : Free env D) (FJ : Free env J) (hJD : J ≠ D)
    (K : InnerOk w h₀ k A env D elt gens scope pos depth) (Z : Shared → Prop) {g : Frz} {ρ : Locs} {st st' : St} {fm fm' : Fm} {xs xs' : List PyData} {s : Shared} (I : Inv h₀ g ρ st s.heap) (F : FmOk g ρ s.heap env fm) (Ac : AccIs g ρ s.heap D xs) (S : Src w g ρ s.heap J it) (O : Own g ρ s.heap env fm J)
    (e : over (compTurn1 r gc.target gc.ifs k) it (fm, st, xs) = some (fm', st', xs')) (hZ : Cont h₀ env fm D (XDJ env fm D J) g ρ s st' fm' xs' Z) : codeAny (model TP w) A (.compStart (.ListComp elt gens scope pos) depth (.ref J) (.ref D) env) (okR fun _ => Z) s := by
  unfold over at e
  cases it with
  | items vs =>
    refine start_step hg ha ?_ (itemsC_ok H hg ha R FD FJ hJD K Z vs g ρ st st' fm fm' xs xs' s I F Ac S O e hZ)
    replace S := srcI S; cases S with
    | @items fp nn i P St W hfp hst hl hp ht => exact (W A R.hd).self i s _ _ hst ⟨rfl, rfl⟩
  | mlist q i =>
    refine start_step hg ha ?_ (listC_ok H hg ha R FD FJ hJD K Z 1000 i g ρ st st' fm fm' xs xs' s I F Ac S O e hZ)
    replace S := srcM S; cases S with
    | @mlist a hp hit => exact wpAny_pyIter_listiter hit ⟨rfl, rfl⟩
  | call q => (first | exact nsome e | (obtain ⟨rfl, rfl⟩ := pinj e; clear e) | (obtain ⟨rfl, rfl, rfl⟩ := pinj3 e; clear e) | (obtain rfl := sinj e; clear e) | cases e)

theorem FmOk.free {g : Frz} {ρ : Locs} {h : Heap} {env : Env} {fm : Fm} (F : FmOk g ρ h env fm) {J : Addr} (l : h.objs.size ≤ J) : Free env J := by
  refine ⟨?_, fun y e => ?_⟩
  · rintro rfl
    obtain ⟨m, ⟨oL, es, ep, hL, _⟩, _⟩ := F.ns
    exact absurd (PySem.Heap.lt_size hL) (Nat.not_lt.mpr l)
  · obtain ⟨_, _, v, ic⟩ := F.offC y J e
    exact absurd ic.lt (Nat.not_lt.mpr l)

theorem inner_ok {r : Ev} {n : Nat} (H : Snd w h₀ r n) {A : Around} {env : Env} {D : Addr} {elt : Expr} {gens : List Comprehension} {scope : Scope} {pos : Pos} (R : Room n A) (FD : Free env D) :
    ∀ (gs : List Comprehension) (depth : Nat), gens.drop (depth + 1) = gs → InnerOk w h₀ (compBody r elt gs) A env D elt gens scope pos depth
  | [], depth, hd => fun T g ρ st st' fm fm' xs xs' s I F Ac e hT => by
    have hn : gens[depth + 1]? = none := by
      rw [List.getElem?_eq_none_iff]; exact List.drop_eq_nil_iff.mp hd
    unfold After
    rw [hn]
    dsimp only
    unfold compBody at e
    replace e := bnd e; obtain ⟨⟨v, st1⟩, e1, e2⟩ := e
    dsimp only at e1 e2
    split at e2
    · rename_i x
      obtain ⟨e3, e4⟩ := of_chk e2
      (first | exact nsome e4 | (obtain ⟨rfl, rfl⟩ := pinj e4; clear e4) | (obtain ⟨rfl, rfl, rfl⟩ := pinj3 e4; clear e4) | (obtain rfl := sinj e4; clear e4) | cases e4)
      refine Ans.use (H.E A env fm g ρ st _ s elt _ R I F e1) fun u g1 ρ1 h1 tk X1 I1 ru => ?_
      have A1 := Ac.ext X1 id
      obtain ⟨vs, pl, r1⟩ := A1.at_
      replace ru := rpD ru; cases ru with | d ru =>
      refine wpAny_list_append_plain (s := { s with heap := h1, toks := tk }) (hsz := by have := r1.length; have := lim_size e3; simp; omega) pl fun h2 pl2 hs2 => ?_
      have F1 := F.ext0 X1
      have X2 : Ext (XJ env fm D) g1 ρ1 h1 g1 ρ1 h2 := Ext.sameBut hs2 (.inl (.inr rfl))
      refine hT g1 ρ1 h2 tk ((X1.weaken fun _ _ _ q => q.elim).trans X2) (I1.sameBut hs2 A1.off A1.tab A1.frz) (F1.ext (X := fun a => a = D) (Ext.sameBut hs2 (.inl rfl)) fun a q z => by subst z; rcases q with q | ⟨y, q⟩; exact FD.loc q; exact FD.cel y q) rfl
        ⟨⟨vs ++ [u], by simpa using pl2, r1.append (.cons ru .nil)⟩, A1.off, A1.tab, A1.frz⟩
    · (first | exact nsome e2 | (obtain ⟨rfl, rfl⟩ := pinj e2; clear e2) | (obtain ⟨rfl, rfl, rfl⟩ := pinj3 e2; clear e2) | (obtain rfl := sinj e2; clear e2) | cases e2)
  | g' :: gs, depth, hd => fun T g ρ st st' fm fm' xs xs' s I F Ac e hT => by
    have hn : gens[depth + 1]? = some g' := by
      have := congrArg (·[0]?) hd
      simpa using this
    have hd' : gens.drop (depth + 2) = gs := by
      have := congrArg (List.drop 1) hd
      simpa using this
    unfold After
    rw [hn]
    dsimp only
    unfold compBody at e
    split at e
    · rename_i hc
      simp only [Bool.and_eq_true, decide_eq_true_eq] at hc
      replace e := bnd e; obtain ⟨⟨x, st1⟩, e1, e⟩ := e
      replace e := bnd e; obtain ⟨it, e2, e⟩ := e
      dsimp only at e1 e2 e
      refine ⟨hc.1, Ans.use (H.E A env fm g ρ st st1 s g'.iter x R I F e1) fun u g1 ρ1 h1 tk X1 I1 ru => ?_⟩
      rw [not_set hc.2]
      refine wpAny_pure (iter_ok R.hd (s := { s with heap := h1, toks := tk }) I1 ru e2 fun J h2 tk2 X2 I2 S2 hJ => ?_)
      have F1 := F.ext0 X1
      have F2 := F1.ext0 X2
      have A1 := Ac.ext X1 id
      have A2 := A1.ext X2 id
      have notC : ∀ {it}, over (compTurn1 r g'.target g'.ifs fun c => compBody r elt gs c) it (fm, st1, xs) = some (fm', st', xs') → ¬ isC it := fun {it} z q => by
        cases it with
        | call _ => cases z
        | _ => exact q
      rcases hJ with f | ⟨l, o⟩
      · exact absurd f (notC e)
      · have nw := I1.new l
        have FJ := F1.free l
        have O2 : Own g1 ρ1 h2 env fm J := ⟨o, nw.1, nw.2.1, nw.2.2, FJ.xof _⟩
        have hJD : J ≠ D := by
          rintro rfl
          obtain ⟨vs, ⟨m, pl⟩, _⟩ := A1.at_
          exact absurd (PySem.Heap.lt_size pl) (Nat.not_lt.mpr l)
        refine startC_ok H hn hc.1 R FD FJ hJD (inner_ok H R FD gs (depth + 1) hd') T (s := { s with heap := h2, toks := tk2 }) I2 F2 A2 S2 O2 e fun g3 ρ3 h3 tk3 X3 I3 F3 n3 A3 => ?_
        have X13 : Ext (XDJ env fm D J) g ρ s.heap g3 ρ3 h3 := (Ext.weaken (X1.trans X2) fun _ _ _ q => q.elim).trans X3
        refine hT g3 ρ3 h3 tk3 (X13.weaken fun a oa ea q => ?_) I3 F3 n3 A3
        rcases q with q | rfl
        · exact q
        · by_cases f : foot ρ a
          · exact absurd (I1.foot_lt (X1.pre.foot f)) (Nat.not_lt.mpr l)
          · exact absurd (PySem.Heap.lt_size (X1.keep a oa ea f nw.2.1 id)) (Nat.not_lt.mpr l)
    · (first | exact nsome e | (obtain ⟨rfl, rfl⟩ := pinj e; clear e) | (obtain ⟨rfl, rfl, rfl⟩ := pinj3 e; clear e) | (obtain rfl := sinj e; clear e) | cases e)
end
end Mine
end
section
namespace Mine
open PySem PySem.W PyProof.Rows

section
variable {w : World} {K : Frag} {h₀ : Heap} {mg mb : Str → Option Value}

theorem Ext.lt {g g' : Frz} {ρ ρ' : Locs} {st : St} {h h' : Heap} (X : Ext noX g ρ h g' ρ' h') (I : Inv h₀ g' ρ' st h') {a : Addr} {o : Obj} (e : h.get? a = some o) : a < h'.objs.size := by
  by_cases f : foot ρ a
  · exact I.foot_lt (X.pre.foot f)
  · by_cases t : a = tabP
    · subst t; obtain ⟨ps, t1, _⟩ := I.tab; exact PySem.Heap.lt_size t1
    · exact PySem.Heap.lt_size (X.keep a o e f t id)

theorem lookup_map {c : Str → NameKind → Bool} : ∀ (l : List (Str × NameKind)) (x : Str), (l.map fun (n, k) => if c n k then (n, NameKind.cell) else (n, k)).lookup x = (l.lookup x).map fun k => if c x k then .cell else k
  | [], x => rfl
  | (n, k) :: r, x => by
    show List.lookup x ((if c n k = true then (n, NameKind.cell) else (n, k)) :: _) = _
    by_cases q : x = n
    · subst q
      cases hc : c x k <;> simp [List.lookup_cons, hc]
    · have q' : (x == n) = false := by simpa using q
      have ih := lookup_map (c := c) r x
      cases hc : c n k
      · rw [if_neg Bool.false_ne_true, List.lookup_cons, List.lookup_cons, q']; exact ih
      · rw [if_pos rfl, List.lookup_cons, List.lookup_cons, q']; exact ih

theorem FmOk.relabel {g : Frz} {ρ : Locs} {h : Heap} {cenv : Env} {fm : Fm} (F : FmOk g ρ h cenv fm) (env : Env) (hn : fm.names = cenv.scope.names) : FmOk g ρ h { cenv with scope := PySem.relabel cenv.scope env } fm := by
  refine ⟨F.fk, F.gl, F.bl, fun x k e => ?_, F.ns, F.cel, F.own, F.apart, F.offL, F.offC, F.frzC, F.code⟩
  have k1 : kindRel k (some k) := by
    have := F.names x k e
    rw [hn] at e
    cases k <;> simp [kindRel]
  unfold Env.kindOf PySem.relabel
  dsimp only
  rw [lookup_map (c := fun n k => k == .free && env.scope.kind == .function && env.kindOf n == some .cell), ← hn, e]
  simp only [Option.map_some]
  split
  · rename_i q
    simp only [Bool.and_eq_true, beq_iff_eq] at q
    obtain ⟨⟨rfl, _⟩, _⟩ := q
    exact .inl rfl
  · exact k1

set_option maxHeartbeats 2000000 in
theorem comp_main {r : Ev} {n : Nat} (H : Snd w h₀ r n) {A : Around} {env : Env} {fm : Fm} {g : Frz} {ρ : Locs} {st st' : St} {s : Shared} {elt : Expr} {gc : Comprehension} {gs : List Comprehension} {scope : Scope} {pos P : Pos} {v : PV} (R : Room n A) (I : Inv h₀ g ρ st s.heap) (F : FmOk g ρ s.heap env fm)
    (e : comp r fm st elt (gc :: gs) scope = some (v, st')) {use : Option (Value → Sem Unit)} {Q : Value → Shared → Prop}
    (hQ : ∀ C D g' ρ' h' tk m xs, v = .d (.list xs) → Ext noX g ρ s.heap g' ρ' h' → Inv h₀ g' ρ' st' h' → h'.Ns C m → ¬ foot ρ' C → C ≠ tabP → g' C = none → AccIs g' ρ' h' D xs → C ≠ D → (∀ o, s.heap.get? C = some o → False) → (∀ o, s.heap.get? D = some o → False) →
      compPost (model TP w) A Fls use Q (.ref D) C (.ok .next) { s with heap := h', toks := tk }) :
    wpAny (model TP w) A (comprehension (.ListComp elt (gc :: gs) scope pos) scope env P (PySem.newList []) false (eval gc.iter env) use) Q Fls s := by
  unfold comp at e
  dsimp only at e
  split at e
  · rename_i hc
    simp only [Bool.and_eq_true, decide_eq_true_eq] at hc
    obtain ⟨⟨⟨ha, hp⟩, ho⟩, hf⟩ := hc
    unfold okComp at ho
    simp only [Bool.and_eq_true, beq_iff_eq, List.all_eq_true, bne_iff_ne, Bool.or_eq_true] at ho hf
    obtain ⟨⟨⟨hk, _⟩, _⟩, hall⟩ := ho
    have uq : ∀ x ∈ scope.names, scope.names.lookup x.1 = some x.2 := fun x hx => (hall x hx).2
    replace e := bnd e; obtain ⟨⟨x, st1⟩, e1, e⟩ := e
    replace e := bnd e; obtain ⟨it, e2, e⟩ := e
    replace e := bnd e; obtain ⟨⟨fm', st2, xs'⟩, e3, e4⟩ := e
    dsimp only at e1 e2 e3 e4
    (first | exact nsome e4 | (obtain ⟨rfl, rfl⟩ := pinj e4; clear e4) | (obtain ⟨rfl, rfl, rfl⟩ := pinj3 e4; clear e4) | (obtain rfl := sinj e4; clear e4) | cases e4)
    have hcel : ∀ x ∈ scope.names, x.2 = .free → (env.cells.lookup x.1).isSome := fun x hx hxf => by
      rcases hf x hx with q | q
      · exact absurd hxf q
      · obtain ⟨pv, hpv⟩ := Option.isSome_iff_exists.mp q
        obtain ⟨c, v, a, _⟩ := F.cel x.1 pv hpv
        rw [a]; rfl
    refine wpAny_comprehension_free (g := gc) (gs := gs) rfl (not_set hp) (closure_eq hcel) hk (fun x hx hl => by rw [uq x hx, hl]) ?_
    refine Ans.use (H.E A env fm g ρ st st1 s gc.iter x R I F e1) fun u g1 ρ1 h1 tk1 X1 I1 ru => ?_
    refine iter_ok R.hd (s := { s with heap := h1, toks := tk1 }) I1 ru e2 fun J h2 tk2 X2 I2 S2 hJ => ?_
    have notC : ¬ isC it := fun q => by
      cases it with
      | call _ => (first | exact nsome e3 | (obtain ⟨rfl, rfl⟩ := pinj e3; clear e3) | (obtain ⟨rfl, rfl, rfl⟩ := pinj3 e3; clear e3) | (obtain rfl := sinj e3; clear e3) | cases e3)
      | _ => exact q
    rcases hJ with f | ⟨lJ, oJ⟩
    · exact absurd f notC
    · refine wpAny_newObj_type ?_
      dsimp only
      generalize hO : ({ cls := .type "list", dict := none, data := .seq ([] : List Value).toArray } : Obj) = o
      have of : o.isFreed = false := by rw [← hO]; rfl
      have F1 := F.ext0 X1
      have F2 := F1.ext0 X2
      have X3 : Ext noX g1 ρ1 h2 g1 ρ1 (h2.push o) := Ext.alloc o
      have I3 : Inv h₀ g1 ρ1 st1 (h2.push o) := I2.alloc o
      have F3 := F2.ext0 X3
      rw [F.gl]
      have CO : CapOk g1 ρ1 (h2.push o) (closL env.cells scope.names []) (capture fm scope.names) := by
        refine ⟨fun y pv ey => ?_, fun y c ey => ?_, fun y z c ey ez => ?_⟩
        · obtain ⟨a, b⟩ := capture_lookup _ ey
          obtain ⟨c, vv, c1, c2, c3⟩ := F3.cel y pv b
          exact ⟨c, vv, closL_keep c1 _ _ (.inr a), c2, c3⟩
        · rcases closL_lookup _ _ ey with q | ⟨_, q⟩
          · cases q
          · exact F3.offC y c q
        · rcases closL_lookup _ _ ey with q | ⟨_, q⟩
          · cases q
          · rcases closL_lookup _ _ ez with q' | ⟨_, q'⟩
            · cases q'
            · exact F3.apart y z c q q'
      refine frame_new (params := []) (us := []) (args := []) (cd := 0) (fm := ⟨scope.names, [], capture fm scope.names, false, 0⟩) (s := { s with heap := h2.push o, toks := tk2 }) I3 hk uq CO (fun y c ey => ?_) (fun z => absurd rfl z) (fun o' eo => by cases eo; exact F.bl) .nil rfl fun cenv h4 tk4 hs hq fr X4 I4 F4 n4 hcl hnl => ?_
      · rcases closL_lookup _ _ ey with q | ⟨q, _⟩
        · cases q
        · exact uq _ q
      · subst hs
        have F5 := F4.relabel env rfl
        generalize hE : ({ cenv with scope := PySem.relabel cenv.scope env } : Env) = ce at F5 ⊢
        have hx : ∀ fm, Xof ce fm = Xof cenv fm := fun fm => by rw [← hE]; rfl
        have hloc : cenv.locals = ce.locals := by rw [← hE]
        have hce : ce.cells = cenv.cells := by rw [← hE]
        have lD : h1.objs.size ≤ h2.objs.size := by
          by_cases z : h1.objs.size ≤ h2.objs.size
          · exact z
          · exfalso
            obtain ⟨oj, hoj⟩ := oJ
            have := PySem.Heap.lt_size hoj
            exact absurd (Nat.le_trans lJ (Nat.le_of_lt this)) z
        have hD3 : (h2.push o).get? h2.objs.size = some o := PySem.Heap.get?_push_size _ of
        have nD := I2.new (Nat.le_refl h2.objs.size)
        have hD4 := X4.keep _ _ hD3 nD.1 nD.2.1 id
        have A4 : AccIs g1 ρ1 h4 h2.objs.size [] := ⟨⟨[], ⟨_, by rw [hD4, ← hO]⟩, .nil⟩, nD.1, nD.2.1, nD.2.2⟩
        have FD : Free ce h2.objs.size := by
          refine ⟨fun q => ?_, fun y q => ?_⟩
          · exact hnl o (by rw [hloc, ← q]; exact hD3)
          · rw [hce] at q
            rcases hcl y _ q with q1 | q1
            · have := fr h2.objs.size (.inr ⟨y, q1, q⟩)
              dsimp only at this
              rw [PySem.Heap.size_push] at this
              exact absurd this (Nat.not_succ_le_self _)
            · rcases closL_lookup _ _ q1 with q2 | ⟨_, q2⟩
              · cases q2
              · obtain ⟨_, _, v, ic⟩ := F2.offC y _ q2
                exact absurd ic.lt (Nat.lt_irrefl _)
        obtain ⟨oj, hoj⟩ := id oJ
        have nw := I1.new lJ
        have hj3 : (h2.push o).get? J = some oj := PySem.Heap.get?_push_of_some _ hoj
        have FJ : Free ce J := by
          refine ⟨fun q => ?_, fun y q => ?_⟩
          · exact hnl oj (by rw [hloc, ← q]; exact hj3)
          · rw [hce] at q
            rcases hcl y _ q with q1 | q1
            · have := fr J (.inr ⟨y, q1, q⟩)
              dsimp only at this
              exact absurd (PySem.Heap.lt_size hj3) (Nat.not_lt.mpr this)
            · rcases closL_lookup _ _ q1 with q2 | ⟨_, q2⟩
              · cases q2
              · obtain ⟨_, _, v, ic⟩ := F1.offC y _ q2
                exact absurd ic.lt (Nat.not_lt.mpr lJ)
        have hJD : J ≠ h2.objs.size := fun q => absurd (PySem.Heap.lt_size hoj) (by rw [q]; exact Nat.lt_irrefl _)
        have S4 : Src w g1 ρ1 h4 J it := (S2.keep (.refl _) (.refl _) I2.sub I3.sub (.inr fun o' e' => PySem.Heap.get?_push_of_some _ e')).keep X4.le X4.pre I3.sub I4.sub (.inr fun o' e' => X4.keep J o' e' nw.1 nw.2.1 id)
        have O4 : Own g1 ρ1 h4 ce _ J := ⟨⟨oj, X4.keep J oj hj3 nw.1 nw.2.1 id⟩, nw.1, nw.2.1, nw.2.2, FJ.xof ⟨cenv.scope.names, [], capture fm cenv.scope.names, false, 0⟩⟩
        have X04 : Ext noX g ρ s.heap g1 ρ1 h4 := ((X1.trans X2).trans X3).trans X4
        refine codeAny_mono (startC_ok H (gens := gc :: gs) (scope := cenv.scope) (pos := pos) (depth := 0) rfl ha R FD FJ hJD (inner_ok H R FD gs 0 rfl) (fun s' => compPost (model TP w) A Fls use Q (.ref h2.objs.size) cenv.locals (.ok .next) s') (s := { s with heap := h4, toks := tk4 }) I4 F5 A4 S4 O4 e3 fun g6 ρ6 h6 tk6 X6 I6 F6 n6 A6 => ?_) fun res s' z => ?_
        · have F6' := F6
          obtain ⟨m, hn, _⟩ := F6.ns
          rw [hloc]
          have big : ∀ a o, s.heap.get? a = some o → a = J → False := fun a o ea q => by
            subst q; exact absurd (X1.lt I1 ea) (Nat.not_lt.mpr lJ)
          have bigD : ∀ o, s.heap.get? h2.objs.size = some o → False := fun o ea => absurd (X1.lt I1 ea) (Nat.not_lt.mpr lD)
          have bigX : ∀ a o, s.heap.get? a = some o → (h2.push o).objs.size ≤ a → False := fun a o ea q => by
            rw [PySem.Heap.size_push] at q
            exact absurd (X1.lt I1 ea) (Nat.not_lt.mpr (Nat.le_trans lD (Nat.le_of_succ_le q)))
          refine hQ ce.locals h2.objs.size g6 ρ6 h6 tk6 m xs' rfl ?_ I6 hn F6.offL.1 F6.offL.2.1 F6.offL.2.2 A6 FD.loc.symm (fun o' eo => ?_) bigD
          · refine Ext.weaken (Ext.trans (X04.weaken fun _ _ _ q => q.elim) X6) fun a oa ea q => ?_
            rcases q with (q | q) | q
            · rw [hx] at q
              have := fr a q
              dsimp only at this
              rw [PySem.Heap.size_push] at this
              exact absurd (X1.lt I1 ea) (Nat.not_lt.mpr (Nat.le_trans lD (Nat.le_of_succ_le this)))
            · subst q; exact bigD _ ea
            · exact big _ _ ea q
          · have := fr ce.locals (.inl hloc.symm)
            dsimp only at this
            rw [PySem.Heap.size_push] at this
            exact absurd (X1.lt I1 eo) (Nat.not_lt.mpr (Nat.le_trans lD (Nat.le_of_succ_le this)))
        · cases res with
          | error _ => exact z.elim
          | ok f =>
            have : compPost (model TP w) A Fls use Q (.ref h2.objs.size) cenv.locals (.ok f) s' = compPost (model TP w) A Fls use Q (.ref h2.objs.size) cenv.locals (.ok .next) s' := by cases use <;> rfl
            rw [this]; exact z
  · (first | exact nsome e | (obtain ⟨rfl, rfl⟩ := pinj e; clear e) | (obtain ⟨rfl, rfl, rfl⟩ := pinj3 e; clear e) | (obtain rfl := sinj e; clear e) | cases e)
end
end Mine
end
section
namespace Mine
open PySem PySem.W PyProof.Rows

section
variable {w : World} {K : Frag} {h₀ : Heap} {mg mb : Str → Option Value}

theorem noX_weaken {X : Addr → Prop} {g g' : Frz} {ρ ρ' : Locs} {h h' : Heap} (x : Ext noX g ρ h g' ρ' h') : Ext X g ρ h g' ρ' h' := x.weaken fun _ _ _ q => q.elim

theorem BA.next {env : Env} {fm fm' : Fm} {g g' : Frz} {ρ ρ' : Locs} {s : Shared} {st' : St} {h' : Heap} {tk : Nat} (x : Ext (Xof env fm) g ρ s.heap g' ρ' h') (I : Inv h₀ g' ρ' st' h') (F : FmOk g' ρ' h' env fm') (n : fm'.names = fm.names) : BA h₀ env fm g ρ s st' .nx fm' .next { s with heap := h', toks := tk } :=
  ⟨g', ρ', h', tk, rfl, x, I, .nx, F, n⟩
theorem BA.ext {env : Env} {fm fm1 fm' : Fm} {g g₁ : Frz} {ρ ρ₁ : Locs} {s : Shared} {h₁ : Heap} {tk : Nat} {st' : St} {fl : Fl} {f : Flow} {s' : Shared} (x : Ext (Xof env fm) g ρ s.heap g₁ ρ₁ h₁) (n : fm1.names = fm.names) (y : BA h₀ env fm1 g₁ ρ₁ { s with heap := h₁, toks := tk } st' fl fm' f s') : BA h₀ env fm g ρ s st' fl fm' f s' := by
  obtain ⟨g', ρ', h', tk', e, x1, x2, x3, x4, x5⟩ := y
  refine ⟨g', ρ', h', tk', e, x.trans ?_, x2, x3, x4, x5.trans n⟩
  rw [← Xof_eq n]; exact x1

theorem noComp_swap {value : Expr} {t : Option Expr} {l : Nat} {env : Env} (h : noComp value = true) : swapsWith value t l env = pure false := by
  cases value <;> first | rfl | ((first | exact nsome h | (obtain ⟨rfl, rfl⟩ := pinj h; clear h) | (obtain ⟨rfl, rfl, rfl⟩ := pinj3 h; clear h) | (obtain rfl := sinj h; clear h) | cases h))

theorem evL_cnt {r : Ev} {fm : Fm} : ∀ (es : List Expr) (st st' : St) (vs : List PV), evL r fm st es = some (vs, st') → vs.length = es.length := fun es => by
  induction es with
  | nil => intro st st' vs e; obtain ⟨rfl, rfl⟩ := pinj e; rfl
  | cons a t ih =>
    intro st st' vs e
    obtain ⟨_, e⟩ := ifs_of e
    obtain ⟨⟨v, st1⟩, h1, e⟩ := bnd e
    obtain ⟨⟨us, st2⟩, h2, e⟩ := bnd e
    obtain ⟨rfl, rfl⟩ := pinj e
    exact congrArg (· + 1) (ih _ _ _ h2)
theorem newL_ok {r : Ev} {n : Nat} (H : Snd w h₀ r n) {A : Around} {env : Env} {fm : Fm} {g : Frz} {ρ : Locs} {st st' : St} {s : Shared} {es : List Expr} {p : Pos} {v : PV} (R : Room n A) (I : Inv h₀ g ρ st s.heap) (F : FmOk g ρ s.heap env fm) (hl : es.length ≤ 1) (h : newL r fm st es = some (v, st')) :
    wpAny (model TP w) A (eval (.List es p) env) (EA h₀ g ρ s st' v) Fls s := by
  obtain ⟨⟨vs, st1⟩, h1, h⟩ := bnd h
  obtain ⟨xs, h2, h⟩ := mpd h
  obtain ⟨rfl, rfl⟩ := Prod.mk.inj h
  refine wpAny_List (Ans.use (evL_ok H R _ g ρ st _ s vs I F h1) fun us g1 ρ1 s1 tk X1 I1 rus => ?_)
  have rd := datas_ok rus h2
  have k : ∀ b o, s1.get? b = some o → (s1.push ({ cls := .type "list", data := .seq us.toArray } : Obj)).get? b = some o := fun b o e => PySem.Heap.get?_push_of_some _ e
  have l : s1.objs.size ≤ (s1.objs.size, s1.objs.size).1 := Nat.le_refl _
  refine ⟨Nat.le_trans ?_ (show 1 ≤ sizeLine by decide), g1, ρ1 ++ [(s1.objs.size, s1.objs.size)], _, tk, rfl, X1.trans (Ext.newAt l l k), I1.newAt l l k (.list (PySem.Heap.get?_push_size _ rfl) rd), .obj (snoc_get _ _ _ I1.len)⟩
  show us.length ≤ 1
  rw [rus.length, evL_cnt _ _ _ _ h1]; exact hl
theorem newList_ok {r : Ev} {n : Nat} (H : Snd w h₀ r n) {A : Around} {env : Env} {fm : Fm} {g : Frz} {ρ : Locs} {st st' : St} {s : Shared} {e : Expr} {v : PV} (R : Room n A) (I : Inv h₀ g ρ st s.heap) (F : FmOk g ρ s.heap env fm) (h : newList r fm st e = some (v, st')) :
    wpAny (model TP w) A (eval e env) (EA h₀ g ρ s st' v) Fls s := by
  unfold newList at h
  cases q : lsOf e with
  | none => rw [q] at h; exact H.E A env fm g ρ st st' s _ v R I F h
  | some es =>
    rw [q] at h
    cases ite_of h with
    | t c h2 => obtain ⟨p, rfl⟩ := lsOf_of q; exact newL_ok H R I F c h2
    | f c h2 => exact H.E A env fm g ρ st st' s _ v R I F h2

theorem fobj_set (D : Gd w K h₀ mg mb) {g : Frz} {ρ : Locs} {st : St} {s : Shared} {r : Nat} {p : Addr × Addr} {name : Str} {u : Value} {v : PV} {A : Around} {Q : Unit → Shared → Prop} (I : Inv h₀ g ρ st s.heap) (hp : ρ[r]? = some p) (hs : st[r]? = some (.fobj [])) (hn : name = Str.ofString "read") (ru : Rp g ρ u v)
    (hq : ∀ g' h' tk, Ext noX g ρ s.heap g' ρ h' → Inv h₀ g' ρ (st.set r (.fobj [(name, v)])) h' → Q () { s with heap := h', toks := tk }) : wpAny (model TP w) A (setAttr (.ref p.1) name u) Q Fls s := by
  subst hn
  rcases matF (I.mat _ _ _ hp hs) with ⟨a, fd, rfl, _, e1⟩ | ⟨_, _, _, _, _, _, _, _, e9, _, _, _⟩
  · refine fn_set_own e1 fun h' es n tk hs' he k kd ka => ?_
    subst he
    have l : s.heap.objs.size ≤ s.heap.objs.size := Nat.le_refl _
    obtain ⟨I1, X1⟩ := I.push (o := dictOf [⟨hs', .str (Str.ofString "read") tk, u⟩] n) rfl noX
    have kk : ∀ b o, b ≠ a → b ≠ a → (s.heap.push (dictOf [⟨hs', .str (Str.ofString "read") tk, u⟩] n)).get? b = some o → h'.get? b = some o := fun b o q _ e => by
      rcases PySem.Heap.get?_push_cases e with ⟨rfl, rfl⟩ | e
      · exact kd
      · exact k b o q e
    exact hq _ h' _ (X1.trans (Ext.setAt hp kk)) (I1.setAt hp kk (.fobj1 ka (Frz.add_self ..) (.cons (ru.le X1.le (.refl _)) .nil)))
  · exact nomatch e9

theorem setA_ok (D : Gd w K h₀ mg mb) {g : Frz} {ρ : Locs} {st st' : St} {s : Shared} {o u : Value} {ov v : PV} {name : Str} {A : Around} (I : Inv h₀ g ρ st s.heap) (ro : Rp g ρ o ov) (ru : Rp g ρ u v) (e : setA ov name v st = some st') :
    wpAny (model TP w) A (setAttr o name u) (Ans h₀ noX g ρ s st' fun _ _ _ _ => True) Fls s := by
  obtain ⟨r, h1, e⟩ := bnd e
  obtain ⟨m, hs, e⟩ := bnd e
  obtain rfl := objV_of h1
  obtain ⟨p, rfl, hp⟩ := rpI ro
  cases m <;> first | exact nsome e | skip
  · obtain ⟨hi, e⟩ := ifs_of e
    obtain ⟨e1, rfl⟩ := of_chk e
    exact set_inst D I hp hs hi e1 ru fun h' tk X1 I1 => ⟨g, ρ, h', tk, rfl, X1, I1, trivial⟩
  · rename_i as
    obtain ⟨q, e⟩ := ifp_of e
    obtain rfl := sinj e
    obtain rfl : as = [] := List.eq_nil_of_length_eq_zero q.2
    exact fobj_set D I hp hs q.1 ru fun g' h' tk X1 I1 => ⟨g', ρ, h', tk, rfl, X1, I1, trivial⟩

/-- a plain assignment to one target that is no name -/
theorem assign_one {A : Around} {env : Env} {t value : Expr} {pos : Pos} {Q : Flow → Shared → Prop} {E : Value → Shared → Prop} {s : Shared} (hv : noComp value = true) (ht : swappedStores [t] value env = pure none) (hs : assignEach [t] env = [(false, assign t env)])
    (h : wpAny (model TP w) A (eval value env) (fun v s₁ => wpAny (model TP w) A (assign t env v) (fun _ => Q .next) E s₁) E s) : wpAny (model TP w) A (exec (.Assign [t] value pos) env) Q E s := by
  rw [arm_exec_Assign]
  refine wpAny_bind (wpAny_standAt (wpAny_bind ?_))
  show wpAny _ _ (swapsWith value (some t) pos.line env) _ _ _
  rw [noComp_swap hv]
  refine wpAny_pure ?_
  refine wpAny_bind (wpAny_mono h (fun v s₁ h₁ => ?_) fun _ _ x => x)
  rw [ht, hs]
  refine wpAny_bind (wpAny_pure ?_)
  show wpAny _ _ (do assignAll v [assign t env]; pure Flow.next) _ _ _
  exact wpAny_bind (wpAny_mono h₁ (fun _ s₂ h₂ => wpAny_pure h₂) fun _ _ x => x)

theorem aug_attr {A : Around} {env : Env} {o value : Expr} {attr : Str} {tpos pos : Pos} {op : Operator} {Q : Flow → Shared → Prop} {E : Value → Shared → Prop} {s : Shared}
    (h : wpAny (model TP w) A (eval o env) (fun ov s₁ => wpAny (model TP w) A (getAttr ov attr true) (fun old s₂ => wpAny (model TP w) A (eval value env) (fun v s₃ => wpAny (model TP w) A (inplaceOp op old v) (fun new s₄ => wpAny (model TP w) A (setAttr ov attr new) (fun _ => Q .next) E s₄) E s₃) E s₂) E s₁) E s) :
    wpAny (model TP w) A (exec (.AugAssign (.Attribute o attr tpos) op value pos) env) Q E s := by
  rw [arm_exec_AugAssign_2]
  refine wpAny_bind (wpAny_standAt (wpAny_bind (wpAny_mono h (fun ov s₁ h₁ => ?_) fun _ _ x => x)))
  refine wpAny_bind (wpAny_holding (wpAny_bind (wpAny_standAt (wpAny_bind (wpAny_mono h₁ (fun old s₂ h₂ => ?_) fun _ _ x => x)))))
  refine wpAny_bind (wpAny_holding (wpAny_mono h₂ (fun v s₃ h₃ => ?_) fun _ _ x => x))
  refine wpAny_bind (wpAny_standAt (wpAny_operating (wpAny_mono h₃ (fun new s₄ h₄ => ?_) fun _ _ x => x)))
  refine wpAny_bind (wpAny_standAt (wpAny_bind (wpAny_holding (wpAny_mono h₄ (fun _ s₅ h₅ => ?_) fun _ _ x => x))))
  exact wpAny_bind (wpAny_release (wpAny_pure h₅))
end
end Mine
end
section
namespace Mine
open PySem PySem.W PyProof.Rows

section
variable {w : World} {K : Frag} {h₀ : Heap} {mg mb : Str → Option Value}

theorem swapped_eq {x y : Str} {a b : Expr} {px py p1 p2 : Pos} {k1 k2 : Nat} {env : Env} (hp : plainE a = true) (hc : isCall b = true) (hl : (px.line == py.line) = true) (hb : env.blockKind = .function) (hx : env.kindOf x = some .local) (hy : env.kindOf y = some .local) (hne : x ≠ y) :
    swappedStores [.Tuple [.Name x px, .Name y py] k1 p1] (.Tuple [a, b] k2 p2) env = pure (some [x, y]) := by
  obtain ⟨f, as, ks, pb, rfl⟩ : ∃ f as ks pb, b = .Call f as ks pb := by cases b <;> first | exact ⟨_, _, _, _, rfl⟩ | cases hc
  have h1 : ∀ q : Expr → Bool, q a = false → q (.Call f as ks pb) = false → [a, Expr.Call f as ks pb].any q = false := fun q e1 e2 => by
    simp [e1, e2]
  have h3 : ∀ q : Expr → Option Str, q (.Name x px) = some x → q (.Name y py) = some y → [Expr.Name x px, Expr.Name y py].filterMap q = [x, y] := fun q e1 e2 => by
    rw [List.filterMap_cons, e1, List.filterMap_cons, e2]; rfl
  have h4 : [x, y].eraseDups = [x, y] := by
    have : (y == x) = false := by simpa using fun e => hne e.symm
    simp [List.eraseDups_cons, this]
  have h5 : ([a, Expr.Call f as ks pb].all (foldedForSure 8)) = false := by
    show (foldedForSure 8 a && (false && true)) = false
    exact Bool.and_false _
  have h6 : ([a, Expr.Call f as ks pb].all (constantsAlone 8)) = false := by
    show (constantsAlone 8 a && (false && true)) = false
    exact Bool.and_false _
  have e2 : (py.line == px.line) = true := by rw [beq_iff_eq] at hl ⊢; exact hl.symm
  unfold swappedStores
  dsimp only
  rw [hb, if_neg (by simp)]
  rw [h1 _ (by cases a <;> first | rfl | cases hp) rfl, if_neg Bool.false_ne_true]
  rw [h3 _ (by show (if (env.kindOf x == some .local && px.line == px.line) = true then some x else none) = some x; rw [hx]; simp) (by show (if (env.kindOf y == some .local && py.line == px.line) = true then some y else none) = some y; rw [hy, e2]; simp)]
  rw [h4, if_neg (by simp), h5, if_neg Bool.false_ne_true, h6, if_neg Bool.false_ne_true]

theorem swap_ok (D : Gd w K h₀ mg mb) {r : Ev} {n : Nat} (H : Snd w h₀ r n) {A : Around} {env : Env} {fm fm1 fm2 : Fm} {g : Frz} {ρ : Locs} {st st1 st2 : St} {s : Shared} {x y : Str} {a b : Expr} {px py p1 p2 pos : Pos} {k1 k2 : Nat} {u v : PyData} (R : Room n A) (I : Inv h₀ g ρ st s.heap) (F : FmOk g ρ s.heap env fm)
    (hp : plainE a = true) (hc : isCall b = true) (hl : (px.line == py.line) = true) (hx : fm.names.lookup x = some .local) (hy : fm.names.lookup y = some .local) (hne : x ≠ y)
    (e1 : r.E fm st a = some (.d u, st1)) (e2 : r.E fm st1 b = some (.d v, st2)) (e3 : fm.put y (.d v) = some fm1) (e4 : fm1.put x (.d u) = some fm2) :
    wpAny (model TP w) A (exec (.Assign [.Tuple [.Name x px, .Name y py] k1 p1] (.Tuple [a, b] k2 p2) pos) env) (BA h₀ env fm g ρ s st2 .nx fm2) Fls s := by
  have pb : plainE b = true := by cases b <;> first | rfl | cases hc
  have hb : env.blockKind = .function := by unfold Env.blockKind; rw [F.fk]; rfl
  rw [arm_exec_Assign]
  refine wpAny_bind (wpAny_standAt (wpAny_bind ?_))
  show wpAny _ _ (swapsWith (.Tuple [a, b] k2 p2) (some (.Tuple [.Name x px, .Name y py] k1 p1)) pos.line env) _ _ _
  rw [noComp_swap rfl]
  refine wpAny_pure ?_
  have ev : evL r fm st [a, b] = some ([.d u, .d v], st2) := by
    simp [evL, hp, pb, e1, e2]
  refine wpAny_bind (wpAny_Tuple (Ans.use (evL_ok H R [a, b] g ρ st st2 s _ I F ev) fun us g1 ρ1 s1 tk X1 I1 rus => ?_))
  have rd := datas_ok rus (show datas [.d u, .d v] = some [u, v] from rfl)
  cases rd with | @cons va _ _ _ ra rd => cases rd with | @cons vb _ _ _ rb rd => cases rd with
    | nil =>
      refine ⟨by show 2 ≤ sizeLine; decide, ?_⟩
      rw [swapped_eq hp hc hl hb (F.names x _ hx) (F.names y _ hy) hne]
      refine wpAny_bind (wpAny_pure ?_)
      obtain ⟨I2, X2⟩ := I1.push (o := ({ cls := .type "tuple", data := .seq [va, vb].toArray } : Obj)) rfl noX
      have ht : (s1.push ({ cls := .type "tuple", data := .seq [va, vb].toArray } : Obj)).IsTuple s1.objs.size #[va, vb] := ⟨_, PySem.Heap.get?_push_size _ rfl, rfl, _, rfl⟩
      unfold assignStores
      dsimp only
      refine wpAny_bind (wpAny_rule (wpAny_bind ?_))
      refine wpAny_mono (wpAny_unpackItems_tuple (items := #[va, vb]) (Q := fun items s' => ∃ h', items = [va, vb] ∧ s' = { s with heap := h', toks := tk } ∧ Heap.ExtBut (s1.push ({ cls := .type "tuple", data := .seq [va, vb].toArray } : Obj)).objs.size (s1.push ({ cls := .type "tuple", data := .seq [va, vb].toArray } : Obj)) h') R.hd ht fun h' hx' => ⟨h', rfl, rfl, hx'⟩) (fun items s' hh => ?_) fun _ _ x => x
      obtain ⟨h', rfl, rfl, hx'⟩ := hh
      have kp : ∀ b o, (s1.push ({ cls := .type "tuple", data := .seq [va, vb].toArray } : Obj)).get? b = some o → h'.get? b = some o := fun b o q => hx' b o (Nat.ne_of_lt (PySem.Heap.lt_size q)) q
      have I3 := I2.grown kp
      have X3 : Ext noX _ ρ1 (s1.push ({ cls := .type "tuple", data := .seq [va, vb].toArray } : Obj)) _ ρ1 h' := Ext.grown (g := g1.add s1.objs.size ({ cls := .type "tuple", data := .seq [va, vb].toArray } : Obj)) fun a o q _ => kp a o q
      have X03 := (X1.trans X2).trans X3
      have F3 := F.ext0 X03
      have order : assignInOrder ([x, y].reverse.map fun n => bindName env n) [va, vb].reverse = (do holding [va] (bindName env y vb); (do holding [] (bindName env x va); pure ())) := rfl
      rw [order]
      refine wpAny_bind (wpAny_bind (wpAny_holding (wpAny_bindName (Ans.use (store_ok (s := { s with heap := h', toks := tk }) I3 F3 e3 (.d (rb.le X2.le))) fun _ g4 ρ4 h4 tk4 X4 I4 P4 => ?_))))
      obtain ⟨F4, n4, rfl, rfl⟩ := P4
      refine wpAny_bind (wpAny_holding (wpAny_bindName (Ans.use (store_ok (s := { s with heap := h4, toks := tk4 }) I4 F4 e4 (.d (ra.le X2.le))) fun _ g5 ρ5 h5 tk5 X5 I5 P5 => ?_)))
      obtain ⟨F5, n5, rfl, rfl⟩ := P5
      refine wpAny_pure (wpAny_pure (BA.next (((noX_weaken X03).trans X4).trans ?_) I5 F5 (n5.trans n4)))
      rw [← Xof_eq n4]; exact X5
end
end Mine
end
section
namespace Mine
open PySem PySem.W PyProof.Rows

section
variable {w : World} {K : Frag} {h₀ : Heap} {mg mb : Str → Option Value}

theorem comp_cons {r : Ev} {fm : Fm} {st : St} {elt : Expr} {gens : List Comprehension} {scope : Scope} {v : PV × St} (e : comp r fm st elt gens scope = some v) : ∃ t it ifs gs, gens = ⟨t, it, ifs, 0⟩ :: gs := by
  unfold comp at e
  cases gens with
  | nil => (first | exact nsome e | (obtain ⟨rfl, rfl⟩ := pinj e; clear e) | (obtain ⟨rfl, rfl, rfl⟩ := pinj3 e; clear e) | (obtain rfl := sinj e; clear e) | cases e)
  | cons gc gs =>
    obtain ⟨t, it, ifs, a⟩ := gc
    dsimp only at e
    split at e
    · rename_i hc
      simp only [Bool.and_eq_true, decide_eq_true_eq] at hc
      obtain ⟨⟨⟨rfl, _⟩, _⟩, _⟩ := hc
      exact ⟨_, _, _, _, rfl⟩
    · (first | exact nsome e | (obtain ⟨rfl, rfl⟩ := pinj e; clear e) | (obtain ⟨rfl, rfl, rfl⟩ := pinj3 e; clear e) | (obtain rfl := sinj e; clear e) | cases e)

theorem Ext.freeze2 {g g' : Frz} {ρ ρ' : Locs} {h h' : Heap} {D : Addr} {o : Obj} (x : Ext noX g ρ h g' ρ' h') (n : g' D = none) (hD : ∀ o, h.get? D = some o → False) : Ext noX g ρ h (g'.add D o) ρ' h' :=
  ⟨x.le.trans (Frz.le_add (.inl n)), x.pre, x.keep, fun a oa ea f t q => by
    obtain ⟨c1, c2⟩ := x.clean a oa ea f t q
    exact ⟨c1, (Frz.add_ne _ _ (by rintro rfl; exact hD _ ea)).trans c2⟩⟩
theorem Ext.but' {X : Addr → Prop} {g g' : Frz} {ρ ρ' : Locs} {h h' h'' : Heap} {C : Addr} (x : Ext X g ρ h g' ρ' h') (s : PySem.Heap.SameBut C h' h'') (hC : ∀ o, h.get? C = some o → False) : Ext X g ρ h g' ρ' h'' :=
  ⟨x.le, x.pre, fun a o e f t n => (s.2 a (by rintro rfl; exact hC _ e)).trans (x.keep a o e f t n), x.clean⟩

theorem comp_ok {r : Ev} {n : Nat} (H : Snd w h₀ r n) {A : Around} {env : Env} {fm : Fm} {g : Frz} {ρ : Locs} {st st' : St} {s : Shared} {elt : Expr} {gens : List Comprehension} {scope : Scope} {pos : Pos} {v : PV} (R : Room n A) (I : Inv h₀ g ρ st s.heap) (F : FmOk g ρ s.heap env fm)
    (e : comp r fm st elt gens scope = some (v, st')) : wpAny (model TP w) A (eval (.ListComp elt gens scope pos) env) (EA h₀ g ρ s st' v) Fls s := by
  obtain ⟨t, it, ifs, gs, rfl⟩ := comp_cons e
  rw [eval_ListComp]
  show wpAny _ A (comprehension (.ListComp elt (⟨t, it, ifs, 0⟩ :: gs) scope pos) scope env _ (PySem.newList []) false (eval it env) none) _ _ s
  refine comp_main H (gc := ⟨t, it, ifs, 0⟩) R I F e fun C D g' ρ' h' tk m xs hv X' I' hn c1 c2 c3 Ac hCD hC hD => ?_
  subst hv
  refine ⟨m, hn, fun h'' hs => ?_⟩
  obtain ⟨vs, ⟨m', pl⟩, rl⟩ := Ac.at_
  have I2 := I'.freeze Ac.off Ac.tab Ac.frz pl
  have I3 := I2.sameBut hs c1 c2 (by rw [Frz.add_ne _ _ hCD]; exact c3)
  exact ⟨g'.add D _, ρ', h'', tk, rfl, (X'.freeze2 Ac.frz hD).but' hs hC, I3, .d (.list (Frz.add_self ..) rfl rfl (rl.le (Frz.le_add (.inl Ac.frz))))⟩

theorem comp_use {r : Ev} {n : Nat} (H : Snd w h₀ r n) {A : Around} {env : Env} {fm fm' : Fm} {g : Frz} {ρ : Locs} {st st' : St} {s : Shared} {elt : Expr} {gens : List Comprehension} {scope : Scope} {x : Str} {px pos p2 : Pos} {v : PV} (R : Room n A) (I : Inv h₀ g ρ st s.heap) (F : FmOk g ρ s.heap env fm)
    (e : comp r fm st elt gens scope = some (v, st')) (e2 : fm.put x v = some fm') : wpAny (model TP w) A (exec (.Assign [.Name x px] (.ListComp elt gens scope p2) pos) env) (BA h₀ env fm g ρ s st' .nx fm') Fls s := by
  obtain ⟨b, hsw⟩ : ∃ b, swapsWith (.ListComp elt gens scope p2) (some (.Name x px)) pos.line env = pure b := ⟨_, rfl⟩
  cases b with
  | false =>
    refine wpAny_Assign_Name (Ans.use (comp_ok H R I F e) fun u g1 ρ1 s1 tk X1 I1 ru => ?_) hsw
    refine Ans.use (store_ok (s := { s with heap := s1, toks := tk }) I1 (F.ext0 X1) e2 ru) fun _ g2 ρ2 s2 tk2 X2 I2 P2 => ?_
    obtain ⟨F2, n2, rfl, rfl⟩ := P2
    exact BA.next ((noX_weaken X1).trans X2) I2 F2 n2
  | true =>
    obtain ⟨t, it, ifs, gs, rfl⟩ := comp_cons e
    rw [exec_Assign_Name_used _ _ _ _ hsw]
    refine wpAny_bind (wpAny_standAt (wpAny_bind ?_))
    show wpAny _ A (do let _ ← comprehension (.ListComp elt (⟨t, it, ifs, 0⟩ :: gs) scope p2) scope env _ (PySem.newList []) false (eval it env) (some (assign (.Name x px) env))) _ _ s
    refine wpAny_bind (wpAny_mono (comp_main H (gc := ⟨t, it, ifs, 0⟩) R I F e (use := some (assign (.Name x px) env)) (Q := fun _ s' => BA h₀ env fm g ρ s st' .nx fm' .next s') fun C D g' ρ' h' tk m xs hv X' I' hn c1 c2 c3 Ac hCD hC hD => ?_) (fun _ s' hq => wpAny_pure (wpAny_pure hq)) fun _ _ e => e)
    subst hv
    obtain ⟨vs, ⟨m', pl⟩, rl⟩ := Ac.at_
    have I2 := I'.freeze Ac.off Ac.tab Ac.frz pl
    have X2 := X'.freeze2 (o := { cls := .type "list", data := .seq ⟨vs⟩ m' }) Ac.frz hD
    have F2 := F.ext0 X2
    have ru : Rp (g'.add D { cls := .type "list", data := .seq ⟨vs⟩ m' }) ρ' (.ref D) (.d (.list xs)) := .d (.list (Frz.add_self ..) rfl rfl (rl.le (Frz.le_add (.inl Ac.frz))))
    have nC : ∀ a, (a = env.locals ∨ ∃ y, env.cells.lookup y = some a) → a ≠ C := by
      rintro a q rfl
      rcases q with rfl | ⟨y, q⟩
      · obtain ⟨mm, ⟨oL, es, ep, hL, _⟩, _⟩ := F.ns
        exact hC _ hL
      · obtain ⟨_, _, v, ⟨oc, hc, _⟩⟩ := F.offC y a q
        exact hC _ hc
    show wpAny _ A (assign (.Name x px) env (.ref D)) _ _ _
    refine wpAny_assign_Name (Ans.use (store_ok (s := { s with heap := h', toks := tk }) I2 F2 e2 ru) fun _ g3 ρ3 h3 tk3 X3 I3 P3 => ?_)
    obtain ⟨F3, n3, rfl, rfl⟩ := P3
    have nX : ¬ Xof env fm C := fun q => by
      rcases q with q | ⟨y, _, q⟩
      · exact nC C (.inl q) rfl
      · exact nC C (.inr ⟨y, q⟩) rfl
    obtain ⟨oL, es, ep, hL, rL⟩ := hn
    refine ⟨m, ⟨oL, es, ep, X3.keep C oL hL c1 c2 nX, rL⟩, fun h'' hs => ?_⟩
    have g3 : (g'.add D { cls := .type "list", data := .seq ⟨vs⟩ m' }) C = none := by rw [Frz.add_ne _ _ hCD]; exact c3
    refine BA.next (((noX_weaken X2).trans X3).but' hs hC) (I3.sameBut hs c1 c2 g3) (F3.ext (X := fun a => a = C) (Ext.sameBut hs (.inl rfl)) fun a q e => nC a q e) n3
end
end Mine
end
section
namespace Mine
open PySem PySem.W PyProof.Rows

section
variable {w : World} {K : Frag} {h₀ : Heap} {mg mb : Str → Option Value}

theorem iter_here (D : Gd w K h₀ mg mb) {r : Ev} {n : Nat} (H : Snd w h₀ r n) {A : Around} {env : Env} {fm fm' : Fm} {g : Frz} {ρ : Locs} {st st' : St} {s : Shared} {tgt : Expr} {body : List Stmt} {it : It} {u : Value} {x : PV} {fl : Fl} (R : Room (n + 1) A) (I : Inv h₀ g ρ st s.heap) (F : FmOk g ρ s.heap env fm) (ru : Rp g ρ u x) (e1 : iterOf x st = some it)
    (e2 : forLoop r tgt body it fm st = some (fl, fm', st')) : wpAny (model TP w) A (pyIter u) (fun J s₂ => codeAny (model TP w) A (.forLoop tgt J body [] env) (okR (BA h₀ env fm g ρ s st' fl fm')) s₂) Fls s := by
  refine iter_ok R.hd I ru e1 fun J h' tk X1 I1 S1 hJ => ?_
  have F1 := F.ext0 X1
  have conv : ∀ (l : s.heap.objs.size ≤ J), ∀ res s', okR (LA h₀ env fm J g ρ { s with heap := h', toks := tk } st' fl fm') res s' → okR (BA h₀ env fm g ρ s st' fl fm') res s' := fun l res s' z => by
    cases res with
    | error _ => exact z
    | ok f =>
      obtain ⟨g4, ρ4, h4, tk4, rfl, X4, I4, fo4, F4, n4⟩ := z
      refine ⟨g4, ρ4, h4, tk4, rfl, Ext.weaken (Ext.trans (noX_weaken (X := XJ env fm J) X1) X4) fun a o ea q => ?_, I4, fo4, F4, n4⟩
      rcases q with q | rfl
      · exact q
      · exact absurd (PySem.Heap.lt_size ea) (Nat.not_lt.mpr l)
  have own : ∀ (l : s.heap.objs.size ≤ J) (o : ∃ o, h'.get? J = some o), Own g ρ h' env fm J := fun l o => by
    have nw := I.new l
    exact ⟨o, nw.1, nw.2.1, nw.2.2, (F.free l).xof _⟩
  unfold forLoop at e2
  cases it with
  | items vs =>
    rcases hJ with f | ⟨l, o⟩
    · exact f.elim
    · exact codeAny_mono (forItems_ok H R.less (F.free l) vs g ρ st st' fm fm' { s with heap := h', toks := tk } fl I1 F1 S1 (own l o) e2) (conv l)
  | mlist q i =>
    rcases hJ with f | ⟨l, o⟩
    · exact f.elim
    · exact codeAny_mono (forList_ok H R.less (F.free l) 1000 i g ρ st st' fm fm' { s with heap := h', toks := tk } fl I1 F1 S1 (own l o) e2) (conv l)
  | call q =>
    dsimp only at e2
    split at e2
    · rename_i hn
      cases S1 with
      | @call _ p hp hI =>
        subst hI
        refine codeAny_mono (forCall_ok D H (fun it v => by cases tgt <;> first | rfl | (cases hn)) R 1000 g ρ p st st' fm fm' { s with heap := h', toks := tk } fl I1 F1 hp e2) fun res s' z => ?_
        cases res with
        | error _ => exact z
        | ok f => exact BA.ext (fm1 := fm) (noX_weaken X1) rfl z
    · (first | exact nsome e2 | (obtain ⟨rfl, rfl⟩ := pinj e2; clear e2) | (obtain ⟨rfl, rfl, rfl⟩ := pinj3 e2; clear e2) | (obtain rfl := sinj e2; clear e2) | cases e2)

set_option maxHeartbeats 4000000 in
theorem S_ok (D : Gd w K h₀ mg mb) {r : Ev} {n : Nat} (H : Snd w h₀ r n) {A : Around} {env : Env} {fm fm' : Fm} {g : Frz} {ρ : Locs} {st st' : St} {s : Shared} {b : Stmt} {fl : Fl} (R : Room (n + 3) A) (I : Inv h₀ g ρ st s.heap) (F : FmOk g ρ s.heap env fm) (h0 : stepS r fm st b = some (fl, fm', st')) :
    wpAny (model TP w) A (exec b env) (BA h₀ env fm g ρ s st' fl fm') Fls s := by
  have R0 : Room n A := R.less.less.less
  have hu : A.units + 64 < cLine := R.unit64
  obtain ⟨x, hx, h⟩ := bnd (show (viewS b).bind (stepZ r fm st) = some (fl, fm', st') from h0)
  clear h0
  obtain rfl := viewS_of hx
  clear hx
  cases x with
  | asgC x px elt gens scope p2 pos =>
    replace h := bnd h; obtain ⟨⟨v, st1⟩, h1, h⟩ := h
    replace h := mpd h; obtain ⟨fm1, h2, h3⟩ := h
    obtain ⟨rfl, h4⟩ := Prod.mk.inj h3
    obtain ⟨rfl, rfl⟩ := Prod.mk.inj h4
    exact comp_use H R0 I F h1 h2
  | asgN x px v pos =>
    replace h := ifs_of h; obtain ⟨hc, h⟩ := h
    replace h := bnd h; obtain ⟨⟨v, st1⟩, h1, h⟩ := h
    replace h := mpd h; obtain ⟨fm1, h2, h3⟩ := h
    obtain ⟨rfl, h4⟩ := Prod.mk.inj h3
    obtain ⟨rfl, rfl⟩ := Prod.mk.inj h4
    refine wpAny_Assign_Name (Ans.use (newList_ok H R0 I F h1) fun u g1 ρ1 s1 tk X1 I1 ru => ?_) (noComp_swap hc)
    refine Ans.use (store_ok (s := { s with heap := s1, toks := tk }) I1 (F.ext0 X1) h2 ru) fun _ g2 ρ2 s2 tk2 X2 I2 P2 => ?_
    obtain ⟨F2, n2, rfl, rfl⟩ := P2
    exact BA.next ((noX_weaken X1).trans X2) I2 F2 n2
  | asgA o name ap v pos =>
    replace h := ifs_of h; obtain ⟨hc, h⟩ := h
    replace h := bnd h; obtain ⟨⟨v, st1⟩, h1, h⟩ := h
    replace h := bnd h; obtain ⟨⟨ov, st2⟩, h2, h⟩ := h
    replace h := mpd h; obtain ⟨st3, h3, h4⟩ := h
    obtain ⟨rfl, h5⟩ := Prod.mk.inj h4
    obtain ⟨rfl, rfl⟩ := Prod.mk.inj h5
    refine assign_one hc rfl rfl (Ans.use (newList_ok H R0 I F h1) fun u g1 ρ1 s1 tk X1 I1 ru => ?_)
    rw [arm_assign_Attribute]
    refine wpAny_bind (wpAny_holding (Ans.use (H.E A env fm g1 ρ1 st1 st2 { s with heap := s1, toks := tk } _ ov R0 I1 (F.ext0 X1) h2) fun o g2 ρ2 s2 tk2 X2 I2 ro => ?_))
    refine wpAny_bind (wpAny_standAt (wpAny_bind (wpAny_holding (Ans.use (setA_ok D (s := { s with heap := s2, toks := tk2 }) I2 ro (ru.le X2.le X2.pre) h3) fun _ g3 ρ3 s3 tk3 X3 I3 _ => ?_))))
    exact wpAny_release (BA.next (noX_weaken ((X1.trans X2).trans X3)) I3 (F.ext0 ((X1.trans X2).trans X3)) rfl)
  | asgI o i ip v pos =>
    replace h := ifs_of h; obtain ⟨hc, h⟩ := h
    obtain ⟨hc1, hc2⟩ := and_of hc
    replace h := bnd h; obtain ⟨⟨v, st1⟩, h1, h⟩ := h
    replace h := bnd h; obtain ⟨⟨ov, st2⟩, h2, h⟩ := h
    replace h := bnd h; obtain ⟨⟨iv, st3⟩, h3, h⟩ := h
    replace h := mpd h; obtain ⟨st4, h4, h5⟩ := h
    obtain ⟨rfl, h6⟩ := Prod.mk.inj h5
    obtain ⟨rfl, rfl⟩ := Prod.mk.inj h6
    refine wpAny_Assign_Subscript (Ans.use (H.E A env fm g ρ st st1 s _ v R0 I F h1) fun u g1 ρ1 s1 tk X1 I1 ru => ?_) (noComp_swap hc1)
    refine Ans.use (H.E A env fm g1 ρ1 st1 st2 { s with heap := s1, toks := tk } _ ov R0 I1 (F.ext0 X1) h2) fun o g2 ρ2 s2 tk2 X2 I2 ro => ?_
    refine Ans.use (H.E A env fm g2 ρ2 st2 st3 { s with heap := s2, toks := tk2 } _ iv R0 I2 ((F.ext0 X1).ext0 X2) h3) fun i g3 ρ3 s3 tk3 X3 I3 ri => ?_
    refine setI_ok (s := { s with heap := s3, toks := tk3 }) I3 (ro.le X3.le X3.pre) ri ((ru.le X2.le X2.pre).le X3.le X3.pre) h4 fun h' X4 I4 => ?_
    exact BA.next (tk := tk3) (noX_weaken (((X1.trans X2).trans X3).trans X4)) I4 (F.ext0 (((X1.trans X2).trans X3).trans X4)) rfl
  | asgT x p y q k1 p1 a b k2 p2 pos =>
    replace h := ifs_of h; obtain ⟨hc, h⟩ := h
    obtain ⟨hc, c6⟩ := and_of hc
    obtain ⟨hc, c5⟩ := and_of hc
    obtain ⟨hc, c4⟩ := and_of hc
    obtain ⟨hc, c3⟩ := and_of hc
    obtain ⟨c1, c2⟩ := and_of hc
    replace h := bnd h; obtain ⟨⟨u, st1⟩, h1, h⟩ := h
    replace h := bnd h; obtain ⟨⟨v, st2⟩, h2, h⟩ := h
    replace h := bnd h; obtain ⟨u1, hu1, h⟩ := h
    replace h := bnd h; obtain ⟨v1, hv1, h⟩ := h
    replace h := bnd h; obtain ⟨fm1, h3, h⟩ := h
    replace h := mpd h; obtain ⟨fm2, h4, h5⟩ := h
    obtain ⟨rfl, h6⟩ := Prod.mk.inj h5
    obtain ⟨rfl, rfl⟩ := Prod.mk.inj h6
    obtain rfl := datV_of hu1
    obtain rfl := datV_of hv1
    exact swap_ok D H R0 I F c1 c2 c3 (beq_iff_eq.mp c4) (beq_iff_eq.mp c5) (bne_iff_ne.mp c6) h1 h2 h3 h4
  | augN x p add v pos =>
    replace h := bnd h; obtain ⟨old, h1, h⟩ := h
    replace h := bnd h; obtain ⟨⟨v, st1⟩, h2, h⟩ := h
    cases add with
    | true =>
      replace h := bnd h; obtain ⟨z, h3, h⟩ := h
      replace h := mpd h; obtain ⟨fm1, h5, h6⟩ := h
      obtain ⟨rfl, h7⟩ := Prod.mk.inj h6
      obtain ⟨rfl, rfl⟩ := Prod.mk.inj h7
      refine wpAny_AugAssign_Name (name_ok D I F h1 fun o ro => ?_)
      refine Ans.use (H.E A env fm g ρ st _ s _ _ R0 I F h2) fun u g1 ρ1 s1 tk X1 I1 ru => ?_
      cases addV_of h3 with
      | int a b e1 e2 e3 =>
        subst e1 e2 e3
        obtain ⟨ro⟩ := rpD ro
        obtain ⟨ru⟩ := rpD ru
        obtain ⟨_, rfl⟩ := rdI ro
        obtain ⟨_, rfl⟩ := rdI ru
        refine P.iadd_int (Ans.use (store_ok (s := { s with heap := s1, toks := tk + 1 }) I1 (F.ext0 X1) h5 (Rp.int _ _)) fun _ g2 ρ2 s2 tk2 X2 I2 P2 => ?_)
        obtain ⟨F2, n2, rfl, rfl⟩ := P2
        exact BA.next ((noX_weaken X1).trans X2) I2 F2 n2
      | str a b e1 e2 e3 =>
        subst e1 e2
        obtain ⟨h4, rfl⟩ := of_chk e3
        obtain ⟨ro⟩ := rpD ro
        obtain ⟨ru⟩ := rpD ru
        obtain ⟨_, rfl⟩ := rdI ro
        obtain ⟨_, rfl⟩ := rdI ru
        refine PyProof.Rows.iadd_str (fun t' k => ?_) (lim_size h4)
        rw [str_append]
        refine Ans.use (store_ok (s := { s with heap := s1, toks := k }) I1 (F.ext0 X1) h5 (Rp.str _ _)) fun _ g2 ρ2 s2 tk2 X2 I2 P2 => ?_
        obtain ⟨F2, n2, rfl, rfl⟩ := P2
        exact BA.next ((noX_weaken X1).trans X2) I2 F2 n2
    | false =>
      replace h := bnd h; obtain ⟨z, h3, h⟩ := h
      replace h := mpd h; obtain ⟨fm1, h5, h6⟩ := h
      obtain ⟨rfl, h7⟩ := Prod.mk.inj h6
      obtain ⟨rfl, rfl⟩ := Prod.mk.inj h7
      obtain ⟨a, b, rfl, rfl, rfl⟩ := subV_of h3
      refine wpAny_AugAssign_Name (name_ok D I F h1 fun o ro => ?_)
      refine Ans.use (H.E A env fm g ρ st _ s _ _ R0 I F h2) fun u g1 ρ1 s1 tk X1 I1 ru => ?_
      obtain ⟨ro⟩ := rpD ro
      obtain ⟨ru⟩ := rpD ru
      obtain ⟨_, rfl⟩ := rdI ro
      obtain ⟨_, rfl⟩ := rdI ru
      refine P.isub_int (Ans.use (store_ok (s := { s with heap := s1, toks := tk + 1 }) I1 (F.ext0 X1) h5 (Rp.int _ _)) fun _ g2 ρ2 s2 tk2 X2 I2 P2 => ?_)
      obtain ⟨F2, n2, rfl, rfl⟩ := P2
      exact BA.next ((noX_weaken X1).trans X2) I2 F2 n2
  | augA o name ap v pos =>
    replace h := bnd h; obtain ⟨⟨ov, st1⟩, h1, h⟩ := h
    replace h := bnd h; obtain ⟨old, h2, h⟩ := h
    replace h := bnd h; obtain ⟨⟨v, st2⟩, h3, h⟩ := h
    replace h := bnd h; obtain ⟨a, ha, h⟩ := h
    replace h := bnd h; obtain ⟨b, hb, h⟩ := h
    replace h := mpd h; obtain ⟨st3, h4, h5⟩ := h
    obtain ⟨rfl, h6⟩ := Prod.mk.inj h5
    obtain ⟨rfl, rfl⟩ := Prod.mk.inj h6
    obtain rfl := intV_of hb
    have ho := intV_of ha
    refine aug_attr (Ans.use (H.E A env fm g ρ st st1 s _ ov R0 I F h1) fun o g1 ρ1 s1 tk X1 I1 ro => ?_)
    refine Ans.use (getA_ok D (s := { s with heap := s1, toks := tk }) I1 ro h2) fun od g2 ρ2 s2 tk2 X2 I2 rod => ?_
    refine Ans.use (H.E A env fm g2 ρ2 st1 st2 { s with heap := s2, toks := tk2 } _ _ R0 I2 ((F.ext0 X1).ext0 X2) h3) fun u g3 ρ3 s3 tk3 X3 I3 ru => ?_
    rw [ho] at rod
    obtain ⟨rod⟩ := rpD rod
    obtain ⟨ru⟩ := rpD ru
    obtain ⟨_, rfl⟩ := rdI rod
    obtain ⟨_, rfl⟩ := rdI ru
    refine P.iadd_int (Ans.use (setA_ok D (s := { s with heap := s3, toks := tk3 + 1 }) I3 ((ro.le X2.le X2.pre).le X3.le X3.pre) (Rp.int _ _) h4) fun _ g4 ρ4 s4 tk4 X4 I4 _ => ?_)
    exact BA.next (noX_weaken (((X1.trans X2).trans X3).trans X4)) I4 (F.ext0 (((X1.trans X2).trans X3).trans X4)) rfl
  | ifs t a b p =>
    replace h := bnd h; obtain ⟨⟨c, st1⟩, h1, h⟩ := h
    refine wpAny_If (Ans.use (H.T A env fm g ρ st st1 s _ _ R0 I F h1) fun u g1 ρ1 s1 tk X1 I1 ru => ?_)
    subst ru
    cases u with
    | true => exact wpAny_mono (H.B A env fm fm' g1 ρ1 st1 st' { s with heap := s1, toks := tk } _ fl R0 I1 (F.ext0 X1) h) (fun f s' z => BA.ext (noX_weaken X1) rfl z) fun _ _ x => x
    | false => exact wpAny_mono (H.B A env fm fm' g1 ρ1 st1 st' { s with heap := s1, toks := tk } _ fl R0 I1 (F.ext0 X1) h) (fun f s' z => BA.ext (noX_weaken X1) rfl z) fun _ _ x => x
  | fors tgt e body p =>
    replace h := ifs_of h; obtain ⟨hp, h⟩ := h
    replace h := bnd h; obtain ⟨⟨x, st1⟩, h1, h⟩ := h
    replace h := bnd h; obtain ⟨it, h2, h⟩ := h
    refine wpAny_For (Ans.use (H.E A env fm g ρ st st1 s _ _ R0 I F h1) fun u g1 ρ1 s1 tk X1 I1 ru => ?_) (not_set hp)
    refine wpAny_mono (iter_here D H R.less.less (s := { s with heap := s1, toks := tk }) I1 (F.ext0 X1) ru h2 h) (fun J s2 z => codeAny_mono z fun res s' z => ?_) fun _ _ x => x
    cases res with
    | error _ => exact z.elim
    | ok f => exact BA.ext (noX_weaken X1) rfl z
  | ret e p =>
    replace h := mpd h; obtain ⟨⟨v, st1⟩, h1, h2⟩ := h
    obtain ⟨rfl, h3⟩ := Prod.mk.inj h2
    obtain ⟨rfl, rfl⟩ := Prod.mk.inj h3
    refine wpAny_Return_some (Ans.use (H.E A env fm g ρ st _ s _ _ R0 I F h1) fun u g1 ρ1 s1 tk X1 I1 ru => ?_)
    exact ⟨g1, ρ1, s1, tk, rfl, noX_weaken X1, I1, .rt ru, F.ext0 X1, rfl⟩
  | brk p =>
    obtain ⟨rfl, rfl, rfl⟩ := pinj3 h
    exact wpAny_Break ⟨g, ρ, s.heap, s.toks, rfl, .refl, I, .br, F, rfl⟩
  | cnt p =>
    obtain ⟨rfl, rfl, rfl⟩ := pinj3 h
    exact wpAny_Continue ⟨g, ρ, s.heap, s.toks, rfl, .refl, I, .ct, F, rfl⟩
  | asr t m p =>
    replace h := bnd h; obtain ⟨⟨c, st1⟩, h1, h⟩ := h
    replace h := ifs_of h; obtain ⟨hc, h⟩ := h
    obtain ⟨rfl, rfl, rfl⟩ := pinj3 h
    refine wpAny_Assert_holds (Ans.use (H.T A env fm g ρ st _ s _ _ R0 I F h1) fun u g1 ρ1 s1 tk X1 I1 ru => ?_)
    exact ⟨ru.trans hc, BA.next (noX_weaken X1) I1 (F.ext0 X1) rfl⟩
  | exp e p =>
    replace h := ifs_of h; obtain ⟨hcall, h⟩ := h
    replace h := bnd h; obtain ⟨⟨v, st1⟩, h1, h⟩ := h
    replace h := ifs_of h; obtain ⟨hn, h⟩ := h
    obtain ⟨rfl, rfl, rfl⟩ := pinj3 h
    have hv : v = .d .none := isNoneV_of hn
    have key : ∀ {Q : Flow → Shared → Prop}, wpAny (model TP w) A (eval e env) (fun v s' => match v with | .ref _ => False | _ => Q .next s') Fls s → wpAny (model TP w) A (exec (.Expr e p) env) Q Fls s := fun {Q} hh => by
      cases e <;> first | exact absurd hcall Bool.false_ne_true | exact wpAny_Expr hh (by unfold interactive; rw [F.fk]; rfl) rfl
    refine key (Ans.use (H.E A env fm g ρ st _ s _ _ R0 I F h1) fun u g1 ρ1 s1 tk X1 I1 ru => ?_)
    rw [hv] at ru
    obtain ⟨ru⟩ := rpD ru
    obtain rfl := rdI ru
    exact BA.next (noX_weaken X1) I1 (F.ext0 X1) rfl
  | dfn nm q body scope bind pos =>
    change (if _ = true then none else _) = _ at h
    split at h
    · exact nsome h
    · rename_i hc
      replace h := mpd h; obtain ⟨fm1, h1, h2⟩ := h
      obtain ⟨rfl, h3⟩ := Prod.mk.inj h2
      obtain ⟨rfl, rfl⟩ := Prod.mk.inj h3
      simp only [Bool.or_eq_true, Bool.not_eq_true', not_or, Bool.not_eq_true, Bool.not_eq_false] at hc
      exact def_ok D ⟨R.hd, by have := R.depth; omega, by have := R.units; omega⟩ I F hc.1.1.1 (by simpa using hc.1.1.2) hc.1.2 hc.2 h1

theorem B_ok (D : Gd w K h₀ mg mb) {r : Ev} {n : Nat} (H : Snd w h₀ r n) : SndB w h₀ (step r) (n + 3) := by
  intro A env fm fm' g ρ st st' s b fl R I F h
  change stepB r fm st b = some (fl, fm', st') at h
  induction b generalizing fm g ρ st s with
  | nil => (first | exact nsome h | (obtain ⟨rfl, rfl⟩ := pinj h; clear h) | (obtain ⟨rfl, rfl, rfl⟩ := pinj3 h; clear h) | (obtain rfl := sinj h; clear h) | cases h); exact wpAny_execs_nil (BA.next (tk := s.toks) .refl I F rfl)
  | cons b bs ih =>
    unfold stepB at h
    replace h := bnd h; obtain ⟨⟨fl1, fm1, st1⟩, h1, h⟩ := h
    refine wpAny_execs_cons (Ans.use (S_ok D H R I F h1) fun f g1 ρ1 s1 tk X1 I1 P1 => ?_)
    obtain ⟨fo, F1, n1⟩ := P1
    dsimp only at h
    cases fo with
    | nx => exact wpAny_mono (ih fm1 g1 ρ1 st1 { s with heap := s1, toks := tk } I1 F1 h) (fun f s' z => BA.ext X1 n1 z) fun _ _ x => x
    | br => (first | exact nsome h | (obtain ⟨rfl, rfl⟩ := pinj h; clear h) | (obtain ⟨rfl, rfl, rfl⟩ := pinj3 h; clear h) | (obtain rfl := sinj h; clear h) | cases h); exact ⟨g1, ρ1, s1, tk, rfl, X1, I1, .br, F1, n1⟩
    | ct => (first | exact nsome h | (obtain ⟨rfl, rfl⟩ := pinj h; clear h) | (obtain ⟨rfl, rfl, rfl⟩ := pinj3 h; clear h) | (obtain rfl := sinj h; clear h) | cases h); exact ⟨g1, ρ1, s1, tk, rfl, X1, I1, .ct, F1, n1⟩
    | rt ru => (first | exact nsome h | (obtain ⟨rfl, rfl⟩ := pinj h; clear h) | (obtain ⟨rfl, rfl, rfl⟩ := pinj3 h; clear h) | (obtain rfl := sinj h; clear h) | cases h); exact ⟨g1, ρ1, s1, tk, rfl, X1, I1, .rt ru, F1, n1⟩

theorem Snd_step (D : Gd w K h₀ mg mb) {r : Ev} {n : Nat} (H : Snd w h₀ r n) : Snd w h₀ (step r) (n + 3) := ⟨E_ok D H (fun _ _ _ _ _ _ _ _ _ _ _ _ _ R I F e => comp_ok H R I F e), T_ok D H, B_ok D H, fun f => C_ok D H f⟩
theorem Snd_ev (D : Gd w K h₀ mg mb) : ∀ n : Nat, Snd w h₀ (ev n) (3 * n)
  | 0 => ⟨fun _ _ _ _ _ _ _ _ _ _ _ _ _ h => (nomatch h), fun _ _ _ _ _ _ _ _ _ _ _ _ _ h => (nomatch h), fun _ _ _ _ _ _ _ _ _ _ _ _ _ _ h => (nomatch h), fun _ _ _ _ _ _ _ _ _ _ _ _ _ _ _ h => (nomatch h)⟩
  | n + 1 => Snd_step D (Snd_ev D n)
end
end Mine
end
section
set_option maxRecDepth 100000
namespace Mine
open PySem

/-! The pure part: rules of the interpreter, a node each. -/

noncomputable abbrev nI (i : Int) : PyData := .int i
noncomputable abbrev nS (l : List Nat) : PyData := .str (mkS l)

noncomputable def kidsX : XE → List Expr
  | .bin a _ b _ => [a, b]
  | .neg a _ => [a]
  | .ife t a b _ => [t, a, b]
  | .cmp a _ b _ => [a, b]
  | .mca o name apos args _ => .Attribute o name apos :: args
  | .cal f args _ => f :: args
  | .att o _ _ => [o]
  | .slc o lo hi _ _ => [o, lo.getD o, hi.getD o]
  | .sub o i _ => [o, i]
  | .lst es _ => es
  | .tup es _ _ => es
  | .ors es _ => es
  | _ => []
noncomputable def posX : XE → Pos
  | .bin _ _ _ p => p
  | .neg _ p => p
  | .ife _ _ _ p => p
  | .cmp _ _ _ p => p
  | .mca _ _ _ _ p => p
  | .cal _ _ p => p
  | .att _ _ p => p
  | .slc _ _ _ _ p => p
  | .sub _ _ p => p
  | .lst _ p => p
  | .tup _ _ p => p
  | .ors _ p => p
  | .cpr _ _ _ p => p
  | _ => ⟨0, 0, 0, 0⟩
/-- numbers and places that a form holds besides -/
noncomputable def numX : XE → Nat × Pos × Option Expr × Option Expr
  | .tup _ k _ => (k, ⟨0, 0, 0, 0⟩, none, none)
  | .slc _ lo hi sp _ => (0, sp, lo, hi)
  | _ => (0, ⟨0, 0, 0, 0⟩, none, none)
noncomputable def compX : XE → Option (Expr × List Comprehension × Scope)
  | .cpr e gs s _ => some (e, gs, s)
  | _ => none
noncomputable def kids (e : Expr) : List Expr := match viewE e with
  | some x => kidsX x
  | none => []
noncomputable def kid (e : Expr) (i : Nat) : Expr := (kids e).getD i e
noncomputable def posE (e : Expr) : Pos := match viewE e with
  | some x => posX x
  | none => ⟨0, 0, 0, 0⟩
noncomputable def numE (e : Expr) : Nat × Pos × Option Expr × Option Expr := match viewE e with
  | some x => numX x
  | none => (0, ⟨0, 0, 0, 0⟩, none, none)
noncomputable def compE (e : Expr) : Expr × List Comprehension × Scope := ((viewE e).bind compX).getD (e, [], ⟨.function, [], false, false, []⟩)
noncomputable def cElt (e : Expr) : Expr := (compE e).1
noncomputable def cGens (e : Expr) : List Comprehension := (compE e).2.1
noncomputable def cScope (e : Expr) : Scope := (compE e).2.2
noncomputable def cG (e : Expr) (i : Nat) : Comprehension := (cGens e).getD i ⟨e, e, [], 1⟩
noncomputable abbrev noE : Expr := .Name (mkS []) ⟨0, 0, 0, 0⟩
/-- value, target, bodies, place -/
noncomputable def partX : XS → Expr × Expr × List Stmt × List Stmt × Pos
  | .asgC x px elt gens scope p2 p => (.ListComp elt gens scope p2, .Name x px, [], [], p)
  | .asgN x px v p => (v, .Name x px, [], [], p)
  | .asgA o name ap v p => (v, .Attribute o name ap, [], [], p)
  | .asgI o i ip v p => (v, .Subscript o i ip, [], [], p)
  | .asgT x p y q k1 p1 a b k2 p2 pos => (.Tuple [a, b] k2 p2, .Tuple [.Name x p, .Name y q] k1 p1, [], [], pos)
  | .augN x px _ v p => (v, .Name x px, [], [], p)
  | .augA o name ap v p => (v, .Attribute o name ap, [], [], p)
  | .ifs t a b p => (t, noE, a, b, p)
  | .fors t e b p => (e, t, b, [], p)
  | .ret e p => (e, noE, [], [], p)
  | .asr t _ p => (t, noE, [], [], p)
  | .exp e p => (e, noE, [], [], p)
  | .dfn _ _ b _ _ p => (noE, noE, b, [], p)
  | .brk p => (noE, noE, [], [], p)
  | .cnt p => (noE, noE, [], [], p)
noncomputable def part (s : Stmt) : Expr × Expr × List Stmt × List Stmt × Pos := match viewS s with
  | some x => partX x
  | none => (noE, noE, [], [], ⟨0, 0, 0, 0⟩)
noncomputable def sv (s : Stmt) : Expr := (part s).1
noncomputable def tg (s : Stmt) : Expr := (part s).2.1
noncomputable def sb (s : Stmt) : List Stmt := (part s).2.2.1
noncomputable def se (s : Stmt) : List Stmt := (part s).2.2.2.1
noncomputable def posS (s : Stmt) : Pos := (part s).2.2.2.2
noncomputable def posN (e : Expr) : Pos := ((nmOf e).map (·.2)).getD ⟨0, 0, 0, 0⟩
noncomputable def posA (e : Expr) : Pos := ((atOfE e).map (·.2.2)).getD ⟨0, 0, 0, 0⟩
theorem bindI {α β : Type} {x : Option α} {f : α → Option β} {a : α} {R : Option β} (h : x = some a) (h2 : f a = R) : x.bind f = R := by subst h; exact h2
theorem mapI {α β : Type} {x : Option α} {f : α → β} {a : α} (h : x = some a) : x.map f = some (f a) := by subst h; rfl
theorem ifI {α : Type} {c : Bool} {x y R : α} (h : c = true) (h2 : x = R) : (if c = true then x else y) = R := by subst h; exact h2
noncomputable def at_ (l : List Stmt) (i : Nat) : Stmt := l.getD i (.Break ⟨0, 0, 0, 0⟩)
noncomputable def fB (a : Addr) : List Stmt := match fnTab a with
  | some f => f.body
  | none => []

section
variable {r : Ev} {fm fm1 fm2 : Fm} {st st1 st2 st3 : St} {e : Expr} {s : Stmt}

noncomputable abbrev IsBin (e : Expr) (op : Operator) : Prop := viewE e = some (.bin (kid e 0) op (kid e 1) (posE e))
theorem E_bin (op : Operator) {x y z : PyData} (hs : IsBin e op) (ha : r.E fm st (kid e 0) = some (.d x, st1)) (hb : r.E fm st1 (kid e 1) = some (.d y, st2)) (hz : binop op x y = some z) : (step r).E fm st e = some (.d z, st2) :=
  bindI (f := stepX r fm st) hs (bindI ha (bindI hb (mapI (f := fun z => (PV.d z, st2)) hz)))

noncomputable abbrev IsIdx (e : Expr) : Prop := (viewE e, notSlice (kid e 1)) = (some (.sub (kid e 0) (kid e 1) (posE e)), true)
theorem E_idx {ov : PV} {k : Int} {x y : PyData} (hs : IsIdx e) (ho : r.E fm st (kid e 0) = some (ov, st1)) (hi : r.E fm st1 (kid e 1) = some (.d (.int k), st2)) (hx : asD st2 ov = some x) (hy : idx x k = some y) : (step r).E fm st e = some (.d y, st2) :=
  bindI (f := stepX r fm st) (congrArg Prod.fst hs) (ifI (congrArg Prod.snd hs) (bindI ho (bindI hi (bindI (a := k) rfl (bindI hx (mapI (f := fun z => (PV.d z, st2)) hy))))))

/-- lo, hi: is there one -/
noncomputable abbrev IsSlc (a b : Bool) (e : Expr) : Prop := viewE e = some (.slc (kid e 0) (bif a then some (kid e 1) else none) (bif b then some (kid e 2) else none) (numE e).2.1 (posE e))
theorem optI_some {t : Expr} {i : Int} (h : r.E fm st t = some (.d (.int i), st1)) : optI r fm st (some t) = some (some i, st1) := bindI h rfl
theorem E_slc2 {x y : PyData} {i j : Int} (hs : IsSlc true true e) (ho : r.E fm st (kid e 0) = some (.d x, st1)) (hi : r.E fm st1 (kid e 1) = some (.d (.int i), st2)) (hj : r.E fm st2 (kid e 2) = some (.d (.int j), st3)) (hy : slc x (some i) (some j) = some y) : (step r).E fm st e = some (.d y, st3) :=
  bindI (f := stepX r fm st) hs (bindI ho (bindI (optI_some hi) (bindI (optI_some hj) (mapI (f := fun z => (PV.d z, st3)) hy))))
theorem E_slcL {x y : PyData} {i : Int} (hs : IsSlc true false e) (ho : r.E fm st (kid e 0) = some (.d x, st1)) (hi : r.E fm st1 (kid e 1) = some (.d (.int i), st2)) (hy : slc x (some i) none = some y) : (step r).E fm st e = some (.d y, st2) :=
  bindI (f := stepX r fm st) hs (bindI ho (bindI (optI_some hi) (bindI (a := (none, st2)) rfl (mapI (f := fun z => (PV.d z, st2)) hy))))
theorem E_slcR {x y : PyData} {j : Int} (hs : IsSlc false true e) (ho : r.E fm st (kid e 0) = some (.d x, st1)) (hj : r.E fm st1 (kid e 2) = some (.d (.int j), st2)) (hy : slc x none (some j) = some y) : (step r).E fm st e = some (.d y, st2) :=
  bindI (f := stepX r fm st) hs (bindI ho (bindI (a := (none, st1)) rfl (bindI (optI_some hj) (mapI (f := fun z => (PV.d z, st2)) hy))))

noncomputable abbrev IsIfE (e : Expr) : Prop := viewE e = some (.ife (kid e 0) (kid e 1) (kid e 2) (posE e))
theorem E_if {c : Bool} (hs : IsIfE e) (hc : r.T fm st (kid e 0) = some (c, st1)) : (step r).E fm st e = if c then r.E fm st1 (kid e 1) else r.E fm st1 (kid e 2) :=
  bindI (f := stepX r fm st) hs (bindI hc rfl)
theorem viewT_if {t a b : Expr} {p : Pos} (hs : viewE e = some (.ife t a b p)) : viewT e = some (.ife t a b p) := by
  have h : truthE e = false := by rw [viewE_of hs]; rfl
  unfold viewT
  rw [h, hs]
  rfl
theorem T_if {c : Bool} (hs : IsIfE e) (hc : r.T fm st (kid e 0) = some (c, st1)) : (step r).T fm st e = if c then r.T fm st1 (kid e 1) else r.T fm st1 (kid e 2) :=
  bindI (f := stepY r fm st) (viewT_if hs) (bindI hc rfl)

noncomputable abbrev IsCmp (e : Expr) (op : CmpOp) : Prop := (viewE e, plainE (kid e 1)) = (some (.cmp (kid e 0) op (kid e 1) (posE e)), true)
theorem E_cmp (op : CmpOp) {x y : PV} {c : Bool} (hs : IsCmp e op) (ha : r.E fm st (kid e 0) = some (x, st1)) (hb : r.E fm st1 (kid e 1) = some (y, st2)) (hc : cmpV op x y st2 = some c) : (step r).E fm st e = some (.d (.bool c), st2) :=
  bindI (f := stepX r fm st) (congrArg Prod.fst hs) (ifI (congrArg Prod.snd hs) (bindI ha (bindI hb (mapI (f := fun c => (PV.d (.bool c), st2)) hc))))
theorem viewT_cmp {a b : Expr} {op : CmpOp} {p : Pos} (hs : viewE e = some (.cmp a op b p)) : viewT e = some (.cmp a op b p) := by
  have h : truthE e = false := by rw [viewE_of hs]; rfl
  unfold viewT
  rw [h, hs]
  rfl
theorem T_cmp (op : CmpOp) {x y : PV} {c : Bool} (hs : IsCmp e op) (ha : r.E fm st (kid e 0) = some (x, st1)) (hb : r.E fm st1 (kid e 1) = some (y, st2)) (hc : cmpV op x y st2 = some c) : (step r).T fm st e = some (c, st2) :=
  bindI (f := stepY r fm st) (viewT_cmp (congrArg Prod.fst hs)) (ifI (congrArg Prod.snd hs) (bindI ha (bindI hb (mapI (f := fun c => (c, st2)) hc))))
theorem T_val {v : PV} {x : PyData} {b : Bool} (hs : truthE e = true) (h : r.E fm st e = some (v, st1)) (hx : asD st1 v = some x) (ht : truthyD x = some b) : (step r).T fm st e = some (b, st1) := by
  have key : viewT e = some (.val e) := by unfold viewT; rw [hs]; rfl
  exact bindI (f := stepY r fm st) key (bindI h (bindI hx (mapI (f := fun b => (b, st1)) ht)))
noncomputable abbrev IsOr (e : Expr) : Prop := viewE e = some (.ors (kids e) (posE e))
theorem T_or (hs : IsOr e) : (step r).T fm st e = evOr r fm st (kids e) := by
  have h : truthE e = false := by rw [viewE_of hs]; rfl
  have key : viewT e = some (.ors (kids e) (posE e)) := by unfold viewT; rw [h, hs]; rfl
  exact bindI (f := stepY r fm st) key rfl
theorem evOr_t {es : List Expr} {t : Expr} (h : r.T fm st t = some (true, st1)) : evOr r fm st (t :: es) = some (true, st1) := bindI h rfl
theorem evOr_f {es : List Expr} {t : Expr} (h : r.T fm st t = some (false, st1)) : evOr r fm st (t :: es) = evOr r fm st1 es := bindI h rfl

noncomputable abbrev IsAt (e : Expr) (name : Str) : Prop := (viewE e, noCall0 (kid e 0)) = (some (.att (kid e 0) name (posE e)), true)
theorem E_attr (name : Str) {ov v : PV} {b : Bool} (hs : IsAt e name) (ho : r.E fm st (kid e 0) = some (ov, st1)) (hg : getA ov name st1 = some (v, b)) : (step r).E fm st e = some (v, st1) :=
  bindI (f := stepX r fm st) (congrArg Prod.fst hs) (ifI (congrArg Prod.snd hs) (bindI ho (mapI (f := fun v => (v.1, st1)) hg)))

noncomputable abbrev IsMc (e : Expr) (name : Str) : Prop := (viewE e, noCall0 (kid (kid e 0) 0) && (posA (kid e 0)).endLine == (posE e).line && decide ((kids e).tail.length ≤ 5)) = (some (.mca (kid (kid e 0) 0) name (posA (kid e 0)) (kids e).tail (posE e)), true)
theorem E_meth (name : Str) {ov : PV} {cal : Cal} {vs : List PV} {R : Option (PV × St)} (hs : IsMc e name) (ho : r.E fm st (kid (kid e 0) 0) = some (ov, st1)) (hm : methOf ov name st1 = some cal) (hk : okM cal = true) (ha : evL r fm st1 (kids e).tail = some (vs, st2))
    (hr : calR r cal vs st2 = R) : (step r).E fm st e = R :=
  bindI (f := stepX r fm st) (congrArg Prod.fst hs) (ifI (congrArg Prod.snd hs) (bindI ho (bindI hm (ifI hk (bindI ha hr)))))
noncomputable abbrev IsCa (e : Expr) : Prop := (viewE e, !isAttr (kid e 0) && decide ((kids e).tail.length ≤ 5)) = (some (.cal (kid e 0) (kids e).tail (posE e)), true)
theorem E_call {fv : PV} {vs : List PV} {R : Option (PV × St)} (hs : IsCa e) (hf : r.E fm st (kid e 0) = some (fv, st1)) (hk : okCal fv = true) (ha : evL r fm st1 (kids e).tail = some (vs, st2)) (hr : r.C fv vs st2 = R) : (step r).E fm st e = R :=
  bindI (f := stepX r fm st) (congrArg Prod.fst hs) (ifI (congrArg Prod.snd hs) (bindI hf (ifI hk (bindI ha hr))))
theorem evL_one {t : Expr} {v : PV} (hp : plainE t = true) (h : r.E fm st t = some (v, st1)) : evL r fm st [t] = some ([v], st1) := ifI hp (bindI h rfl)
theorem evL_cons {t : Expr} {es : List Expr} {v : PV} {vs : List PV} (hp : plainE t = true) (h : r.E fm st t = some (v, st1)) (h2 : evL r fm st1 es = some (vs, st2)) : evL r fm st (t :: es) = some (v :: vs, st2) := ifI hp (bindI h (bindI h2 rfl))
noncomputable abbrev IsTup (e : Expr) : Prop := viewE e = some (.tup (kids e) (numE e).1 (posE e))
theorem E_tup {vs : List PV} {xs : List PyData} (hs : IsTup e) (h : evL r fm st (kids e) = some (vs, st1)) (hd : datas vs = some xs) (hl : xs.length ≤ lim) : (step r).E fm st e = some (.d (.tuple xs), st1) :=
  bindI (f := stepX r fm st) hs (bindI h (bindI hd (chk_of hl)))
noncomputable abbrev IsLst (e : Expr) : Prop := viewE e = some (.lst (kids e) (posE e))
theorem E_lst {vs : List PV} {xs : List PyData} (hs : IsLst e) (h : evL r fm st (kids e) = some (vs, st1)) (hd : datas vs = some xs) (hl : xs.length ≤ lim) : (step r).E fm st e = some (.d (.list xs), st1) :=
  bindI (f := stepX r fm st) hs (bindI h (bindI hd (chk_of hl)))

/-! Comprehensions -/
noncomputable def cFm (fm : Fm) (e : Expr) : Fm := ⟨(cScope e).names, [], capture fm (cScope e).names, false, 0⟩
/-- a comprehension, its first clause apart -/
noncomputable abbrev COk (fm : Fm) (e : Expr) : Prop := (viewE e, cGens e, decide ((cG e 0).is_async = 0) && plainE (cG e 0).iter && okComp (cScope e) && ((cScope e).names.all fun x => x.2 != .free || (fm.cel.lookup x.1).isSome)) = (some (.cpr (cElt e) (cGens e) (cScope e) (posE e)), cG e 0 :: (cGens e).tail, true)
theorem comp_of {x : PV} {it : It} {fm' : Fm} {xs : List PyData} (hs : COk fm e) (hi : r.E fm st (cG e 0).iter = some (x, st1)) (hit : iterOf x st1 = some it)
    (h : over (compTurn1 r (cG e 0).target (cG e 0).ifs (fun c => compBody r (cElt e) (cGens e).tail c)) it (cFm fm e, st1, []) = some (fm', st2, xs)) : comp r fm st (cElt e) (cGens e) (cScope e) = some (.d (.list xs), st2) := by
  have e1 : cGens e = cG e 0 :: (cGens e).tail := congrArg (fun x => x.2.1) hs
  rw [e1]
  exact ifI (congrArg (fun x => x.2.2) hs) (bindI hi (bindI hit (bindI h rfl)))
theorem E_comp {v : PV × St} (hs : COk fm e) (h : comp r fm st (cElt e) (cGens e) (cScope e) = some v) : (step r).E fm st e = some v :=
  bindI (f := stepX r fm st) (congrArg Prod.fst hs) h

/-! Statements -/
theorem B_at {l : List Stmt} {R : Option (Fl × Fm × St)} (k : Nat) (hk : Nat.blt k l.length = true) (h : stepS r fm st (at_ l k) = some (.nx, fm1, st1)) (h2 : stepB r fm1 st1 (l.drop (k + 1)) = R) : stepB r fm st (l.drop k) = R := by
  have hk' : k < l.length := by simpa [Nat.blt_eq] using hk
  rw [List.drop_eq_getElem_cons hk']
  have : at_ l k = l[k] := by unfold at_; simp [List.getD_eq_getElem?_getD, hk']
  rw [← this]
  unfold stepB
  simp only [h, Option.bind_some]
  exact h2
theorem B_end {l : List Stmt} {fl : Fl} (k : Nat) (hk : Nat.blt k l.length = true) (h : stepS r fm st (at_ l k) = some (fl, fm1, st1)) (hf : (match fl with | .nx => False | _ => True)) : stepB r fm st (l.drop k) = some (fl, fm1, st1) := by
  have hk' : k < l.length := by simpa [Nat.blt_eq] using hk
  rw [List.drop_eq_getElem_cons hk']
  have : at_ l k = l[k] := by unfold at_; simp [List.getD_eq_getElem?_getD, hk']
  rw [← this]
  unfold stepB
  simp only [h, Option.bind_some]
  cases fl <;> first | exact hf.elim | rfl
theorem B_nil {l : List Stmt} (k : Nat) (hk : Nat.ble l.length k = true) : stepB r fm st (l.drop k) = some (.nx, fm, st) := by
  rw [List.drop_eq_nil_of_le (by simpa [Nat.ble_eq] using hk)]; rfl
theorem B_cut {l : List Stmt} {R : Option (Fl × Fm × St)} (j : Nat) {k : Nat} (h : stepB r fm st ((l.drop k).take j) = some (.nx, fm1, st1)) (h2 : stepB r fm1 st1 (l.drop (k + j)) = R) : stepB r fm st (l.drop k) = R := by
  have app : ∀ (a b : List Stmt) (fm : Fm) (st : St), stepB r fm st a = some (.nx, fm1, st1) → stepB r fm st (a ++ b) = stepB r fm1 st1 b := by
    intro a
    induction a with
    | nil => intro b fm st h; cases h; rfl
    | cons s t ih =>
      intro b fm st h
      unfold stepB at h
      rw [Option.bind_eq_some_iff] at h
      obtain ⟨⟨fl, fm2, st2⟩, e1, e2⟩ := h
      show stepB r fm st (s :: (t ++ b)) = _
      rw [stepB, e1]
      cases fl with
      | nx => exact ih b fm2 st2 e2
      | _ => cases e2
  have := app _ ((l.drop k).drop j) fm st h
  rw [List.take_append_drop, List.drop_drop] at this
  rw [this]; exact h2
theorem B_start {l : List Stmt} {R : Option (Fl × Fm × St)} (h : stepB r fm st (l.drop 0) = R) : (step r).B fm st l = R := h

noncomputable def notList (e : Expr) : Bool := (lsOf e).isNone
theorem newList_of {e : Expr} (h : notList e = true) : newList r fm st e = r.E fm st e := by
  unfold newList
  rw [non_of h]
noncomputable abbrev IsAsg (s : Stmt) (x : Str) : Prop := (viewS s, noComp (sv s), notList (sv s)) = (some (.asgN x (posN (tg s)) (sv s) (posS s)), true, true)
theorem S_asg (x : Str) {v : PV} (hs : IsAsg s x) (h : r.E fm st (sv s) = some (v, st1)) (hp : fm.put x v = some fm1) : stepS r fm st s = some (.nx, fm1, st1) :=
  bindI (f := stepZ r fm st) (congrArg Prod.fst hs) (ifI (congrArg (fun x => x.2.1) hs) (bindI ((newList_of (congrArg (fun x => x.2.2) hs)).trans h) (mapI (f := fun fm => (Fl.nx, fm, st1)) hp)))
noncomputable abbrev IsAsgC (s : Stmt) (x : Str) : Prop := viewS s = some (.asgC x (posN (tg s)) (cElt (sv s)) (cGens (sv s)) (cScope (sv s)) (posE (sv s)) (posS s))
theorem S_asgC (x : Str) {v : PV} (hs : IsAsgC s x) (h : comp r fm st (cElt (sv s)) (cGens (sv s)) (cScope (sv s)) = some (v, st1)) (hp : fm.put x v = some fm1) : stepS r fm st s = some (.nx, fm1, st1) :=
  bindI (f := stepZ r fm st) hs (bindI h (mapI (f := fun fm => (Fl.nx, fm, st1)) hp))
noncomputable abbrev IsIf (s : Stmt) : Prop := viewS s = some (.ifs (sv s) (sb s) (se s) (posS s))
theorem S_if {c : Bool} (hs : IsIf s) (h : r.T fm st (sv s) = some (c, st1)) : stepS r fm st s = if c then r.B fm st1 (sb s) else r.B fm st1 (se s) :=
  bindI (f := stepZ r fm st) hs (bindI h rfl)
theorem S_ift {c : Bool} (hs : IsIf s) (h : r.T fm st (sv s) = some (c, st1)) (hc : c = true) : stepS r fm st s = r.B fm st1 (sb s) := by
  subst hc; exact bindI (f := stepZ r fm st) hs (bindI h rfl)
theorem S_iff {c : Bool} (hs : IsIf s) (h : r.T fm st (sv s) = some (c, st1)) (hc : c = false) : stepS r fm st s = r.B fm st1 (se s) := by
  subst hc; exact bindI (f := stepZ r fm st) hs (bindI h rfl)
noncomputable abbrev IsFor (s : Stmt) : Prop := (viewS s, plainE (sv s)) = (some (.fors (tg s) (sv s) (sb s) (posS s)), true)
theorem S_for {x : PV} {it : It} (hs : IsFor s) (h : r.E fm st (sv s) = some (x, st1)) (hi : iterOf x st1 = some it) : stepS r fm st s = forLoop r (tg s) (sb s) it fm st1 :=
  bindI (f := stepZ r fm st) (congrArg Prod.fst hs) (ifI (congrArg Prod.snd hs) (bindI h (bindI hi rfl)))
noncomputable abbrev IsRet (s : Stmt) : Prop := viewS s = some (.ret (sv s) (posS s))
theorem S_ret {v : PV} (hs : IsRet s) (h : r.E fm st (sv s) = some (v, st1)) : stepS r fm st s = some (.rt v, fm, st1) :=
  bindI (f := stepZ r fm st) hs (mapI (f := fun (v : PV × St) => (Fl.rt v.1, fm, v.2)) h)
noncomputable abbrev IsExp (s : Stmt) : Prop := (viewS s, isCall (sv s)) = (some (.exp (sv s) (posS s)), true)
theorem S_exp (hs : IsExp s) (h : r.E fm st (sv s) = some (.d .none, st1)) : stepS r fm st s = some (.nx, fm, st1) :=
  bindI (f := stepZ r fm st) (congrArg Prod.fst hs) (ifI (congrArg Prod.snd hs) (bindI h rfl))
/-- text grows: x += e -/
noncomputable abbrev IsAug (s : Stmt) (x : Str) : Prop := viewS s = some (.augN x (posN (tg s)) true (sv s) (posS s))
theorem S_augS (x : Str) {a b : List Nat} (hs : IsAug s x) (hx : fm.get x = some (.d (nS a))) (h : r.E fm st (sv s) = some (.d (nS b), st1)) (hl : a.length + b.length ≤ lim) (hp : fm.put x (.d (nS (a ++ b))) = some fm1) : stepS r fm st s = some (.nx, fm1, st1) :=
  bindI (f := stepZ r fm st) hs (bindI hx (bindI h (bindI (a := nS (a ++ b)) (chk_of hl) (mapI (f := fun fm => (Fl.nx, fm, st1)) hp))))
theorem S_augI (x : Str) {a b : Int} (hs : IsAug s x) (hx : fm.get x = some (.d (nI a))) (h : r.E fm st (sv s) = some (.d (nI b), st1)) (hp : fm.put x (.d (nI (a + b))) = some fm1) : stepS r fm st s = some (.nx, fm1, st1) :=
  bindI (f := stepZ r fm st) hs (bindI hx (bindI h (mapI (f := fun fm => (Fl.nx, fm, st1)) hp)))
/-- a call of a plain function -/
noncomputable def bindsOf (a : Addr) (args : List PV) : Option Fm := if (clsInit a).isNone = true then (fnTab a).bind fun f => if f.params.length = args.length then binds f args [] else none else none
noncomputable def outF (st : St) : Fl → Option (PV × St)
  | .rt v => some (v, st)
  | .nx => some (.d .none, st)
  | _ => none
theorem C_fnX {a : Addr} {args : List PV} {fl : Fl} {fm' : Fm} {R : Option (PV × St)} (hb : bindsOf a args = some fm) (h : r.B fm st (fB a) = some (fl, fm', st1)) (hR : outF st1 fl = R) : (step r).C (.fn a) args st = R := by
  obtain ⟨hc, hb⟩ := ifs_of hb
  obtain ⟨f, hf, hb⟩ := bnd hb
  obtain ⟨hl, hb⟩ := ifp_of hb
  have e : fB a = f.body := by unfold fB; rw [hf]
  rw [e] at h
  show (match clsInit a with | some i => newC r a i args st | none => fnC r a args st) = _
  rw [non_of hc]
  exact bindI hf ((if_pos hl).trans (bindI hb (bindI h (by cases fl <;> exact hR))))
theorem C_fn {a : Addr} {args : List PV} {v : PV} (hb : bindsOf a args = some fm) (h : ∃ fm', r.B fm st (fB a) = some (.rt v, fm', st1)) : (step r).C (.fn a) args st = some (v, st1) :=
  h.elim fun _ h => C_fnX hb h rfl
theorem C_fn0 {a : Addr} {args : List PV} (hb : bindsOf a args = some fm) (h : ∃ fm', r.B fm st (fB a) = some (.nx, fm', st1)) : (step r).C (.fn a) args st = some (.d .none, st1) :=
  h.elim fun _ h => C_fnX hb h rfl
theorem C_meth {a : Addr} {q : Nat} {args : List PV} {R : Option (PV × St)} (hc : (clsInit a).isNone = true) (h : (step r).C (.fn a) (.obj q :: args) st = R) : (step r).C (.meth a q) args st = R := by
  rw [← h]
  show _ = (match clsInit a with | some i => newC r a i (.obj q :: args) st | none => fnC r a (.obj q :: args) st)
  rw [non_of hc]
  rfl

/-! Turns of a comprehension, of one clause -/
theorem turn_of {tgt : Expr} {ifs : List Expr} {elt : Expr} {v : PV} {x : PyData} {xs : List PyData} (hp : putT fm tgt v = some fm1) (hi : evIfs r fm1 st ifs = some (true, st1)) (h : r.E fm1 st1 elt = some (.d x, st2)) (hl : xs.length ≤ lim) :
    compTurn1 r tgt ifs (fun c => compBody r elt [] c) v (fm, st, xs) = some (fm1, st2, xs ++ [x]) := by
  unfold compTurn1 compBody
  simp only [hp, hi, h, Option.bind_some, if_true, chk_of hl]
theorem turn_no {tgt : Expr} {ifs : List Expr} {k : CSt → Option CSt} {v : PV} {xs : List PyData} (hp : putT fm tgt v = some fm1) (hi : evIfs r fm1 st ifs = some (false, st1)) :
    compTurn1 r tgt ifs k v (fm, st, xs) = some (fm1, st1, xs) := by
  unfold compTurn1
  simp only [hp, hi, Option.bind_some]
  rfl
theorem ifs_one {t : Expr} {c : Bool} (h : r.T fm st t = some (c, st1)) : evIfs r fm st [t] = some (c, st1) := by
  unfold evIfs
  cases c <;> simp [h, evIfs]
theorem over_map {f : PV → CSt → Option CSt} (fmOf : Option PV → Fm) (p : PV → List PyData) (st : St) : ∀ (vs : List PV) (o : Option PV) (xs : List PyData),
    (∀ v ∈ vs, ∀ o xs, xs.length ≤ lim → f v (fmOf o, st, xs) = some (fmOf (some v), st, xs ++ p v)) → (xs ++ vs.flatMap p).length ≤ lim → ∃ o', overItems f vs (fmOf o, st, xs) = some (fmOf o', st, xs ++ vs.flatMap p)
  | [], o, xs, _, _ => ⟨o, by simp [overItems]⟩
  | v :: vs, o, xs, h, hl => by
    have h1 := h v List.mem_cons_self o xs (by simp only [List.length_append] at hl; omega)
    obtain ⟨o', h2⟩ := over_map fmOf p st vs (some v) (xs ++ p v) (fun u hu => h u (List.mem_cons_of_mem _ hu)) (by simpa using hl)
    refine ⟨o', ?_⟩
    unfold overItems
    rw [h1]
    simp only [Option.bind_some, h2, List.flatMap_cons, List.append_assoc]
end
end Mine
end
section
set_option maxRecDepth 100000
namespace Mine
open PySem

/-! The lexer: one sign read. -/
noncomputable abbrev nm (s : String) : Str := Str.ofString s

section
variable {r : Ev} {fm fm1 fm2 : Fm} {st st1 st2 st3 st4 : St} {e : Expr} {s : Stmt}

noncomputable abbrev IsSetI (s : Stmt) : Prop := (viewS s, noComp (sv s) && notSlice (kid (tg s) 1)) = (some (.asgI (kid (tg s) 0) (kid (tg s) 1) (posE (tg s)) (sv s) (posS s)), true)
theorem S_setI {v ov iv : PV} (hs : IsSetI s) (h : r.E fm st (sv s) = some (v, st1)) (ho : r.E fm st1 (kid (tg s) 0) = some (ov, st2)) (hi : r.E fm st2 (kid (tg s) 1) = some (iv, st3)) (hx : setI ov iv v st3 = some st4) : stepS r fm st s = some (.nx, fm, st4) :=
  bindI (f := stepZ r fm st) (congrArg Prod.fst hs) (ifI (congrArg Prod.snd hs) (bindI h (bindI ho (bindI hi (mapI (f := fun st => (Fl.nx, fm, st)) hx)))))
noncomputable abbrev IsAugA (s : Stmt) (x : Str) : Prop := viewS s = some (.augA (kid (tg s) 0) x (posA (tg s)) (sv s) (posS s))
theorem S_augA (x : Str) {ov : PV} {w : Bool} {a b : Int} (hs : IsAugA s x) (ho : r.E fm st (kid (tg s) 0) = some (ov, st1)) (hg : getA ov x st1 = some (.d (nI a), w)) (h : r.E fm st1 (sv s) = some (.d (nI b), st2)) (hx : setA ov x (.d (nI (a + b))) st2 = some st3) : stepS r fm st s = some (.nx, fm, st3) :=
  bindI (f := stepZ r fm st) hs (bindI ho (bindI hg (bindI h (bindI (a := a) rfl (bindI (a := b) rfl (mapI (f := fun st => (Fl.nx, fm, st)) hx))))))
theorem C_clo {f : FnRec} {cap : List (Str × PV)} {args : List PV} {v : PV} (hl : f.params.length = args.length) (hb : binds f args cap = some fm) (h : ∃ fm', r.B fm st f.body = some (.rt v, fm', st1)) : (step r).C (.clo f cap) args st = some (v, st1) := by
  obtain ⟨fm', h⟩ := h
  show runFn r f cap args st = _
  unfold runFn
  rw [if_pos hl, hb]
  show (r.B fm st f.body).bind _ = _
  exact bindI h rfl
end

section
variable {st : St} {q c : Nat} {as : List (Str × PV)} {name : Str} {xs : List PyData}
theorem getA_inst {R : PV × Bool} (h : st[q]? = some (.inst c as)) (hx : (if instAttr c name then (as.lookup name).bind fun v => if notBi v then some (v, false) else none else if (as.lookup name).isNone then (clsMeth c name).map fun f => (PV.meth f q, true) else none) = some R) : getA (.obj q) name st = some R := by
  exact bindI (x := objV (.obj q)) rfl (bindI h hx)
theorem methOf_inst {R : Cal} (h : st[q]? = some (.inst c as)) (hx : (if (as.lookup name).isNone && !instAttr c name then (clsMeth c name).map fun f => Cal.pv (.fn f) [.obj q] else none) = some R) : methOf (.obj q) name st = some R := by
  exact bindI h hx
theorem methOf_fobj {R : Cal} (h : st[q]? = some (.fobj as)) (hx : (if name = Str.ofString "read" then (as.lookup name).bind fun v => if notBi v then some (Cal.pv v []) else none else none) = some R) : methOf (.obj q) name st = some R := by
  exact bindI h hx
theorem methOf_list {R : Cal} (h : st[q]? = some (.list xs)) (hx : (if (lstId name).isSome then some (Cal.lm name q) else none) = some R) : methOf (.obj q) name st = some R := by
  exact bindI h hx
theorem setA_inst {x : PV} {R : St} (h : st[q]? = some (.inst c as)) (hx : (if instAttr c name then chk as.length (st.set q (.inst c (upd as name x))) else none) = some R) : setA (.obj q) name x st = some R := by
  exact bindI (x := objV (.obj q)) rfl (bindI h hx)
theorem lstM_app {x : PyData} (h : st[q]? = some (.list xs)) (hl : xs.length ≤ lim) : lstM (nm "append") q [.d x] st = some (.d .none, st.set q (.list (xs ++ [x]))) :=
  bindI (bindI (f := moL) h rfl) (chk_of hl)
theorem lstM_pop {x : PyData} (h : st[q]? = some (.list (x :: xs))) (hl : (x :: xs).length ≤ lim) : lstM (nm "pop") q [.d (nI 0)] st = some (.d x, st.set q (.list xs)) :=
  bindI (bindI (f := moL) h rfl) (chk_of hl)
theorem asD_list (h : st[q]? = some (.list xs)) : asD st (.obj q) = some (.list xs) := by
  simp only [asD, h]
end

noncomputable def rdF : FnRec := match at_ (fB 98) 1 with
  | .FunctionDef _ args body _ _ _ scope _ _ _ => ⟨args.args.map (·.arg), body, scope, 0⟩
  | _ => ⟨[], [], ⟨.function, [], false, false, []⟩, 0⟩
noncomputable abbrev rdC (qp : Nat) (text : List Nat) : PV := .clo rdF [(nm "place", .obj qp), (nm "text", .d (nS text))]
noncomputable abbrev lxA (line : Int) (qf qb : Nat) : List (Str × PV) := [(nm "lineno", .d (nI line)), (nm "instream", .obj qf), (nm "whitespace", .d (nS [10, 9, 13, 32])), (nm "pushback", .obj qb)]

structure Lx (st : St) (qp qf ql qb : Nat) (text : List Nat) (p : Nat) (push : List PyData) : Prop where
  hp : st[qp]? = some (.list [nI p])
  hf : st[qf]? = some (.fobj [(nm "read", rdC qp text)])
  hl : st[ql]? = some (.inst 87 (lxA (1 + ((text.take p).count 10 : Nat)) qf qb))
  hb : st[qb]? = some (.list push)
  o1 : qp < qf
  o2 : qf < ql
  o3 : ql < qb

theorem get_set_eq {st : St} {q : Nat} {o o' : MO} (h : st[q]? = some o) : (st.set q o')[q]? = some o' := by
  have := (List.getElem?_eq_some_iff.mp h).1
  simp [this]
theorem get_set_ne {st : St} {q q' : Nat} {o' : MO} (h : q ≠ q') : (st.set q o')[q']? = st[q']? := by
  simp [List.getElem?_set, h]

theorem idx0 {xs : List PyData} (k : Nat) (y : PyData) (h : xs[k]? = some y) (hk : k ≤ 1000000) : idx (.list xs) (k : Int) = some y := by
  show (if 0 ≤ (k : Int) ∧ (k : Int) ≤ 1000000 then xs[(k : Int).toNat]? else _) = _
  rw [if_pos (by omega)]
  simpa using h

theorem slc_read {text : List Nat} {p : Nat} (hp : p < 5000) (ht : text.length < 4000) : slc (nS text) (some ((p : Int) + 1 - 1)) (some ((p : Int) + 1)) = some (nS ((text.drop p).take 1)) := by
  unfold slc
  have : (sl (mkS text)).length ≤ lim := by show text.length ≤ 100000; omega
  show (if (sl (mkS text)).length ≤ lim then _ else _) = _
  rw [if_pos this]
  unfold cut
  dsimp only
  rw [if_pos (by omega)]
  have e1 : ((p : Int) + 1 - 1).toNat = p := by omega
  have e2 : ((p : Int) + 1).toNat = p + 1 := by omega
  rw [e1, e2]
  show some (nS _) = some (nS _)
  have : (text.take (p + 1)).drop p = (text.drop p).take 1 := by rw [List.drop_take]; congr 1; omega
  exact congrArg (fun l => some (nS l)) this

noncomputable abbrev rdM (qp : Nat) (text : List Nat) : Fm := ⟨rdF.scope.names, [(nm "count", .d (nI 1))], [(nm "place", .obj qp), (nm "text", .d (nS text))], false, 0⟩
theorem read_ok (n : Nat) {st : St} {qp : Nat} {text : List Nat} {p : Nat} (h : st[qp]? = some (.list [nI p])) (hp : p < 5000) (ht : text.length < 4000) :
    (ev (n + 6)).C (rdC qp text) [.d (nI 1)] st = some (.d (nS ((text.drop p).take 1)), st.set qp (.list [nI (p + 1)])) := by
  have hx : st.set qp (.list [nI (p + 1)]) = st.set qp (.list [nI (p + 1)]) := rfl
  have h' := get_set_eq (o' := .list [nI (p + 1)]) h
  refine C_clo (fm := (rdM qp text)) (by kernel_rfl) (by kernel_rfl) ?_
  refine ⟨rdM qp text, B_start (B_at (fm1 := rdM qp text) (st1 := st.set qp (.list [nI (p + 1)])) 0 (by kernel_rfl) ?_ (B_end 1 (by kernel_rfl) ?_ trivial))⟩
  · refine S_setI (v := .d (nI (p + 1))) (ov := .obj qp) (iv := .d (nI 0)) (st1 := st) (st2 := st) (st3 := st) (by kernel_rfl) ?_ (by kernel_rfl) (by kernel_rfl) ?_
    · exact E_bin .Add (x := nI p) (y := nI 1) (st1 := st) (by kernel_rfl) (E_idx (ov := .obj qp) (k := 0) (x := .list [nI p]) (st1 := st) (by kernel_rfl) (by kernel_rfl) (by kernel_rfl) (asD_list h) rfl) (by kernel_rfl) rfl
    · exact bindI (x := objV (.obj qp)) rfl (bindI (x := intV (.d (nI 0))) rfl (bindI (x := datV _) rfl (bindI (bindI (f := moL) h rfl) rfl)))
  · generalize st.set qp (.list [nI (p + 1)]) = st' at h'
    have hi : ∀ m e, IsIdx e → (ev (m + 1)).E (rdM qp text) st' (kid e 0) = some (.obj qp, st') → (ev (m + 1)).E (rdM qp text) st' (kid e 1) = some (.d (nI 0), st') →
        (ev (m + 2)).E (rdM qp text) st' e = some (.d (nI (p + 1)), st') := fun m e h1 h2 h3 =>
      E_idx (ov := .obj qp) (k := 0) (x := .list [nI (p + 1)]) (st1 := st') h1 h2 h3 (asD_list h') rfl
    refine S_ret (by kernel_rfl) (E_slc2 (x := nS text) (i := p + 1 - 1) (j := p + 1) (st1 := st') (st2 := st') (by kernel_rfl) (by kernel_rfl) ?_ ?_ (slc_read hp ht))
    · exact E_bin .Sub (x := nI (p + 1)) (y := nI 1) (st1 := st') (by kernel_rfl) (hi _ _ (by kernel_rfl) (by kernel_rfl) (by kernel_rfl)) (by kernel_rfl) rfl
    · exact hi _ _ (by kernel_rfl) (by kernel_rfl) (by kernel_rfl)

noncomputable def fS (a : Addr) : List (Str × NameKind) := match fnTab a with
  | some f => f.scope.names
  | none => []
noncomputable abbrev rcM (ql : Nat) : Fm := ⟨fS 70, [(nm "self", .obj ql)], [], false, 0⟩
noncomputable abbrev rcM2 (ql : Nat) (l : List Nat) : Fm := ⟨fS 70, [(nm "self", .obj ql), (nm "ch", .d (nS l))], [], false, 0⟩

theorem Lx.next {st st' : St} {qp qf ql qb : Nat} {text : List Nat} {p : Nat} {push : List PyData} (L : Lx st qp qf ql qb text p push) (hp : st'[qp]? = some (.list [nI ((p : Int) + 1)])) (hl : st'[ql]? = some (.inst 87 (lxA (1 + ((text.take (p + 1)).count 10 : Nat)) qf qb)))
    (hk : ∀ q, q ≠ qp → q ≠ ql → st'[q]? = st[q]?) : Lx st' qp qf ql qb text (p + 1) push :=
  ⟨by rw [hp]; congr, (hk qf (by have := L.o1; omega) (by have := L.o2; omega)).trans L.hf, hl, (hk qb (by have := L.o1; have := L.o2; have := L.o3; omega) (by have := L.o3; omega)).trans L.hb, L.o1, L.o2, L.o3⟩

theorem rc_ok (n : Nat) {st : St} {qp qf ql qb : Nat} {text : List Nat} {p : Nat} {push : List PyData} (L : Lx st qp qf ql qb text p push) (hp : p < 5000) (ht : text.length < 4000) :
    ∃ st', (ev (n + 11)).C (.fn 70) [.obj ql] st = some (.d (nS ((text.drop p).take 1)), st') ∧ Lx st' qp qf ql qb text (p + 1) push ∧ st'.length = st.length ∧ ∀ q, q ≠ qp → q ≠ ql → st'[q]? = st[q]? := by
  have o1 := L.o1
  have o2 := L.o2
  have o3 := L.o3
  have rd := fun m => read_ok m L.hp hp ht
  have hl1 : (st.set qp (.list [nI ((p : Int) + 1)]))[ql]? = _ := (get_set_ne (o' := .list [nI ((p : Int) + 1)]) (by omega)).trans L.hl
  have hp1 := get_set_eq (o' := .list [nI ((p : Int) + 1)]) L.hp
  have hk1 : ∀ q, q ≠ qp → (st.set qp (.list [nI ((p : Int) + 1)]))[q]? = st[q]? := fun q h => get_set_ne (Ne.symm h)
  have hn1 : (st.set qp (.list [nI ((p : Int) + 1)])).length = st.length := List.length_set ..
  generalize st.set qp (.list [nI ((p : Int) + 1)]) = st1 at rd hl1 hp1 hk1 hn1
  generalize hlg : (text.drop p).take 1 = l at rd
  have h0 : stepS (ev (n + 9)) (rcM ql) st (at_ (fB 70) 0) = some (.nx, rcM2 ql l, st1) := by
    refine S_asg (nm "ch") (v := .d (nS l)) (by kernel_rfl) ?_ (by kernel_rfl)
    refine E_meth (nm "read") (ov := .obj qf) (cal := .pv (rdC qp text) []) (vs := [.d (nI 1)]) (st1 := st) (st2 := st) (by kernel_rfl) ?_ ?_ rfl (by kernel_rfl) (rd _)
    · refine E_attr (nm "instream") (ov := .obj ql) (b := false) (st1 := st) (by kernel_rfl) (by kernel_rfl) ?_
      exact getA_inst L.hl (by kernel_rfl)
    · exact methOf_fobj L.hf (by kernel_rfl)
  have hT : (ev (n + 9)).T (rcM2 ql l) st1 (sv (at_ (fB 70) 1)) = some (decide (l = [10]), st1) := T_cmp .Eq (x := .d (nS l)) (y := .d (nS [10])) (st1 := st1) (by kernel_rfl) (by kernel_rfl) (by kernel_rfl) rfl
  have hret : ∀ st2, stepB (ev (n + 9)) (rcM2 ql l) st2 ((fB 70).drop 2) = some (.rt (.d (nS l)), rcM2 ql l, st2) := fun st2 => B_end 2 (by kernel_rfl) (by kernel_rfl) trivial
  have count : ((text.take (p + 1)).count 10 : Nat) = (text.take p).count 10 + l.count 10 := by
    rw [← hlg, ← List.count_append, List.take_add]
  have fin : ∀ st2, stepS (ev (n + 9)) (rcM2 ql l) st1 (at_ (fB 70) 1) = some (.nx, rcM2 ql l, st2) → (ev (n + 11)).C (.fn 70) [.obj ql] st = some (.d (nS l), st2) := fun st2 h1 =>
    C_fn (fm := rcM ql) (by kernel_rfl) ⟨rcM2 ql l, B_start (B_at 0 (by kernel_rfl) h0 (B_at 1 (by kernel_rfl) h1 (hret st2)))⟩
  by_cases hc : l = [10]
  · refine ⟨st1.set ql (.inst 87 (lxA (1 + ((text.take p).count 10 : Nat) + 1) qf qb)), fin _ ?_, L.next ?_ ?_ ?_, ?_, ?_⟩
    · refine (S_ift (by kernel_rfl) hT (decide_eq_true hc)).trans ?_
      refine B_start (B_at (fm1 := rcM2 ql l) (st1 := st1.set ql (.inst 87 (lxA (1 + ((text.take p).count 10 : Nat) + 1) qf qb))) 0 (by kernel_rfl) ?_ (B_nil 1 (by kernel_rfl)))
      refine S_augA (nm "lineno") (ov := .obj ql) (w := false) (a := 1 + ((text.take p).count 10 : Nat)) (b := 1) (st1 := st1) (st2 := st1) (by kernel_rfl) (by kernel_rfl) ?_ (by kernel_rfl) ?_
      · exact getA_inst hl1 (by kernel_rfl)
      · exact setA_inst hl1 (by kernel_rfl)
    · rw [get_set_ne (by omega), hp1]
    · have e : (1 + ((text.take p).count 10 : Nat) + 1 : Int) = 1 + (((text.take p).count 10 + ([10] : List Nat).count 10 : Nat) : Int) := by
        have : ([10] : List Nat).count 10 = 1 := by decide
        rw [this]; omega
      rw [get_set_eq hl1, count, hc, e]
    · intro q h1 h2
      rw [get_set_ne (Ne.symm h2), hk1 q h1]
    · rw [List.length_set, hn1]
    · intro q h1 h2
      rw [get_set_ne (Ne.symm h2), hk1 q h1]
  · refine ⟨st1, fin _ ?_, L.next hp1 ?_ (fun q h1 h2 => hk1 q h1), hn1, fun q h1 h2 => hk1 q h1⟩
    · refine (S_iff (by kernel_rfl) hT (decide_eq_false hc)).trans ?_
      kernel_rfl
    · rw [hl1, count]
      have : l.count 10 = 0 := by
        rw [List.count_eq_zero]
        intro hm
        apply hc
        rw [← hlg] at hm ⊢
        cases hd : text.drop p with
        | nil => rw [hd] at hm; simp at hm
        | cons c t => rw [hd] at hm; simp at hm; simp [hm]
      rw [this]
      rfl
end Mine
end
section
set_option maxRecDepth 100000
namespace Mine
open PySem

/-! The lexer: a word read. -/
noncomputable def ws (c : Nat) : Bool := has [c] [10, 9, 13, 32]
noncomputable def lexQ : List Nat → Option (List Nat × List Nat)
  | [] => none
  | c :: t => if c = 34 then some ([], t) else if c = 92 then match t with
      | [] => none
      | d :: t' => (lexQ t').map fun x => (d :: x.1, x.2)
    else (lexQ t).map fun x => (c :: x.1, x.2)
noncomputable def lexB : List Nat → Option (List Nat × List Nat)
  | [] => none
  | c :: t => if ws c then some ([], t) else if c = 92 then match t with
      | [] => none
      | d :: t' => (lexB t').map fun x => (d :: x.1, x.2)
    else (lexB t).map fun x => (c :: x.1, x.2)
noncomputable def lexT : List Nat → Option (List Nat × List Nat)
  | [] => some ([], [])
  | c :: t => if ws c then lexT t else if c = 34 then lexQ t else if c = 92 then match t with
      | [] => none
      | d :: t' => (lexB t').map fun x => (d :: x.1, x.2)
    else (lexB t).map fun x => (c :: x.1, x.2)

noncomputable def Kp (qp ql : Nat) (st st' : St) : Prop := st'.length = st.length ∧ ∀ q, q ≠ qp → q ≠ ql → st'[q]? = st[q]?
theorem Kp.refl {qp ql : Nat} {st : St} : Kp qp ql st st := ⟨rfl, fun _ _ _ => rfl⟩
theorem Kp.trans {qp ql : Nat} {st st' st'' : St} (a : Kp qp ql st st') (b : Kp qp ql st' st'') : Kp qp ql st st'' := ⟨b.1.trans a.1, fun q h1 h2 => (b.2 q h1 h2).trans (a.2 q h1 h2)⟩

section
variable {r : Ev} {fm fm1 fm2 : Fm} {st st1 st2 st3 : St} {tgt : Expr} {body : List Stmt} {q k : Nat} {v : PV}

theorem forCall_next (hn : nextC r q st = some (some v, st1)) (hp : putT fm tgt v = some fm1) (hb : r.B fm1 st1 body = some (.nx, fm2, st2)) : forCall r tgt body q (k + 1) fm st = forCall r tgt body q k fm2 st2 := by
  rw [forCall, hn]
  show (putT fm tgt v).bind _ = _
  rw [hp]
  show (r.B fm1 st1 body).bind _ = _
  rw [hb]
  rfl
theorem forCall_cont (hn : nextC r q st = some (some v, st1)) (hp : putT fm tgt v = some fm1) (hb : r.B fm1 st1 body = some (.ct, fm2, st2)) : forCall r tgt body q (k + 1) fm st = forCall r tgt body q k fm2 st2 := by
  rw [forCall, hn]
  show (putT fm tgt v).bind _ = _
  rw [hp]
  show (r.B fm1 st1 body).bind _ = _
  rw [hb]
  rfl
theorem forCall_ret {u : PV} (hn : nextC r q st = some (some v, st1)) (hp : putT fm tgt v = some fm1) (hb : r.B fm1 st1 body = some (.rt u, fm2, st2)) : forCall r tgt body q (k + 1) fm st = some (.rt u, fm2, st2) := by
  rw [forCall, hn]
  show (putT fm tgt v).bind _ = _
  rw [hp]
  show (r.B fm1 st1 body).bind _ = _
  rw [hb]
  rfl
theorem forCall_done (hn : nextC r q st = some (none, st1)) : forCall r tgt body q (k + 1) fm st = some (.nx, fm, st1) := by
  rw [forCall, hn]
  rfl
end

theorem fn70 : (fnTab 70).isSome = true := by kernel_rfl
section
variable {st : St} {qp qf ql qb qi : Nat} {text : List Nat} {p : Nat} {push : List PyData}

theorem nextC_of {r : Ev} {q f o f' o' : Nat} {st st1 : St} {s : List Nat} {R : Option (Option PV × St)} (hc : st[q]? = some (.citer f o)) (hf : (fnTab f).isSome = true) (e : r.C (.meth f o) [] st = some (.d (nS s), st1)) (hc' : st1[q]? = some (.citer f' o')) (hf' : (fnTab f').isSome = true) (h : (if s = [] then some (none, st1.set q .done) else some (some (.d (nS s)), st1)) = R) : nextC r q st = R :=
  bindI hc (ifI hf (bindI e (bindI (a := mkS s) rfl (bindI (bindI (f := moC) hc' rfl) (ifI hf' h)))))
theorem nextC_some (n : Nat) (L : Lx st qp qf ql qb text p push) (hp : p < 5000) (ht : text.length < 4000) (hc : st[qi]? = some (.citer 70 ql)) (h1 : qi ≠ qp) (h2 : qi ≠ ql) {c : Nat} {t : List Nat} (hd : text.drop p = c :: t) :
    ∃ st', nextC (ev (n + 11)) qi st = some (some (.d (nS [c])), st') ∧ Lx st' qp qf ql qb text (p + 1) push ∧ Kp qp ql st st' := by
  obtain ⟨st', e, L', k1, k2⟩ := rc_ok n L hp ht
  rw [hd] at e
  refine ⟨st', ?_, L', k1, k2⟩
  have e' : (ev (n + 11)).C (.meth 70 ql) [] st = some (.d (nS [c]), st') := C_meth (by kernel_rfl) e
  exact nextC_of hc fn70 e' ((k2 qi h1 h2).trans hc) fn70 (if_neg (List.cons_ne_nil _ _))
theorem nextC_end (n : Nat) (L : Lx st qp qf ql qb text p push) (hp : p < 5000) (ht : text.length < 4000) (hc : st[qi]? = some (.citer 70 ql)) (h1 : qi ≠ qp) (h2 : qi ≠ ql) (hd : text.drop p = []) :
    ∃ st', nextC (ev (n + 11)) qi st = some (none, st'.set qi .done) ∧ Lx st' qp qf ql qb text (p + 1) push ∧ Kp qp ql st st' := by
  obtain ⟨st', e, L', k1, k2⟩ := rc_ok n L hp ht
  rw [hd] at e
  refine ⟨st', ?_, L', k1, k2⟩
  have e' : (ev (n + 11)).C (.meth 70 ql) [] st = some (.d (nS []), st') := C_meth (by kernel_rfl) e
  exact nextC_of hc fn70 e' ((k2 qi h1 h2).trans hc) fn70 (if_pos rfl)
end

noncomputable abbrev gtM0 (ql : Nat) (tok : List Nat) (qi : Nat) : Fm := ⟨fS 77, [(nm "self", .obj ql), (nm "token", .d (nS tok)), (nm "fiter", .obj qi)], [], false, 0⟩
noncomputable abbrev gtM (ql : Nat) (tok : List Nat) (qi : Nat) (ch : List Nat) : Fm := ⟨fS 77, [(nm "self", .obj ql), (nm "token", .d (nS tok)), (nm "fiter", .obj qi), (nm "ch", .d (nS ch))], [], false, 0⟩
/-- the bodies of the loops -/
noncomputable def outerB : List Stmt := sb (at_ (fB 77) 3)
noncomputable def quotS : Stmt := at_ (sb (at_ outerB 1)) 0
noncomputable def bareS : Stmt := at_ (se (at_ outerB 1)) 2

section
variable {st : St} {qp qf ql qb qi : Nat} {text : List Nat} {p : Nat} {push : List PyData}

theorem drop_next {p : Nat} {c : Nat} {t : List Nat} (h : text.drop p = c :: t) : text.drop (p + 1) = t := by
  rw [← List.drop_drop, h]; rfl
theorem drop_lt {p : Nat} {c : Nat} {t : List Nat} (h : text.drop p = c :: t) : p + 1 + t.length = text.length := by
  have := congrArg List.length h
  simp at this
  omega

/-- `ch = self._read_char()` -/
theorem readE (n : Nat) {e : Expr} (tok ch : List Nat) (hm : IsMc e (nm "_read_char")) (ho : (ev (n + 11)).E (gtM ql tok qi ch) st (kid (kid e 0) 0) = some (.obj ql, st)) (ha : evL (ev (n + 11)) (gtM ql tok qi ch) st (kids e).tail = some ([], st))
    (L : Lx st qp qf ql qb text p push) (hp : p < 5000) (ht : text.length < 4000) {c : Nat} {t : List Nat} (hd : text.drop p = c :: t) :
    ∃ st', (ev (n + 12)).E (gtM ql tok qi ch) st e = some (.d (nS [c]), st') ∧ Lx st' qp qf ql qb text (p + 1) push ∧ Kp qp ql st st' := by
  obtain ⟨st', e1, L', k1, k2⟩ := rc_ok n L hp ht
  rw [hd] at e1
  exact ⟨st', E_meth (nm "_read_char") (ov := .obj ql) (cal := .pv (.fn 70) [.obj ql]) (vs := []) (st1 := st) (st2 := st) hm ho (methOf_inst L.hl (by kernel_rfl)) (by kernel_rfl) ha e1, L', k1, k2⟩

theorem quot_turn (n : Nat) (tok : List Nat) (c : Nat) {st : St} (L : Lx st qp qf ql qb text p push) (hp : p < 5000) (ht : text.length < 4000) (hl : tok.length < 50000) :
    (c = 34 → (ev (n + 15)).B (gtM ql tok qi [c]) st (sb quotS) = some (.rt (.d (nS tok)), gtM ql tok qi [c], st)) ∧
    (c ≠ 34 → c ≠ 92 → (ev (n + 15)).B (gtM ql tok qi [c]) st (sb quotS) = some (.nx, gtM ql (tok ++ [c]) qi [c], st)) ∧
    (∀ d t, c = 92 → text.drop p = d :: t → ∃ st', (ev (n + 15)).B (gtM ql tok qi [c]) st (sb quotS) = some (.nx, gtM ql (tok ++ [d]) qi [d], st') ∧ Lx st' qp qf ql qb text (p + 1) push ∧ Kp qp ql st st') := by
  have hT : (ev (n + 14)).T (gtM ql tok qi [c]) st (sv (at_ (sb quotS) 0)) = some (decide ([c] = [34]), st) := T_cmp .Eq (x := .d (nS [c])) (y := .d (nS [34])) (st1 := st) (by kernel_rfl) (by kernel_rfl) (by kernel_rfl) rfl
  have hT2 : (ev (n + 13)).T (gtM ql tok qi [c]) st (sv (at_ (se (at_ (sb quotS) 0)) 0)) = some (decide ([c] = [92]), st) := T_cmp .Eq (x := .d (nS [c])) (y := .d (nS [92])) (st1 := st) (by kernel_rfl) (by kernel_rfl) (by kernel_rfl) rfl
  have hadd : ∀ d st', stepS (ev (n + 14)) (gtM ql tok qi [d]) st' (at_ (sb quotS) 1) = some (.nx, gtM ql (tok ++ [d]) qi [d], st') := fun d st' =>
    S_augS (nm "token") (a := tok) (b := [d]) (by kernel_rfl) (by kernel_rfl) (by kernel_rfl) (by simp [lim]; omega) (by kernel_rfl)
  refine ⟨fun h => ?_, fun h1 h2 => ?_, fun d t h hd => ?_⟩
  · refine B_start (B_end 0 (by kernel_rfl) ?_ trivial)
    refine (S_ift (by kernel_rfl) hT (decide_eq_true (by rw [h]))).trans ?_
    kernel_rfl
  · refine B_start (B_at (fm1 := gtM ql tok qi [c]) (st1 := st) 0 (by kernel_rfl) ?_ (B_at 1 (by kernel_rfl) (hadd c st) (B_nil 2 (by kernel_rfl))))
    refine (S_iff (by kernel_rfl) hT (decide_eq_false (by simpa using h1))).trans ?_
    refine B_start (B_at (fm1 := gtM ql tok qi [c]) (st1 := st) 0 (by kernel_rfl) ?_ (B_nil 1 (by kernel_rfl)))
    refine (S_iff (by kernel_rfl) hT2 (decide_eq_false (by simpa using h2))).trans ?_
    kernel_rfl
  · obtain ⟨st', e1, L', K'⟩ := readE (qi := qi) n (e := sv (at_ (sb (at_ (se (at_ (sb quotS) 0)) 0)) 0)) tok [c] (by kernel_rfl) (by kernel_rfl) (by kernel_rfl) L hp ht hd
    refine ⟨st', B_start (B_at (fm1 := gtM ql tok qi [d]) (st1 := st') 0 (by kernel_rfl) ?_ (B_at 1 (by kernel_rfl) (hadd d st') (B_nil 2 (by kernel_rfl)))), L', K'⟩
    refine (S_iff (by kernel_rfl) hT (decide_eq_false (by rw [h]; decide))).trans ?_
    refine B_start (B_at (fm1 := gtM ql tok qi [d]) (st1 := st') 0 (by kernel_rfl) ?_ (B_nil 1 (by kernel_rfl)))
    refine (S_ift (by kernel_rfl) hT2 (decide_eq_true (by rw [h]))).trans ?_
    exact B_start (B_at (fm1 := gtM ql tok qi [d]) (st1 := st') 0 (by kernel_rfl) (S_asg (nm "ch") (v := .d (nS [d])) (by kernel_rfl) e1 (by kernel_rfl)) (B_nil 1 (by kernel_rfl)))

theorem quot_loop (n : Nat) (hq : qi ≠ qp) (hql : qi ≠ ql) (ht : text.length < 4000) : ∀ (m : Nat) (R : List Nat), R.length ≤ m → ∀ (k : Nat) (tok ch : List Nat) (p : Nat) (st : St) (w R' : List Nat), R.length < k → lexQ R = some (w, R') → text.drop p = R → p ≤ text.length → tok.length + R.length < 50000 → Lx st qp qf ql qb text p push → st[qi]? = some (.citer 70 ql) →
    ∃ st' p' ch', forCall (ev (n + 15)) (tg quotS) (sb quotS) qi k (gtM ql tok qi ch) st = some (.rt (.d (nS (tok ++ w))), gtM ql (tok ++ w) qi ch', st') ∧ Lx st' qp qf ql qb text p' push ∧ text.drop p' = R' ∧ p' ≤ text.length ∧ Kp qp ql st st' := by
  intro m
  induction m with
  | zero =>
    intro R hR k tok ch p st w R' hk e
    have : R = [] := List.eq_nil_of_length_eq_zero (by omega)
    subst this
    cases e
  | succ m ih =>
    intro R hR k tok ch p st w R' hk e hd hp hl L hc
    obtain ⟨k, rfl⟩ : ∃ k', k = k' + 1 := ⟨k - 1, by omega⟩
    cases R with
    | nil => cases e
    | cons c t =>
      have hlt := drop_lt hd
      obtain ⟨st1, n1, L1, K1⟩ := nextC_some (n + 4) L (by omega) ht hc hq hql hd
      have hput : putT (gtM ql tok qi ch) (tg quotS) (.d (nS [c])) = some (gtM ql tok qi [c]) := by kernel_rfl
      have hd1 := drop_next hd
      have hc1 := (K1.2 qi hq hql).trans hc
      obtain ⟨t1, t2, t3⟩ := quot_turn (qi := qi) n tok c L1 (by omega) ht (by omega)
      unfold lexQ at e
      simp only [List.length_cons] at hR hk hl
      split at e
      · rename_i h34
        cases e
        refine ⟨st1, p + 1, [c], ?_, L1, hd1, by omega, K1⟩
        rw [List.append_nil]
        exact forCall_ret n1 hput (t1 h34)
      · rename_i h34
        split at e
        · rename_i h92
          cases t with
          | nil => cases e
          | cons d t' =>
            dsimp only at e
            replace e := mpd e; obtain ⟨⟨w1, R1⟩, e1, e2⟩ := e
            cases e2
            have hlt1 := drop_lt hd1
            obtain ⟨st2, b2, L2, K2⟩ := t3 d t' h92 hd1
            simp only [List.length_cons] at hR hk hl
            obtain ⟨st3, p3, ch3, f3, L3, d3, l3, K3⟩ := ih t' (by omega) k (tok ++ [d]) [d] (p + 1 + 1) st2 w1 R1 (by omega) e1 (drop_next hd1) (by omega) (by simp; omega) L2 ((K2.2 qi hq hql).trans hc1)
            refine ⟨st3, p3, ch3, ?_, L3, d3, l3, (K1.trans K2).trans K3⟩
            rw [forCall_next n1 hput b2, f3]
            simp
        · rename_i h92
          replace e := mpd e; obtain ⟨⟨w1, R1⟩, e1, e2⟩ := e
          cases e2
          obtain ⟨st3, p3, ch3, f3, L3, d3, l3, K3⟩ := ih t (by omega) k (tok ++ [c]) [c] (p + 1) st1 w1 R1 (by omega) e1 hd1 (by omega) (by simp; omega) L1 hc1
          refine ⟨st3, p3, ch3, ?_, L3, d3, l3, K1.trans K3⟩
          rw [forCall_next n1 hput (t2 h34 h92), f3]
          simp

theorem wsT (n : Nat) {e : Expr} (tok : List Nat) (c : Nat) (hs : IsCmp e .In) (h0 : (ev (n + 3)).E (gtM ql tok qi [c]) st (kid e 0) = some (.d (nS [c]), st)) (ha : IsAt (kid e 1) (nm "whitespace")) (h1 : (ev (n + 2)).E (gtM ql tok qi [c]) st (kid (kid e 1) 0) = some (.obj ql, st)) (L : Lx st qp qf ql qb text p push) :
    (ev (n + 4)).T (gtM ql tok qi [c]) st e = some (ws c, st) :=
  T_cmp .In (x := .d (nS [c])) (y := .d (nS [10, 9, 13, 32])) (st1 := st) hs h0 (E_attr (nm "whitespace") (ov := .obj ql) (b := false) (st1 := st) ha h1 (getA_inst L.hl (by kernel_rfl))) rfl

theorem bare_turn (n : Nat) (tok : List Nat) (c : Nat) {st : St} (L : Lx st qp qf ql qb text p push) (hp : p < 5000) (ht : text.length < 4000) (hl : tok.length < 50000) :
    (ws c = true → (ev (n + 15)).B (gtM ql tok qi [c]) st (sb bareS) = some (.rt (.d (nS tok)), gtM ql tok qi [c], st)) ∧
    (ws c = false → c ≠ 92 → (ev (n + 15)).B (gtM ql tok qi [c]) st (sb bareS) = some (.nx, gtM ql (tok ++ [c]) qi [c], st)) ∧
    (∀ d t, ws c = false → c = 92 → text.drop p = d :: t → ∃ st', (ev (n + 15)).B (gtM ql tok qi [c]) st (sb bareS) = some (.nx, gtM ql (tok ++ [d]) qi [d], st') ∧ Lx st' qp qf ql qb text (p + 1) push ∧ Kp qp ql st st') := by
  have hT : (ev (n + 14)).T (gtM ql tok qi [c]) st (sv (at_ (sb bareS) 0)) = some (ws c, st) := wsT (n + 10) tok c (by kernel_rfl) (by kernel_rfl) (by kernel_rfl) (by kernel_rfl) L
  have hT2 : (ev (n + 13)).T (gtM ql tok qi [c]) st (sv (at_ (se (at_ (sb bareS) 0)) 0)) = some (decide ([c] = [92]), st) := T_cmp .Eq (x := .d (nS [c])) (y := .d (nS [92])) (st1 := st) (by kernel_rfl) (by kernel_rfl) (by kernel_rfl) rfl
  have hadd : ∀ d st', stepS (ev (n + 14)) (gtM ql tok qi [d]) st' (at_ (sb bareS) 1) = some (.nx, gtM ql (tok ++ [d]) qi [d], st') := fun d st' =>
    S_augS (nm "token") (a := tok) (b := [d]) (by kernel_rfl) (by kernel_rfl) (by kernel_rfl) (by simp [lim]; omega) (by kernel_rfl)
  refine ⟨fun h => ?_, fun h1 h2 => ?_, fun d t h1 h hd => ?_⟩
  · refine B_start (B_end 0 (by kernel_rfl) ?_ trivial)
    refine (S_ift (by kernel_rfl) hT (h)).trans ?_
    kernel_rfl
  · refine B_start (B_at (fm1 := gtM ql tok qi [c]) (st1 := st) 0 (by kernel_rfl) ?_ (B_at 1 (by kernel_rfl) (hadd c st) (B_nil 2 (by kernel_rfl))))
    refine (S_iff (by kernel_rfl) hT (h1)).trans ?_
    refine B_start (B_at (fm1 := gtM ql tok qi [c]) (st1 := st) 0 (by kernel_rfl) ?_ (B_nil 1 (by kernel_rfl)))
    refine (S_iff (by kernel_rfl) hT2 (decide_eq_false (by simpa using h2))).trans ?_
    kernel_rfl
  · obtain ⟨st', e1, L', K'⟩ := readE (qi := qi) n (e := sv (at_ (sb (at_ (se (at_ (sb bareS) 0)) 0)) 0)) tok [c] (by kernel_rfl) (by kernel_rfl) (by kernel_rfl) L hp ht hd
    refine ⟨st', B_start (B_at (fm1 := gtM ql tok qi [d]) (st1 := st') 0 (by kernel_rfl) ?_ (B_at 1 (by kernel_rfl) (hadd d st') (B_nil 2 (by kernel_rfl)))), L', K'⟩
    refine (S_iff (by kernel_rfl) hT (h1)).trans ?_
    refine B_start (B_at (fm1 := gtM ql tok qi [d]) (st1 := st') 0 (by kernel_rfl) ?_ (B_nil 1 (by kernel_rfl)))
    refine (S_ift (by kernel_rfl) hT2 (decide_eq_true (by rw [h]))).trans ?_
    exact B_start (B_at (fm1 := gtM ql tok qi [d]) (st1 := st') 0 (by kernel_rfl) (S_asg (nm "ch") (v := .d (nS [d])) (by kernel_rfl) e1 (by kernel_rfl)) (B_nil 1 (by kernel_rfl)))

theorem bare_loop (n : Nat) (hq : qi ≠ qp) (hql : qi ≠ ql) (ht : text.length < 4000) : ∀ (m : Nat) (R : List Nat), R.length ≤ m → ∀ (k : Nat) (tok ch : List Nat) (p : Nat) (st : St) (w R' : List Nat), R.length < k → lexB R = some (w, R') → text.drop p = R → p ≤ text.length → tok.length + R.length < 50000 → Lx st qp qf ql qb text p push → st[qi]? = some (.citer 70 ql) →
    ∃ st' p' ch', forCall (ev (n + 15)) (tg bareS) (sb bareS) qi k (gtM ql tok qi ch) st = some (.rt (.d (nS (tok ++ w))), gtM ql (tok ++ w) qi ch', st') ∧ Lx st' qp qf ql qb text p' push ∧ text.drop p' = R' ∧ p' ≤ text.length ∧ Kp qp ql st st' := by
  intro m
  induction m with
  | zero =>
    intro R hR k tok ch p st w R' hk e
    have : R = [] := List.eq_nil_of_length_eq_zero (by omega)
    subst this
    cases e
  | succ m ih =>
    intro R hR k tok ch p st w R' hk e hd hp hl L hc
    obtain ⟨k, rfl⟩ : ∃ k', k = k' + 1 := ⟨k - 1, by omega⟩
    cases R with
    | nil => cases e
    | cons c t =>
      have hlt := drop_lt hd
      obtain ⟨st1, n1, L1, K1⟩ := nextC_some (n + 4) L (by omega) ht hc hq hql hd
      have hput : putT (gtM ql tok qi ch) (tg bareS) (.d (nS [c])) = some (gtM ql tok qi [c]) := by kernel_rfl
      have hd1 := drop_next hd
      have hc1 := (K1.2 qi hq hql).trans hc
      obtain ⟨t1, t2, t3⟩ := bare_turn (qi := qi) n tok c L1 (by omega) ht (by omega)
      unfold lexB at e
      simp only [List.length_cons] at hR hk hl
      split at e
      · rename_i h34
        cases e
        refine ⟨st1, p + 1, [c], ?_, L1, hd1, by omega, K1⟩
        rw [List.append_nil]
        exact forCall_ret n1 hput (t1 h34)
      · rename_i h34
        have h34 : ws c = false := by simpa using h34
        split at e
        · rename_i h92
          cases t with
          | nil => cases e
          | cons d t' =>
            dsimp only at e
            replace e := mpd e; obtain ⟨⟨w1, R1⟩, e1, e2⟩ := e
            cases e2
            have hlt1 := drop_lt hd1
            obtain ⟨st2, b2, L2, K2⟩ := t3 d t' h34 h92 hd1
            simp only [List.length_cons] at hR hk hl
            obtain ⟨st3, p3, ch3, f3, L3, d3, l3, K3⟩ := ih t' (by omega) k (tok ++ [d]) [d] (p + 1 + 1) st2 w1 R1 (by omega) e1 (drop_next hd1) (by omega) (by simp; omega) L2 ((K2.2 qi hq hql).trans hc1)
            refine ⟨st3, p3, ch3, ?_, L3, d3, l3, (K1.trans K2).trans K3⟩
            rw [forCall_next n1 hput b2, f3]
            simp
        · rename_i h92
          replace e := mpd e; obtain ⟨⟨w1, R1⟩, e1, e2⟩ := e
          cases e2
          obtain ⟨st3, p3, ch3, f3, L3, d3, l3, K3⟩ := ih t (by omega) k (tok ++ [c]) [c] (p + 1) st1 w1 R1 (by omega) e1 hd1 (by omega) (by simp; omega) L1 hc1
          refine ⟨st3, p3, ch3, ?_, L3, d3, l3, K1.trans K3⟩
          rw [forCall_next n1 hput (t2 h34 h92), f3]
          simp
end
end Mine
end
section
set_option maxRecDepth 100000
namespace Mine
open PySem

section
variable {st : St} {qp qf ql qb qi : Nat} {text : List Nat} {p : Nat} {push : List PyData}

noncomputable def Kq (qp ql qi : Nat) (st st' : St) : Prop := st'.length = st.length ∧ ∀ q, q ≠ qp → q ≠ ql → q ≠ qi → st'[q]? = st[q]?
theorem Kp.kq {qp ql : Nat} {st st' : St} (k : Kp qp ql st st') (qi : Nat) : Kq qp ql qi st st' := ⟨k.1, fun q h1 h2 _ => k.2 q h1 h2⟩
theorem Kq.trans {qp ql qi : Nat} {st st' st'' : St} (a : Kq qp ql qi st st') (b : Kq qp ql qi st' st'') : Kq qp ql qi st st'' := ⟨b.1.trans a.1, fun q h1 h2 h3 => (b.2 q h1 h2 h3).trans (a.2 q h1 h2 h3)⟩

theorem forLoop_call {r : Ev} {tgt : Expr} {body : List Stmt} {fm : Fm} {q : Nat} (h : isName tgt = true) : forLoop r tgt body (.call q) fm st = forCall r tgt body q 1000 fm st := by
  unfold forLoop; simp only [h, if_true]
theorem iter_citer {f : Addr} {o : Nat} (hc : st[qi]? = some (.citer f o)) : iterOf (.obj qi) st = some (.call qi) := by
  exact bindI hc rfl

theorem lexB_len : ∀ (m : Nat) (R w R' : List Nat), R.length ≤ m → lexB R = some (w, R') → w.length ≤ R.length := by
  intro m
  induction m with
  | zero =>
    intro R w R' h e
    have : R = [] := List.eq_nil_of_length_eq_zero (by omega)
    subst this; cases e
  | succ m ih =>
    intro R w R' h e
    cases R with
    | nil => cases e
    | cons c t =>
      unfold lexB at e
      simp only [List.length_cons] at h
      split at e
      · cases e; simp
      · split at e
        · cases t with
          | nil => cases e
          | cons d t' =>
            dsimp only at e
            replace e := mpd e; obtain ⟨⟨w1, R1⟩, e1, e2⟩ := e
            cases e2
            simp only [List.length_cons] at h
            have := ih t' w1 R1 (by omega) e1
            simp; omega
        · replace e := mpd e; obtain ⟨⟨w1, R1⟩, e1, e2⟩ := e
          cases e2
          have := ih t w1 R1 (by omega) e1
          simp; omega

set_option maxHeartbeats 4000000 in
/-- a turn of the outer loop, no blank -/
theorem outer_turn (n : Nat) (hq : qi ≠ qp) (hql : qi ≠ ql) (ht : text.length < 900) (c : Nat) (t w R' : List Nat) {st : St} (L : Lx st qp qf ql qb text p push) (hp : p ≤ text.length) (hc : st[qi]? = some (.citer 70 ql)) (hd : text.drop p = t) (hw : ws c = false) (e : lexT (c :: t) = some (w, R')) :
    ∃ st' p' fm', (ev (n + 17)).B (gtM ql [] qi [c]) st outerB = some (.rt (.d (nS w)), fm', st') ∧ Lx st' qp qf ql qb text p' push ∧ text.drop p' = R' ∧ p' ≤ text.length ∧ Kp qp ql st st' := by
  have hlen : t.length ≤ text.length := by rw [← hd]; simp
  have hT0 : (ev (n + 16)).T (gtM ql [] qi [c]) st (sv (at_ outerB 0)) = some (ws c, st) := wsT (n + 12) [] c (by kernel_rfl) (by kernel_rfl) (by kernel_rfl) (by kernel_rfl) L
  have hs0 : stepS (ev (n + 16)) (gtM ql [] qi [c]) st (at_ outerB 0) = some (.nx, gtM ql [] qi [c], st) := by
    refine (S_iff (by kernel_rfl) hT0 (hw)).trans ?_
    kernel_rfl
  have hT1 : (ev (n + 16)).T (gtM ql [] qi [c]) st (sv (at_ outerB 1)) = some (decide ([c] = [34]), st) := T_cmp .Eq (x := .d (nS [c])) (y := .d (nS [34])) (st1 := st) (by kernel_rfl) (by kernel_rfl) (by kernel_rfl) rfl
  unfold lexT at e
  rw [hw, if_neg Bool.false_ne_true] at e
  split at e
  · rename_i h34
    obtain ⟨st', p', ch', f, L', d', l', K'⟩ := quot_loop (text := text) (push := push) (qf := qf) (qb := qb) n hq hql (by omega) t.length t (Nat.le_refl _) 1000 [] [c] p st w R' (by omega) e hd hp (by simp; omega) L hc
    refine ⟨st', p', _, B_start (B_at (fm1 := gtM ql [] qi [c]) (st1 := st) 0 (by kernel_rfl) hs0 (B_end (fl := .rt (.d (nS w))) (fm1 := gtM ql ([] ++ w) qi ch') (st1 := st') 1 (by kernel_rfl) ?_ trivial)), L', d', l', K'⟩
    refine (S_ift (by kernel_rfl) hT1 (decide_eq_true (by rw [h34]))).trans ?_
    refine B_start (B_end (fl := .rt (.d (nS w))) (fm1 := gtM ql ([] ++ w) qi ch') (st1 := st') 0 (by kernel_rfl) ?_ trivial)
    show stepS (ev (n + 15)) _ _ quotS = _
    refine (S_for (x := .obj qi) (st1 := st) (it := .call qi) (by kernel_rfl) (by kernel_rfl) (iter_citer hc)).trans ((forLoop_call (by kernel_rfl)).trans ?_)
    exact f
  · rename_i h34
    have hT2 : (ev (n + 15)).T (gtM ql [] qi [c]) st (sv (at_ (se (at_ outerB 1)) 0)) = some (decide ([c] = [92]), st) := T_cmp .Eq (x := .d (nS [c])) (y := .d (nS [92])) (st1 := st) (by kernel_rfl) (by kernel_rfl) (by kernel_rfl) rfl
    have hadd : ∀ d st', stepS (ev (n + 15)) (gtM ql [] qi [d]) st' (at_ (se (at_ outerB 1)) 1) = some (.nx, gtM ql [d] qi [d], st') := fun d st' =>
      S_augS (nm "token") (a := []) (b := [d]) (by kernel_rfl) (by kernel_rfl) (by kernel_rfl) (by simp [lim]) (by kernel_rfl)
    have rest : ∀ (d : Nat) (t1 w1 R1 : List Nat) (p1 : Nat) (st1 : St), lexB t1 = some (w1, R1) → text.drop p1 = t1 → p1 ≤ text.length → Lx st1 qp qf ql qb text p1 push → st1[qi]? = some (.citer 70 ql) →
        ∃ st' p' fm', stepB (ev (n + 15)) (gtM ql [] qi [d]) st1 ((se (at_ outerB 1)).drop 1) = some (.rt (.d (nS (d :: w1))), fm', st') ∧ Lx st' qp qf ql qb text p' push ∧ text.drop p' = R1 ∧ p' ≤ text.length ∧ Kp qp ql st1 st' := by
      intro d t1 w1 R1 p1 st1 e1 hd1 hp1 L1 hc1
      have hlen1 : t1.length ≤ text.length := by rw [← hd1]; simp
      obtain ⟨st', p', ch', f, L', d', l', K'⟩ := bare_loop (text := text) (push := push) (qf := qf) (qb := qb) n hq hql (by omega) t1.length t1 (Nat.le_refl _) 1000 [d] [d] p1 st1 w1 R1 (by omega) e1 hd1 hp1 (by simp; omega) L1 hc1
      refine ⟨st', p', _, B_at (fm1 := gtM ql [d] qi [d]) (st1 := st1) 1 (by kernel_rfl) (hadd d st1) (B_end (fl := .rt (.d (nS (d :: w1)))) (fm1 := gtM ql ([d] ++ w1) qi ch') (st1 := st') 2 (by kernel_rfl) ?_ trivial), L', d', l', K'⟩
      show stepS (ev (n + 15)) _ _ bareS = _
      refine (S_for (x := .obj qi) (st1 := st1) (it := .call qi) (by kernel_rfl) (by kernel_rfl) (iter_citer hc1)).trans ((forLoop_call (by kernel_rfl)).trans ?_)
      exact f
    have into : ∀ st' fm', stepB (ev (n + 15)) (gtM ql [] qi [c]) st ((se (at_ outerB 1)).drop 0) = some (.rt (.d (nS w)), fm', st') → (ev (n + 17)).B (gtM ql [] qi [c]) st outerB = some (.rt (.d (nS w)), fm', st') := by
      intro st' fm' h
      refine B_start (B_at (fm1 := gtM ql [] qi [c]) (st1 := st) 0 (by kernel_rfl) hs0 (B_end (fl := .rt (.d (nS w))) (fm1 := fm') (st1 := st') 1 (by kernel_rfl) ?_ trivial))
      refine (S_iff (by kernel_rfl) hT1 (decide_eq_false (by simpa using h34))).trans ?_
      exact B_start h
    split at e
    · rename_i h92
      cases t with
      | nil => cases e
      | cons d t' =>
        dsimp only at e
        replace e := mpd e; obtain ⟨⟨w1, R1⟩, e1, e2⟩ := e
        cases e2
        have hlt := drop_lt hd
        obtain ⟨st1, b1, L1, K1⟩ := readE (qi := qi) (n + 2) (e := sv (at_ (sb (at_ (se (at_ outerB 1)) 0)) 0)) [] [c] (by kernel_rfl) (by kernel_rfl) (by kernel_rfl) L (by omega) (by omega) hd
        obtain ⟨st', p', fm', f, L', d', l', K'⟩ := rest d t' w1 R1 (p + 1) st1 e1 (drop_next hd) (by omega) L1 ((K1.2 qi hq hql).trans hc)
        refine ⟨st', p', fm', into st' fm' (B_at (fm1 := gtM ql [] qi [d]) (st1 := st1) 0 (by kernel_rfl) ?_ f), L', d', l', K1.trans K'⟩
        refine (S_ift (by kernel_rfl) hT2 (decide_eq_true (by rw [h92]))).trans ?_
        exact B_start (B_at (fm1 := gtM ql [] qi [d]) (st1 := st1) 0 (by kernel_rfl) (S_asg (nm "ch") (v := .d (nS [d])) (by kernel_rfl) b1 (by kernel_rfl)) (B_nil 1 (by kernel_rfl)))
    · rename_i h92
      replace e := mpd e; obtain ⟨⟨w1, R1⟩, e1, e2⟩ := e
      cases e2
      obtain ⟨st', p', fm', f, L', d', l', K'⟩ := rest c t w1 R1 p st e1 hd hp L hc
      refine ⟨st', p', fm', into st' fm' (B_at (fm1 := gtM ql [] qi [c]) (st1 := st) 0 (by kernel_rfl) ?_ f), L', d', l', K'⟩
      refine (S_iff (by kernel_rfl) hT2 (decide_eq_false (by simpa using h92))).trans ?_
      kernel_rfl

noncomputable def outerS : Stmt := at_ (fB 77) 3
/-- the frame of the outer loop -/
noncomputable def isOut (ql qi : Nat) (fm : Fm) : Prop := fm = gtM0 ql [] qi ∨ ∃ ch, fm = gtM ql [] qi ch

theorem outer_loop (n : Nat) (hq : qi ≠ qp) (hql : qi ≠ ql) (hqf : qi ≠ qf) (hqb : qi ≠ qb) (ht : text.length < 900) : ∀ (R : List Nat) (k : Nat) (fm : Fm) (p : Nat) (st : St) (w R' : List Nat), isOut ql qi fm → R.length < k → lexT R = some (w, R') → text.drop p = R → p ≤ text.length → Lx st qp qf ql qb text p push → st[qi]? = some (.citer 70 ql) →
    ∃ st' p' fm', (forCall (ev (n + 17)) (tg outerS) outerB qi k fm st = some (.rt (.d (nS w)), fm', st') ∨ (w = [] ∧ isOut ql qi fm' ∧ forCall (ev (n + 17)) (tg outerS) outerB qi k fm st = some (.nx, fm', st'))) ∧ Lx st' qp qf ql qb text p' push ∧ text.drop p' = R' ∧ (p' ≤ text.length ∨ w = []) ∧ Kq qp ql qi st st' := by
  intro R
  induction R with
  | nil =>
    intro k fm p st w R' hm hk e hd hp L hc
    obtain ⟨k, rfl⟩ : ∃ k', k = k' + 1 := ⟨k - 1, by simp at hk; omega⟩
    cases e
    obtain ⟨st1, e1, L1, K1⟩ := nextC_end (n + 6) L (by omega) (by omega) hc hq hql hd
    refine ⟨_, p + 1, fm, .inr ⟨rfl, hm, forCall_done e1⟩, ?_, ?_, .inr rfl, ?_⟩
    · exact ⟨(get_set_ne hq).trans L1.hp, (get_set_ne hqf).trans L1.hf, (get_set_ne hql).trans L1.hl, (get_set_ne hqb).trans L1.hb, L1.o1, L1.o2, L1.o3⟩
    · rw [← List.drop_drop, hd]; rfl
    · exact ⟨by rw [List.length_set]; exact K1.1, fun q h1 h2 h3 => (get_set_ne (Ne.symm h3)).trans (K1.2 q h1 h2)⟩
  | cons c t ih =>
    intro k fm p st w R' hm hk e hd hp L hc
    obtain ⟨k, rfl⟩ : ∃ k', k = k' + 1 := ⟨k - 1, by simp at hk; omega⟩
    have hlt := drop_lt hd
    simp only [List.length_cons] at hk
    obtain ⟨st1, n1, L1, K1⟩ := nextC_some (n + 6) L (by omega) (by omega) hc hq hql hd
    have hput : putT fm (tg outerS) (.d (nS [c])) = some (gtM ql [] qi [c]) := by
      rcases hm with rfl | ⟨ch, rfl⟩ <;> kernel_rfl
    have hd1 := drop_next hd
    have hc1 := (K1.2 qi hq hql).trans hc
    cases hw : ws c with
    | true =>
      unfold lexT at e
      rw [hw, if_pos rfl] at e
      have hb : (ev (n + 17)).B (gtM ql [] qi [c]) st1 outerB = some (.ct, gtM ql [] qi [c], st1) := by
        have hT0 : (ev (n + 16)).T (gtM ql [] qi [c]) st1 (sv (at_ outerB 0)) = some (ws c, st1) := wsT (n + 12) [] c (by kernel_rfl) (by kernel_rfl) (by kernel_rfl) (by kernel_rfl) L1
        refine B_start (B_end 0 (by kernel_rfl) ?_ trivial)
        refine (S_ift (by kernel_rfl) hT0 (hw)).trans ?_
        kernel_rfl
      obtain ⟨st', p', fm', f, L', d', l', K'⟩ := ih k (gtM ql [] qi [c]) (p + 1) st1 w R' (.inr ⟨_, rfl⟩) (by omega) e hd1 (by omega) L1 hc1
      refine ⟨st', p', fm', ?_, L', d', l', (K1.kq qi).trans K'⟩
      rw [forCall_cont n1 hput hb]
      exact f
    | false =>
      obtain ⟨st', p', fm', f, L', d', l', K'⟩ := outer_turn n hq hql ht c t w R' L1 (by omega) hc1 hd1 hw e
      exact ⟨st', p', fm', .inl (forCall_ret n1 hput f), L', d', .inl l', (K1.kq qi).trans (K'.kq qi)⟩
end

section
variable {st : St} {qp qf ql qb qi : Nat} {text : List Nat} {p : Nat} {push : List PyData}
theorem get_app {o : MO} {q : Nat} {l : St} (h : st[q]? = some o) : (st ++ l)[q]? = some o := by
  have := (List.getElem?_eq_some_iff.mp h).1
  rw [List.getElem?_append_left this]; exact h
theorem get_new {o : MO} : (st ++ [o])[st.length]? = some o := by simp
theorem get_lt {o : MO} {q : Nat} (h : st[q]? = some o) : q < st.length := (List.getElem?_eq_some_iff.mp h).1
theorem Lx.app (L : Lx st qp qf ql qb text p push) (l : St) : Lx (st ++ l) qp qf ql qb text p push := ⟨get_app L.hp, get_app L.hf, get_app L.hl, get_app L.hb, L.o1, L.o2, L.o3⟩
theorem Lx.pushed {push' : List PyData} (L : Lx st qp qf ql qb text p push) : Lx (st.set qb (.list push')) qp qf ql qb text p push' :=
  ⟨(get_set_ne (by have := L.o1; have := L.o2; have := L.o3; omega)).trans L.hp, (get_set_ne (by have := L.o2; have := L.o3; omega)).trans L.hf, (get_set_ne (by have := L.o3; omega)).trans L.hl, get_set_eq L.hb, L.o1, L.o2, L.o3⟩

noncomputable abbrev gtM1 (ql : Nat) : Fm := ⟨fS 77, [(nm "self", .obj ql)], [], false, 0⟩
noncomputable abbrev gtM2 (ql : Nat) : Fm := ⟨fS 77, [(nm "self", .obj ql), (nm "token", .d (nS []))], [], false, 0⟩

theorem pushT (n : Nat) (L : Lx st qp qf ql qb text p push) (hl : push.length ≤ 1000) : (ev (n + 4)).T (gtM1 ql) st (sv (at_ (fB 77) 0)) = some (!push.isEmpty, st) := by
  refine T_val (v := .obj qb) (x := .list push) (by kernel_rfl) (E_attr (nm "pushback") (ov := .obj ql) (b := false) (st1 := st) (by kernel_rfl) (by kernel_rfl) (getA_inst L.hl (by kernel_rfl))) (asD_list L.hb) ?_
  show chk push.length _ = _
  exact chk_of (by unfold lim; omega)

set_option maxHeartbeats 4000000 in
/-- a token from the text -/
theorem token_ok (n : Nat) (L : Lx st qp qf ql qb text p []) (ht : text.length < 900) (hp : p ≤ text.length) {w R' : List Nat} (e : lexT (text.drop p) = some (w, R')) :
    ∃ st' p', (ev (n + 19)).C (.fn 77) [.obj ql] st = some (.d (nS w), st') ∧ Lx st' qp qf ql qb text p' [] ∧ text.drop p' = R' ∧ (p' ≤ text.length ∨ w = []) ∧ (∀ q, q < qp → st'[q]? = st[q]?) := by
  have o1 := L.o1
  have o2 := L.o2
  have o3 := L.o3
  have l4 := get_lt L.hb
  obtain ⟨st', p', fm', f, L', d', l', K'⟩ := outer_loop (qi := st.length) (push := []) n (by omega) (by omega) (by omega) (by omega) ht (text.drop p) 1000 (gtM0 ql [] st.length) p (st ++ [.citer 70 ql]) w R' (.inl rfl) (by simp; omega) e rfl hp (L.app _) get_new
  have hs3 : stepS (ev (n + 17)) (gtM0 ql [] st.length) (st ++ [.citer 70 ql]) (at_ (fB 77) 3) = forCall (ev (n + 17)) (tg outerS) outerB st.length 1000 (gtM0 ql [] st.length) (st ++ [.citer 70 ql]) := by
    refine (S_for (x := .obj st.length) (st1 := st ++ [.citer 70 ql]) (it := .call st.length) (by kernel_rfl) (by kernel_rfl) (iter_citer get_new)).trans ((forLoop_call (by kernel_rfl)).trans ?_)
    rfl
  have hs0 : stepS (ev (n + 17)) (gtM1 ql) st (at_ (fB 77) 0) = some (.nx, gtM1 ql, st) := by
    refine (S_iff (by kernel_rfl) (pushT (n + 13) L (by simp)) rfl).trans ?_
    kernel_rfl
  have hs2 : stepS (ev (n + 17)) (gtM2 ql) st (at_ (fB 77) 2) = some (.nx, gtM0 ql [] st.length, st ++ [.citer 70 ql]) := by
    refine S_asg (nm "fiter") (v := .obj st.length) (by kernel_rfl) ?_ (by kernel_rfl)
    refine E_call (fv := .bi "iter") (vs := [.meth 70 ql, .d (nS [])]) (st1 := st) (st2 := st) (by kernel_rfl) (by kernel_rfl) (by kernel_rfl) ?_ (by kernel_rfl)
    exact evL_cons (t := kid (sv (at_ (fB 77) 2)) 1) (es := [kid (sv (at_ (fB 77) 2)) 2]) (st1 := st) (by kernel_rfl) (E_attr (nm "_read_char") (ov := .obj ql) (b := true) (st1 := st) (by kernel_rfl) (by kernel_rfl) (getA_inst L.hl (by kernel_rfl))) (by kernel_rfl)
  have keep : ∀ q, q < qp → st'[q]? = st[q]? := fun q h => (K'.2 q (by omega) (by omega) (by omega)).trans (List.getElem?_append_left (by omega))
  have pre : ∀ v fm1, stepB (ev (n + 17)) (gtM0 ql [] st.length) (st ++ [.citer 70 ql]) ((fB 77).drop 3) = some (.rt v, fm1, st') → (ev (n + 19)).C (.fn 77) [.obj ql] st = some (v, st') := fun v fm1 h =>
    C_fn (fm := gtM1 ql) (by kernel_rfl) ⟨fm1, B_start (B_at (fm1 := gtM1 ql) (st1 := st) 0 (by kernel_rfl) hs0 (B_at (fm1 := gtM2 ql) (st1 := st) 1 (by kernel_rfl) (by kernel_rfl) (B_at (fm1 := gtM0 ql [] st.length) (st1 := st ++ [.citer 70 ql]) 2 (by kernel_rfl) hs2 h)))⟩
  refine ⟨st', p', ?_, L', d', l', keep⟩
  rcases f with f | ⟨rfl, hm, f⟩
  · exact pre _ fm' (B_end 3 (by kernel_rfl) (hs3.trans f) trivial)
  · refine pre _ fm' (B_at (fm1 := fm') (st1 := st') 3 (by kernel_rfl) (hs3.trans f) (B_end 4 (by kernel_rfl) ?_ trivial))
    rcases hm with rfl | ⟨ch, rfl⟩ <;> kernel_rfl

/-- a token pushed back -/
theorem pop_ok (n : Nat) {x : PyData} (L : Lx st qp qf ql qb text p (x :: push)) (hl : push.length < 1000) :
    (ev (n + 10)).C (.fn 77) [.obj ql] st = some (.d x, st.set qb (.list push)) := by
  refine C_fn (fm := gtM1 ql) (by kernel_rfl) ⟨gtM1 ql, B_start (B_end (fl := .rt (.d x)) (fm1 := gtM1 ql) (st1 := st.set qb (.list push)) 0 (by kernel_rfl) ?_ trivial)⟩
  refine (S_ift (by kernel_rfl) (pushT (n + 4) L (by simp; omega)) rfl).trans ?_
  refine B_start (B_end 0 (by kernel_rfl) (S_ret (by kernel_rfl) ?_) trivial)
  refine E_meth (nm "pop") (ov := .obj qb) (cal := .lm (nm "pop") qb) (vs := [.d (nI 0)]) (st1 := st) (st2 := st) (by kernel_rfl) (E_attr (nm "pushback") (ov := .obj ql) (b := false) (st1 := st) (by kernel_rfl) (by kernel_rfl) (getA_inst L.hl (by kernel_rfl))) (methOf_list L.hb (by kernel_rfl)) rfl (by kernel_rfl) ?_
  show lstM (nm "pop") qb [.d (nI 0)] st = _
  exact lstM_pop L.hb (by simp [lim]; omega)
noncomputable abbrev puM (ql : Nat) (x : PyData) : Fm := ⟨fS 84, [(nm "self", .obj ql), (nm "token", .d x)], [], false, 0⟩
theorem push_ok (n : Nat) {x : PyData} (L : Lx st qp qf ql qb text p push) (hl : push.length < 1000) :
    (ev (n + 8)).C (.fn 84) [.obj ql, .d x] st = some (.d .none, st.set qb (.list (push ++ [x]))) := by
  refine C_fn0 (fm := puM ql x) (by kernel_rfl) ⟨puM ql x, B_start (B_at (fm1 := puM ql x) (st1 := st.set qb (.list (push ++ [x]))) 0 (by kernel_rfl) (S_exp (by kernel_rfl) ?_) (B_nil 1 (by kernel_rfl)))⟩
  refine E_meth (nm "append") (ov := .obj qb) (cal := .lm (nm "append") qb) (vs := [.d x]) (st1 := st) (st2 := st) (by kernel_rfl) (E_attr (nm "pushback") (ov := .obj ql) (b := false) (st1 := st) (by kernel_rfl) (by kernel_rfl) (getA_inst L.hl (by kernel_rfl))) (methOf_list L.hb (by kernel_rfl)) rfl (by kernel_rfl) ?_
  show lstM (nm "append") qb [.d x] st = _
  exact lstM_app L.hb (by simp [lim]; omega)
end
end Mine
end
section
set_option maxRecDepth 100000
namespace Mine
open PySem

/-! The lexer made. -/
section
variable {r : Ev} {fm fm1 fm2 : Fm} {st st1 st2 st3 : St} {e : Expr} {s : Stmt}
noncomputable abbrev IsAsgA (s : Stmt) (x : Str) : Prop := (viewS s, noComp (sv s)) = (some (.asgA (kid (tg s) 0) x (posA (tg s)) (sv s) (posS s)), true)
theorem S_setA (x : Str) {v ov : PV} (hs : IsAsgA s x) (h : newList r fm st (sv s) = some (v, st1)) (ho : r.E fm st1 (kid (tg s) 0) = some (ov, st2)) (hx : setA ov x v st2 = some st3) : stepS r fm st s = some (.nx, fm, st3) :=
  bindI (f := stepZ r fm st) (congrArg Prod.fst hs) (ifI (congrArg Prod.snd hs) (bindI h (bindI ho (mapI (f := fun st => (Fl.nx, fm, st)) hx))))
theorem C_cls {a : Addr} {i : Addr} {args : List PV} (hi : clsInit a = some i) (hb : bindsOf i (.obj st.length :: args) = some fm) (h : ∃ fm', r.B fm (st ++ [.inst a []]) (fB i) = some (.nx, fm', st1)) : (step r).C (.fn a) args st = some (.obj st.length, st1) := by
  obtain ⟨fm', h⟩ := h
  obtain ⟨hc, hb⟩ := ifs_of hb
  obtain ⟨f, hf, hb⟩ := bnd hb
  obtain ⟨hl, hb⟩ := ifp_of hb
  have e : fB i = f.body := by unfold fB; rw [hf]
  rw [e] at h
  show (match clsInit a with | some i => newC r a i args st | none => fnC r a args st) = _
  rw [hi]
  exact bindI hf (bindI ((if_pos hl).trans (bindI hb (bindI h rfl))) rfl)
end
theorem set_snoc (st : St) (o o' : MO) (l : St) : (st ++ o :: l).set st.length o' = st ++ o' :: l := by
  rw [List.set_append_right _ _ (Nat.le_refl _), Nat.sub_self]; rfl
theorem get_at (st : St) (o : MO) (l : St) : (st ++ o :: l)[st.length]? = some o := by
  rw [List.getElem?_append_right (Nat.le_refl _), Nat.sub_self]; rfl
theorem get_at1 (st : St) (o o1 : MO) (l : St) : (st ++ o :: o1 :: l)[st.length + 1]? = some o1 := by
  rw [List.getElem?_append_right (by omega)]; simp
theorem get_at2 (st : St) (o o1 o2 : MO) (l : St) : (st ++ o :: o1 :: o2 :: l)[st.length + 2]? = some o2 := by
  rw [List.getElem?_append_right (by omega)]; simp
theorem get_at3 (st : St) (o o1 o2 o3 : MO) (l : St) : (st ++ o :: o1 :: o2 :: o3 :: l)[st.length + 3]? = some o3 := by
  rw [List.getElem?_append_right (by omega)]; simp
theorem setA_new {st l : St} {c : Nat} {as as' : List (Str × PV)} {name : Str} {x : PV} (h : (if instAttr c name then chk as.length (upd as name x) else none) = some as') : setA (.obj st.length) name x (st ++ .inst c as :: l) = some (st ++ .inst c as' :: l) := by
  refine setA_inst (get_at _ _ _) ?_
  rw [set_snoc]
  split at h
  · rename_i hi
    obtain ⟨h1, rfl⟩ := of_chk h
    rw [if_pos hi, chk_of h1]
  · cases h

noncomputable abbrev snM (text : List Nat) (l : List (Str × PV)) (c : List (Str × PV)) (b : Bool) : Fm := ⟨fS 98, l, (nm "text", .d (nS text)) :: c, b, 97⟩
noncomputable abbrev clP (qp : Nat) (text : List Nat) : PV := .clo rdF [(nm "place", .obj qp), (nm "text", .d (nS text))]

theorem stream_ok (n : Nat) (st : St) (text : List Nat) :
    (ev (n + 6)).C (.fn 98) [.d (nS text)] st = some (.obj (st.length + 1), st ++ [.list [nI 0], .fobj [(nm "read", rdC st.length text)]]) := by
  have e1 : st ++ [MO.list [nI 0]] ++ [MO.fobj []] = st ++ [MO.list [nI 0], MO.fobj []] := by simp
  have l1 : (st ++ [MO.list [nI 0]]).length = st.length + 1 := by simp
  have hset : setA (.obj (st.length + 1)) (nm "read") (rdC st.length text) (st ++ [.list [nI 0], .fobj []]) = some (st ++ [.list [nI 0], .fobj [(nm "read", rdC st.length text)]]) := by
    have : (st ++ [MO.list [nI 0], MO.fobj []]).set (st.length + 1) (MO.fobj [(nm "read", rdC st.length text)]) = st ++ [MO.list [nI 0], MO.fobj [(nm "read", rdC st.length text)]] := by
      rw [List.set_append_right _ _ (Nat.le_succ _), show st.length + 1 - st.length = 1 from Nat.add_sub_cancel_left _ _]; rfl
    rw [← this]
    exact bindI (x := objV _) rfl (bindI (get_at1 ..) rfl)
  refine C_fn (fm := snM text [] [] false) (by kernel_rfl) ⟨snM text [(nm "read", rdC st.length text), (nm "stream", .obj (st.length + 1))] [(nm "place", .obj st.length)] true, B_start ?_⟩
  refine B_at (fm1 := snM text [] [(nm "place", .obj st.length)] false) (st1 := st ++ [.list [nI 0]]) 0 (by kernel_rfl) (by kernel_rfl) ?_
  refine B_at (fm1 := snM text [(nm "read", rdC st.length text)] [(nm "place", .obj st.length)] true) (st1 := st ++ [.list [nI 0]]) 1 (by kernel_rfl) (by kernel_rfl) ?_
  refine B_at (fm1 := snM text [(nm "read", rdC st.length text), (nm "stream", .obj (st.length + 1))] [(nm "place", .obj st.length)] true) (st1 := st ++ [.list [nI 0], .fobj []]) 2 (by kernel_rfl) ?_ ?_
  · rw [← l1, ← e1]
    kernel_rfl
  · refine B_at (fm1 := snM text [(nm "read", rdC st.length text), (nm "stream", .obj (st.length + 1))] [(nm "place", .obj st.length)] true) (st1 := st ++ [.list [nI 0], .fobj [(nm "read", rdC st.length text)]]) 3 (by kernel_rfl) ?_ (B_end 4 (by kernel_rfl) (by kernel_rfl) trivial)
    exact S_setA (nm "read") (v := rdC st.length text) (ov := .obj (st.length + 1)) (st1 := st ++ [.list [nI 0], .fobj []]) (st2 := st ++ [.list [nI 0], .fobj []]) (by kernel_rfl) (by kernel_rfl) (by kernel_rfl) hset

noncomputable abbrev inM (q : Nat) (fp : PV) : Fm := ⟨fS 63, [(nm "self", .obj q), (nm "fp", fp)], [], false, 0⟩
theorem lexer_new (n : Nat) (st : St) (qf : Nat) :
    (ev (n + 6)).C (.fn 87) [.obj qf] st = some (.obj st.length, st ++ [.inst 87 (lxA 1 qf (st.length + 1)), .list []]) := by
  have e1 : ∀ o : MO, st ++ [o] ++ [MO.list []] = st ++ [o, MO.list []] := fun o => by simp
  have l1 : ∀ o : MO, (st ++ [o]).length = st.length + 1 := fun o => by simp
  refine C_cls (i := 63) (fm := inM st.length (.obj qf)) (by kernel_rfl) (by kernel_rfl) ⟨inM st.length (.obj qf), B_start ?_⟩
  refine B_at (fm1 := inM st.length (.obj qf)) (st1 := st ++ [.inst 87 ((lxA 1 qf (st.length + 1)).take 1)]) 0 (by kernel_rfl) (S_setA (nm "lineno") (v := .d (nI 1)) (ov := .obj st.length) (st1 := st ++ [.inst 87 []]) (st2 := st ++ [.inst 87 []]) (by kernel_rfl) (by kernel_rfl) (by kernel_rfl) (setA_new (by kernel_rfl))) ?_
  refine B_at (fm1 := inM st.length (.obj qf)) (st1 := st ++ [.inst 87 ((lxA 1 qf (st.length + 1)).take 2)]) 1 (by kernel_rfl) (S_setA (nm "instream") (v := .obj qf) (ov := .obj st.length) (st1 := st ++ [.inst 87 ((lxA 1 qf (st.length + 1)).take 1)]) (st2 := st ++ [.inst 87 ((lxA 1 qf (st.length + 1)).take 1)]) (by kernel_rfl) (by kernel_rfl) (by kernel_rfl) (setA_new (by kernel_rfl))) ?_
  refine B_at (fm1 := inM st.length (.obj qf)) (st1 := st ++ [.inst 87 ((lxA 1 qf (st.length + 1)).take 3)]) 2 (by kernel_rfl) (S_setA (nm "whitespace") (v := .d (nS [10, 9, 13, 32])) (ov := .obj st.length) (st1 := st ++ [.inst 87 ((lxA 1 qf (st.length + 1)).take 2)]) (st2 := st ++ [.inst 87 ((lxA 1 qf (st.length + 1)).take 2)]) (by kernel_rfl) (by kernel_rfl) (by kernel_rfl) (setA_new (by kernel_rfl))) ?_
  refine B_at (fm1 := inM st.length (.obj qf)) (st1 := st ++ [.inst 87 (lxA 1 qf (st.length + 1)), .list []]) 3 (by kernel_rfl) (S_setA (nm "pushback") (v := .obj (st.length + 1)) (ov := .obj st.length) (st1 := st ++ [.inst 87 ((lxA 1 qf (st.length + 1)).take 3), .list []]) (st2 := st ++ [.inst 87 ((lxA 1 qf (st.length + 1)).take 3), .list []]) (by kernel_rfl) ?_ (by kernel_rfl) (setA_new (by kernel_rfl))) (B_nil 4 (by kernel_rfl))
  rw [← l1 (.inst 87 ((lxA 1 qf (st.length + 1)).take 3)), ← e1]
  kernel_rfl

theorem Lx.start (st : St) (text : List Nat) : Lx (st ++ [.list [nI 0], .fobj [(nm "read", rdC st.length text)], .inst 87 (lxA 1 (st.length + 1) (st.length + 3)), .list []]) st.length (st.length + 1) (st.length + 2) (st.length + 3) text 0 [] :=
  ⟨get_at _ _ _, get_at1 _ _ _ _, get_at2 _ _ _ _ _, get_at3 _ _ _ _ _ _, by omega, by omega, by omega⟩
end Mine
end
section
set_option maxRecDepth 100000
namespace Mine
open PySem

/-! compare -/
section
variable {r : Ev} {fm fm1 fm2 : Fm} {st st1 st2 st3 : St} {tgt : Expr} {body : List Stmt} {v : PV} {vs : List PV}
theorem forItems_next (hp : putT fm tgt v = some fm1) (hb : r.B fm1 st body = some (.nx, fm2, st2)) : forItems r tgt body (v :: vs) fm st = forItems r tgt body vs fm2 st2 := by
  rw [forItems, hp]
  show (r.B fm1 st body).bind _ = _
  rw [hb]
  rfl
theorem forItems_ret {u : PV} (hp : putT fm tgt v = some fm1) (hb : r.B fm1 st body = some (.rt u, fm2, st2)) : forItems r tgt body (v :: vs) fm st = some (.rt u, fm2, st2) := by
  rw [forItems, hp]
  show (r.B fm1 st body).bind _ = _
  rw [hb]
  rfl
theorem forItems_brk (hp : putT fm tgt v = some fm1) (hb : r.B fm1 st body = some (.br, fm2, st2)) : forItems r tgt body (v :: vs) fm st = some (.nx, fm2, st2) := by
  rw [forItems, hp]
  show (r.B fm1 st body).bind _ = _
  rw [hb]
  rfl
theorem forItems_nil : forItems r tgt body [] fm st = some (.nx, fm, st) := rfl
theorem forLoop_items : forLoop r tgt body (.items vs) fm st = forItems r tgt body vs fm st := rfl
theorem iter_list {xs : List PyData} (h : xs.length ≤ lim) : iterOf (.d (.list xs)) st = some (.items (xs.map .d)) := chk_of h
theorem iter_rng {n : Nat} (h : n ≤ lim) : iterOf (.rng n) st = some (.items (rngL n)) := chk_of h
end

noncomputable def cmpK (lt gt : Nat → Bool) : List (Nat × Int) → Int
  | [] => 0
  | (k, w) :: t => if lt k then -w else if gt k then w else cmpK lt gt t
noncomputable abbrev kD (kw : Nat × Int) : PyData := .tuple [nI kw.1, nI kw.2]
noncomputable abbrev cF (qo : Nat) (x y : PyData) (tail : List (Str × PV)) : Fm := ⟨fS 35, [(nm "self", .obj qo), (nm "left", .d x), (nm "right", .d y)] ++ tail, [], false, 0⟩
noncomputable def cT (tail : List (Str × PV)) : Prop := tail = [] ∨ ∃ a b c d, tail = [(nm "index", a), (nm "direction", b), (nm "l", c), (nm "r", d)]
noncomputable def cmS : Stmt := at_ (fB 35) 0
noncomputable abbrev cT1 (tail : List (Str × PV)) (k w : Int) : List (Str × PV) := upd (upd tail (nm "index") (.d (nI k))) (nm "direction") (.d (nI w))

theorem idxT {xs : List PyData} {x : PyData} {k : Nat} (h : xs[k]? = some x) (hk : k < 1000) : idx (.tuple xs) (k : Int) = some x := by
  show (if 0 ≤ (k : Int) ∧ (k : Int) ≤ 1000000 then xs[(k : Int).toNat]? else _) = _
  rw [if_pos (by omega)]
  simpa using h

theorem compare_loop (n : Nat) (qo : Nat) (st : St) (xs ys : List PyData) (lt gt : Nat → Bool) : ∀ (ks : List (Nat × Int)) (tail : List (Str × PV)), cT tail →
    (∀ kw ∈ ks, kw.1 < 1000 ∧ ∃ x y, xs[kw.1]? = some x ∧ ys[kw.1]? = some y ∧ cmpD .Lt x y = some (lt kw.1) ∧ cmpD .Gt x y = some (gt kw.1)) →
    (∃ fm', forItems (ev (n + 8)) (tg cmS) (sb cmS) ((ks.map kD).map .d) (cF qo (.tuple xs) (.tuple ys) tail) st = some (.rt (.d (nI (cmpK lt gt ks))), fm', st)) ∨
    (cmpK lt gt ks = 0 ∧ ∃ tail', cT tail' ∧ forItems (ev (n + 8)) (tg cmS) (sb cmS) ((ks.map kD).map .d) (cF qo (.tuple xs) (.tuple ys) tail) st = some (.nx, cF qo (.tuple xs) (.tuple ys) tail', st))
  | [], tail, ht, _ => .inr ⟨rfl, tail, ht, rfl⟩
  | (k, w) :: ks, tail, ht, hk => by
    obtain ⟨hk1, x, y, hx, hy, hlt, hgt⟩ := hk (k, w) List.mem_cons_self
    dsimp only at hk1 hx hy hlt hgt
    have hput : putT (cF qo (.tuple xs) (.tuple ys) tail) (tg cmS) (.d (kD (k, w))) = some (cF qo (.tuple xs) (.tuple ys) (cT1 tail k w)) := by
      rcases ht with rfl | ⟨a, b, c, d, rfl⟩ <;> kernel_rfl
    have h0 : stepS (ev (n + 7)) (cF qo (.tuple xs) (.tuple ys) (cT1 tail k w)) st (at_ (sb cmS) 0) = some (.nx, cF qo (.tuple xs) (.tuple ys) (upd (cT1 tail k w) (nm "l") (.d x)), st) := by
      refine S_asg (nm "l") (v := .d x) (by kernel_rfl) (E_idx (ov := .d (.tuple xs)) (k := k) (x := .tuple xs) (st1 := st) (by kernel_rfl) ?_ ?_ rfl (idxT hx hk1)) ?_ <;> (rcases ht with rfl | ⟨a, b, c, d, rfl⟩ <;> kernel_rfl)
    have h1 : stepS (ev (n + 7)) (cF qo (.tuple xs) (.tuple ys) (upd (cT1 tail k w) (nm "l") (.d x))) st (at_ (sb cmS) 1) = some (.nx, cF qo (.tuple xs) (.tuple ys) (upd (upd (cT1 tail k w) (nm "l") (.d x)) (nm "r") (.d y)), st) := by
      refine S_asg (nm "r") (v := .d y) (by kernel_rfl) (E_idx (ov := .d (.tuple ys)) (k := k) (x := .tuple ys) (st1 := st) (by kernel_rfl) ?_ ?_ rfl (idxT hy hk1)) ?_ <;> (rcases ht with rfl | ⟨a, b, c, d, rfl⟩ <;> kernel_rfl)
    have ht2 : ∃ a b c d, upd (upd (cT1 tail k w) (nm "l") (.d x)) (nm "r") (.d y) = [(nm "index", a), (nm "direction", b), (nm "l", c), (nm "r", d)] ∧ b = .d (nI w) ∧ c = .d x ∧ d = .d y := by
      refine ⟨.d (nI k), .d (nI w), .d x, .d y, ?_, rfl, rfl, rfl⟩
      rcases ht with rfl | ⟨a, b, c, d, rfl⟩ <;> kernel_rfl
    obtain ⟨a, b, c, d, e2, rfl, rfl, rfl⟩ := ht2
    rw [e2] at h1
    have hT2 : (ev (n + 7)).T (cF qo (.tuple xs) (.tuple ys) [(nm "index", a), (nm "direction", .d (nI w)), (nm "l", .d x), (nm "r", .d y)]) st (sv (at_ (sb cmS) 2)) = some (lt k, st) :=
      T_cmp .Lt (x := .d x) (y := .d y) (st1 := st) (by kernel_rfl) (by kernel_rfl) (by kernel_rfl) hlt
    have hT3 : (ev (n + 7)).T (cF qo (.tuple xs) (.tuple ys) [(nm "index", a), (nm "direction", .d (nI w)), (nm "l", .d x), (nm "r", .d y)]) st (sv (at_ (sb cmS) 3)) = some (gt k, st) :=
      T_cmp .Gt (x := .d x) (y := .d y) (st1 := st) (by kernel_rfl) (by kernel_rfl) (by kernel_rfl) hgt
    have ih := compare_loop n qo st xs ys lt gt ks [(nm "index", a), (nm "direction", .d (nI w)), (nm "l", .d x), (nm "r", .d y)] (.inr ⟨_, _, _, _, rfl⟩) fun kw h => hk kw (List.mem_cons_of_mem _ h)
    have pre : ∀ {R}, stepB (ev (n + 7)) (cF qo (.tuple xs) (.tuple ys) [(nm "index", a), (nm "direction", .d (nI w)), (nm "l", .d x), (nm "r", .d y)]) st ((sb cmS).drop 2) = R → (ev (n + 8)).B (cF qo (.tuple xs) (.tuple ys) (cT1 tail k w)) st (sb cmS) = R := fun h =>
      B_start (B_at 0 (by kernel_rfl) h0 (B_at 1 (by kernel_rfl) h1 h))
    unfold cmpK
    cases hl : lt k with
    | true =>
      refine .inl ⟨(cF qo (.tuple xs) (.tuple ys) [(nm "index", a), (nm "direction", .d (nI w)), (nm "l", .d x), (nm "r", .d y)]), forItems_ret hput (pre (B_end 2 (by kernel_rfl) ?_ trivial))⟩
      rw [S_if (by kernel_rfl) hT2, hl, if_pos rfl, if_pos rfl]
      kernel_rfl
    | false =>
      have h2 : stepS (ev (n + 7)) (cF qo (.tuple xs) (.tuple ys) [(nm "index", a), (nm "direction", .d (nI w)), (nm "l", .d x), (nm "r", .d y)]) st (at_ (sb cmS) 2) = some (.nx, cF qo (.tuple xs) (.tuple ys) [(nm "index", a), (nm "direction", .d (nI w)), (nm "l", .d x), (nm "r", .d y)], st) := by
        rw [S_if (by kernel_rfl) hT2, hl, if_neg Bool.false_ne_true]
        kernel_rfl
      rw [if_neg Bool.false_ne_true]
      cases hg : gt k with
      | true =>
        refine .inl ⟨(cF qo (.tuple xs) (.tuple ys) [(nm "index", a), (nm "direction", .d (nI w)), (nm "l", .d x), (nm "r", .d y)]), forItems_ret hput (pre (B_at 2 (by kernel_rfl) h2 (B_end 3 (by kernel_rfl) ?_ trivial)))⟩
        rw [S_if (by kernel_rfl) hT3, hg, if_pos rfl, if_pos rfl]
        kernel_rfl
      | false =>
        rw [if_neg Bool.false_ne_true]
        have h3 : stepS (ev (n + 7)) (cF qo (.tuple xs) (.tuple ys) [(nm "index", a), (nm "direction", .d (nI w)), (nm "l", .d x), (nm "r", .d y)]) st (at_ (sb cmS) 3) = some (.nx, cF qo (.tuple xs) (.tuple ys) [(nm "index", a), (nm "direction", .d (nI w)), (nm "l", .d x), (nm "r", .d y)], st) := by
          rw [S_if (by kernel_rfl) hT3, hg, if_neg Bool.false_ne_true]
          kernel_rfl
        have hh : forItems (ev (n + 8)) (tg cmS) (sb cmS) ((((k, w) :: ks).map kD).map .d) (cF qo (.tuple xs) (.tuple ys) tail) st = forItems (ev (n + 8)) (tg cmS) (sb cmS) ((ks.map kD).map .d) (cF qo (.tuple xs) (.tuple ys) [(nm "index", a), (nm "direction", .d (nI w)), (nm "l", .d x), (nm "r", .d y)]) st :=
          forItems_next hput (pre (B_at 2 (by kernel_rfl) h2 (B_at 3 (by kernel_rfl) h3 (B_nil 4 (by kernel_rfl)))))
        rw [hh]
        exact ih

theorem compare_ok (n : Nat) {st : St} {qo : Nat} {ks : List (Nat × Int)} {xs ys : List PyData} {lt gt : Nat → Bool} (ho : st[qo]? = some (.inst 38 [(nm "comp_select_list", .d (.list (ks.map kD)))])) (hl : ks.length < 1000)
    (hk : ∀ kw ∈ ks, kw.1 < 1000 ∧ ∃ x y, xs[kw.1]? = some x ∧ ys[kw.1]? = some y ∧ cmpD .Lt x y = some (lt kw.1) ∧ cmpD .Gt x y = some (gt kw.1)) :
    (ev (n + 10)).C (.fn 35) [.obj qo, .d (.tuple xs), .d (.tuple ys)] st = some (.d (nI (cmpK lt gt ks)), st) := by
  have hs : stepS (ev (n + 8)) (cF qo (.tuple xs) (.tuple ys) []) st (at_ (fB 35) 0) = forItems (ev (n + 8)) (tg cmS) (sb cmS) ((ks.map kD).map .d) (cF qo (.tuple xs) (.tuple ys) []) st := by
    rw [S_for (r := ev (n + 8)) (x := .d (.list (ks.map kD))) (st1 := st) (it := .items ((ks.map kD).map .d)) (by kernel_rfl) (E_attr (nm "comp_select_list") (ov := .obj qo) (b := false) (st1 := st) (by kernel_rfl) (by kernel_rfl) (getA_inst ho (by kernel_rfl))) (iter_list (by simp [lim]; omega)), forLoop_items]
    rfl
  rcases compare_loop n qo st xs ys lt gt ks [] (.inl rfl) hk with ⟨fm', h⟩ | ⟨h0, tail', ht, h⟩
  · exact C_fn (fm := cF qo (.tuple xs) (.tuple ys) []) (by kernel_rfl) ⟨fm', B_start (B_end 0 (by kernel_rfl) (hs.trans h) trivial)⟩
  · refine C_fn (fm := cF qo (.tuple xs) (.tuple ys) []) (by kernel_rfl) ⟨cF qo (.tuple xs) (.tuple ys) tail', B_start (B_at 0 (by kernel_rfl) (hs.trans h) (B_end 1 (by kernel_rfl) ?_ trivial))⟩
    rw [h0]
    kernel_rfl
end Mine
end
section
set_option maxRecDepth 100000
namespace Mine
open PySem

/-! The run: a turn. -/
section
variable {qp qf ql qb qo : Nat} {text : List Nat} {p : Nat} {push : List PyData}
noncomputable def Kl (qp : Nat) (st st' : St) : Prop := ∀ q, q < qp → st'[q]? = st[q]?
theorem Kl.refl {st : St} : Kl qp st st := fun _ _ => rfl
theorem Kl.trans {st st' st'' : St} (a : Kl qp st st') (b : Kl qp st' st'') : Kl qp st st'' := fun q h => (b q h).trans (a q h)

theorem overItems_cons {f : PV → CSt → Option CSt} {v : PV} {vs : List PV} {c c1 : CSt} {R : Option CSt} (h : f v c = some c1) (h2 : overItems f vs c1 = R) : overItems f (v :: vs) c = R := by
  rw [overItems, h]; exact h2

noncomputable abbrev lcM (e : Expr) (ql : Nat) (l : List (Str × PV)) : Fm := ⟨(cScope e).names, l, [(nm "lexer", .obj ql)], false, 0⟩
theorem tok4 (n : Nat) {fm : Fm} {st st1 st2 st3 st4 : St} {e : Expr} {r0 r1 r2 r3 y0 y1 y2 y3 : PyData} (hok : COk fm e) (hi : (ev (n + 20)).E fm st (cG e 0).iter = some (.d (.list [r0, r1, r2, r3]), st))
    (hcf : cFm fm e = lcM e ql []) (hput : ∀ v, putT (lcM e ql []) (cG e 0).target v = some (lcM e ql [(nm "row", v)])) (hput' : ∀ u v, putT (lcM e ql [(nm "row", u)]) (cG e 0).target v = some (lcM e ql [(nm "row", v)]))
    (hif : (cG e 0).ifs = []) (hgs : (cGens e).tail = []) (hm : IsMc (cElt e) (nm "get_token")) (ho : ∀ v st, (ev (n + 19)).E (lcM e ql [(nm "row", v)]) st (kid (kid (cElt e) 0) 0) = some (.obj ql, st)) (ha : ∀ v st, evL (ev (n + 19)) (lcM e ql [(nm "row", v)]) st (kids (cElt e)).tail = some ([], st))
    (m0 : methOf (.obj ql) (nm "get_token") st = some (.pv (.fn 77) [.obj ql])) (m1 : methOf (.obj ql) (nm "get_token") st1 = some (.pv (.fn 77) [.obj ql])) (m2 : methOf (.obj ql) (nm "get_token") st2 = some (.pv (.fn 77) [.obj ql])) (m3 : methOf (.obj ql) (nm "get_token") st3 = some (.pv (.fn 77) [.obj ql]))
    (t0 : (ev (n + 19)).C (.fn 77) [.obj ql] st = some (.d y0, st1)) (t1 : (ev (n + 19)).C (.fn 77) [.obj ql] st1 = some (.d y1, st2)) (t2 : (ev (n + 19)).C (.fn 77) [.obj ql] st2 = some (.d y2, st3)) (t3 : (ev (n + 19)).C (.fn 77) [.obj ql] st3 = some (.d y3, st4)) :
    comp (ev (n + 20)) fm st (cElt e) (cGens e) (cScope e) = some (.d (.list [y0, y1, y2, y3]), st4) := by
  have turn : ∀ (l : List (Str × PV)) (v : PV) (sa sb : St) (y : PyData) (xs : List PyData), (l = [] ∨ ∃ u, l = [(nm "row", u)]) → xs.length ≤ lim → methOf (.obj ql) (nm "get_token") sa = some (.pv (.fn 77) [.obj ql]) → (ev (n + 19)).C (.fn 77) [.obj ql] sa = some (.d y, sb) →
      compTurn1 (ev (n + 20)) (cG e 0).target (cG e 0).ifs (fun c => compBody (ev (n + 20)) (cElt e) (cGens e).tail c) v (lcM e ql l, sa, xs) = some (lcM e ql [(nm "row", v)], sb, xs ++ [y]) := by
    intro l v sa sb y xs hl hx hmm hc
    rw [hgs]
    refine turn_of (fm1 := lcM e ql [(nm "row", v)]) (st1 := sa) ?_ (by rw [hif]; rfl) ?_ hx
    · rcases hl with rfl | ⟨u, rfl⟩
      · exact hput v
      · exact hput' u v
    · exact E_meth (nm "get_token") (ov := .obj ql) (cal := .pv (.fn 77) [.obj ql]) (vs := []) (st1 := sa) (st2 := sa) hm (ho v sa) hmm (by kernel_rfl) (ha v sa) hc
  refine comp_of (it := .items [.d r0, .d r1, .d r2, .d r3]) (fm' := lcM e ql [(nm "row", .d r3)]) hok hi (by kernel_rfl) ?_
  rw [hcf]
  refine overItems_cons (turn [] _ _ _ y0 [] (.inl rfl) (by decide) m0 t0) ?_
  refine overItems_cons (turn _ _ _ _ y1 [y0] (.inr ⟨_, rfl⟩) (by simp [lim]) m1 t1) ?_
  refine overItems_cons (turn _ _ _ _ y2 [y0, y1] (.inr ⟨_, rfl⟩) (by simp [lim]) m2 t2) ?_
  exact overItems_cons (turn _ _ _ _ y3 [y0, y1, y2] (.inr ⟨_, rfl⟩) (by simp [lim]) m3 t3) rfl

theorem Lx.gt (L : Lx st qp qf ql qb text p push) : methOf (.obj ql) (nm "get_token") st = some (.pv (.fn 77) [.obj ql]) := methOf_inst L.hl (by kernel_rfl)
theorem Lx.kl (L : Lx st qp qf ql qb text p push) {o : MO} : Kl qp st (st.set qb o) := fun q h => get_set_ne (by have := L.o1; have := L.o2; have := L.o3; omega)

/-- all four rows are pushed -/
theorem push4 (n : Nat) {fm : Fm} (fmOf : PyData → Fm) {tgt : Expr} {body : List Stmt} {x0 x1 x2 x3 : PyData} {st : St} (L : Lx st qp qf ql qb text p []) (hput : ∀ x, putT fm tgt (.d x) = some (fmOf x)) (hput' : ∀ u x, putT (fmOf u) tgt (.d x) = some (fmOf x))
    (h1 : Nat.blt 0 body.length = true) (h2 : Nat.ble body.length 1 = true) (he : IsExp (at_ body 0)) (hm : IsMc (sv (at_ body 0)) (nm "push_token")) (ho : ∀ x st, (ev (n + 9)).E (fmOf x) st (kid (kid (sv (at_ body 0)) 0) 0) = some (.obj ql, st)) (ha : ∀ x st, evL (ev (n + 9)) (fmOf x) st (kids (sv (at_ body 0))).tail = some ([.d x], st)) :
    ∃ st', forItems (ev (n + 11)) tgt body [.d x0, .d x1, .d x2, .d x3] fm st = some (.nx, fmOf x3, st') ∧ Lx st' qp qf ql qb text p [x0, x1, x2, x3] ∧ Kl qp st st' := by
  have one : ∀ (st : St) (push : List PyData) (x : PyData), push.length < 1000 → Lx st qp qf ql qb text p push → (ev (n + 11)).B (fmOf x) st body = some (.nx, fmOf x, st.set qb (.list (push ++ [x]))) := by
    intro st push x hl L
    refine B_start (B_at (fm1 := fmOf x) (st1 := st.set qb (.list (push ++ [x]))) 0 h1 (S_exp he ?_) (B_nil 1 h2))
    exact E_meth (nm "push_token") (ov := .obj ql) (cal := .pv (.fn 84) [.obj ql]) (vs := [.d x]) (st1 := st) (st2 := st) hm (ho x st) (methOf_inst L.hl (by kernel_rfl)) (by kernel_rfl) (ha x st) (push_ok (n + 1) L hl)
  have L0 := L
  have L1 := L0.pushed (push' := [] ++ [x0])
  have L2 := L1.pushed (push' := [x0] ++ [x1])
  have L3 := L2.pushed (push' := [x0, x1] ++ [x2])
  have L4 := L3.pushed (push' := [x0, x1, x2] ++ [x3])
  refine ⟨_, ?_, L4, ((L0.kl.trans L1.kl).trans L2.kl).trans L3.kl⟩
  rw [forItems_next (hput x0) (one _ [] x0 (by decide) L0), forItems_next (hput' x0 x1) (one _ [x0] x1 (by simp) L1), forItems_next (hput' x1 x2) (one _ [x0, x1] x2 (by simp) L2), forItems_next (hput' x2 x3) (one _ [x0, x1, x2] x3 (by simp) L3)]
  rfl

/-- the four rows popped -/
theorem pop4 (n : Nat) {x0 x1 x2 x3 : PyData} {st : St} (L : Lx st qp qf ql qb text p [x0, x1, x2, x3]) :
    ∃ st1 st2 st3 st4, (ev (n + 19)).C (.fn 77) [.obj ql] st = some (.d x0, st1) ∧ (ev (n + 19)).C (.fn 77) [.obj ql] st1 = some (.d x1, st2) ∧ (ev (n + 19)).C (.fn 77) [.obj ql] st2 = some (.d x2, st3) ∧ (ev (n + 19)).C (.fn 77) [.obj ql] st3 = some (.d x3, st4) ∧
      Lx st1 qp qf ql qb text p [x1, x2, x3] ∧ Lx st2 qp qf ql qb text p [x2, x3] ∧ Lx st3 qp qf ql qb text p [x3] ∧ Lx st4 qp qf ql qb text p [] ∧ Kl qp st st4 := by
  have L1 := L.pushed (push' := [x1, x2, x3])
  have L2 := L1.pushed (push' := [x2, x3])
  have L3 := L2.pushed (push' := [x3])
  have L4 := L3.pushed (push' := [])
  exact ⟨_, _, _, _, pop_ok (n + 9) L (by simp), pop_ok (n + 9) L1 (by simp), pop_ok (n + 9) L2 (by simp), pop_ok (n + 9) L3 (by decide), L1, L2, L3, L4, ((L.kl.trans L1.kl).trans L2.kl).trans L3.kl⟩

/-- one letter's exchange -/
noncomputable def swp (cmp : PyData → PyData → Int) (k : Nat) : List PyData → List PyData
  | [a, b, c, d] => match k with
    | 0 => if 0 < cmp a b then [b, a, c, d] else [a, b, c, d]
    | 1 => if 0 < cmp b c then [a, c, b, d] else [a, b, c, d]
    | _ => if 0 < cmp c d then [a, b, d, c] else [a, b, c, d]
  | l => l

noncomputable abbrev rnM (ql : Nat) (l : List (Str × PV)) : Fm := ⟨fS 108, l, [(nm "lexer", .obj ql)], false, 0⟩
noncomputable abbrev rB (text : List Nat) (rows : List PyData) (qo : Nat) (words : List PyData) (row : PyData) (net : List Nat) : List (Str × PV) :=
  [(nm "text", .d (nS text)), (nm "rows", .d (.list rows)), (nm "order", .obj qo), (nm "words", .d (.list words)), (nm "row", .d row), (nm "network", .d (nS net))]
noncomputable def rT (tail : List (Str × PV)) : Prop := tail = [] ∨ ∃ a b c, tail = [(nm "lines", a), (nm "letter", b), (nm "k", c)]
noncomputable def rnS : Stmt := at_ (fB 108) 4
noncomputable abbrev rnB : List Stmt := sb rnS

theorem run_read (n : Nat) {r0 r1 r2 r3 x0 x1 x2 x3 row : PyData} {words : List PyData} {net : List Nat} {tv : PV} {tail : List (Str × PV)} (ht : rT tail) {st : St} {w R' : List Nat} (L : Lx st qp qf ql qb text p [x0, x1, x2, x3]) (hl : text.length < 900) (hp : p ≤ text.length) (e : lexT (text.drop p) = some (w, R')) :
    ∃ st' p' kk, stepB (ev (n + 20)) (rnM ql (rB text [r0, r1, r2, r3] qo words row net ++ (nm "turn", tv) :: tail)) st ((rnB.drop 0).take 2) = some (.nx, rnM ql (rB text [r0, r1, r2, r3] qo words row net ++ [(nm "turn", tv), (nm "lines", .d (.list [x0, x1, x2, x3])), (nm "letter", .d (nS w))] ++ kk), st') ∧ (kk = [] ∨ ∃ c, kk = [(nm "k", c)]) ∧
      Lx st' qp qf ql qb text p' [] ∧ text.drop p' = R' ∧ (p' ≤ text.length ∨ w = []) ∧ Kl qp st st' := by
  obtain ⟨st1, st2, st3, st4, t0, t1, t2, t3, L1, L2, L3, L4, K⟩ := pop4 n L
  obtain ⟨st', p', t4, L', d', l', K'⟩ := token_ok n L4 hl hp e
  have hm : methOf (.obj ql) (nm "get_token") st4 = some (.pv (.fn 77) [.obj ql]) := L4.gt
  have goal : ∀ (l1 l2 : List (Str × PV)), (rnM ql (rB text [r0, r1, r2, r3] qo words row net ++ (nm "turn", tv) :: tail)).put (nm "lines") (.d (.list [x0, x1, x2, x3])) = some (rnM ql (rB text [r0, r1, r2, r3] qo words row net ++ (nm "turn", tv) :: l1)) → (rnM ql (rB text [r0, r1, r2, r3] qo words row net ++ (nm "turn", tv) :: l1)).put (nm "letter") (.d (nS w)) = some (rnM ql (rB text [r0, r1, r2, r3] qo words row net ++ (nm "turn", tv) :: l2)) →
      (ev (n + 19)).E (rnM ql (rB text [r0, r1, r2, r3] qo words row net ++ (nm "turn", tv) :: l1)) st4 (kid (kid (sv (at_ rnB 1)) 0) 0) = some (.obj ql, st4) → evL (ev (n + 19)) (rnM ql (rB text [r0, r1, r2, r3] qo words row net ++ (nm "turn", tv) :: l1)) st4 (kids (sv (at_ rnB 1))).tail = some ([], st4) →
      cFm (rnM ql (rB text [r0, r1, r2, r3] qo words row net ++ (nm "turn", tv) :: tail)) (sv (at_ rnB 0)) = lcM (sv (at_ rnB 0)) ql [] → COk (rnM ql (rB text [r0, r1, r2, r3] qo words row net ++ (nm "turn", tv) :: tail)) (sv (at_ rnB 0)) → (ev (n + 20)).E (rnM ql (rB text [r0, r1, r2, r3] qo words row net ++ (nm "turn", tv) :: tail)) st (cG (sv (at_ rnB 0)) 0).iter = some (.d (.list [r0, r1, r2, r3]), st) →
      stepB (ev (n + 20)) (rnM ql (rB text [r0, r1, r2, r3] qo words row net ++ (nm "turn", tv) :: tail)) st ((rnB.drop 0).take 2) = some (.nx, rnM ql (rB text [r0, r1, r2, r3] qo words row net ++ (nm "turn", tv) :: l2), st') := by
    intro l1 l2 p1 p2 e1 a1 hcf hok hi
    have hc := tok4 n (e := sv (at_ rnB 0)) hok hi hcf (fun v => by kernel_rfl) (fun u v => by kernel_rfl) (by kernel_rfl) (by kernel_rfl) (by kernel_rfl) (fun v st => by kernel_rfl) (fun v st => by kernel_rfl) L.gt L1.gt L2.gt L3.gt t0 t1 t2 t3
    show stepB (ev (n + 20)) _ st (((rnB.drop 0).take 2).drop 0) = _
    refine B_at (fm1 := rnM ql (rB text [r0, r1, r2, r3] qo words row net ++ (nm "turn", tv) :: l1)) (st1 := st4) 0 (by kernel_rfl) (S_asgC (nm "lines") (v := .d (.list [x0, x1, x2, x3])) (by kernel_rfl) hc p1) ?_
    refine B_at (fm1 := rnM ql (rB text [r0, r1, r2, r3] qo words row net ++ (nm "turn", tv) :: l2)) (st1 := st') 1 (by kernel_rfl) (S_asg (nm "letter") (v := .d (nS w)) (by kernel_rfl) ?_ p2) (B_nil 2 (by kernel_rfl))
    exact E_meth (nm "get_token") (ov := .obj ql) (cal := .pv (.fn 77) [.obj ql]) (vs := []) (st1 := st4) (st2 := st4) (by kernel_rfl) e1 hm (by kernel_rfl) a1 t4
  rcases ht with rfl | ⟨a, b, c, rfl⟩
  · exact ⟨st', p', [], goal [(nm "lines", .d (.list [x0, x1, x2, x3]))] [(nm "lines", .d (.list [x0, x1, x2, x3])), (nm "letter", .d (nS w))] (by kernel_rfl) (by kernel_rfl) (by kernel_rfl) (by kernel_rfl) (by kernel_rfl) (by kernel_rfl) (by kernel_rfl), .inl rfl, L', d', l', K.trans K'⟩
  · exact ⟨st', p', [(nm "k", c)], goal [(nm "lines", .d (.list [x0, x1, x2, x3])), (nm "letter", b), (nm "k", c)] [(nm "lines", .d (.list [x0, x1, x2, x3])), (nm "letter", .d (nS w)), (nm "k", c)] (by kernel_rfl) (by kernel_rfl) (by kernel_rfl) (by kernel_rfl) (by kernel_rfl) (by kernel_rfl) (by kernel_rfl), .inr ⟨_, rfl⟩, L', d', l', K.trans K'⟩

noncomputable abbrev rF (ql qo : Nat) (text : List Nat) (rows words : List PyData) (row : PyData) (net : List Nat) (tv : PV) (lines : List PyData) (w : List Nat) (kk : List (Str × PV)) : Fm :=
  rnM ql (rB text rows qo words row net ++ [(nm "turn", tv), (nm "lines", .d (.list lines)), (nm "letter", .d (nS w))] ++ kk)

/-- what is known of compare -/
noncomputable def CmpOk (n qo : Nat) (OI : MO) (RS : List PyData) (cmp : PyData → PyData → Int) : Prop :=
  (∃ as, OI = .inst 38 as ∧ as.lookup (nm "compare") = none) ∧ ∀ st a b, a ∈ RS → b ∈ RS → st[qo]? = some OI → (ev n).C (.fn 35) [.obj qo, .d a, .d b] st = some (.d (nI (cmp a b)), st)

theorem run_swap (n : Nat) {OI : MO} {RS : List PyData} {cmp : PyData → PyData → Int} (C : CmpOk (n + 18) qo OI RS cmp) {rows words : List PyData} {row : PyData} {net : List Nat} {tv : PV} {st : St} {l : Nat} {a b c d : PyData} (hl : l = 97 ∨ l = 98 ∨ l = 99) (ho : st[qo]? = some OI) (hR : ∀ x ∈ [a, b, c, d], x ∈ RS) :
    stepS (ev (n + 20)) (rF ql qo text rows words row net tv [a, b, c, d] [l] [(nm "k", .d (nI ((l : Int) - 97)))]) st (at_ rnB 5) = some (.nx, rF ql qo text rows words row net tv (swp cmp (l - 97) [a, b, c, d]) [l] [(nm "k", .d (nI ((l : Int) - 97)))], st) := by
  obtain ⟨⟨as, rfl, has⟩, hc⟩ := C
  have hmm : methOf (.obj qo) (nm "compare") st = some (.pv (.fn 35) [.obj qo]) := methOf_inst ho (by rw [has]; kernel_rfl)
  have key : ∀ (x y : PyData), x ∈ RS → y ∈ RS → evL (ev (n + 18)) (rF ql qo text rows words row net tv [a, b, c, d] [l] [(nm "k", .d (nI ((l : Int) - 97)))]) st (kids (kid (sv (at_ rnB 5)) 0)).tail = some ([.d x, .d y], st) → (ev (n + 18)).E (rF ql qo text rows words row net tv [a, b, c, d] [l] [(nm "k", .d (nI ((l : Int) - 97)))]) st (kid (kid (kid (sv (at_ rnB 5)) 0) 0) 0) = some (.obj qo, st) →
      (ev (n + 19)).E (rF ql qo text rows words row net tv [a, b, c, d] [l] [(nm "k", .d (nI ((l : Int) - 97)))]) st (kid (sv (at_ rnB 5)) 1) = some (.d (nI 0), st) →
      (ev (n + 20)).T (rF ql qo text rows words row net tv [a, b, c, d] [l] [(nm "k", .d (nI ((l : Int) - 97)))]) st (sv (at_ rnB 5)) = some (decide (0 < cmp x y), st) := fun x y hx hy h1 h2 h3 =>
    T_cmp .Gt (x := .d (nI (cmp x y))) (y := .d (nI 0)) (st1 := st) (by kernel_rfl) (E_meth (nm "compare") (ov := .obj qo) (cal := .pv (.fn 35) [.obj qo]) (vs := [.d x, .d y]) (st1 := st) (st2 := st) (by kernel_rfl) h2 hmm (by kernel_rfl) h1 (hc st x y hx hy ho)) h3 rfl
  have ma : a ∈ RS := hR a (by simp)
  have mb : b ∈ RS := hR b (by simp)
  have mc : c ∈ RS := hR c (by simp)
  have md : d ∈ RS := hR d (by simp)
  rcases hl with rfl | rfl | rfl
  · rw [S_if (by kernel_rfl) (key a b ma mb (by kernel_rfl) (by kernel_rfl) (by kernel_rfl))]
    by_cases h : 0 < cmp a b
    · rw [decide_eq_true h, if_pos rfl, show swp cmp (97 - 97) [a, b, c, d] = [b, a, c, d] from if_pos h]
      kernel_rfl
    · rw [decide_eq_false h, if_neg Bool.false_ne_true, show swp cmp (97 - 97) [a, b, c, d] = [a, b, c, d] from if_neg h]
      kernel_rfl
  · rw [S_if (by kernel_rfl) (key b c mb mc (by kernel_rfl) (by kernel_rfl) (by kernel_rfl))]
    by_cases h : 0 < cmp b c
    · rw [decide_eq_true h, if_pos rfl, show swp cmp (98 - 97) [a, b, c, d] = [a, c, b, d] from if_pos h]
      kernel_rfl
    · rw [decide_eq_false h, if_neg Bool.false_ne_true, show swp cmp (98 - 97) [a, b, c, d] = [a, b, c, d] from if_neg h]
      kernel_rfl
  · rw [S_if (by kernel_rfl) (key c d mc md (by kernel_rfl) (by kernel_rfl) (by kernel_rfl))]
    by_cases h : 0 < cmp c d
    · rw [decide_eq_true h, if_pos rfl, show swp cmp (99 - 97) [a, b, c, d] = [a, b, d, c] from if_pos h]
      kernel_rfl
    · rw [decide_eq_false h, if_neg Bool.false_ne_true, show swp cmp (99 - 97) [a, b, c, d] = [a, b, c, d] from if_neg h]
      kernel_rfl

theorem swp4 (cmp : PyData → PyData → Int) (k : Nat) (a b c d : PyData) : ∃ a' b' c' d', swp cmp k [a, b, c, d] = [a', b', c', d'] ∧ ∀ x, x ∈ [a', b', c', d'] ↔ x ∈ [a, b, c, d] := by
  have pr : ∀ (q : Prop) [Decidable q] (l l' : List PyData), (l = [b, a, c, d] ∨ l = [a, c, b, d] ∨ l = [a, b, d, c]) → l' = [a, b, c, d] → ∃ a' b' c' d', (if q then l else l') = [a', b', c', d'] ∧ ∀ x, x ∈ [a', b', c', d'] ↔ x ∈ [a, b, c, d] := by
    intro q _ l l' h h'
    subst h'
    by_cases hq : q
    · rw [if_pos hq]
      rcases h with rfl | rfl | rfl
      · exact ⟨_, _, _, _, rfl, fun x => by simp; exact ⟨by rintro (h | h | h) <;> simp [h], by rintro (h | h | h) <;> simp [h]⟩⟩
      · exact ⟨_, _, _, _, rfl, fun x => by simp; exact ⟨by rintro (h | h | h | h) <;> simp [h], by rintro (h | h | h | h) <;> simp [h]⟩⟩
      · exact ⟨_, _, _, _, rfl, fun x => by simp; exact ⟨by rintro (h | h | h | h) <;> simp [h], by rintro (h | h | h | h) <;> simp [h]⟩⟩
    · rw [if_neg hq]; exact ⟨_, _, _, _, rfl, fun x => Iff.rfl⟩
  match k with
  | 0 => exact pr _ _ _ (.inl rfl) rfl
  | 1 => exact pr _ _ _ (.inr (.inl rfl)) rfl
  | _ + 2 => exact pr _ _ _ (.inr (.inr rfl)) rfl

/-- the rest of a turn -/
theorem run_rest (n : Nat) {OI : MO} {RS : List PyData} {cmp : PyData → PyData → Int} (C : CmpOk (n + 18) qo OI RS cmp) {rows words : List PyData} {row : PyData} {net : List Nat} {tv : PV} {kk : List (Str × PV)} (hk : kk = [] ∨ ∃ c, kk = [(nm "k", c)]) {st : St} {l : Nat} {a b c d : PyData} (hl : l = 97 ∨ l = 98 ∨ l = 99) (L : Lx st qp qf ql qb text p []) (ho : st[qo]? = some OI) (hqo : qo < qp) (hR : ∀ x ∈ [a, b, c, d], x ∈ RS) (hn : net.length < 1000) :
    ∃ st' row', stepB (ev (n + 20)) (rF ql qo text rows words row net tv [a, b, c, d] [l] kk) st (rnB.drop 2) = some (.nx, rF ql qo text rows words row' (net ++ [l]) tv (swp cmp (l - 97) [a, b, c, d]) [l] [(nm "k", .d (nI ((l : Int) - 97)))], st') ∧ Lx st' qp qf ql qb text p (swp cmp (l - 97) [a, b, c, d]) ∧ Kl qp st st' := by
  obtain ⟨a', b', c', d', e4, _⟩ := swp4 cmp (l - 97) a b c d
  have hs := run_swap (ql := ql) (text := text) (rows := rows) (words := words) (row := row) (net := net ++ [l]) (tv := tv) n C hl ho hR
  rw [e4] at hs ⊢
  obtain ⟨st', f, L', K'⟩ := push4 (fm := rF ql qo text rows words row (net ++ [l]) tv [a', b', c', d'] [l] [(nm "k", .d (nI ((l : Int) - 97)))]) (n + 9) (fun x => rF ql qo text rows words x (net ++ [l]) tv [a', b', c', d'] [l] [(nm "k", .d (nI ((l : Int) - 97)))]) (tgt := tg (at_ rnB 6)) (body := sb (at_ rnB 6)) (x0 := a') (x1 := b') (x2 := c') (x3 := d') L (fun x => by kernel_rfl) (fun u x => by kernel_rfl) (by kernel_rfl) (by kernel_rfl) (by kernel_rfl) (by kernel_rfl) (fun x st => by kernel_rfl) (fun x st => by kernel_rfl)
  refine ⟨st', d', ?_, L', K'⟩
  have h2 : stepS (ev (n + 20)) (rF ql qo text rows words row net tv [a, b, c, d] [l] kk) st (at_ rnB 2) = some (.nx, rF ql qo text rows words row net tv [a, b, c, d] [l] kk, st) := by
    rw [S_if (c := false) (st1 := st) (by kernel_rfl) (by kernel_rfl), if_neg Bool.false_ne_true]
    kernel_rfl
  have h3 : stepS (ev (n + 20)) (rF ql qo text rows words row net tv [a, b, c, d] [l] kk) st (at_ rnB 3) = some (.nx, rF ql qo text rows words row (net ++ [l]) tv [a, b, c, d] [l] kk, st) :=
    S_augS (nm "network") (a := net) (b := [l]) (by kernel_rfl) (by kernel_rfl) (by kernel_rfl) (by simp [lim]; omega) (by kernel_rfl)
  have h4 : stepS (ev (n + 20)) (rF ql qo text rows words row (net ++ [l]) tv [a, b, c, d] [l] kk) st (at_ rnB 4) = some (.nx, rF ql qo text rows words row (net ++ [l]) tv [a, b, c, d] [l] [(nm "k", .d (nI ((l : Int) - 97)))], st) := by
    rcases hl with rfl | rfl | rfl <;> rcases hk with rfl | ⟨_, rfl⟩ <;> kernel_rfl
  refine B_at 2 (by kernel_rfl) h2 (B_at 3 (by kernel_rfl) h3 (B_at 4 (by kernel_rfl) h4 (B_at 5 (by kernel_rfl) hs (B_at (fm1 := rF ql qo text rows words d' (net ++ [l]) tv [a', b', c', d'] [l] [(nm "k", .d (nI ((l : Int) - 97)))]) (st1 := st') 6 (by kernel_rfl) ?_ (B_nil 7 (by kernel_rfl))))))
  rw [S_for (r := ev (n + 20)) (x := .d (.list [a', b', c', d'])) (st1 := st) (it := .items [.d a', .d b', .d c', .d d']) (by kernel_rfl) (by kernel_rfl) (by kernel_rfl), forLoop_items]
  exact f
theorem run_stop (n : Nat) {rows words : List PyData} {row : PyData} {net : List Nat} {tv : PV} {kk : List (Str × PV)} {st : St} {lines : List PyData} :
    stepB (ev (n + 20)) (rF ql qo text rows words row net tv lines [] kk) st (rnB.drop 2) = some (.br, rF ql qo text rows words row net tv lines [] kk, st) := by
  refine B_end 2 (by kernel_rfl) ?_ trivial
  rw [S_if (c := true) (st1 := st) (by kernel_rfl) (by kernel_rfl), if_pos rfl]
  kernel_rfl
end
end Mine
end
section
set_option maxRecDepth 100000
namespace Mine
open PySem

/-! The run. -/
/-- the words that a text holds one after the other -/
noncomputable def Lexes : List Nat → List (List Nat) → List Nat → Prop
  | R, [], R' => R = R'
  | R, w :: ws, R' => w ≠ [] ∧ ∃ R1, lexT R = some (w, R1) ∧ Lexes R1 ws R'

section
variable {qp qf ql qb qo : Nat} {text : List Nat} {p : Nat} {push : List PyData}

theorem run_loop (n : Nat) {OI : MO} {RS : List PyData} {cmp : PyData → PyData → Int} (C : CmpOk (n + 18) qo OI RS cmp) (hqo : qo < qp) (ht : text.length < 900) {r0 r1 r2 r3 : PyData} {words : List PyData} {Rend : List Nat} (hend : lexT Rend = some ([], [])) :
    ∀ (ls : List Nat) (ts : List PV) (a b c d : PyData) (net : List Nat) (row : PyData) (pre : Fm) (st : St) (p : Nat), (∀ tv, ∃ tail, rT tail ∧ putT pre (tg rnS) tv = some (rnM ql (rB text [r0, r1, r2, r3] qo words row net ++ (nm "turn", tv) :: tail))) → ls.length < ts.length → net.length + ls.length < 1000 → (∀ l ∈ ls, l = 97 ∨ l = 98 ∨ l = 99) → (∀ x ∈ [a, b, c, d], x ∈ RS) → p ≤ text.length →
      Lexes (text.drop p) (ls.map fun l => [l]) Rend → Lx st qp qf ql qb text p [a, b, c, d] → st[qo]? = some OI →
      ∃ st' p' row' tv' kk', forItems (ev (n + 21)) (tg rnS) rnB ts pre st = some (.nx, rF ql qo text [r0, r1, r2, r3] words row' (net ++ ls) tv' (ls.foldl (fun x l => swp cmp (l - 97) x) [a, b, c, d]) [] kk', st') ∧ Lx st' qp qf ql qb text p' [] ∧ text.drop p' = [] ∧ Kl qp st st' := by
  intro ls
  induction ls with
  | nil =>
    intro ts a b c d net row pre st p hpre hl hn hls hR hp hx L ho
    cases ts with
    | nil => simp at hl
    | cons t ts =>
      obtain ⟨tail, hta, hput⟩ := hpre t
      have hx' : text.drop p = Rend := hx
      obtain ⟨st', p', kk, f, hkk, L', d', l', K'⟩ := run_read (qo := qo) (r0 := r0) (r1 := r1) (r2 := r2) (r3 := r3) (row := row) (words := words) (net := net) (tv := t) n hta L ht hp (by rw [hx']; exact hend)
      refine ⟨st', p', row, t, kk, ?_, L', d', K'⟩
      rw [List.append_nil]
      exact forItems_brk hput (B_start (B_cut 2 f (run_stop n)))
  | cons l ls ih =>
    intro ts a b c d net row pre st p hpre hl hn hls hR hp hx L ho
    cases ts with
    | nil => simp at hl
    | cons t ts =>
      obtain ⟨tail, hta, hput⟩ := hpre t
      obtain ⟨_, R1, e1, hx1⟩ := hx
      obtain ⟨st1, p1, kk, f, hkk, L1, d1, l1, K1⟩ := run_read (qo := qo) (r0 := r0) (r1 := r1) (r2 := r2) (r3 := r3) (row := row) (words := words) (net := net) (tv := t) n hta L ht hp e1
      simp only [List.length_cons] at hl hn
      have hl1 := hls l List.mem_cons_self
      obtain ⟨st2, row2, f2, L2, K2⟩ := run_rest (rows := [r0, r1, r2, r3]) (words := words) (row := row) (net := net) (tv := t) n C hkk hl1 L1 ((K1 qo hqo).trans ho) hqo hR (by omega)
      obtain ⟨a', b', c', d', e4, hm⟩ := swp4 cmp (l - 97) a b c d
      rw [e4] at f2 L2
      have hb : (ev (n + 21)).B (rnM ql (rB text [r0, r1, r2, r3] qo words row net ++ (nm "turn", t) :: tail)) st rnB = some (.nx, rF ql qo text [r0, r1, r2, r3] words row2 (net ++ [l]) t [a', b', c', d'] [l] [(nm "k", .d (nI ((l : Int) - 97)))], st2) := B_start (B_cut 2 f f2)
      have hp1 : p1 ≤ text.length := l1.elim id fun h => by cases h
      obtain ⟨st3, p3, row3, tv3, kk3, f3, L3, d3, K3⟩ := ih ts a' b' c' d' (net ++ [l]) row2 (rF ql qo text [r0, r1, r2, r3] words row2 (net ++ [l]) t [a', b', c', d'] [l] [(nm "k", .d (nI ((l : Int) - 97)))]) st2 p1
        (fun tv => ⟨[(nm "lines", .d (.list [a', b', c', d'])), (nm "letter", .d (nS [l])), (nm "k", .d (nI ((l : Int) - 97)))], .inr ⟨_, _, _, rfl⟩, by kernel_rfl⟩) (by omega) (by simp; omega) (fun x h => hls x (List.mem_cons_of_mem _ h)) (fun x h => hR x ((hm x).mp h)) hp1 (by rw [d1]; exact hx1) L2 ((K2 qo hqo).trans ((K1 qo hqo).trans ho))
      refine ⟨st3, p3, row3, tv3, kk3, ?_, L3, d3, (K1.trans K2).trans K3⟩
      rw [forItems_next hput hb, f3, List.append_assoc]
      show _ = some (Fl.nx, rF ql qo text [r0, r1, r2, r3] words row3 _ tv3 (ls.foldl _ (swp cmp (l - 97) [a, b, c, d])) [] kk3, st3)
      rw [e4]
      rfl
end

noncomputable abbrev rn0 (text : List Nat) (rows : List PyData) (qo : Nat) : List (Str × PV) := [(nm "text", .d (nS text)), (nm "rows", .d (.list rows)), (nm "order", .obj qo)]
noncomputable abbrev rnX (text : List Nat) (rows : List PyData) (qo : Nat) : Fm := ⟨fS 108, rn0 text rows qo, [], false, 0⟩

theorem run_ok (n : Nat) {OI : MO} {RS : List PyData} {cmp : PyData → PyData → Int} {qo : Nat} {text : List Nat} (C : CmpOk (n + 18) qo OI RS cmp) (ht : text.length < 900) {r0 r1 r2 r3 : PyData} {w0 w1 w2 w3 R4 Rend : List Nat} {ls : List Nat} {st : St}
    (ho : st[qo]? = some OI) (hR : ∀ x ∈ [r0, r1, r2, r3], x ∈ RS) (hw : Lexes text [w0, w1, w2, w3] R4) (hx : Lexes R4 (ls.map fun l => [l]) Rend) (hend : lexT Rend = some ([], [])) (hls : ∀ l ∈ ls, l = 97 ∨ l = 98 ∨ l = 99) (hn : ls.length < 17) :
    ∃ st', (ev (n + 23)).C (.fn 108) [.d (nS text), .d (.list [r0, r1, r2, r3]), .obj qo] st = some (.d (.tuple [.list [nS w0, nS w1, nS w2, nS w3], nS ls, nI (1 + (text.count 10 : Nat)), .list (ls.foldl (fun x l => swp cmp (l - 97) x) [r0, r1, r2, r3])]), st') ∧ ∀ q, q < st.length → st'[q]? = st[q]? := by
  have hqo := get_lt ho
  obtain ⟨n0, R1, e1, n1, R2, e2, n2, R3, e3, n3, R4', e4, hR4⟩ := hw
  have hR4 : R4' = R4 := hR4
  subst hR4
  -- the lexer
  have L0 := Lx.start st text
  generalize hst0 : st ++ [.list [nI 0], .fobj [(nm "read", rdC st.length text)], .inst 87 (lxA 1 (st.length + 1) (st.length + 3)), .list []] = st0 at L0
  have k0 : ∀ q, q < st.length → st0[q]? = st[q]? := fun q h => by rw [← hst0]; exact List.getElem?_append_left h
  have s0 : stepS (ev (n + 21)) (rnX text [r0, r1, r2, r3] qo) st (at_ (fB 108) 0) = some (.nx, rnM (st.length + 2) (rn0 text [r0, r1, r2, r3] qo), st0) := by
    refine S_asg (nm "lexer") (v := .obj (st.length + 2)) (by kernel_rfl) ?_ (by kernel_rfl)
    refine E_call (fv := .fn 87) (vs := [.obj (st.length + 1)]) (st1 := st) (st2 := st ++ [.list [nI 0], .fobj [(nm "read", rdC st.length text)]]) (by kernel_rfl) (by kernel_rfl) (by kernel_rfl) ?_ ?_
    · refine evL_one (t := kid (sv (at_ (fB 108) 0)) 1) (by kernel_rfl) ?_
      exact E_call (fv := .fn 98) (vs := [.d (nS text)]) (st1 := st) (st2 := st) (by kernel_rfl) (by kernel_rfl) (by kernel_rfl) (by kernel_rfl) (stream_ok (n + 13) st text)
    · have := lexer_new (n + 14) (st ++ [.list [nI 0], .fobj [(nm "read", rdC st.length text)]]) (st.length + 1)
      have hl : (st ++ [MO.list [nI 0], MO.fobj [(nm "read", rdC st.length text)]]).length = st.length + 2 := by simp
      rw [hl] at this
      rw [this, ← hst0]
      simp
  -- the words
  obtain ⟨st1, p1, t1, L1, d1, l1, K1⟩ := token_ok (n + 1) L0 ht (Nat.zero_le _) e1
  have l1 := l1.elim id fun h => absurd h n0
  obtain ⟨st2, p2, t2, L2, d2, l2, K2⟩ := token_ok (n + 1) L1 ht l1 (by rw [d1]; exact e2)
  have l2 := l2.elim id fun h => absurd h n1
  obtain ⟨st3, p3, t3, L3, d3, l3, K3⟩ := token_ok (n + 1) L2 ht l2 (by rw [d2]; exact e3)
  have l3 := l3.elim id fun h => absurd h n2
  obtain ⟨st4, p4, t4, L4, d4, l4, K4⟩ := token_ok (n + 1) L3 ht l3 (by rw [d3]; exact e4)
  have l4 := l4.elim id fun h => absurd h n3
  have s1 : stepS (ev (n + 21)) (rnM (st.length + 2) (rn0 text [r0, r1, r2, r3] qo)) st0 (at_ (fB 108) 1) = some (.nx, rnM (st.length + 2) (rn0 text [r0, r1, r2, r3] qo ++ [(nm "words", .d (.list [nS w0, nS w1, nS w2, nS w3]))]), st4) := by
    refine S_asgC (nm "words") (v := .d (.list [nS w0, nS w1, nS w2, nS w3])) (by kernel_rfl) ?_ (by kernel_rfl)
    exact tok4 (n + 1) (e := sv (at_ (fB 108) 1)) (r0 := r0) (r1 := r1) (r2 := r2) (r3 := r3) (by kernel_rfl) (by kernel_rfl) (by kernel_rfl) (fun v => by kernel_rfl) (fun u v => by kernel_rfl) (by kernel_rfl) (by kernel_rfl) (by kernel_rfl) (fun v st => by kernel_rfl) (fun v st => by kernel_rfl) L0.gt L1.gt L2.gt L3.gt t1 t2 t3 t4
  -- the rows pushed
  obtain ⟨st5, f5, L5, K5⟩ := push4 (fm := rnM (st.length + 2) (rn0 text [r0, r1, r2, r3] qo ++ [(nm "words", .d (.list [nS w0, nS w1, nS w2, nS w3]))])) (n + 10) (fun x => rnM (st.length + 2) (rn0 text [r0, r1, r2, r3] qo ++ [(nm "words", .d (.list [nS w0, nS w1, nS w2, nS w3])), (nm "row", .d x)])) (tgt := tg (at_ (fB 108) 2)) (body := sb (at_ (fB 108) 2)) (x0 := r0) (x1 := r1) (x2 := r2) (x3 := r3) L4
    (fun x => by kernel_rfl) (fun u x => by kernel_rfl) (by kernel_rfl) (by kernel_rfl) (by kernel_rfl) (by kernel_rfl) (fun x st => by kernel_rfl) (fun x st => by kernel_rfl)
  have s2 : stepS (ev (n + 21)) (rnM (st.length + 2) (rn0 text [r0, r1, r2, r3] qo ++ [(nm "words", .d (.list [nS w0, nS w1, nS w2, nS w3]))])) st4 (at_ (fB 108) 2) = some (.nx, rnM (st.length + 2) (rn0 text [r0, r1, r2, r3] qo ++ [(nm "words", .d (.list [nS w0, nS w1, nS w2, nS w3])), (nm "row", .d r3)]), st5) := by
    rw [S_for (r := ev (n + 21)) (x := .d (.list [r0, r1, r2, r3])) (st1 := st4) (it := .items [.d r0, .d r1, .d r2, .d r3]) (by kernel_rfl) (by kernel_rfl) (by kernel_rfl), forLoop_items]
    exact f5
  -- the turns
  have kk5 : ∀ q, q < st.length → st5[q]? = st0[q]? := fun q h => (K5 q h).trans ((K4 q h).trans ((K3 q h).trans ((K2 q h).trans (K1 q h))))
  obtain ⟨st6, p6, row6, tv6, kk6, f6, L6, d6, K6⟩ := run_loop n C hqo ht (r0 := r0) (r1 := r1) (r2 := r2) (r3 := r3) (words := [nS w0, nS w1, nS w2, nS w3]) hend ls (rngL 17) r0 r1 r2 r3 [] r3 (rnM (st.length + 2) (rB text [r0, r1, r2, r3] qo [nS w0, nS w1, nS w2, nS w3] r3 [])) st5 p4
    (fun tv => ⟨[], .inl rfl, by kernel_rfl⟩) (by show ls.length < 17; exact hn) (by simp; omega) hls hR l4 (by rw [d4]; exact hx) L5 ((kk5 qo hqo).trans ((k0 qo hqo).trans ho))
  rw [List.nil_append] at f6
  generalize ls.foldl (fun x l => swp cmp (l - 97) x) [r0, r1, r2, r3] = fin at f6 ⊢
  refine ⟨st6, ?_, fun q h => (K6 q h).trans ((kk5 q h).trans (k0 q h))⟩
  have s4 : stepS (ev (n + 21)) (rnM (st.length + 2) (rB text [r0, r1, r2, r3] qo [nS w0, nS w1, nS w2, nS w3] r3 [])) st5 (at_ (fB 108) 4) = some (.nx, rF (st.length + 2) qo text [r0, r1, r2, r3] [nS w0, nS w1, nS w2, nS w3] row6 ls tv6 fin [] kk6, st6) := by
    rw [S_for (r := ev (n + 21)) (x := .rng 17) (st1 := st5) (it := .items (rngL 17)) (by kernel_rfl) (by kernel_rfl) (by kernel_rfl), forLoop_items]
    exact f6
  have htk : text.take p6 = text := List.take_of_length_le (by simpa using d6)
  have hline := L6.hl
  rw [htk] at hline
  refine C_fn (fm := rnX text [r0, r1, r2, r3] qo) (by kernel_rfl) ⟨rF (st.length + 2) qo text [r0, r1, r2, r3] [nS w0, nS w1, nS w2, nS w3] row6 ls tv6 fin [] kk6, B_start (B_at 0 (by kernel_rfl) s0 (B_at 1 (by kernel_rfl) s1 (B_at 2 (by kernel_rfl) s2 (B_at (fm1 := rnM (st.length + 2) (rB text [r0, r1, r2, r3] qo [nS w0, nS w1, nS w2, nS w3] r3 [])) (st1 := st5) 3 (by kernel_rfl) (by kernel_rfl) (B_at 4 (by kernel_rfl) s4 (B_end 5 (by kernel_rfl) (S_ret (by kernel_rfl) ?_) trivial))))))⟩
  refine E_tup (vs := [.d (.list [nS w0, nS w1, nS w2, nS w3]), .d (nS ls), .d (nI (1 + (text.count 10 : Nat))), .d (.list fin)]) (by kernel_rfl) ?_ (by kernel_rfl) (by simp [lim])
  refine evL_cons (t := kid (sv (at_ (fB 108) 5)) 0) (es := (kids (sv (at_ (fB 108) 5))).drop 1) (st1 := st6) (by kernel_rfl) (by kernel_rfl) ?_
  refine evL_cons (t := kid (sv (at_ (fB 108) 5)) 1) (es := (kids (sv (at_ (fB 108) 5))).drop 2) (st1 := st6) (by kernel_rfl) (by kernel_rfl) ?_
  refine evL_cons (t := kid (sv (at_ (fB 108) 5)) 2) (es := (kids (sv (at_ (fB 108) 5))).drop 3) (st1 := st6) (by kernel_rfl) ?_ (by kernel_rfl)
  exact E_attr (nm "lineno") (ov := .obj (st.length + 2)) (b := false) (st1 := st6) (by kernel_rfl) (by kernel_rfl) (getA_inst hline (by kernel_rfl))
end Mine
end
section
set_option maxRecDepth 100000
namespace Mine
open PySem

/-! The text written. -/
theorem mkS_append (a b : List Nat) : mkS a ++ mkS b = mkS (a ++ b) := by
  apply Str.ext'
  rw [Str.cps_append]
  simp
theorem join_nil : ∀ ls : List (List Nat), Str.join (mkS []) (ls.map mkS) = mkS ls.flatten
  | [] => rfl
  | [x] => by
    show mkS x = mkS _
    simp
  | x :: y :: r => by
    have ih := join_nil (y :: r)
    show mkS x ++ mkS [] ++ Str.join (mkS []) ((y :: r).map mkS) = _
    rw [ih, mkS_append, mkS_append]
    simp
theorem allStrs_nS : ∀ ls : List (List Nat), allStrs (ls.map nS) = some (ls.map mkS)
  | [] => rfl
  | x :: r => by
    show (allStrs (r.map nS)).map _ = _
    rw [allStrs_nS r]; rfl
/-- ''.join of a list -/
theorem strM_join (ls : List (List Nat)) (st : St) (hl : (ls.map (·.length)).sum ≤ lim) : strM (nm "join") (mkS []) [.d (.list (ls.map nS))] st = some (.d (nS ls.flatten), st) := by
  have e0 : (mkS []).length = 0 := rfl
  have e1 : (ls.map mkS).map (·.length) = ls.map (·.length) := by
    rw [List.map_map]; rfl
  have h : glueD (mkS []) (.list (ls.map nS)) = some (nS ls.flatten) := by
    show (allStrs (ls.map nS)).bind _ = _
    rw [allStrs_nS]
    show chk _ _ = _
    rw [join_nil]
    refine chk_of ?_
    rw [e0, e1]
    simpa using hl
  show (glueD (mkS []) (.list (ls.map nS))).map (fun z => (PV.d z, st)) = _
  exact mapI h

noncomputable def gapL (k : Nat) : List Nat := match k % 4 with
  | 0 => [32]
  | 1 => [10]
  | 2 => [9, 32]
  | _ => [13, 10]
noncomputable def careL (way : Nat) (w : List Nat) : List Nat := match way with
  | 0 => [34, 92]
  | 1 => [32, 10, 92] ++ w.take 1
  | _ => w
noncomputable def escC (care : List Nat) (c : Nat) : List Nat := if has [c] care then [92, c] else [c]
noncomputable def escL (care w : List Nat) : List Nat := (w.map (escC care)).flatten
noncomputable def segL (way k : Nat) (w : List Nat) : List Nat := if way = 0 then [34] ++ escL (careL 0 w) w ++ [34] ++ (if k % 2 = 0 then [] else gapL k) else escL (careL way w) w ++ gapL k
noncomputable def txtL (T : Nat) : Nat → List (List Nat) → List Nat
  | _, [] => []
  | k, w :: ws => segL ((T + k) % 3) k w ++ txtL T (k + 1) ws

noncomputable abbrev wM (words : List PyData) (T : Nat) (text : List Nat) (l c : List (Str × PV)) : Fm := ⟨fS 103, [(nm "words", .d (.list words)), (nm "turn", .d (nI T)), (nm "text", .d (nS text))] ++ l, c, false, 0⟩
noncomputable def wT (tail cel : List (Str × PV)) : Prop := (tail = [] ∧ cel = []) ∨ ∃ a b c d, tail = [(nm "way", a), (nm "marked", b), (nm "gap", c)] ∧ cel = [(nm "care", d)]
noncomputable def wrS : Stmt := at_ (fB 103) 1
noncomputable abbrev wrB : List Stmt := sb wrS

section
variable {n : Nat} {words : List PyData} {T : Nat} {text : List Nat} {st : St} {k : Nat} {w : List Nat}

theorem slc_take1 {w : List Nat} (h : w.length ≤ 10) : slc (nS w) none (some 1) = some (nS (w.take 1)) := by
  have : (sl (mkS w)).length ≤ lim := by show w.length ≤ 100000; omega
  show (if (sl (mkS w)).length ≤ lim then _ else _) = _
  rw [if_pos this]
  rfl

/-- `words[k]` -/
theorem wordE (n : Nat) {fm : Fm} {e : Expr} (hs : IsIdx e) (h0 : (ev (n + 1)).E fm st (kid e 0) = some (.d (.list words), st)) (h1 : (ev (n + 1)).E fm st (kid e 1) = some (.d (nI (k : Int)), st)) (hw : words[k]? = some (nS w)) (hk : k ≤ 1000) : (ev (n + 2)).E fm st e = some (.d (nS w), st) :=
  E_idx (ov := .d (.list words)) (k := k) (x := .list words) (st1 := st) hs h0 h1 rfl (idx0 k _ hw (by omega))

noncomputable abbrev wM1 (words : List PyData) (T : Nat) (text : List Nat) (k : Nat) (l c : List (Str × PV)) : Fm := wM words T text ((nm "k", .d (nI (k : Int))) :: l) c

theorem writ0 (n : Nat) {tail cel : List (Str × PV)} (ht : wT tail cel) : stepS (ev (n + 8)) (wM1 words T text k tail cel) st (at_ wrB 0) = some (.nx, wM1 words T text k (upd tail (nm "way") (.d (nI (((T + k) % 3 : Nat) : Int)))) cel, st) := by
  have e : (((T + k) % 3 : Nat) : Int) = ((T : Int) + (k : Int)) % 3 := by omega
  rw [e]
  rcases ht with ⟨rfl, rfl⟩ | ⟨a, b, c, d, rfl, rfl⟩ <;> kernel_rfl

theorem writ1 (n : Nat) {tail cel : List (Str × PV)} (ht : wT tail cel) {way : Nat} (hy : way = 0 ∨ way = 1 ∨ way = 2) (hw : words[k]? = some (nS w)) (hk : k ≤ 1000) (hl : w.length ≤ 10) :
    stepS (ev (n + 8)) (wM1 words T text k (upd tail (nm "way") (.d (nI (way : Int)))) cel) st (at_ wrB 1) = some (.nx, wM1 words T text k (upd tail (nm "way") (.d (nI (way : Int)))) (upd cel (nm "care") (.d (nS (careL way w)))), st) := by
  have hidx : idx (.list [nS [34, 92], nS ([32, 10, 92] ++ w.take 1), nS w]) (way : Int) = some (nS (careL way w)) := by
    rcases hy with rfl | rfl | rfl <;> rfl
  generalize careL way w = care at hidx ⊢
  have h3 : 3 + (w.take 1).length ≤ lim := by
    have : (w.take 1).length ≤ 1 := List.length_take_le 1 w
    unfold lim; omega
  refine S_asg (nm "care") (v := .d (nS care)) (by kernel_rfl) ?_ ?_
  · refine E_idx (ov := .d (.list [nS [34, 92], nS ([32, 10, 92] ++ w.take 1), nS w])) (k := way) (x := .list [nS [34, 92], nS ([32, 10, 92] ++ w.take 1), nS w]) (st1 := st) (by kernel_rfl) ?_ ?_ rfl hidx
    · refine E_lst (vs := [.d (nS [34, 92]), .d (nS ([32, 10, 92] ++ w.take 1)), .d (nS w)]) (by kernel_rfl) ?_ (by kernel_rfl) (by simp [lim])
      refine evL_cons (t := kid (kid (sv (at_ wrB 1)) 0) 0) (es := (kids (kid (sv (at_ wrB 1)) 0)).drop 1) (st1 := st) (by kernel_rfl) (by kernel_rfl) ?_
      refine evL_cons (t := kid (kid (sv (at_ wrB 1)) 0) 1) (es := (kids (kid (sv (at_ wrB 1)) 0)).drop 2) (st1 := st) (by kernel_rfl) ?_ ?_
      · refine E_bin .Add (x := nS [32, 10, 92]) (y := nS (w.take 1)) (st1 := st) (by kernel_rfl) (by kernel_rfl) ?_ (chk_of h3)
        exact E_slcR (x := nS w) (j := 1) (st1 := st) (by kernel_rfl) (wordE (n + 2) (by kernel_rfl) (by kernel_rfl) (by kernel_rfl) hw hk) (by kernel_rfl) (slc_take1 hl)
      · exact evL_cons (t := kid (kid (sv (at_ wrB 1)) 0) 2) (es := (kids (kid (sv (at_ wrB 1)) 0)).drop 3) (st1 := st) (by kernel_rfl) (wordE (n + 4) (by kernel_rfl) (by kernel_rfl) (by kernel_rfl) hw hk) rfl
    · rcases ht with ⟨rfl, rfl⟩ | ⟨a, b, c, d, rfl, rfl⟩ <;> kernel_rfl
  · rcases ht with ⟨rfl, rfl⟩ | ⟨a, b, c, d, rfl, rfl⟩ <;> kernel_rfl

noncomputable abbrev mkM (e : Expr) (care : List Nat) (l : List (Str × PV)) : Fm := ⟨(cScope e).names, l, [(nm "care", .d (nS care))], false, 0⟩
/-- the marked word -/
theorem markC (n : Nat) {fm : Fm} {e : Expr} {care : List Nat} (hl : w.length ≤ 10) (hok : COk fm e) (hi : (ev (n + 5)).E fm st (cG e 0).iter = some (.d (nS w), st)) (hcf : cFm fm e = mkM e care [])
    (hput : ∀ v, putT (mkM e care []) (cG e 0).target v = some (mkM e care [(nm "sign", v)])) (hput' : ∀ u v, putT (mkM e care [(nm "sign", u)]) (cG e 0).target v = some (mkM e care [(nm "sign", v)]))
    (hif : (cG e 0).ifs = []) (hgs : (cGens e).tail = []) (hE : IsIfE (cElt e)) (hc : IsCmp (kid (cElt e) 0) .In) (h1 : ∀ c, (ev (n + 3)).E (mkM e care [(nm "sign", .d (nS [c]))]) st (kid (kid (cElt e) 0) 0) = some (.d (nS [c]), st)) (h2 : ∀ c, (ev (n + 3)).E (mkM e care [(nm "sign", .d (nS [c]))]) st (kid (kid (cElt e) 0) 1) = some (.d (nS care), st))
    (h3 : ∀ c, (ev (n + 4)).E (mkM e care [(nm "sign", .d (nS [c]))]) st (kid (cElt e) 1) = some (.d (nS [92, c]), st)) (h4 : ∀ c, (ev (n + 4)).E (mkM e care [(nm "sign", .d (nS [c]))]) st (kid (cElt e) 2) = some (.d (nS [c]), st)) :
    comp (ev (n + 5)) fm st (cElt e) (cGens e) (cScope e) = some (.d (.list ((w.map (escC care)).map nS)), st) := by
  let fmOf : Option PV → Fm := fun o => match o with
    | none => mkM e care []
    | some v => mkM e care [(nm "sign", v)]
  let p : PV → List PyData := fun v => match v with
    | .d (.str s) => [nS (escC care ((sl s).headD 0))]
    | _ => []
  have turn : ∀ v ∈ (w.map fun c => PV.d (nS [c])), ∀ o xs, xs.length ≤ lim → compTurn1 (ev (n + 5)) (cG e 0).target (cG e 0).ifs (fun c => compBody (ev (n + 5)) (cElt e) (cGens e).tail c) v (fmOf o, st, xs) = some (fmOf (some v), st, xs ++ p v) := by
    intro v hv o xs hx
    obtain ⟨c, _, rfl⟩ := List.mem_map.mp hv
    rw [hgs]
    refine turn_of (fm1 := mkM e care [(nm "sign", .d (nS [c]))]) (st1 := st) ?_ (by rw [hif]; rfl) ?_ hx
    · cases o with
      | none => exact hput _
      | some u => exact hput' u _
    · refine (E_if hE (T_cmp .In (x := .d (nS [c])) (y := .d (nS care)) (st1 := st) hc (h1 c) (h2 c) rfl)).trans ?_
      show (if has [c] care = true then _ else _) = some (PV.d (nS (escC care c)), st)
      unfold escC
      cases has [c] care with
      | true => rw [if_pos rfl, if_pos rfl]; exact h3 c
      | false => rw [if_neg Bool.false_ne_true, if_neg Bool.false_ne_true]; exact h4 c
  have fl : (w.map fun c => PV.d (nS [c])).flatMap p = (w.map (escC care)).map nS := by
    clear hl hi turn
    induction w with
    | nil => rfl
    | cons c t ih => rw [List.map_cons, List.flatMap_cons, ih]; rfl
  obtain ⟨o', h⟩ := over_map fmOf p st (w.map fun c => PV.d (nS [c])) none [] turn (by rw [fl]; simp [lim]; omega)
  rw [fl, List.nil_append] at h
  refine comp_of (it := .items (w.map fun c => PV.d (nS [c]))) (fm' := fmOf o') hok hi (chk_of (show w.length ≤ lim by unfold lim; omega)) ?_
  rw [hcf]
  exact h

theorem esc_sum (care w : List Nat) : ((w.map (escC care)).map (·.length)).sum ≤ 2 * w.length := by
  induction w with
  | nil => simp
  | cons c t ih =>
    have : (escC care c).length ≤ 2 := by unfold escC; split <;> simp
    simp only [List.map_cons, List.sum_cons, List.length_cons]
    omega
theorem escL_len (care w : List Nat) : (escL care w).length ≤ 2 * w.length := by
  unfold escL
  rw [List.length_flatten]
  exact esc_sum care w

theorem writ2 (n : Nat) {tail cel : List (Str × PV)} (ht : wT tail cel) {way care : PV} {cl : List Nat} (hcl : care = .d (nS cl)) (hw : words[k]? = some (nS w)) (hk : k ≤ 1000) (hl : w.length ≤ 10) :
    stepS (ev (n + 8)) (wM1 words T text k (upd tail (nm "way") way) (upd cel (nm "care") care)) st (at_ wrB 2) = some (.nx, wM1 words T text k (upd (upd tail (nm "way") way) (nm "marked") (.d (nS (escL cl w)))) (upd cel (nm "care") care), st) := by
  subst hcl
  refine S_asg (nm "marked") (v := .d (nS (escL cl w))) (by kernel_rfl) ?_ ?_
  · refine E_meth (nm "join") (ov := .d (nS [])) (cal := .sm (nm "join") (mkS [])) (vs := [.d (.list ((w.map (escC cl)).map nS))]) (st1 := st) (st2 := st) (by kernel_rfl) (by kernel_rfl) (by kernel_rfl) rfl ?_ (strM_join _ st (Nat.le_trans (esc_sum cl w) (by unfold lim; omega)))
    refine evL_one (t := kid (sv (at_ wrB 2)) 1) (by kernel_rfl) (E_comp ?_ (markC (n + 1) (care := cl) hl ?_ ?_ ?_ (fun v => by kernel_rfl) (fun u v => by kernel_rfl) (by kernel_rfl) (by kernel_rfl) (by kernel_rfl) (by kernel_rfl) (fun c => by kernel_rfl) (fun c => by kernel_rfl) (fun c => by kernel_rfl) (fun c => by kernel_rfl)))
    · rcases ht with ⟨rfl, rfl⟩ | ⟨a, b, c, d, rfl, rfl⟩ <;> kernel_rfl
    · rcases ht with ⟨rfl, rfl⟩ | ⟨a, b, c, d, rfl, rfl⟩ <;> kernel_rfl
    · exact wordE (n + 4) (by kernel_rfl) (by kernel_rfl) (by kernel_rfl) hw hk
    · rcases ht with ⟨rfl, rfl⟩ | ⟨a, b, c, d, rfl, rfl⟩ <;> kernel_rfl
  · rcases ht with ⟨rfl, rfl⟩ | ⟨a, b, c, d, rfl, rfl⟩ <;> kernel_rfl

theorem gap_idx (k : Nat) : idx (.list [nS [32], nS [10], nS [9, 32], nS [13, 10]]) ((k : Int) % 4) = some (nS (gapL k)) := by
  have e : (k : Int) % 4 = ((k % 4 : Nat) : Int) := by omega
  rw [e]
  unfold gapL
  have h : k % 4 < 4 := Nat.mod_lt _ (by decide)
  generalize k % 4 = m at h
  match m, h with
  | 0, _ => rfl
  | 1, _ => rfl
  | 2, _ => rfl
  | 3, _ => rfl
theorem writ3 (n : Nat) {tail cel : List (Str × PV)} (ht : wT tail cel) {way care mk : PV} :
    stepS (ev (n + 8)) (wM1 words T text k (upd (upd tail (nm "way") way) (nm "marked") mk) (upd cel (nm "care") care)) st (at_ wrB 3) = some (.nx, wM1 words T text k [(nm "way", way), (nm "marked", mk), (nm "gap", .d (nS (gapL k)))] [(nm "care", care)], st) := by
  refine S_asg (nm "gap") (v := .d (nS (gapL k))) (by kernel_rfl) ?_ ?_
  · exact E_idx (ov := .d (.list [nS [32], nS [10], nS [9, 32], nS [13, 10]])) (k := (k : Int) % 4) (x := .list [nS [32], nS [10], nS [9, 32], nS [13, 10]]) (st1 := st) (by kernel_rfl) (by kernel_rfl) (by kernel_rfl) rfl (gap_idx k)
  · rcases ht with ⟨rfl, rfl⟩ | ⟨a, b, c, d, rfl, rfl⟩ <;> kernel_rfl

theorem gapL_len (k : Nat) : (gapL k).length ≤ 2 := by unfold gapL; split <;> simp
theorem writ4 (n : Nat) {care : PV} {way : Nat} {mk : List Nat} (hy : way = 0 ∨ way = 1 ∨ way = 2) (hm : mk.length ≤ 100) (ht : text.length ≤ 10000) :
    stepS (ev (n + 8)) (wM1 words T text k [(nm "way", .d (nI (way : Int))), (nm "marked", .d (nS mk)), (nm "gap", .d (nS (gapL k)))] [(nm "care", care)]) st (at_ wrB 4) =
      some (.nx, wM1 words T (text ++ if way = 0 then [34] ++ mk ++ [34] ++ (if k % 2 = 0 then [] else gapL k) else mk ++ gapL k) k [(nm "way", .d (nI (way : Int))), (nm "marked", .d (nS mk)), (nm "gap", .d (nS (gapL k)))] [(nm "care", care)], st) := by
  have hg := gapL_len k
  have hlen : (if way = 0 then [34] ++ mk ++ [34] ++ (if k % 2 = 0 then [] else gapL k) else mk ++ gapL k).length ≤ 200 := by
    split
    · split <;> simp <;> omega
    · simp; omega
  refine S_augS (nm "text") (a := text) (b := if way = 0 then [34] ++ mk ++ [34] ++ (if k % 2 = 0 then [] else gapL k) else mk ++ gapL k) (by kernel_rfl) (by kernel_rfl) ?_ (by unfold lim; omega) (by kernel_rfl)
  have hT : (ev (n + 7)).T (wM1 words T text k [(nm "way", .d (nI (way : Int))), (nm "marked", .d (nS mk)), (nm "gap", .d (nS (gapL k)))] [(nm "care", care)]) st (kid (sv (at_ wrB 4)) 0) = some (decide ((way : Int) = 0), st) := T_cmp .Eq (x := .d (nI (way : Int))) (y := .d (nI 0)) (st1 := st) (by kernel_rfl) (by kernel_rfl) (by kernel_rfl) rfl
  refine (E_if (by kernel_rfl) hT).trans ?_
  by_cases h : way = 0
  · subst h
    rw [if_pos rfl, decide_eq_true (by rfl), if_pos rfl]
    have e1 : binop .Mult (nS (gapL k)) (nI ((k : Int) % 2)) = some (nS (if k % 2 = 0 then [] else gapL k)) := by
      have e : (k : Int) % 2 = ((k % 2 : Nat) : Int) := by omega
      rw [e]
      have hk : k % 2 < 2 := Nat.mod_lt _ (by decide)
      generalize gapL k = gg
      generalize k % 2 = m at hk
      match m, hk with
      | 0, _ => rfl
      | 1, _ => rfl
    refine E_bin .Add (x := nS ([34] ++ mk ++ [34])) (y := nS (if k % 2 = 0 then [] else gapL k)) (st1 := st) (by kernel_rfl) ?_ ?_ (chk_of ?_)
    · refine E_bin .Add (x := nS ([34] ++ mk)) (y := nS [34]) (st1 := st) (by kernel_rfl) ?_ (by kernel_rfl) (chk_of (show ([34] ++ mk).length + 1 ≤ lim by simp [lim]; omega))
      exact E_bin .Add (x := nS [34]) (y := nS mk) (st1 := st) (by kernel_rfl) (by kernel_rfl) (by kernel_rfl) (chk_of (show 1 + mk.length ≤ lim by simp [lim]; omega))
    · exact E_bin .Mult (x := nS (gapL k)) (y := nI ((k : Int) % 2)) (st1 := st) (by kernel_rfl) (by kernel_rfl) (by kernel_rfl) e1
    · show ([34] ++ mk ++ [34]).length + (if k % 2 = 0 then [] else gapL k).length ≤ lim
      split <;> simp [lim] <;> omega
  · rw [if_neg h, decide_eq_false (by omega), if_neg Bool.false_ne_true]
    exact E_bin .Add (x := nS mk) (y := nS (gapL k)) (st1 := st) (by kernel_rfl) (by kernel_rfl) (by kernel_rfl) (chk_of (show mk.length + (gapL k).length ≤ lim by unfold lim; omega))
end
end Mine
end
section
set_option maxRecDepth 100000
namespace Mine
open PySem

theorem bi_len {xs : List PyData} {st : St} (h : xs.length ≤ lim) : bi "len" [.d (.list xs)] st = some (.d (nI (xs.length : Int)), st) := by
  have e : bi "len" [.d (.list xs)] st = chk xs.length (.d (nI (xs.length : Int)), st) := by kernel_rfl
  rw [e]
  exact chk_of h
theorem len_C {r : Ev} {xs : List PyData} {st : St} (h : xs.length ≤ lim) : (step r).C (.bi "len") [.d (.list xs)] st = some (.d (nI (xs.length : Int)), st) := bi_len h
theorem range_C {r : Ev} {k : Nat} {st : St} (h : k ≤ 100000) : (step r).C (.ty "range") [.d (nI (k : Int))] st = some (.rng k, st) := by
  show (if 0 ≤ (k : Int) ∧ (k : Int) ≤ 100000 then some (PV.rng (k : Int).toNat, st) else none) = _
  rw [if_pos (by omega)]
  rfl

section
variable {words : List PyData} {T : Nat} {st : St}
theorem segL_len (way k : Nat) {w : List Nat} (h : w.length ≤ 2) : (segL way k w).length ≤ 8 := by
  have hg := gapL_len k
  have e1 := escL_len (careL 0 w) w
  have e2 := escL_len (careL way w) w
  unfold segL
  split
  · split <;> simp <;> omega
  · simp; omega

noncomputable def wPre (l c : List (Str × PV)) : Prop := (l = [] ∧ c = []) ∨ ∃ k a b e d, l = [(nm "k", k), (nm "way", a), (nm "marked", b), (nm "gap", e)] ∧ c = [(nm "care", d)]
theorem writ_loop (n : Nat) : ∀ (ws : List (List Nat)) (k : Nat) (text : List Nat) (l c : List (Str × PV)), wPre l c → (∀ j w, ws[j]? = some w → words[k + j]? = some (nS w) ∧ w.length ≤ 2) → k + ws.length ≤ 1000 → text.length + 8 * ws.length ≤ 9000 →
    ∃ l' c', forItems (ev (n + 9)) (tg wrS) wrB ((List.range' k ws.length).map fun i => PV.d (.int (Int.ofNat i))) (wM words T text l c) st = some (.nx, wM words T (text ++ txtL T k ws) l' c', st)
  | [], k, text, l, c, hp, hw, hk, ht => ⟨l, c, by rw [txtL, List.append_nil]; rfl⟩
  | w :: ws, k, text, l, c, hp, hw, hk, ht => by
    obtain ⟨tail, cel, hT, hput⟩ : ∃ tail cel, wT tail cel ∧ putT (wM words T text l c) (tg wrS) (.d (nI (k : Int))) = some (wM1 words T text k tail cel) := by
      rcases hp with ⟨rfl, rfl⟩ | ⟨k', a, b, e, d, rfl, rfl⟩
      · exact ⟨[], [], .inl ⟨rfl, rfl⟩, by kernel_rfl⟩
      · exact ⟨[(nm "way", a), (nm "marked", b), (nm "gap", e)], [(nm "care", d)], .inr ⟨_, _, _, _, rfl, rfl⟩, by kernel_rfl⟩
    obtain ⟨hw0, hl0⟩ := hw 0 w rfl
    simp only [List.length_cons] at hk ht
    have hy : (T + k) % 3 = 0 ∨ (T + k) % 3 = 1 ∨ (T + k) % 3 = 2 := by omega
    have b0 := writ0 (words := words) (T := T) (text := text) (st := st) (k := k) n hT
    have hs := segL_len ((T + k) % 3) k hl0
    have hseg : segL ((T + k) % 3) k w = if (T + k) % 3 = 0 then [34] ++ escL (careL ((T + k) % 3) w) w ++ [34] ++ (if k % 2 = 0 then [] else gapL k) else escL (careL ((T + k) % 3) w) w ++ gapL k := by
      unfold segL
      by_cases h0 : (T + k) % 3 = 0
      · rw [if_pos h0, if_pos h0, h0]
      · rw [if_neg h0, if_neg h0]
    have he := escL_len (careL ((T + k) % 3) w) w
    have htx : txtL T k (w :: ws) = segL ((T + k) % 3) k w ++ txtL T (k + 1) ws := rfl
    generalize (T + k) % 3 = way at hy b0 hs hseg he htx
    have b1 := writ1 (words := words) (T := T) (text := text) (st := st) (k := k) (w := w) n hT hy hw0 (by omega) (by omega)
    have b2 := writ2 (words := words) (T := T) (text := text) (st := st) (k := k) (w := w) n hT (way := .d (nI (way : Int))) (care := .d (nS (careL way w))) rfl hw0 (by omega) (by omega)
    have b3 := writ3 (words := words) (T := T) (text := text) (st := st) (k := k) n hT (way := .d (nI (way : Int))) (care := .d (nS (careL way w))) (mk := .d (nS (escL (careL way w) w)))
    have b4 := writ4 (words := words) (T := T) (text := text) (st := st) (k := k) n (care := .d (nS (careL way w))) (way := way) (mk := escL (careL way w) w) hy (by omega) (by omega)
    rw [← hseg] at b4
    have hb : (ev (n + 9)).B (wM1 words T text k tail cel) st wrB = some (.nx, _, st) := B_start (B_at 0 (by kernel_rfl) b0 (B_at 1 (by kernel_rfl) b1 (B_at 2 (by kernel_rfl) b2 (B_at 3 (by kernel_rfl) b3 (B_at 4 (by kernel_rfl) b4 (B_nil 5 (by kernel_rfl)))))))
    obtain ⟨l', c', ih⟩ := writ_loop n ws (k + 1) (text ++ segL way k w) _ _ (.inr ⟨.d (nI (k : Int)), .d (nI (way : Int)), .d (nS (escL (careL way w) w)), .d (nS (gapL k)), .d (nS (careL way w)), rfl, rfl⟩) (fun j u h => by
      have := hw (j + 1) u (by simpa using h)
      rw [show k + 1 + j = k + (j + 1) by omega]; exact this) (by omega) (by simp; omega)
    refine ⟨l', c', ?_⟩
    have e : (List.range' k (w :: ws).length).map (fun i => PV.d (.int (Int.ofNat i))) = .d (nI (k : Int)) :: (List.range' (k + 1) ws.length).map (fun i => PV.d (.int (Int.ofNat i))) := by
      rw [List.length_cons, List.range'_succ]; rfl
    rw [e, forItems_next hput hb, htx, ← List.append_assoc]
    exact ih

theorem written_ok (n : Nat) {ws : List (List Nat)} (hw : ∀ w ∈ ws, w.length ≤ 2) (hl : ws.length ≤ 900) : (ev (n + 11)).C (.fn 103) [.d (.list (ws.map nS)), .d (nI (T : Int))] st = some (.d (nS (txtL T 0 ws)), st) := by
  obtain ⟨l', c', h⟩ := writ_loop (words := ws.map nS) (T := T) (st := st) n ws 0 [] [] [] (.inl ⟨rfl, rfl⟩) (fun j w e => ⟨by rw [Nat.zero_add, List.getElem?_map, e]; rfl, hw w (List.mem_of_getElem? e)⟩) (by omega) (by simp; omega)
  rw [List.nil_append] at h
  have hlen : (ws.map nS).length = ws.length := List.length_map ..
  refine C_fn (fm := ⟨fS 103, [(nm "words", .d (.list (ws.map nS))), (nm "turn", .d (nI T))], [], false, 0⟩) (by kernel_rfl) ⟨wM (ws.map nS) T (txtL T 0 ws) l' c', B_start (B_at (fm1 := wM (ws.map nS) T [] [] []) (st1 := st) 0 (by kernel_rfl) (by kernel_rfl) (B_at (fm1 := wM (ws.map nS) T (txtL T 0 ws) l' c') (st1 := st) 1 (by kernel_rfl) ?_ (B_end 2 (by kernel_rfl) (by kernel_rfl) trivial)))⟩
  rw [S_for (r := ev (n + 9)) (x := .rng ws.length) (st1 := st) (it := .items (rngL ws.length)) (by kernel_rfl) ?_ (iter_rng (by unfold lim; omega)), forLoop_items]
  · have : rngL ws.length = (List.range' 0 ws.length).map fun i => PV.d (.int (Int.ofNat i)) := by
      unfold rngL; rw [List.range_eq_range']
    rw [this]
    exact h
  · refine E_call (fv := .ty "range") (vs := [.d (nI (ws.length : Int))]) (st1 := st) (st2 := st) (by kernel_rfl) (by kernel_rfl) (by kernel_rfl) (evL_one (t := kid (sv (at_ (fB 103) 1)) 1) (by kernel_rfl) ?_) (range_C (by omega))
    have := len_C (r := ev (n + 6)) (xs := ws.map nS) (st := st) (by rw [hlen]; unfold lim; omega)
    rw [hlen] at this
    exact E_call (fv := .bi "len") (vs := [.d (.list (ws.map nS))]) (st1 := st) (st2 := st) (by kernel_rfl) (by kernel_rfl) (by kernel_rfl) (by kernel_rfl) this
end
end Mine
end
section
set_option maxRecDepth 100000
namespace Mine
open PySem

/-! The plain law of the lexer: what was written is read. -/
theorem lexQ_app (rest : List Nat) : ∀ (m : Nat) (p w l : List Nat), p.length ≤ m → lexQ p = some (w, l) → lexQ (p ++ rest) = some (w, l ++ rest) := by
  intro m
  induction m with
  | zero =>
    intro p w l h e
    have : p = [] := List.eq_nil_of_length_eq_zero (by omega)
    subst this; cases e
  | succ m ih =>
    intro p w l h e
    cases p with
    | nil => cases e
    | cons c t =>
      simp only [List.length_cons] at h
      rw [List.cons_append]
      unfold lexQ at e ⊢
      split at e
      · rename_i h1; cases e; rw [if_pos h1]
      · rename_i h1
        rw [if_neg h1]
        split at e
        · rename_i h2
          rw [if_pos h2]
          cases t with
          | nil => cases e
          | cons d t' =>
            dsimp only [List.cons_append] at e ⊢
            replace e := mpd e; obtain ⟨⟨w1, l1⟩, e1, e2⟩ := e
            cases e2
            simp only [List.length_cons] at h
            rw [ih t' w1 l1 (by omega) e1]; rfl
        · rename_i h2
          rw [if_neg h2]
          replace e := mpd e; obtain ⟨⟨w1, l1⟩, e1, e2⟩ := e
          cases e2
          rw [ih t w1 l1 (by omega) e1]; rfl
theorem lexB_app (rest : List Nat) : ∀ (m : Nat) (p w l : List Nat), p.length ≤ m → lexB p = some (w, l) → lexB (p ++ rest) = some (w, l ++ rest) := by
  intro m
  induction m with
  | zero =>
    intro p w l h e
    have : p = [] := List.eq_nil_of_length_eq_zero (by omega)
    subst this; cases e
  | succ m ih =>
    intro p w l h e
    cases p with
    | nil => cases e
    | cons c t =>
      simp only [List.length_cons] at h
      rw [List.cons_append]
      unfold lexB at e ⊢
      split at e
      · rename_i h1; cases e; rw [if_pos h1]
      · rename_i h1
        rw [if_neg h1]
        split at e
        · rename_i h2
          rw [if_pos h2]
          cases t with
          | nil => cases e
          | cons d t' =>
            dsimp only [List.cons_append] at e ⊢
            replace e := mpd e; obtain ⟨⟨w1, l1⟩, e1, e2⟩ := e
            cases e2
            simp only [List.length_cons] at h
            rw [ih t' w1 l1 (by omega) e1]; rfl
        · rename_i h2
          rw [if_neg h2]
          replace e := mpd e; obtain ⟨⟨w1, l1⟩, e1, e2⟩ := e
          cases e2
          rw [ih t w1 l1 (by omega) e1]; rfl
theorem lexT_app (rest : List Nat) : ∀ (p w l : List Nat), w ≠ [] → lexT p = some (w, l) → lexT (p ++ rest) = some (w, l ++ rest) := by
  intro p
  induction p with
  | nil => intro w l h e; cases e; exact absurd rfl h
  | cons c t ih =>
    intro w l h e
    rw [List.cons_append]
    unfold lexT at e ⊢
    split at e
    · rename_i h1; rw [if_pos h1]; exact ih w l h e
    · rename_i h1
      rw [if_neg h1]
      split at e
      · rename_i h2; rw [if_pos h2]; exact lexQ_app rest _ t w l (Nat.le_refl _) e
      · rename_i h2
        rw [if_neg h2]
        split at e
        · rename_i h3
          rw [if_pos h3]
          cases t with
          | nil => cases e
          | cons d t' =>
            dsimp only [List.cons_append] at e ⊢
            replace e := mpd e; obtain ⟨⟨w1, l1⟩, e1, e2⟩ := e
            cases e2
            rw [lexB_app rest _ t' w1 l1 (Nat.le_refl _) e1]; rfl
        · rename_i h3
          rw [if_neg h3]
          replace e := mpd e; obtain ⟨⟨w1, l1⟩, e1, e2⟩ := e
          cases e2
          rw [lexB_app rest _ t w1 l1 (Nat.le_refl _) e1]; rfl
theorem lexT_skip (R : List Nat) : ∀ pw : List Nat, (∀ c ∈ pw, ws c = true) → lexT (pw ++ R) = lexT R
  | [], _ => rfl
  | c :: t, h => by
    show (if ws c = true then lexT (t ++ R) else _) = _
    rw [if_pos (h c List.mem_cons_self)]
    exact lexT_skip R t fun d hd => h d (List.mem_cons_of_mem _ hd)

noncomputable def signL : List Nat := [97, 32, 10, 34, 92, 35]
noncomputable def wordsL : List (List Nat) := (signL.flatMap fun c => signL.map fun d => [c, d]) ++ [[97], [98], [99]]
noncomputable def leftL (way k : Nat) : List Nat := if way = 0 then (if k % 2 = 0 then [] else gapL k) else (gapL k).tail
theorem lex_all : ∀ way ∈ [0, 1, 2], ∀ m ∈ [0, 1, 2, 3], ∀ w ∈ wordsL, lexT (segL way m w) = some (w, leftL way m) ∧ w ≠ [] ∧ (∀ c ∈ leftL way m, ws c = true) := by decide +kernel

theorem gapL_mod (k : Nat) : gapL k = gapL (k % 4) := by unfold gapL; rw [Nat.mod_mod]
theorem segL_mod (way k : Nat) (w : List Nat) : segL way k w = segL way (k % 4) w := by
  unfold segL
  rw [gapL_mod k, show k % 4 % 2 = k % 2 by omega]
theorem leftL_mod (way k : Nat) : leftL way k = leftL way (k % 4) := by
  unfold leftL
  rw [gapL_mod k, show k % 4 % 2 = k % 2 by omega]
theorem lex_seg {way k : Nat} {w : List Nat} (hy : way < 3) (hw : w ∈ wordsL) (rest : List Nat) : lexT (segL way k w ++ rest) = some (w, leftL way k ++ rest) ∧ w ≠ [] ∧ (∀ c ∈ leftL way k, ws c = true) := by
  have hm : k % 4 < 4 := Nat.mod_lt _ (by decide)
  have h := lex_all way (by simp; omega) (k % 4) (by simp; omega) w hw
  rw [segL_mod, leftL_mod]
  exact ⟨lexT_app rest _ _ _ h.2.1 h.1, h.2⟩

theorem lexes_txt (T : Nat) (rest : List Nat) : ∀ (ws' : List (List Nat)) (k : Nat) (pw : List Nat), (∀ c ∈ pw, ws c = true) → (∀ w ∈ ws', w ∈ wordsL) → ∃ pw', (∀ c ∈ pw', ws c = true) ∧ Lexes (pw ++ (txtL T k ws' ++ rest)) ws' (pw' ++ rest)
  | [], k, pw, hp, _ => ⟨pw, hp, rfl⟩
  | w :: ws', k, pw, hp, hw => by
    obtain ⟨h1, h2, h3⟩ := lex_seg (way := (T + k) % 3) (k := k) (Nat.mod_lt _ (by decide)) (hw w List.mem_cons_self) (txtL T (k + 1) ws' ++ rest)
    obtain ⟨pw', a, b⟩ := lexes_txt T rest ws' (k + 1) (leftL ((T + k) % 3) k) h3 fun u hu => hw u (List.mem_cons_of_mem _ hu)
    refine ⟨pw', a, h2, _, ?_, b⟩
    rw [lexT_skip _ pw hp]
    show lexT ((segL ((T + k) % 3) k w ++ txtL T (k + 1) ws') ++ rest) = _
    rw [List.append_assoc]
    exact h1
theorem txtL_app (T : Nat) : ∀ (a b : List (List Nat)) (k : Nat), txtL T k (a ++ b) = txtL T k a ++ txtL T (k + a.length) b
  | [], b, k => rfl
  | w :: a, b, k => by
    show segL _ k w ++ txtL T (k + 1) (a ++ b) = (segL _ k w ++ txtL T (k + 1) a) ++ _
    rw [txtL_app T a b (k + 1), List.append_assoc, List.length_cons, show k + 1 + a.length = k + (a.length + 1) by omega]

/-- both parts of the text -/
theorem lexes_both (T : Nat) (a b : List (List Nat)) (ha : ∀ w ∈ a, w ∈ wordsL) (hb : ∀ w ∈ b, w ∈ wordsL) : ∃ R4 Rend, Lexes (txtL T 0 (a ++ b)) a R4 ∧ Lexes R4 b Rend ∧ lexT Rend = some ([], []) := by
  obtain ⟨pw, h1, h2⟩ := lexes_txt T (txtL T (0 + a.length) b) a 0 [] (fun _ h => nomatch h) ha
  obtain ⟨pw', h3, h4⟩ := lexes_txt T [] b (0 + a.length) pw h1 hb
  rw [List.append_nil] at h4
  refine ⟨_, _, ?_, h4, ?_⟩
  · rw [txtL_app]; exact h2
  · rw [lexT_skip _ pw' h3]; rfl
theorem txtL_len (T : Nat) : ∀ (ws' : List (List Nat)) (k : Nat), (∀ w ∈ ws', w.length ≤ 2) → (txtL T k ws').length ≤ 8 * ws'.length
  | [], _, _ => Nat.le_refl _
  | w :: ws', k, h => by
    have := txtL_len T ws' (k + 1) fun u hu => h u (List.mem_cons_of_mem _ hu)
    have h2 := segL_len ((T + k) % 3) k (h w List.mem_cons_self)
    show (segL _ k w ++ txtL T (k + 1) ws').length ≤ _
    rw [List.length_append, List.length_cons]; omega
end Mine
end
section
set_option maxRecDepth 100000
namespace Mine
open PySem

/-! _ellipsis_match of a shape: its signs stand in this order. -/
noncomputable def dropTo (c : Nat) : List Nat → Option (List Nat)
  | [] => none
  | x :: t => if x = c then some t else dropTo c t
noncomputable def subw : List Nat → List Nat → Bool
  | [], _ => true
  | c :: p, R => match dropTo c R with
    | none => false
    | some R' => subw p R'
noncomputable def subP : List (List Nat) → List Nat → Bool
  | [], _ => true
  | [] :: ps, R => subP ps R
  | (c :: _) :: ps, R => match dropTo c R with
    | none => false
    | some R' => subP ps R'
theorem subP_one : ∀ (p R : List Nat) (q : List (List Nat)), subP (p.map (fun c => [c]) ++ [[]]) R = subw p R
  | [], R, _ => rfl
  | c :: p, R, q => by
    show (match dropTo c R with | none => false | some R' => subP (p.map (fun c => [c]) ++ [[]]) R') = match dropTo c R with | none => false | some R' => subw p R'
    cases dropTo c R with
    | none => rfl
    | some R' => exact subP_one p R' q

theorem find_one (c : Nat) : ∀ (R : List Nat) (i : Nat), (∃ j t, findFrom [c] R i = some (i + j) ∧ dropTo c R = some t ∧ R.drop (j + 1) = t ∧ j < R.length) ∨ (findFrom [c] R i = none ∧ dropTo c R = none)
  | [], i => .inr ⟨rfl, rfl⟩
  | x :: R, i => by
    have e : starts [c] (x :: R) = decide (x = c) := by
      show (c == x && true) = _
      by_cases h : x = c
      · subst h; simp
      · have : (c == x) = false := by simpa using fun q => h q.symm
        simp [this, h]
    unfold findFrom dropTo
    rw [e]
    by_cases h : x = c
    · exact .inl ⟨0, R, by simp [h], by simp [h], rfl, by simp⟩
    · rcases find_one c R (i + 1) with ⟨j, t, a, b, d, l⟩ | ⟨a, b⟩
      · exact .inl ⟨j + 1, t, by simp [h, a]; omega, by simp [h, b], by simpa using d, by simp; omega⟩
      · exact .inr ⟨by simp [h, a], by simp [h, b]⟩
theorem find_nil (R : List Nat) (i : Nat) : findFrom [] R i = some i := by
  cases R <;> rfl

theorem strM_find {got p : List Nat} {a : Nat} {st : St} (h : a ≤ got.length) : strM (nm "find") (mkS got) [.d (nS p), .d (nI (a : Int)), .d (nI (got.length : Int))] st = some (.d (nI (find3 got p a)), st) := by
  show (find1 (mkS got) [.d (nS p), .d (nI (a : Int)), .d (nI (got.length : Int))]).map (fun i => (PV.d (.int i), st)) = _
  have e : find1 (mkS got) [.d (nS p), .d (nI (a : Int)), .d (nI (got.length : Int))] = some (find3 got p a) := if_pos ⟨Int.natCast_nonneg _, rfl, Int.ofNat_le.mpr h⟩
  exact mapI e
theorem len_S {r : Ev} {l : List Nat} {st : St} (h : l.length ≤ lim) : (step r).C (.bi "len") [.d (nS l)] st = some (.d (nI (l.length : Int)), st) := by
  have e : (step r).C (.bi "len") [.d (nS l)] st = chk l.length (.d (nI (l.length : Int)), st) := by kernel_rfl
  rw [e]; exact chk_of h

section
variable {r : Ev} {fm fm1 fm2 : Fm} {st st1 st2 st3 : St} {s : Stmt}
noncomputable abbrev IsTupA (fm : Fm) (s : Stmt) (x y : Str) : Prop := (viewS s, plainE (kid (sv s) 0) && isCall (kid (sv s) 1) && (posN (kid (tg s) 0)).line == (posN (kid (tg s) 1)).line && fm.names.lookup x == some .local && fm.names.lookup y == some .local && x != y) =
  (some (.asgT x (posN (kid (tg s) 0)) y (posN (kid (tg s) 1)) (numE (tg s)).1 (posE (tg s)) (kid (sv s) 0) (kid (sv s) 1) (numE (sv s)).1 (posE (sv s)) (posS s)), true)
theorem S_tup (x y : Str) {u v : PyData} (hs : IsTupA fm s x y) (h1 : r.E fm st (kid (sv s) 0) = some (.d u, st1)) (h2 : r.E fm st1 (kid (sv s) 1) = some (.d v, st2)) (p1 : fm.put y (.d v) = some fm1) (p2 : fm1.put x (.d u) = some fm2) : stepS r fm st s = some (.nx, fm2, st2) :=
  bindI (f := stepZ r fm st) (congrArg Prod.fst hs) (ifI (congrArg Prod.snd hs) (bindI h1 (bindI h2 (bindI (a := u) rfl (bindI (a := v) rfl (bindI p1 (mapI (f := fun fm => (Fl.nx, fm, st2)) p2)))))))
end

noncomputable abbrev eM (want got : List Nat) (l : List (Str × PV)) : Fm := ⟨fS 49, [(nm "want", .d (nS want)), (nm "got", .d (nS got))] ++ l, [], false, 0⟩
noncomputable abbrev eL (want got : List Nat) (wsD : List PyData) (a : Int) (wv : PV) : Fm := eM want got [(nm "ws", .d (.list wsD)), (nm "endpos", .d (nI (got.length : Int))), (nm "startpos", .d (nI a)), (nm "w", wv)]
noncomputable def elS : Stmt := at_ (fB 49) 9
noncomputable abbrev elB : List Stmt := sb elS

theorem ell_loop (n : Nat) {st : St} {want got : List Nat} {wsD : List PyData} (hl : got.length ≤ 10000) : ∀ (ps : List (List Nat)) (a : Nat) (wv : PV), (∀ p ∈ ps, p = [] ∨ ∃ c, p = [c]) → a ≤ got.length →
    (subP ps (got.drop a) = true ∧ ∃ a' wv', forItems (ev (n + 8)) (tg elS) elB (ps.map fun p => .d (nS p)) (eL want got wsD a wv) st = some (.nx, eL want got wsD a' wv', st)) ∨
    (subP ps (got.drop a) = false ∧ ∃ fm', forItems (ev (n + 8)) (tg elS) elB (ps.map fun p => .d (nS p)) (eL want got wsD a wv) st = some (.rt (.d (.bool false)), fm', st))
  | [], a, wv, _, _ => .inl ⟨rfl, a, wv, rfl⟩
  | p :: ps, a, wv, hp, ha => by
    have hput : putT (eL want got wsD a wv) (tg elS) (.d (nS p)) = some (eL want got wsD a (.d (nS p))) := by kernel_rfl
    have e0 : stepS (ev (n + 7)) (eL want got wsD a (.d (nS p))) st (at_ elB 0) = some (.nx, eL want got wsD (find3 got p a) (.d (nS p)), st) :=
      S_asg (nm "startpos") (v := .d (nI (find3 got p a))) (by kernel_rfl) (E_meth (nm "find") (ov := .d (nS got)) (cal := .sm (nm "find") (mkS got)) (vs := [.d (nS p), .d (nI (a : Int)), .d (nI (got.length : Int))]) (st1 := st) (st2 := st) (by kernel_rfl) (by kernel_rfl) (by kernel_rfl) rfl (by kernel_rfl) (strM_find ha)) (by kernel_rfl)
    have hT : ∀ v : Int, (ev (n + 7)).T (eL want got wsD v (.d (nS p))) st (sv (at_ elB 1)) = some (decide (v < 0), st) := fun v => T_cmp .Lt (x := .d (nI v)) (y := .d (nI 0)) (st1 := st) (by kernel_rfl) (by kernel_rfl) (by kernel_rfl) rfl
    have e1 : ∀ j : Nat, stepS (ev (n + 7)) (eL want got wsD j (.d (nS p))) st (at_ elB 1) = some (.nx, eL want got wsD j (.d (nS p)), st) := fun j => by
      refine (S_iff (by kernel_rfl) (hT _) (decide_eq_false (by omega))).trans ?_
      kernel_rfl
    have e2 : ∀ j : Nat, stepS (ev (n + 7)) (eL want got wsD j (.d (nS p))) st (at_ elB 2) = some (.nx, eL want got wsD ((j : Int) + (p.length : Int)) (.d (nS p)), st) := fun j => by
      refine S_augI (nm "startpos") (a := j) (b := p.length) (by kernel_rfl) (by kernel_rfl) ?_ (by kernel_rfl)
      refine E_call (fv := .bi "len") (vs := [.d (nS p)]) (st1 := st) (st2 := st) (by kernel_rfl) (by kernel_rfl) (by kernel_rfl) (by kernel_rfl) (len_S ?_)
      rcases hp p List.mem_cons_self with rfl | ⟨c, rfl⟩ <;> simp [lim]
    have ih := fun a' wv' => ell_loop n (st := st) (want := want) (wsD := wsD) hl ps a' wv' fun q hq => hp q (List.mem_cons_of_mem _ hq)
    have good : ∀ j : Nat, find3 got p a = (j : Int) → forItems (ev (n + 8)) (tg elS) elB ((p :: ps).map fun p => .d (nS p)) (eL want got wsD a wv) st = forItems (ev (n + 8)) (tg elS) elB (ps.map fun p => .d (nS p)) (eL want got wsD ((j : Int) + (p.length : Int)) (.d (nS p))) st := fun j hj => by
      rw [hj] at e0
      exact forItems_next hput (B_start (B_at 0 (by kernel_rfl) e0 (B_at 1 (by kernel_rfl) (e1 j) (B_at 2 (by kernel_rfl) (e2 j) (B_nil 3 (by kernel_rfl))))))
    rcases hp p List.mem_cons_self with rfl | ⟨c, rfl⟩
    · have hj : find3 got [] a = (a : Int) := by unfold find3; rw [find_nil]
      rw [good a hj]
      have := ih a (.d (nS [])) ha
      simpa [subP] using this
    · rcases find_one c (got.drop a) a with ⟨j, t, f1, f2, f3, f4⟩ | ⟨f1, f2⟩
      · have hj : find3 got [c] a = ((a + j : Nat) : Int) := by unfold find3; rw [f1]
        rw [good (a + j) hj]
        have hlen : j + a < got.length := by simp at f4; omega
        have := ih (a + j + 1) (.d (nS [c])) (by omega)
        have ed : got.drop (a + j + 1) = t := by rw [← f3, List.drop_drop]; congr 1
        rw [ed] at this
        have es : subP ([c] :: ps) (got.drop a) = subP ps t := by
          show (match dropTo c (got.drop a) with | none => false | some R' => subP ps R') = _
          rw [f2]
        rw [es]
        exact this
      · refine .inr ⟨?_, ?_⟩
        · show (match dropTo c (got.drop a) with | none => false | some R' => subP ps R') = _
          rw [f2]
        · have hj : find3 got [c] a = -1 := by unfold find3; rw [f1]
          rw [hj] at e0
          refine ⟨eL want got wsD (-1) (.d (nS [c])), forItems_ret hput (B_start (B_at 0 (by kernel_rfl) e0 (B_end 1 (by kernel_rfl) ?_ trivial)))⟩
          refine (S_ift (by kernel_rfl) (hT (-1)) (decide_eq_true (by decide))).trans ?_
          kernel_rfl

noncomputable def shapesL : List (List Nat) := [[97], [98, 97], [99, 98, 97], [97, 98], [98], [98, 97, 99, 98], [98, 99, 97, 98], [99, 98], [97, 98, 99], [98, 99], [99]]
noncomputable def joinD : List Nat → List Nat
  | [] => []
  | [c] => [c]
  | c :: r => c :: 46 :: 46 :: 46 :: joinD r
noncomputable def wantOf (p : List Nat) : List Nat := [46, 46, 46] ++ joinD p ++ [46, 46, 46]
noncomputable def piecesOf (p : List Nat) : List (List Nat) := [] :: (p.map (fun c => [c]) ++ [[]])

theorem ell_ok (n : Nat) {st : St} {got p : List Nat} (hp : p ∈ shapesL) (hl : got.length ≤ 10000) : (ev (n + 10)).C (.fn 49) [.d (nS (wantOf p)), .d (nS got)] st = some (.d (.bool (subw p got)), st) := by
  have h1 : stepB (ev (n + 8)) (eM (wantOf p) got []) st (((fB 49).drop 0).take 3) = some (.nx, eM (wantOf p) got [(nm "ws", .d (.list ((piecesOf p).map nS)))], st) := by
    simp only [shapesL, List.mem_cons, List.not_mem_nil, or_false] at hp
    rcases hp with rfl | rfl | rfl | rfl | rfl | rfl | rfl | rfl | rfl | rfl | rfl <;> kernel_rfl
  have h2 : stepB (ev (n + 8)) (eM (wantOf p) got [(nm "ws", .d (.list ((piecesOf p).map nS))), (nm "endpos", .d (nI (got.length : Int))), (nm "startpos", .d (nI 0))]) st (((fB 49).drop 4).take 4) = some (.nx, eL (wantOf p) got ((piecesOf p).map nS) 0 (.d (nS [])), st) := by
    simp only [shapesL, List.mem_cons, List.not_mem_nil, or_false] at hp
    rcases hp with rfl | rfl | rfl | rfl | rfl | rfl | rfl | rfl | rfl | rfl | rfl <;> kernel_rfl
  have h3 : stepS (ev (n + 8)) (eM (wantOf p) got [(nm "ws", .d (.list ((piecesOf p).map nS)))]) st (at_ (fB 49) 3) = some (.nx, eM (wantOf p) got [(nm "ws", .d (.list ((piecesOf p).map nS))), (nm "endpos", .d (nI (got.length : Int))), (nm "startpos", .d (nI 0))], st) := by
    refine S_tup (nm "startpos") (nm "endpos") (u := nI 0) (v := nI (got.length : Int)) (st1 := st) (fm1 := eM (wantOf p) got [(nm "ws", .d (.list ((piecesOf p).map nS))), (nm "endpos", .d (nI (got.length : Int)))]) (by kernel_rfl) (by kernel_rfl) ?_ (by kernel_rfl) (by kernel_rfl)
    exact E_call (fv := .bi "len") (vs := [.d (nS got)]) (st1 := st) (st2 := st) (by kernel_rfl) (by kernel_rfl) (by kernel_rfl) (by kernel_rfl) (len_S (by unfold lim; omega))
  have h8 : stepS (ev (n + 8)) (eL (wantOf p) got ((piecesOf p).map nS) 0 (.d (nS []))) st (at_ (fB 49) 8) = some (.nx, eL (wantOf p) got ((piecesOf p).map nS) 0 (.d (nS [])), st) := by
    have hT : (ev (n + 8)).T (eL (wantOf p) got ((piecesOf p).map nS) 0 (.d (nS []))) st (sv (at_ (fB 49) 8)) = some (decide ((got.length : Int) < 0), st) := T_cmp .Gt (x := .d (nI 0)) (y := .d (nI (got.length : Int))) (st1 := st) (by kernel_rfl) (by kernel_rfl) (by kernel_rfl) rfl
    refine (S_iff (by kernel_rfl) hT (decide_eq_false (by omega))).trans ?_
    kernel_rfl
  have h9 : stepS (ev (n + 8)) (eL (wantOf p) got ((piecesOf p).map nS) 0 (.d (nS []))) st (at_ (fB 49) 9) = forItems (ev (n + 8)) (tg elS) elB ((piecesOf p).map fun p => .d (nS p)) (eL (wantOf p) got ((piecesOf p).map nS) ((0 : Nat) : Int) (.d (nS []))) st := by
    have hit : iterOf (.d (.list ((piecesOf p).map nS))) st = some (.items ((piecesOf p).map fun p => .d (nS p))) := by
      simp only [shapesL, List.mem_cons, List.not_mem_nil, or_false] at hp
      rcases hp with rfl | rfl | rfl | rfl | rfl | rfl | rfl | rfl | rfl | rfl | rfl <;> kernel_rfl
    rw [S_for (r := ev (n + 8)) (x := .d (.list ((piecesOf p).map nS))) (st1 := st) (it := .items ((piecesOf p).map fun p => .d (nS p))) (by kernel_rfl) (by kernel_rfl) hit, forLoop_items]
    rfl
  have hps : ∀ q ∈ piecesOf p, q = [] ∨ ∃ c, q = [c] := by
    intro q hq
    unfold piecesOf at hq
    simp only [List.mem_cons, List.mem_append, List.mem_map, List.not_mem_nil, or_false] at hq
    rcases hq with rfl | ⟨c, _, rfl⟩ | rfl
    · exact .inl rfl
    · exact .inr ⟨c, rfl⟩
    · exact .inl rfl
  have hsub : subP (piecesOf p) (got.drop 0) = subw p got := subP_one p got []
  have pre : ∀ {R}, stepB (ev (n + 8)) (eL (wantOf p) got ((piecesOf p).map nS) 0 (.d (nS []))) st ((fB 49).drop 9) = R → (ev (n + 9)).B (eM (wantOf p) got []) st (fB 49) = R := fun h =>
    B_start (B_cut 3 h1 (B_at 3 (by kernel_rfl) h3 (B_cut 4 h2 (B_at 8 (by kernel_rfl) h8 h))))
  rcases ell_loop n (st := st) (want := wantOf p) (wsD := (piecesOf p).map nS) hl (piecesOf p) 0 (.d (nS [])) hps (Nat.zero_le _) with ⟨e, a', wv', h⟩ | ⟨e, fm', h⟩
  · rw [hsub] at e
    rw [e]
    exact C_fn (fm := eM (wantOf p) got []) (by kernel_rfl) ⟨eL (wantOf p) got ((piecesOf p).map nS) a' wv', pre (B_at 9 (by kernel_rfl) (h9.trans h) (B_end 10 (by kernel_rfl) (by kernel_rfl) trivial))⟩
  · rw [hsub] at e
    rw [e]
    exact C_fn (fm := eM (wantOf p) got []) (by kernel_rfl) ⟨fm', pre (B_end 9 (by kernel_rfl) (h9.trans h) trivial)⟩
end Mine
end
section
set_option maxRecDepth 100000
namespace Mine
open PySem

/-! What is due. -/
/-- data of one layer: words, numbers -/
noncomputable def flat1 (x : PyData) : Prop := x.canLay0 = true ∧ x.depth ≤ 2
theorem layAll : ∀ xs : List PyData, (∀ x ∈ xs, flat1 x) → PyData.canLayAll0 xs = true ∧ PyData.depthAll xs ≤ 2
  | [], _ => by
    refine ⟨by unfold PyData.canLayAll0; rfl, by unfold PyData.depthAll; omega⟩
  | x :: xs, h => by
    obtain ⟨h1, h2⟩ := h x List.mem_cons_self
    obtain ⟨h3, h4⟩ := layAll xs fun y hy => h y (List.mem_cons_of_mem _ hy)
    refine ⟨by unfold PyData.canLayAll0; rw [h1, h3]; rfl, by unfold PyData.depthAll; omega⟩
theorem small_list {xs : List PyData} (h : ∀ x ∈ xs, flat1 x) : PyData.small (.list xs) = true := by
  obtain ⟨h1, h2⟩ := layAll xs h
  unfold PyData.small SeqAt.shaped
  have e1 : (PyData.list xs).canLay0 = true := by unfold PyData.canLay0; exact h1
  have e2 : (PyData.list xs).depth ≤ 64 := by unfold PyData.depth; omega
  rw [e1, decide_eq_true e2]; rfl
theorem flat_str {l : List Nat} (h : ∀ c ∈ l, c < 1000) : flat1 (nS l) := by
  refine ⟨?_, by unfold PyData.depth; omega⟩
  unfold PyData.canLay0 PyData.strOk
  simp only [List.all_toArray, List.all_eq_true, decide_eq_true_eq]
  intro c hc
  have := h c hc
  omega
theorem flat_int (i : Int) : flat1 (nI i) := ⟨by unfold PyData.canLay0; rfl, by unfold PyData.depth; omega⟩
theorem ne_nil {xs : List PyData} (h : ∀ x ∈ xs, flat1 x) : cmpD .NotEq (.list xs) (.list []) = some (!xs.isEmpty) := by
  show (if PyData.small (.list xs) && PyData.small (.list []) then some (!PyData.eqv (.list xs) (.list [])) else none) = _
  rw [small_list h, small_list (xs := []) (fun _ hx => nomatch hx)]
  show some (!PyData.eqv (.list xs) (.list [])) = _
  unfold PyData.eqv
  cases xs with
  | nil => unfold PyData.eqvAll; rfl
  | cons x t => unfold PyData.eqvAll; rfl

noncomputable abbrev shT (k : Nat) : List (List (List Nat)) := ([[[[97]]], [[[98, 97]]], [[[99, 98, 97]]], [[[97, 98]]], [[[98]], [[98, 97, 99, 98], [98, 99, 97, 98]]], [[[99, 98]]], [[[97, 98, 99]]], [[[98, 99]]], [[[99]]]] : List (List (List (List Nat)))).getD k []
noncomputable abbrev shD (sh : List (List Nat)) : PyData := .list (sh.map nS)
noncomputable abbrev shapesD : PyData := .list ((List.range 9).map fun k => .list ((shT k).map shD))
noncomputable def fits (got : List Nat) (sh : List (List Nat)) : Bool := sh.any fun one => subw one got
noncomputable def fitN (got : List Nat) (k : Nat) : Nat := ((shT k).filter (fits got)).length
noncomputable def dueI (got : List Nat) (k : Nat) : Int := max 0 ((k : Int) / 3 - (k : Int) % 3) + fitN got k

noncomputable abbrev dM (got : List Nat) (q : Nat) (l : List (Str × PV)) : Fm := ⟨fS 125, [(nm "shapes", .d shapesD), (nm "due", .obj q)] ++ l, [(nm "letters", .d (nS got))], false, 0⟩
noncomputable def dT (tail : List (Str × PV)) : Prop := tail = [] ∨ ∃ v, tail = [(nm "shape", v)]
noncomputable def duS : Stmt := at_ (fB 125) 2
noncomputable abbrev duB : List Stmt := sb duS
noncomputable def shS : Stmt := at_ duB 1
noncomputable abbrev shB : List Stmt := sb shS
noncomputable abbrev onM (got : List Nat) (e : Expr) (l : List (Str × PV)) : Fm := ⟨(cScope e).names, l, [(nm "letters", .d (nS got))], false, 0⟩

section
variable {st : St} {got : List Nat} {q : Nat}
/-- which of a shape's words fit -/
theorem fitC (n : Nat) (hl : got.length ≤ 10000) {fm : Fm} {sh : List (List Nat)} (hs : ∀ one ∈ sh, one ∈ shapesL) (hlen : sh.length ≤ 5) {e : Expr} (he : e = kid (sv (at_ shB 0)) 0) (hok : COk fm e) (hi : (ev (n + 13)).E fm st (cG e 0).iter = some (.d (shD sh), st)) (hcf : cFm fm e = onM got e []) :
    comp (ev (n + 13)) fm st (cElt e) (cGens e) (cScope e) = some (.d (.list ((sh.filter fun one => subw one got).map nS)), st) := by
  subst he
  let e := kid (sv (at_ shB 0)) 0
  let fmOf : Option PV → Fm := fun o => match o with
    | none => onM got e []
    | some v => onM got e [(nm "one", v)]
  let p : PV → List PyData := fun v => match v with
    | .d (.str s) => if subw (sl s) got then [nS (sl s)] else []
    | _ => []
  have turn : ∀ v ∈ (sh.map nS).map PV.d, ∀ o xs, xs.length ≤ lim → compTurn1 (ev (n + 13)) (cG e 0).target (cG e 0).ifs (fun c => compBody (ev (n + 13)) (cElt e) (cGens e).tail c) v (fmOf o, st, xs) = some (fmOf (some v), st, xs ++ p v) := by
    intro v hv o xs hx
    obtain ⟨x, hx1, rfl⟩ := List.mem_map.mp hv
    obtain ⟨one, hone, rfl⟩ := List.mem_map.mp hx1
    have hput : putT (fmOf o) (cG e 0).target (.d (nS one)) = some (onM got e [(nm "one", .d (nS one))]) := by cases o <;> kernel_rfl
    have hcall := ell_ok (n + 1) (st := st) (got := got) (hs one hone) hl
    have hargs : evL (ev (n + 11)) (onM got e [(nm "one", .d (nS one))]) st (kids (kid ((cG e 0).ifs.getD 0 e) 0)).tail = some ([.d (nS (wantOf one)), .d (nS got)], st) := by
      have := hs one hone
      simp only [shapesL, List.mem_cons, List.not_mem_nil, or_false] at this
      rcases this with rfl | rfl | rfl | rfl | rfl | rfl | rfl | rfl | rfl | rfl | rfl <;> kernel_rfl
    have hT : (ev (n + 13)).T (onM got e [(nm "one", .d (nS one))]) st ((cG e 0).ifs.getD 0 e) = some (subw one got, st) :=
      T_cmp .Is (x := .d (.bool (subw one got))) (y := .d (.bool true)) (st1 := st) (by kernel_rfl) (E_call (fv := .fn 49) (vs := [.d (nS (wantOf one)), .d (nS got)]) (st1 := st) (st2 := st) (by kernel_rfl) (by kernel_rfl) (by kernel_rfl) hargs hcall) (by kernel_rfl) rfl
    have hifs : evIfs (ev (n + 13)) (onM got e [(nm "one", .d (nS one))]) st (cG e 0).ifs = some (subw one got, st) := ifs_one hT
    show compTurn1 _ _ _ (fun c => compBody _ _ [] c) _ _ = some (onM got e [(nm "one", .d (nS one))], st, xs ++ if subw one got then [nS one] else [])
    cases hb : subw one got with
    | true =>
      rw [hb] at hifs
      exact turn_of hput hifs (by kernel_rfl) hx
    | false =>
      rw [hb] at hifs
      rw [if_neg Bool.false_ne_true, List.append_nil]
      exact turn_no hput hifs
  have fl : ∀ sh : List (List Nat), ((sh.map nS).map PV.d).flatMap p = (sh.filter fun one => subw one got).map nS := by
    intro sh
    induction sh with
    | nil => rfl
    | cons c t ih =>
      rw [List.map_cons, List.map_cons, List.flatMap_cons, ih, List.filter_cons]
      show (if subw c got then [nS c] else []) ++ _ = _
      cases subw c got <;> rfl
  have hlen2 : (sh.filter fun one => subw one got).length ≤ sh.length := List.length_filter_le ..
  obtain ⟨o', h⟩ := over_map fmOf p st ((sh.map nS).map PV.d) none [] turn (by rw [fl]; simp [lim]; omega)
  rw [fl, List.nil_append] at h
  refine comp_of (it := .items ((sh.map nS).map PV.d)) (fm' := fmOf o') hok hi (iter_list (by simp [lim]; omega)) ?_
  rw [hcf]
  exact h

theorem shapesL_small : ∀ one ∈ shapesL, ∀ c ∈ one, c < 1000 := by decide
theorem shape_loop (n : Nat) (hl : got.length ≤ 10000) {kv : PV} : ∀ (shs : List (List (List Nat))) (f : Nat) (tail : List (Str × PV)), dT tail → (∀ sh ∈ shs, (∀ one ∈ sh, one ∈ shapesL) ∧ sh.length ≤ 5) →
    ∃ tail', dT tail' ∧ forItems (ev (n + 16)) (tg shS) shB (shs.map fun sh => .d (shD sh)) (dM got q ([(nm "k", kv), (nm "fit", .d (nI (f : Int)))] ++ tail)) st = some (.nx, dM got q ([(nm "k", kv), (nm "fit", .d (nI ((f + (shs.filter (fits got)).length : Nat) : Int)))] ++ tail'), st)
  | [], f, tail, ht, _ => ⟨tail, ht, rfl⟩
  | sh :: shs, f, tail, ht, hs => by
    obtain ⟨h1, h2⟩ := hs sh List.mem_cons_self
    have hput : putT (dM got q ([(nm "k", kv), (nm "fit", .d (nI (f : Int)))] ++ tail)) (tg shS) (.d (shD sh)) = some (dM got q [(nm "k", kv), (nm "fit", .d (nI (f : Int))), (nm "shape", .d (shD sh))]) := by
      rcases ht with rfl | ⟨v, rfl⟩ <;> kernel_rfl
    have hc := fitC n hl (fm := dM got q [(nm "k", kv), (nm "fit", .d (nI (f : Int))), (nm "shape", .d (shD sh))]) (st := st) h1 h2 rfl (by kernel_rfl) (by kernel_rfl) (by kernel_rfl)
    have hflat : ∀ x ∈ (sh.filter fun one => subw one got).map nS, flat1 x := by
      intro x hx
      obtain ⟨one, hone, rfl⟩ := List.mem_map.mp hx
      exact flat_str (shapesL_small one (h1 one (List.mem_filter.mp hone).1))
    have hT : (ev (n + 15)).T (dM got q [(nm "k", kv), (nm "fit", .d (nI (f : Int))), (nm "shape", .d (shD sh))]) st (sv (at_ shB 0)) = some (!((sh.filter fun one => subw one got).map nS).isEmpty, st) :=
      T_cmp .NotEq (x := .d (.list ((sh.filter fun one => subw one got).map nS))) (y := .d (.list [])) (st1 := st) (by kernel_rfl) (E_comp (by kernel_rfl) hc) (by kernel_rfl) (ne_nil hflat)
    have he : (!((sh.filter fun one => subw one got).map nS).isEmpty) = fits got sh := by
      unfold fits
      clear hT hc hflat hs h1 h2 hput
      induction sh with
      | nil => rfl
      | cons c t ih =>
        rw [List.filter_cons, List.any_cons]
        cases subw c got with
        | true => simp
        | false => simpa using ih
    rw [he] at hT
    have ih := fun f' => shape_loop n hl (kv := kv) shs f' [(nm "shape", .d (shD sh))] (.inr ⟨_, rfl⟩) fun x hx => hs x (List.mem_cons_of_mem _ hx)
    cases hf : fits got sh with
    | true =>
      obtain ⟨tail', ht', e⟩ := ih (f + 1)
      refine ⟨tail', ht', ?_⟩
      have hb : (ev (n + 16)).B (dM got q [(nm "k", kv), (nm "fit", .d (nI (f : Int))), (nm "shape", .d (shD sh))]) st shB = some (.nx, dM got q [(nm "k", kv), (nm "fit", .d (nI ((f : Int) + 1))), (nm "shape", .d (shD sh))], st) := by
        refine B_start (B_at (fm1 := dM got q [(nm "k", kv), (nm "fit", .d (nI ((f : Int) + 1))), (nm "shape", .d (shD sh))]) (st1 := st) 0 (by kernel_rfl) ?_ (B_nil 1 (by kernel_rfl)))
        refine (S_ift (by kernel_rfl) hT hf).trans ?_
        kernel_rfl
      rw [List.map_cons, forItems_next hput hb]
      have e2 : f + ((sh :: shs).filter (fits got)).length = f + 1 + (shs.filter (fits got)).length := by
        rw [List.filter_cons, hf, if_pos rfl, List.length_cons]; omega
      rw [e2]
      exact e
    | false =>
      obtain ⟨tail', ht', e⟩ := ih f
      refine ⟨tail', ht', ?_⟩
      have hb : (ev (n + 16)).B (dM got q [(nm "k", kv), (nm "fit", .d (nI (f : Int))), (nm "shape", .d (shD sh))]) st shB = some (.nx, dM got q [(nm "k", kv), (nm "fit", .d (nI (f : Int))), (nm "shape", .d (shD sh))], st) := by
        refine B_start (B_at (fm1 := dM got q [(nm "k", kv), (nm "fit", .d (nI (f : Int))), (nm "shape", .d (shD sh))]) (st1 := st) 0 (by kernel_rfl) ?_ (B_nil 1 (by kernel_rfl)))
        refine (S_iff (by kernel_rfl) hT hf).trans ?_
        kernel_rfl
      rw [List.map_cons, forItems_next hput hb]
      have e2 : ((sh :: shs).filter (fits got)).length = (shs.filter (fits got)).length := by
        rw [List.filter_cons, hf, if_neg Bool.false_ne_true]
      rw [e2]
      exact e

theorem shT_ok : ∀ k ∈ List.range 9, ∀ sh ∈ shT k, (∀ one ∈ sh, one ∈ shapesL) ∧ sh.length ≤ 5 := by decide
noncomputable def dP (l : List (Str × PV)) : Prop := l = [] ∨ ∃ a b tail, dT tail ∧ l = (nm "k", a) :: (nm "fit", b) :: tail
theorem due_loop (n : Nat) (hl : got.length ≤ 10000) {pre : St} (hq : q = pre.length) : ∀ (ks : List Nat) (l : List (Str × PV)) (ds : List PyData), dP l → (∀ k ∈ ks, k ∈ List.range 9) → ds.length + ks.length ≤ 100 →
    ∃ l', forItems (ev (n + 18)) (tg duS) duB (ks.map fun (k : Nat) => PV.d (nI (k : Int))) (dM got q l) (pre ++ [.list ds]) = some (.nx, dM got q l', pre ++ [.list (ds ++ ks.map fun (k : Nat) => nI (dueI got k))])
  | [], l, ds, _, _, _ => ⟨l, by rw [List.map_nil, List.map_nil, List.append_nil]; rfl⟩
  | k :: ks, l, ds, hp, hk, hlen => by
    have hk0 := hk k List.mem_cons_self
    simp only [List.length_cons] at hlen
    obtain ⟨tail, hput, hb0, hT⟩ : ∃ tail, putT (dM got q l) (tg duS) (.d (nI (k : Int))) = some (dM got q ((nm "k", .d (nI (k : Int))) :: tail)) ∧ (∃ tail2, dT tail2 ∧ stepS (ev (n + 17)) (dM got q ((nm "k", .d (nI (k : Int))) :: tail)) (pre ++ [.list ds]) (at_ duB 0) = some (.nx, dM got q ([(nm "k", .d (nI (k : Int))), (nm "fit", .d (nI 0))] ++ tail2), pre ++ [.list ds])) ∧ True := by
      rcases hp with rfl | ⟨a, b, tail, ht, rfl⟩
      · exact ⟨[], by kernel_rfl, ⟨[], .inl rfl, by kernel_rfl⟩, trivial⟩
      · exact ⟨(nm "fit", b) :: tail, by kernel_rfl, ⟨tail, ht, by kernel_rfl⟩, trivial⟩
    obtain ⟨tail2, ht2, hb0⟩ := hb0
    obtain ⟨tail3, ht3, h1⟩ := shape_loop (n + 1) hl (st := pre ++ [.list ds]) (q := q) (kv := .d (nI (k : Int))) (shT k) 0 tail2 ht2 (shT_ok k hk0)
    rw [Nat.zero_add] at h1
    change forItems _ _ _ _ _ _ = some (.nx, dM got q ([(nm "k", .d (nI (k : Int))), (nm "fit", .d (nI (fitN got k : Int)))] ++ tail3), _) at h1
    have hb1 : stepS (ev (n + 17)) (dM got q ([(nm "k", .d (nI (k : Int))), (nm "fit", .d (nI 0))] ++ tail2)) (pre ++ [.list ds]) (at_ duB 1) = some (.nx, dM got q ([(nm "k", .d (nI (k : Int))), (nm "fit", .d (nI (fitN got k : Int)))] ++ tail3), pre ++ [.list ds]) := by
      have hi : (ev (n + 17)).E (dM got q ([(nm "k", .d (nI (k : Int))), (nm "fit", .d (nI 0))] ++ tail2)) (pre ++ [.list ds]) (sv (at_ duB 1)) = some (.d (.list ((shT k).map shD)), pre ++ [.list ds]) := by
        simp only [List.mem_range] at hk0
        match k, hk0 with
        | 0, _ => kernel_rfl
        | 1, _ => kernel_rfl
        | 2, _ => kernel_rfl
        | 3, _ => kernel_rfl
        | 4, _ => kernel_rfl
        | 5, _ => kernel_rfl
        | 6, _ => kernel_rfl
        | 7, _ => kernel_rfl
        | 8, _ => kernel_rfl
      have hlk : ((shT k).map shD).length ≤ lim := by
        simp only [List.mem_range] at hk0
        have : ∀ k ∈ List.range 9, (shT k).length ≤ 5 := by decide
        have := this k (by simpa using hk0)
        rw [List.length_map]; unfold lim; omega
      rw [S_for (r := ev (n + 17)) (st1 := pre ++ [.list ds]) (by kernel_rfl) hi (iter_list hlk), forLoop_items]
      have e : ((shT k).map shD).map PV.d = (shT k).map fun sh => .d (shD sh) := by rw [List.map_map]; rfl
      rw [e]
      exact h1
    have hget : (pre ++ [MO.list ds])[q]? = some (.list ds) := by rw [hq]; exact get_at pre _ []
    have hset : (pre ++ [MO.list ds]).set q (.list (ds ++ [nI (dueI got k)])) = pre ++ [.list (ds ++ [nI (dueI got k)])] := by rw [hq]; exact set_snoc pre _ _ []
    have hb2 : stepS (ev (n + 17)) (dM got q ([(nm "k", .d (nI (k : Int))), (nm "fit", .d (nI (fitN got k : Int)))] ++ tail3)) (pre ++ [.list ds]) (at_ duB 2) = some (.nx, dM got q ([(nm "k", .d (nI (k : Int))), (nm "fit", .d (nI (fitN got k : Int)))] ++ tail3), pre ++ [.list (ds ++ [nI (dueI got k)])]) := by
      refine S_exp (by kernel_rfl) (E_meth (nm "append") (ov := .obj q) (cal := .lm (nm "append") q) (vs := [.d (nI (dueI got k))]) (st1 := pre ++ [.list ds]) (st2 := pre ++ [.list ds]) (by kernel_rfl) (by kernel_rfl) (methOf_list hget (by kernel_rfl)) rfl ?_ ?_)
      · have e : dueI got k = (if (0 : Int) < (k : Int) / 3 - (k : Int) % 3 then (k : Int) / 3 - (k : Int) % 3 else 0) + (fitN got k : Int) := by
          unfold dueI
          split <;> omega
        rw [e]
        kernel_rfl
      · show lstM (nm "append") q [.d (nI (dueI got k))] _ = _
        rw [lstM_app hget (by unfold lim; omega), hset]
    obtain ⟨l', ih⟩ := due_loop n hl hq ks _ (ds ++ [nI (dueI got k)]) (.inr ⟨.d (nI (k : Int)), .d (nI (fitN got k : Int)), tail3, ht3, rfl⟩) (fun x hx => hk x (List.mem_cons_of_mem _ hx)) (by simp; omega)
    refine ⟨l', ?_⟩
    have hb : (ev (n + 18)).B (dM got q ((nm "k", .d (nI (k : Int))) :: tail)) (pre ++ [.list ds]) duB = some (.nx, dM got q ([(nm "k", .d (nI (k : Int))), (nm "fit", .d (nI (fitN got k : Int)))] ++ tail3), pre ++ [.list (ds ++ [nI (dueI got k)])]) :=
      B_start (B_at 0 (by kernel_rfl) hb0 (B_at 1 (by kernel_rfl) hb1 (B_at 2 (by kernel_rfl) hb2 (B_nil 3 (by kernel_rfl)))))
    rw [List.map_cons, List.map_cons, forItems_next hput hb]
    rw [List.append_assoc] at ih
    exact ih

theorem due_ok (n : Nat) (hl : got.length ≤ 10000) (st : St) : (ev (n + 20)).C (.fn 125) [.d (nS got)] st = some (.obj st.length, st ++ [.list ((List.range 9).map fun (k : Nat) => nI (dueI got k))]) := by
  obtain ⟨l', h⟩ := due_loop n hl (pre := st) (q := st.length) rfl (List.range 9) [] [] (.inl rfl) (fun _ h => h) (by decide)
  refine C_fn (fm := ⟨fS 125, [], [(nm "letters", .d (nS got))], false, 0⟩) (by kernel_rfl) ⟨dM got st.length l', B_start (B_at (fm1 := ⟨fS 125, [(nm "shapes", .d shapesD)], [(nm "letters", .d (nS got))], false, 0⟩) (st1 := st) 0 (by kernel_rfl) (by kernel_rfl) (B_at (fm1 := dM got st.length []) (st1 := st ++ [.list []]) 1 (by kernel_rfl) (by kernel_rfl) (B_at (fm1 := dM got st.length l') (st1 := st ++ [.list ((List.range 9).map fun (k : Nat) => nI (dueI got k))]) 2 (by kernel_rfl) ?_ (B_end 3 (by kernel_rfl) (by kernel_rfl) trivial))))⟩
  rw [S_for (r := ev (n + 18)) (x := .rng 9) (st1 := st ++ [.list []]) (it := .items (rngL 9)) (by kernel_rfl) (by kernel_rfl) (by kernel_rfl), forLoop_items]
  exact h
end
end Mine
end
section
set_option maxRecDepth 100000
namespace Mine
open PySem

/-! The letters ahead; the ranks. -/
noncomputable def perms4 : List (List Nat) := [[0,1,2,3],[0,1,3,2],[0,2,1,3],[0,2,3,1],[0,3,1,2],[0,3,2,1],[1,0,2,3],[1,0,3,2],[1,2,0,3],[1,2,3,0],[1,3,0,2],[1,3,2,0],[2,0,1,3],[2,0,3,1],[2,1,0,3],[2,1,3,0],[2,3,0,1],[2,3,1,0],[3,0,1,2],[3,0,2,1],[3,1,0,2],[3,1,2,0],[3,2,0,1],[3,2,1,0]]
/-- a plain sorting's letters, taken back -/
noncomputable def leadL (q : List Nat) : List Nat := go [0, 1, 2, 0, 1, 0] q []
where
  go : List Nat → List Nat → List Nat → List Nat
    | [], _, l => l
    | k :: ks, q, l => match q with
      | [a, b, c, d] => match k with
        | 0 => if a < b then go ks [b, a, c, d] (97 :: l) else go ks q l
        | 1 => if b < c then go ks [a, c, b, d] (98 :: l) else go ks q l
        | _ => if c < d then go ks [a, b, d, c] (99 :: l) else go ks q l
      | _ => l
noncomputable abbrev ranksD (q : List Nat) : PyData := .list (q.map fun (i : Nat) => nI (i : Int))
theorem lead_ok (n : Nat) (st : St) {q : List Nat} (h : q ∈ perms4) : (ev (n + 11)).C (.fn 120) [.d (ranksD q)] st = some (.d (nS (leadL q)), st) := by
  simp only [perms4, List.mem_cons, List.not_mem_nil, or_false] at h
  rcases h with rfl|rfl|rfl|rfl|rfl|rfl|rfl|rfl|rfl|rfl|rfl|rfl|rfl|rfl|rfl|rfl|rfl|rfl|rfl|rfl|rfl|rfl|rfl|rfl <;> kernel_rfl

theorem over_idx {ι : Type} {f : PV → CSt → Option CSt} (fmOf : Option ι → Fm) (g : ι → PV) (p : ι → List PyData) (st : St) : ∀ (is : List ι) (o : Option ι) (xs : List PyData),
    (∀ i ∈ is, ∀ o xs, xs.length ≤ lim → f (g i) (fmOf o, st, xs) = some (fmOf (some i), st, xs ++ p i)) → (xs ++ is.flatMap p).length ≤ lim → ∃ o', overItems f (is.map g) (fmOf o, st, xs) = some (fmOf o', st, xs ++ is.flatMap p)
  | [], o, xs, _, _ => ⟨o, by simp [overItems]⟩
  | v :: vs, o, xs, h, hl => by
    have h1 := h v List.mem_cons_self o xs (by simp only [List.length_append] at hl; omega)
    obtain ⟨o', h2⟩ := over_idx fmOf g p st vs (some v) (xs ++ p v) (fun u hu => h u (List.mem_cons_of_mem _ hu)) (by simpa using hl)
    refine ⟨o', ?_⟩
    rw [List.map_cons]
    unfold overItems
    rw [h1]
    simp only [Option.bind_some, h2, List.flatMap_cons, List.append_assoc]
theorem overL_idx {ι : Type} {f : PV → CSt → Option CSt} (fmOf : Option ι → Fm) (g : ι → PyData) (p : ι → List PyData) (st : St) (q : Nat) {ys : List PyData} (hq : st[q]? = some (.list ys)) (hy : ys.length ≤ lim) : ∀ (is : List ι) (k fuel : Nat) (o : Option ι) (xs : List PyData), ys.drop k = is.map g → is.length < fuel →
    (∀ i ∈ is, ∀ o xs, xs.length ≤ lim → f (.d (g i)) (fmOf o, st, xs) = some (fmOf (some i), st, xs ++ p i)) → (xs ++ is.flatMap p).length ≤ lim → ∃ o', overList f q fuel k (fmOf o, st, xs) = some (fmOf o', st, xs ++ is.flatMap p)
  | is, k, 0, o, xs, hd, hf, h, hl => absurd hf (Nat.not_lt_zero _)
  | [], k, fuel + 1, o, xs, hd, hf, h, hl => by
    refine ⟨o, ?_⟩
    unfold overList
    have : ys[k]? = none := by rw [List.getElem?_eq_none_iff]; exact List.drop_eq_nil_iff.mp hd
    simp only [hq, hy, if_true, this, List.flatMap_nil, List.append_nil]
  | v :: vs, k, fuel + 1, o, xs, hd, hf, h, hl => by
    have h1 := h v List.mem_cons_self o xs (by simp only [List.length_append] at hl; omega)
    have e0 : ys[k]? = some (g v) := by
      have := congrArg (·[0]?) hd
      simpa using this
    have e1 : ys.drop (k + 1) = vs.map g := by
      have := congrArg (List.drop 1) hd
      simpa using this
    simp only [List.length_cons] at hf
    obtain ⟨o', h2⟩ := overL_idx fmOf g p st q hq hy vs (k + 1) fuel (some v) (xs ++ p v) e1 (by omega) (fun u hu => h u (List.mem_cons_of_mem _ hu)) (by simpa using hl)
    refine ⟨o', ?_⟩
    unfold overList
    simp only [hq, hy, if_true, e0, h1, Option.bind_some, h2, List.flatMap_cons, List.append_assoc]
theorem filt_map {ι : Type} (c : ι → Bool) (g : ι → PyData) : ∀ is : List ι, (is.flatMap fun i => if c i then [g i] else []) = (is.filter c).map g
  | [] => rfl
  | i :: is => by
    rw [List.flatMap_cons, filt_map c g is, List.filter_cons]
    cases c i <;> rfl

noncomputable abbrev raB (X : Nat → List PyData) (is : List Nat) : List PyData := is.map fun i => .tuple (X i)
noncomputable abbrev I4 : List Nat := [0, 1, 2, 3]
noncomputable def raS : Stmt := at_ (fB 113) 1
/-- the comprehension over the keys, and the one within -/
noncomputable def raC1 : Expr := kid (sv (at_ (sb raS) 0)) 1
noncomputable def raC2 : Expr := kid (cElt raC1) 1
noncomputable def raC3 : Expr := sv (at_ (fB 113) 2)
noncomputable def raC4 : Expr := kid (cElt raC3) 1
noncomputable abbrev raM1 (X : Nat → List PyData) (j : Nat) (l : List (Str × PV)) : Fm := ⟨(cScope raC1).names, [], [(nm "row", .d (.tuple (X j))), (nm "rows", .d (.list (raB X I4)))] ++ l, false, 0⟩
noncomputable abbrev raM2 (X : Nat → List PyData) (j : Nat) (k w : Int) (l : List (Str × PV)) : Fm := ⟨(cScope raC2).names, l, [(nm "k", .d (nI k)), (nm "row", .d (.tuple (X j))), (nm "way", .d (nI w))], false, 0⟩
noncomputable abbrev raM (X : Nat → List PyData) (ks : List (Nat × Int)) (q : Nat) (l : List (Str × PV)) : Fm := ⟨fS 113, [(nm "keys", .d (.list (ks.map kD)))], [(nm "rows", .d (.list (raB X I4))), (nm "ahead", .obj q)] ++ l, false, 0⟩

noncomputable def lessK (lt : Nat → Nat → Nat → Bool) (kw : Nat × Int) (i j : Nat) : Bool := if decide (0 < kw.2) then lt kw.1 i j else lt kw.1 j i
noncomputable def cntK (lt : Nat → Nat → Nat → Bool) (kw : Nat × Int) (j : Nat) : Nat := (I4.filter fun i => lessK lt kw i j).length
noncomputable def aheadK (lt : Nat → Nat → Nat → Bool) (ks : List (Nat × Int)) (j : Nat) : List Int := ks.map fun kw => (cntK lt kw j : Int)
noncomputable def rankK (lt : Nat → Nat → Nat → Bool) (ks : List (Nat × Int)) (j : Nat) : Nat := (I4.filter fun i => ltInts (aheadK lt ks i) (aheadK lt ks j)).length

/-- what is known of the rows' places -/
noncomputable def RowsOk (X : Nat → List PyData) (lt : Nat → Nat → Nat → Bool) (ks : List (Nat × Int)) : Prop :=
  ∀ i ∈ I4, ∀ j ∈ I4, ∀ kw ∈ ks, kw.1 < 1000 ∧ ∃ x y, (X i)[kw.1]? = some x ∧ (X j)[kw.1]? = some y ∧ cmpD .Lt x y = some (lt kw.1 i j) ∧ cmpD .Gt x y = some (lt kw.1 j i)

section
variable {X : Nat → List PyData} {lt : Nat → Nat → Nat → Bool} {ks : List (Nat × Int)} {st : St}

theorem rank_cnt (n : Nat) (H : RowsOk X lt ks) {kw : Nat × Int} (hkw : kw ∈ ks) {j : Nat} (hj : j ∈ I4) :
    (ev (n + 6)).E (raM1 X j [(nm "k", .d (nI (kw.1 : Int))), (nm "way", .d (nI kw.2))]) st (cElt raC1) = some (.d (nI (cntK lt kw j : Int)), st) := by
  obtain ⟨k, w⟩ := kw
  dsimp only
  let fmOf : Option Nat → Fm := fun o => match o with
    | none => raM2 X j k w []
    | some i => raM2 X j k w [(nm "one", .d (.tuple (X i)))]
  let p : Nat → List PyData := fun i => if lessK lt (k, w) i j then [.tuple (X i)] else []
  have turn : ∀ i ∈ I4, ∀ o xs, xs.length ≤ lim → compTurn1 (ev (n + 4)) (cG raC2 0).target (cG raC2 0).ifs (fun c => compBody (ev (n + 4)) (cElt raC2) (cGens raC2).tail c) (.d (.tuple (X i))) (fmOf o, st, xs) = some (fmOf (some i), st, xs ++ p i) := by
    intro i hi o xs hx
    obtain ⟨hk, x, y, hx1, hy1, hlt, hgt⟩ := H i hi j hj (k, w) hkw
    dsimp only at hk hx1 hy1 hlt hgt
    have hput : putT (fmOf o) (cG raC2 0).target (.d (.tuple (X i))) = some (raM2 X j k w [(nm "one", .d (.tuple (X i)))]) := by cases o <;> kernel_rfl
    have hE : ∀ (e : Expr) (m : Nat) (z : List PyData) (v : PyData), IsIdx e → (ev (m + 1)).E (raM2 X j k w [(nm "one", .d (.tuple (X i)))]) st (kid e 0) = some (.d (.tuple z), st) → (ev (m + 1)).E (raM2 X j k w [(nm "one", .d (.tuple (X i)))]) st (kid e 1) = some (.d (nI (k : Int)), st) → z[k]? = some v →
        (ev (m + 2)).E (raM2 X j k w [(nm "one", .d (.tuple (X i)))]) st e = some (.d v, st) := fun e m z v h1 h2 h3 h4 =>
      E_idx (ov := .d (.tuple z)) (k := k) (x := .tuple z) (st1 := st) h1 h2 h3 rfl (idxT h4 hk)
    have hT : (ev (n + 4)).T (raM2 X j k w [(nm "one", .d (.tuple (X i)))]) st ((cG raC2 0).ifs.getD 0 raC2) = some (lessK lt (k, w) i j, st) := by
      have hc : (ev (n + 3)).T (raM2 X j k w [(nm "one", .d (.tuple (X i)))]) st (kid ((cG raC2 0).ifs.getD 0 raC2) 0) = some (decide (0 < w), st) := T_cmp .Gt (x := .d (nI w)) (y := .d (nI 0)) (st1 := st) (by kernel_rfl) (by kernel_rfl) (by kernel_rfl) rfl
      refine (T_if (by kernel_rfl) hc).trans ?_
      unfold lessK
      dsimp only
      cases decide (0 < w) with
      | true =>
        rw [if_pos rfl, if_pos rfl]
        exact T_cmp .Lt (x := .d x) (y := .d y) (st1 := st) (by kernel_rfl) (hE _ n (X i) x (by kernel_rfl) (by kernel_rfl) (by kernel_rfl) hx1) (hE _ n (X j) y (by kernel_rfl) (by kernel_rfl) (by kernel_rfl) hy1) hlt
      | false =>
        rw [if_neg Bool.false_ne_true, if_neg Bool.false_ne_true]
        exact T_cmp .Gt (x := .d x) (y := .d y) (st1 := st) (by kernel_rfl) (hE _ n (X i) x (by kernel_rfl) (by kernel_rfl) (by kernel_rfl) hx1) (hE _ n (X j) y (by kernel_rfl) (by kernel_rfl) (by kernel_rfl) hy1) hgt
    have hifs : evIfs (ev (n + 4)) (raM2 X j k w [(nm "one", .d (.tuple (X i)))]) st (cG raC2 0).ifs = some (lessK lt (k, w) i j, st) := ifs_one hT
    show compTurn1 _ _ _ (fun c => compBody _ _ [] c) _ _ = some (raM2 X j k w [(nm "one", .d (.tuple (X i)))], st, xs ++ if lessK lt (k, w) i j then [.tuple (X i)] else [])
    cases hb : lessK lt (k, w) i j with
    | true =>
      rw [hb] at hifs
      exact turn_of hput hifs (by kernel_rfl) hx
    | false =>
      rw [hb] at hifs
      rw [if_neg Bool.false_ne_true, List.append_nil]
      exact turn_no hput hifs
  have hfl : I4.flatMap p = (I4.filter fun i => lessK lt (k, w) i j).map fun i => .tuple (X i) := filt_map (fun i => lessK lt (k, w) i j) (fun i => .tuple (X i)) I4
  have hle : (I4.filter fun i => lessK lt (k, w) i j).length ≤ 4 := List.length_filter_le _ I4
  obtain ⟨o', h⟩ := over_idx fmOf (fun i => .d (.tuple (X i))) p st I4 none [] turn (by rw [hfl]; simp [lim]; omega)
  rw [hfl, List.nil_append] at h
  refine E_call (fv := .bi "len") (vs := [.d (.list ((I4.filter fun i => lessK lt (k, w) i j).map fun i => .tuple (X i)))]) (st1 := st) (st2 := st) (by kernel_rfl) (by kernel_rfl) (by kernel_rfl) (evL_one (t := raC2) (by kernel_rfl) (E_comp (by kernel_rfl) (comp_of (x := .d (.list (raB X I4))) (it := .items (I4.map fun i => .d (.tuple (X i)))) (fm' := fmOf o') (st1 := st) (by kernel_rfl) (by kernel_rfl) (by kernel_rfl) ?_))) ?_
  · have : cFm (raM1 X j [(nm "k", .d (nI (k : Int))), (nm "way", .d (nI w))]) raC2 = raM2 X j k w [] := by kernel_rfl
    rw [this]
    exact h
  · have := len_C (r := ev (n + 4)) (xs := (I4.filter fun i => lessK lt (k, w) i j).map fun i => PyData.tuple (X i)) (st := st) (by simp [lim]; omega)
    rw [List.length_map] at this
    exact this

noncomputable abbrev aheadD (lt : Nat → Nat → Nat → Bool) (ks : List (Nat × Int)) (j : Nat) : PyData := .list ((aheadK lt ks j).map nI)
theorem ahead_map (j : Nat) : (aheadK lt ks j).map nI = ks.map fun kw => nI (cntK lt kw j : Int) := by
  unfold aheadK; rw [List.map_map]; rfl
theorem rank_row (n : Nat) (H : RowsOk X lt ks) (hl : ks.length ≤ 1000) {j : Nat} (hj : j ∈ I4) {q : Nat} :
    (ev (n + 7)).E (raM X ks q [(nm "row", .d (.tuple (X j)))]) st raC1 = some (.d (aheadD lt ks j), st) := by
  let fmOf : Option (Nat × Int) → Fm := fun o => match o with
    | none => raM1 X j []
    | some kw => raM1 X j [(nm "k", .d (nI (kw.1 : Int))), (nm "way", .d (nI kw.2))]
  have turn : ∀ kw ∈ ks, ∀ o xs, xs.length ≤ lim → compTurn1 (ev (n + 6)) (cG raC1 0).target (cG raC1 0).ifs (fun c => compBody (ev (n + 6)) (cElt raC1) (cGens raC1).tail c) (.d (kD kw)) (fmOf o, st, xs) = some (fmOf (some kw), st, xs ++ [nI (cntK lt kw j : Int)]) := by
    intro kw hkw o xs hx
    have hput : putT (fmOf o) (cG raC1 0).target (.d (kD kw)) = some (raM1 X j [(nm "k", .d (nI (kw.1 : Int))), (nm "way", .d (nI kw.2))]) := by cases o <;> kernel_rfl
    show compTurn1 _ _ _ (fun c => compBody _ _ [] c) _ _ = _
    exact turn_of hput rfl (rank_cnt n H hkw hj) hx
  obtain ⟨o', h⟩ := over_idx fmOf (fun kw => .d (kD kw)) (fun kw => [nI (cntK lt kw j : Int)]) st ks none [] turn (by rw [List.nil_append, ← List.map_eq_flatMap, List.length_map]; unfold lim; omega)
  rw [List.nil_append, ← List.map_eq_flatMap] at h
  refine E_comp (by kernel_rfl) (comp_of (x := .d (.list (ks.map kD))) (it := .items (ks.map fun kw => .d (kD kw))) (fm' := fmOf o') (st1 := st) (by kernel_rfl) (by kernel_rfl) ?_ ?_)
  · have := iter_list (st := st) (xs := ks.map kD) (by simp [lim]; omega)
    rw [List.map_map] at this
    exact this
  · have : cFm (raM X ks q [(nm "row", .d (.tuple (X j)))]) raC1 = raM1 X j [] := by kernel_rfl
    rw [this, ahead_map]
    exact h

noncomputable def raP (l : List (Str × PV)) : Prop := l = [] ∨ ∃ v, l = [(nm "row", v)]
theorem rank_loop (n : Nat) (H : RowsOk X lt ks) (hl : ks.length ≤ 1000) {pre : St} {q : Nat} (hq : q = pre.length) : ∀ (js : List Nat) (l : List (Str × PV)) (ds : List PyData), raP l → (∀ j ∈ js, j ∈ I4) → ds.length + js.length ≤ 100 →
    ∃ l', raP l' ∧ forItems (ev (n + 9)) (tg raS) (sb raS) (js.map fun j => PV.d (.tuple (X j))) (raM X ks q l) (pre ++ [.list ds]) = some (.nx, raM X ks q l', pre ++ [.list (ds ++ js.map (aheadD lt ks))])
  | [], l, ds, hp, _, _ => ⟨l, hp, by rw [List.map_nil, List.map_nil, List.append_nil]; rfl⟩
  | j :: js, l, ds, hp, hj, hlen => by
    have hj0 := hj j List.mem_cons_self
    simp only [List.length_cons] at hlen
    have hput : putT (raM X ks q l) (tg raS) (.d (.tuple (X j))) = some (raM X ks q [(nm "row", .d (.tuple (X j)))]) := by
      rcases hp with rfl | ⟨v, rfl⟩ <;> kernel_rfl
    have hget : (pre ++ [MO.list ds])[q]? = some (.list ds) := by rw [hq]; exact get_at pre _ []
    have hset : (pre ++ [MO.list ds]).set q (.list (ds ++ [aheadD lt ks j])) = pre ++ [.list (ds ++ [aheadD lt ks j])] := by rw [hq]; exact set_snoc pre _ _ []
    have hb : (ev (n + 9)).B (raM X ks q [(nm "row", .d (.tuple (X j)))]) (pre ++ [.list ds]) (sb raS) = some (.nx, raM X ks q [(nm "row", .d (.tuple (X j)))], pre ++ [.list (ds ++ [aheadD lt ks j])]) := by
      refine B_start (B_at (fm1 := raM X ks q [(nm "row", .d (.tuple (X j)))]) (st1 := pre ++ [.list (ds ++ [aheadD lt ks j])]) 0 (by kernel_rfl) (S_exp (by kernel_rfl) ?_) (B_nil 1 (by kernel_rfl)))
      refine E_meth (nm "append") (ov := .obj q) (cal := .lm (nm "append") q) (vs := [.d (aheadD lt ks j)]) (st1 := pre ++ [.list ds]) (st2 := pre ++ [.list ds]) (by kernel_rfl) (by kernel_rfl) (methOf_list hget (by kernel_rfl)) rfl (evL_one (t := raC1) (by kernel_rfl) (rank_row n H hl hj0)) ?_
      show lstM (nm "append") q [.d (aheadD lt ks j)] _ = _
      rw [lstM_app hget (by unfold lim; omega), hset]
    obtain ⟨l', hp', ih⟩ := rank_loop n H hl hq js _ (ds ++ [aheadD lt ks j]) (.inr ⟨_, rfl⟩) (fun x hx => hj x (List.mem_cons_of_mem _ hx)) (by simp; omega)
    refine ⟨l', hp', ?_⟩
    rw [List.map_cons, List.map_cons, forItems_next hput hb]
    rw [List.append_assoc] at ih
    exact ih

theorem allInts_map : ∀ l : List Int, allInts (l.map nI) = some l
  | [] => rfl
  | x :: r => by
    show (allInts (r.map nI)).map _ = _
    rw [allInts_map r]; rfl
noncomputable abbrev raM3 (q : Nat) (l : List (Str × PV)) : Fm := ⟨(cScope raC3).names, [], [(nm "ahead", .obj q)] ++ l, false, 0⟩
noncomputable abbrev raM4 (one : PyData) (l : List (Str × PV)) : Fm := ⟨(cScope raC4).names, l, [(nm "one", .d one)], false, 0⟩
theorem rank_one (n : Nat) {q : Nat} (hq : st[q]? = some (.list (I4.map (aheadD lt ks)))) (j : Nat) :
    (ev (n + 8)).E (raM3 q [(nm "one", .d (aheadD lt ks j))]) st (cElt raC3) = some (.d (nI (rankK lt ks j : Int)), st) := by
  let fmOf : Option Nat → Fm := fun o => match o with
    | none => raM4 (aheadD lt ks j) []
    | some i => raM4 (aheadD lt ks j) [(nm "other", .d (aheadD lt ks i))]
  let c : Nat → Bool := fun i => ltInts (aheadK lt ks i) (aheadK lt ks j)
  let p : Nat → List PyData := fun i => if c i then [aheadD lt ks i] else []
  have turn : ∀ i ∈ I4, ∀ o xs, xs.length ≤ lim → compTurn1 (ev (n + 6)) (cG raC4 0).target (cG raC4 0).ifs (fun c => compBody (ev (n + 6)) (cElt raC4) (cGens raC4).tail c) (.d (aheadD lt ks i)) (fmOf o, st, xs) = some (fmOf (some i), st, xs ++ p i) := by
    intro i _ o xs hx
    have hput : putT (fmOf o) (cG raC4 0).target (.d (aheadD lt ks i)) = some (raM4 (aheadD lt ks j) [(nm "other", .d (aheadD lt ks i))]) := by cases o <;> kernel_rfl
    have hT : (ev (n + 6)).T (raM4 (aheadD lt ks j) [(nm "other", .d (aheadD lt ks i))]) st ((cG raC4 0).ifs.getD 0 raC4) = some (c i, st) := by
      refine T_cmp .Lt (x := .d (aheadD lt ks i)) (y := .d (aheadD lt ks j)) (st1 := st) (by kernel_rfl) (by kernel_rfl) (by kernel_rfl) ?_
      exact bindI (f := fun a => (allInts ((aheadK lt ks j).map nI)).map fun b => ltInts a b) (allInts_map _) (mapI (allInts_map _))
    have hifs : evIfs (ev (n + 6)) (raM4 (aheadD lt ks j) [(nm "other", .d (aheadD lt ks i))]) st (cG raC4 0).ifs = some (c i, st) := ifs_one hT
    show compTurn1 _ _ _ (fun c => compBody _ _ [] c) _ _ = some (raM4 (aheadD lt ks j) [(nm "other", .d (aheadD lt ks i))], st, xs ++ if c i then [aheadD lt ks i] else [])
    cases hb : c i with
    | true =>
      rw [hb] at hifs
      exact turn_of hput hifs (by kernel_rfl) hx
    | false =>
      rw [hb] at hifs
      rw [if_neg Bool.false_ne_true, List.append_nil]
      exact turn_no hput hifs
  have hfl : I4.flatMap p = (I4.filter c).map (aheadD lt ks) := filt_map c (aheadD lt ks) I4
  have hle : (I4.filter c).length ≤ 4 := List.length_filter_le _ I4
  obtain ⟨o', h⟩ := overL_idx fmOf (aheadD lt ks) p st q hq (by simp [lim]) I4 0 1000 none [] rfl (by decide) turn (by rw [hfl]; simp [lim]; omega)
  rw [hfl, List.nil_append] at h
  refine E_call (fv := .bi "len") (vs := [.d (.list ((I4.filter c).map (aheadD lt ks)))]) (st1 := st) (st2 := st) (by kernel_rfl) (by kernel_rfl) (by kernel_rfl) (evL_one (t := raC4) (by kernel_rfl) (E_comp (by kernel_rfl) (comp_of (x := .obj q) (it := .mlist q 0) (fm' := fmOf o') (st1 := st) (by kernel_rfl) (by kernel_rfl) (bindI hq rfl) ?_))) ?_
  · have : cFm (raM3 q [(nm "one", .d (aheadD lt ks j))]) raC4 = raM4 (aheadD lt ks j) [] := by kernel_rfl
    rw [this]
    exact h
  · have := len_C (r := ev (n + 6)) (xs := (I4.filter c).map (aheadD lt ks)) (st := st) (by simp [lim]; omega)
    rw [List.length_map] at this
    exact this

theorem ranks_ok (n : Nat) (H : RowsOk X lt ks) (hl : ks.length ≤ 1000) : (ev (n + 11)).C (.fn 113) [.d (.list (raB X I4)), .d (.list (ks.map kD))] st = some (.d (.list (I4.map fun j => nI (rankK lt ks j : Int))), st ++ [.list (I4.map (aheadD lt ks))]) := by
  obtain ⟨l', hp', h⟩ := rank_loop (X := X) n H hl (pre := st) (q := st.length) rfl I4 [] [] (.inl rfl) (fun _ h => h) (by decide)
  rw [List.nil_append] at h
  have hq : (st ++ [MO.list (I4.map (aheadD lt ks))])[st.length]? = some (.list (I4.map (aheadD lt ks))) := get_at st _ []
  refine C_fn (fm := ⟨fS 113, [(nm "keys", .d (.list (ks.map kD)))], [(nm "rows", .d (.list (raB X I4)))], false, 0⟩) (by kernel_rfl) ⟨raM X ks st.length l', B_start (B_at (fm1 := raM X ks st.length []) (st1 := st ++ [.list []]) 0 (by kernel_rfl) (by kernel_rfl) (B_at (fm1 := raM X ks st.length l') (st1 := st ++ [.list (I4.map (aheadD lt ks))]) 1 (by kernel_rfl) ?_ (B_end 2 (by kernel_rfl) (S_ret (by kernel_rfl) ?_) trivial)))⟩
  · rw [S_for (r := ev (n + 9)) (x := .d (.list (raB X I4))) (st1 := st ++ [.list []]) (it := .items (I4.map fun j => PV.d (.tuple (X j)))) (by kernel_rfl) (by kernel_rfl) (by kernel_rfl), forLoop_items]
    exact h
  · generalize st ++ [MO.list (I4.map (aheadD lt ks))] = st' at hq
    let fmOf : Option Nat → Fm := fun o => match o with
      | none => raM3 st.length []
      | some j => raM3 st.length [(nm "one", .d (aheadD lt ks j))]
    have turn : ∀ j ∈ I4, ∀ o xs, xs.length ≤ lim → compTurn1 (ev (n + 8)) (cG raC3 0).target (cG raC3 0).ifs (fun c => compBody (ev (n + 8)) (cElt raC3) (cGens raC3).tail c) (.d (aheadD lt ks j)) (fmOf o, st', xs) = some (fmOf (some j), st', xs ++ [nI (rankK lt ks j : Int)]) := by
      intro j _ o xs hx
      have hput : putT (fmOf o) (cG raC3 0).target (.d (aheadD lt ks j)) = some (raM3 st.length [(nm "one", .d (aheadD lt ks j))]) := by cases o <;> kernel_rfl
      show compTurn1 _ _ _ (fun c => compBody _ _ [] c) _ _ = _
      exact turn_of hput rfl (rank_one n hq j) hx
    obtain ⟨o', h⟩ := overL_idx fmOf (aheadD lt ks) (fun j => [nI (rankK lt ks j : Int)]) st' st.length hq (by simp [lim]) I4 0 1000 none [] rfl (by decide) turn (by simp [lim])
    rw [List.nil_append, ← List.map_eq_flatMap] at h
    refine E_comp ?_ (comp_of (x := .obj st.length) (it := .mlist st.length 0) (fm' := fmOf o') (st1 := st') ?_ ?_ (bindI hq rfl) ?_)
    · rcases hp' with rfl | ⟨v, rfl⟩ <;> kernel_rfl
    · rcases hp' with rfl | ⟨v, rfl⟩ <;> kernel_rfl
    · rcases hp' with rfl | ⟨v, rfl⟩ <;> kernel_rfl
    · have : cFm (raM X ks st.length l') raC3 = raM3 st.length [] := by rcases hp' with rfl | ⟨v, rfl⟩ <;> kernel_rfl
      rw [show cFm (raM X ks st.length l') (sv (at_ (fB 113) 2)) = raM3 st.length [] from this]
      exact h
end
end Mine
end
section
set_option maxRecDepth 100000
namespace Mine
open PySem

/-! The plain law of the order: ranks and compare. -/
structure Swo (L : Nat → Nat → Bool) : Prop where
  irr : ∀ i, L i i = false
  tr : ∀ i j k, L i j = true → L j k = true → L i k = true
  ntr : ∀ i j k, L i k = true → L i j = true ∨ L j k = true
theorem Swo.flip {L : Nat → Nat → Bool} (h : Swo L) : Swo fun i j => L j i := ⟨h.irr, fun i j k a b => h.tr k j i b a, fun i j k a => (h.ntr k j i a).symm⟩

theorem filt_le {α : Type} {p q : α → Bool} : ∀ (l : List α), (∀ x ∈ l, p x = true → q x = true) → (l.filter p).length ≤ (l.filter q).length
  | [], _ => Nat.le_refl _
  | x :: l, h => by
    have ih := filt_le l fun y hy => h y (List.mem_cons_of_mem _ hy)
    have hx := h x List.mem_cons_self
    rw [List.filter_cons, List.filter_cons]
    cases hp : p x with
    | true => rw [hx hp]; simp only [if_true, List.length_cons]; omega
    | false => cases q x <;> simp <;> omega
theorem filt_lt {α : Type} {p q : α → Bool} : ∀ (l : List α) (a : α), (∀ x ∈ l, p x = true → q x = true) → a ∈ l → p a = false → q a = true → (l.filter p).length < (l.filter q).length
  | [], a, _, ha, _, _ => nomatch ha
  | x :: l, a, h, ha, hp, hq => by
    have hx := h x List.mem_cons_self
    have hl : ∀ y ∈ l, p y = true → q y = true := fun y hy => h y (List.mem_cons_of_mem _ hy)
    rw [List.filter_cons, List.filter_cons]
    rcases List.mem_cons.mp ha with rfl | ha
    · rw [hp, hq]
      have := filt_le l hl
      simp only [Bool.false_eq_true, if_true, if_false, List.length_cons]; omega
    · have ih := filt_lt l a hl ha hp hq
      cases hp' : p x with
      | true => rw [hx hp']; simp only [if_true, List.length_cons]; omega
      | false => cases q x <;> simp <;> omega

noncomputable def cntL (L : Nat → Nat → Bool) (j : Nat) : Nat := (I4.filter fun i => L i j).length
theorem cnt_iff {L : Nat → Nat → Bool} (h : Swo L) {i j : Nat} (hi : i ∈ I4) : L i j = decide (cntL L i < cntL L j) := by
  cases hl : L i j with
  | true =>
    have : cntL L i < cntL L j := filt_lt I4 i (fun x _ hx => h.tr x i j hx hl) hi (h.irr i) hl
    exact (decide_eq_true this).symm
  | false =>
    have : cntL L j ≤ cntL L i := filt_le I4 fun x _ hx => (h.ntr x i j hx).resolve_right (by rw [hl]; exact Bool.false_ne_true)
    exact (decide_eq_false (by omega)).symm

theorem ltI_lt {x y : Int} {a b : List Int} (h : x < y) : ltInts (x :: a) (y :: b) = true := by unfold ltInts; rw [if_neg (by omega)]; exact decide_eq_true h
theorem ltI_gt {x y : Int} {a b : List Int} (h : y < x) : ltInts (x :: a) (y :: b) = false := by unfold ltInts; rw [if_neg (by omega)]; exact decide_eq_false (by omega)
theorem ltI_eq {x : Int} {a b : List Int} : ltInts (x :: a) (x :: b) = ltInts a b := by rw [ltInts, if_pos rfl]
theorem ltInts_irr : ∀ a : List Int, ltInts a a = false
  | [] => rfl
  | x :: r => by unfold ltInts; rw [if_pos rfl]; exact ltInts_irr r
theorem ltInts_tr : ∀ a b c : List Int, ltInts a b = true → ltInts b c = true → ltInts a c = true
  | [], b, c, h1, h2 => by
    cases c with
    | nil => cases b <;> cases h2
    | cons z c => rfl
  | x :: a, b, c, h1, h2 => by
    cases b with
    | nil => cases h1
    | cons y b =>
      cases c with
      | nil => cases h2
      | cons z c =>
        unfold ltInts at h1 h2 ⊢
        by_cases e1 : x = y
        · subst e1
          rw [if_pos rfl] at h1
          by_cases e2 : x = z
          · rw [if_pos e2] at h2 ⊢; exact ltInts_tr a b c h1 h2
          · rw [if_neg e2] at h2 ⊢; exact h2
        · rw [if_neg e1, decide_eq_true_eq] at h1
          by_cases e2 : y = z
          · subst e2
            rw [if_neg e1]; exact decide_eq_true h1
          · rw [if_neg e2, decide_eq_true_eq] at h2
            rw [if_neg (by omega)]; exact decide_eq_true (by omega)
theorem ltInts_tot : ∀ a b : List Int, a.length = b.length → a ≠ b → ltInts a b = true ∨ ltInts b a = true
  | [], b, h, n => by
    cases b with
    | nil => exact absurd rfl n
    | cons y b => cases h
  | x :: a, b, h, n => by
    cases b with
    | nil => cases h
    | cons y b =>
      unfold ltInts
      by_cases e : x = y
      · subst e
        rw [if_pos rfl, if_pos rfl]
        exact ltInts_tot a b (by simpa using h) fun e => n (by rw [e])
      · rw [if_neg e, if_neg fun e' => e e'.symm, decide_eq_true_eq, decide_eq_true_eq]
        omega

section
variable {lt : Nat → Nat → Nat → Bool}
theorem lessK_swo (hs : ∀ k, Swo (lt k)) (kw : Nat × Int) : Swo (lessK lt kw) := by
  unfold lessK
  cases decide (0 < kw.2)
  · simpa using (hs kw.1).flip
  · simpa using hs kw.1
theorem cntK_eq (kw : Nat × Int) (j : Nat) : cntK lt kw j = cntL (lessK lt kw) j := rfl

theorem cmpK_eq (hs : ∀ k, Swo (lt k)) {i j : Nat} (hi : i ∈ I4) (hj : j ∈ I4) : ∀ ks : List (Nat × Int), (∀ kw ∈ ks, kw.2 = 1 ∨ kw.2 = -1) →
    cmpK (fun k => lt k i j) (fun k => lt k j i) ks = if ltInts (aheadK lt ks i) (aheadK lt ks j) then -1 else if ltInts (aheadK lt ks j) (aheadK lt ks i) then 1 else 0
  | [], _ => rfl
  | (k, w) :: ks, hw => by
    have ih := cmpK_eq hs hi hj ks fun kw h => hw kw (List.mem_cons_of_mem _ h)
    have s := lessK_swo hs (k, w)
    have e1 := cnt_iff s (j := j) hi
    have e2 := cnt_iff s (j := i) hj
    have a1 : ∀ i, aheadK lt ((k, w) :: ks) i = (cntL (lessK lt (k, w)) i : Int) :: aheadK lt ks i := fun i => rfl
    rw [a1, a1]
    unfold cmpK
    have c3 : cntL (lessK lt (k, w)) i < cntL (lessK lt (k, w)) j ∨ cntL (lessK lt (k, w)) j < cntL (lessK lt (k, w)) i ∨ cntL (lessK lt (k, w)) i = cntL (lessK lt (k, w)) j := by omega
    rcases hw (k, w) List.mem_cons_self with hw | hw <;> (dsimp only at hw; subst hw)
    · have l1 : lessK lt (k, 1) i j = lt k i j := rfl
      have l2 : lessK lt (k, 1) j i = lt k j i := rfl
      rw [l1] at e1
      rw [l2] at e2
      rw [e1, e2, ih]
      rcases c3 with c | c | c
      · rw [decide_eq_true c, if_pos rfl, ltI_lt (by omega), if_pos rfl]
      · rw [decide_eq_false (show ¬ cntL (lessK lt (k, 1)) i < cntL (lessK lt (k, 1)) j by omega), if_neg Bool.false_ne_true, decide_eq_true c, if_pos rfl, ltI_gt (by omega), if_neg Bool.false_ne_true, ltI_lt (by omega), if_pos rfl]
      · rw [decide_eq_false (show ¬ cntL (lessK lt (k, 1)) i < cntL (lessK lt (k, 1)) j by omega), if_neg Bool.false_ne_true, decide_eq_false (show ¬ cntL (lessK lt (k, 1)) j < cntL (lessK lt (k, 1)) i by omega), if_neg Bool.false_ne_true, c, ltI_eq, ltI_eq]
    · have l1 : lessK lt (k, -1) i j = lt k j i := rfl
      have l2 : lessK lt (k, -1) j i = lt k i j := rfl
      rw [l1] at e1
      rw [l2] at e2
      rw [e1, e2, ih]
      rcases c3 with c | c | c
      · rw [decide_eq_false (show ¬ cntL (lessK lt (k, -1)) j < cntL (lessK lt (k, -1)) i by omega), if_neg Bool.false_ne_true, decide_eq_true c, if_pos rfl, ltI_lt (by omega), if_pos rfl]
      · rw [decide_eq_true c, if_pos rfl, ltI_gt (by omega), if_neg Bool.false_ne_true, ltI_lt (by omega), if_pos rfl]
        rfl
      · rw [decide_eq_false (show ¬ cntL (lessK lt (k, -1)) j < cntL (lessK lt (k, -1)) i by omega), if_neg Bool.false_ne_true, decide_eq_false (show ¬ cntL (lessK lt (k, -1)) i < cntL (lessK lt (k, -1)) j by omega), if_neg Bool.false_ne_true, c, ltI_eq, ltI_eq]

theorem rank_lt {ks : List (Nat × Int)} {i j : Nat} (hi : i ∈ I4) (h : ltInts (aheadK lt ks i) (aheadK lt ks j) = true) : rankK lt ks i < rankK lt ks j :=
  filt_lt I4 i (fun x _ hx => ltInts_tr _ _ _ hx h) hi (ltInts_irr _) h
theorem rank_le {ks : List (Nat × Int)} {j : Nat} (hj : j ∈ I4) : rankK lt ks j < 4 :=
  filt_lt (q := fun _ => true) I4 j (fun _ _ _ => rfl) hj (ltInts_irr _) rfl

/-- the sign of a difference of ranks -/
noncomputable def sgnR (a b : Nat) : Int := max (-1) (min 1 ((a : Int) - (b : Int)))
theorem cmp_rank (hs : ∀ k, Swo (lt k)) {ks : List (Nat × Int)} (hw : ∀ kw ∈ ks, kw.2 = 1 ∨ kw.2 = -1) (hd : ∀ i ∈ I4, ∀ j ∈ I4, i ≠ j → aheadK lt ks i ≠ aheadK lt ks j) {i j : Nat} (hi : i ∈ I4) (hj : j ∈ I4) :
    cmpK (fun k => lt k i j) (fun k => lt k j i) ks = sgnR (rankK lt ks i) (rankK lt ks j) := by
  rw [cmpK_eq hs hi hj ks hw]
  have hlen : (aheadK lt ks i).length = (aheadK lt ks j).length := by simp [aheadK]
  by_cases e : i = j
  · subst e
    rw [ltInts_irr]
    simp [sgnR]; omega
  · rcases ltInts_tot _ _ hlen (hd i hi j hj e) with h | h
    · have := rank_lt hi h
      rw [if_pos h]
      unfold sgnR; omega
    · have := rank_lt hj h
      have h' : ltInts (aheadK lt ks i) (aheadK lt ks j) = false := by
        cases q : ltInts (aheadK lt ks i) (aheadK lt ks j) with
        | false => rfl
        | true => have := ltInts_tr _ _ _ q h; rw [ltInts_irr] at this; cases this
      rw [h', if_neg Bool.false_ne_true, if_pos h]
      unfold sgnR; omega
theorem ranks_perm {ks : List (Nat × Int)} (hd : ∀ i ∈ I4, ∀ j ∈ I4, i ≠ j → aheadK lt ks i ≠ aheadK lt ks j) : I4.map (rankK lt ks) ∈ perms4 := by
  have inj : ∀ i ∈ I4, ∀ j ∈ I4, i ≠ j → rankK lt ks i ≠ rankK lt ks j := by
    intro i hi j hj e
    rcases ltInts_tot _ _ (by simp [aheadK]) (hd i hi j hj e) with h | h
    · have := rank_lt hi h; omega
    · have := rank_lt hj h; omega
  have fin : ∀ a ∈ I4, ∀ b ∈ I4, ∀ c ∈ I4, ∀ d ∈ I4, a ≠ b → a ≠ c → a ≠ d → b ≠ c → b ≠ d → c ≠ d → [a, b, c, d] ∈ perms4 := by decide
  have m : ∀ j ∈ I4, rankK lt ks j ∈ I4 := fun j hj => by
    have := rank_le (lt := lt) (ks := ks) hj
    simp; omega
  exact fin _ (m 0 (by simp)) _ (m 1 (by simp)) _ (m 2 (by simp)) _ (m 3 (by simp)) (inj 0 (by simp) 1 (by simp) (by decide)) (inj 0 (by simp) 2 (by simp) (by decide)) (inj 0 (by simp) 3 (by simp) (by decide)) (inj 1 (by simp) 2 (by simp) (by decide)) (inj 1 (by simp) 3 (by simp) (by decide)) (inj 2 (by simp) 3 (by simp) (by decide))
end
end Mine
end
section
set_option maxRecDepth 100000
namespace Mine
open PySem

/-! The plain law of the network: the lines' rows tell which shapes fit. -/
noncomputable def swq (k : Nat) : List Nat → List Nat
  | [a, b, c, d] => match k with
    | 0 => if b < a then [b, a, c, d] else [a, b, c, d]
    | 1 => if c < b then [a, c, b, d] else [a, b, c, d]
    | _ => if d < c then [a, b, d, c] else [a, b, c, d]
  | l => l
noncomputable def adv (l : Nat) : List Nat → List Nat
  | [] => []
  | c :: p => if l = c then p else c :: p
noncomputable abbrev Sta := List Nat × List (List Nat)
noncomputable def stp (l : Nat) (s : Sta) : Sta := (swq (l - 97) s.1, s.2.map (adv l))
noncomputable def advs (ls : List Nat) (p : List Nat) : List Nat := ls.foldl (fun p l => adv l p) p
noncomputable def ini (q : List Nat) : Sta := (q, shapesL.map (advs (leadL q)))
noncomputable def bfs : Nat → List Sta → List Sta → List Sta
  | 0, _, seen => seen
  | _ + 1, [], seen => seen
  | n + 1, s :: t, seen => if seen.contains s then bfs n t seen else bfs n (stp 97 s :: stp 98 s :: stp 99 s :: t) (s :: seen)
noncomputable def reach : List Sta := bfs 300 (perms4.map ini) []
noncomputable def cntQ (q : List Nat) (k : Nat) : Nat := ((q.take (k / 3 + 1)).filter fun x => decide (x < 3 - k % 3)).length
noncomputable def fitG (f : List Nat → Bool) (k : Nat) : Nat := ((shT k).filter fun sh => sh.any f).length
noncomputable def getP (ps : List (List Nat)) (p : List Nat) : Bool := match (shapesL.zip ps).lookup p with
  | some r => r.isEmpty
  | none => false
noncomputable def fitP (ps : List (List Nat)) (k : Nat) : Nat := fitG (getP ps) k
noncomputable def good (s : Sta) : Bool := (List.range 9).all fun k => decide ((cntQ s.1 k : Int) = max 0 ((k : Int) / 3 - (k : Int) % 3) + fitP s.2 k)
theorem reach_ini : ∀ q ∈ perms4, ini q ∈ reach := by decide +kernel
theorem reach_stp : ∀ s ∈ reach, stp 97 s ∈ reach ∧ stp 98 s ∈ reach ∧ stp 99 s ∈ reach := by decide +kernel
theorem reach_good : ∀ s ∈ reach, good s = true := by decide +kernel

noncomputable def runQ (ls : List Nat) (q : List Nat) : List Nat := ls.foldl (fun q l => swq (l - 97) q) q
theorem reach_run : ∀ (ls : List Nat) (s : Sta), s ∈ reach → (∀ l ∈ ls, l = 97 ∨ l = 98 ∨ l = 99) → (runQ ls s.1, s.2.map (advs ls)) ∈ reach
  | [], s, h, _ => by
    have : (runQ [] s.1, s.2.map (advs [])) = s := by
      show (s.1, s.2.map fun p => p) = s
      rw [List.map_id']
    rw [this]; exact h
  | l :: ls, s, h, hl => by
    have h1 := reach_stp s h
    have h2 : stp l s ∈ reach := by
      rcases hl l List.mem_cons_self with rfl | rfl | rfl
      · exact h1.1
      · exact h1.2.1
      · exact h1.2.2
    have := reach_run ls (stp l s) h2 fun x hx => hl x (List.mem_cons_of_mem _ hx)
    have e : (runQ ls (stp l s).1, (stp l s).2.map (advs ls)) = (runQ (l :: ls) s.1, s.2.map (advs (l :: ls))) := by
      unfold stp
      dsimp only
      rw [List.map_map]
      rfl
    rw [← e]; exact this

theorem subw_adv (l : Nat) (R : List Nat) : ∀ p : List Nat, subw p (l :: R) = subw (adv l p) R
  | [] => rfl
  | c :: p => by
    show (match (if l = c then some R else dropTo c R) with | none => false | some R' => subw p R') = subw (if l = c then p else c :: p) R
    by_cases h : l = c
    · rw [if_pos h, if_pos h]
    · rw [if_neg h, if_neg h]; rfl
theorem subw_nil (p : List Nat) : subw p [] = p.isEmpty := by cases p <;> rfl
theorem subw_advs : ∀ (ls p : List Nat), subw p ls = (advs ls p).isEmpty
  | [], p => subw_nil p
  | l :: ls, p => by rw [subw_adv, subw_advs ls]; rfl
theorem advs_app (a b p : List Nat) : advs (a ++ b) p = advs b (advs a p) := by unfold advs; rw [List.foldl_append]

theorem shT_in : ∀ k ∈ List.range 9, ∀ sh ∈ shT k, ∀ p ∈ sh, p ∈ shapesL := by decide +kernel
theorem lookup_zip (g : List Nat → List Nat) : ∀ (l : List (List Nat)) {p : List Nat}, p ∈ l → (l.zip (l.map g)).lookup p = some (g p)
  | [], _, h => nomatch h
  | a :: l, p, h => by
    show (match p == a with | true => some (g a) | false => (l.zip (l.map g)).lookup p) = _
    cases c : p == a with
    | true => rw [beq_iff_eq.mp c]
    | false =>
      refine lookup_zip g l ((List.mem_cons.mp h).resolve_left fun e => ?_)
      rw [e, beq_self_eq_true] at c
      exact Bool.noConfusion c
theorem any_in {f g : List Nat → Bool} : ∀ {l : List (List Nat)}, (∀ p ∈ l, f p = g p) → l.any f = l.any g
  | [], _ => rfl
  | a :: l, h => by rw [List.any_cons, List.any_cons, h a List.mem_cons_self, any_in fun p hp => h p (List.mem_cons_of_mem _ hp)]
theorem fitN_eq (got : List Nat) (k : Nat) (hk : k < 9) : fitN got k = fitP (shapesL.map (advs got)) k := by
  refine congrArg List.length (List.filter_congr fun sh hs => any_in fun p hp => ?_)
  unfold getP
  rw [lookup_zip (advs got) shapesL (shT_in k (List.mem_range.mpr hk) sh hs p hp)]
  exact subw_advs got p

/-- what is counted is what is due -/
theorem net_law {q : List Nat} (hq : q ∈ perms4) {ls : List Nat} (hl : ∀ l ∈ ls, l = 97 ∨ l = 98 ∨ l = 99) {k : Nat} (hk : k < 9) : (cntQ (runQ ls q) k : Int) = dueI (leadL q ++ ls) k := by
  have h := reach_good _ (reach_run ls (ini q) (reach_ini q hq) hl)
  unfold good at h
  rw [List.all_eq_true] at h
  have h2 := h k (List.mem_range.mpr hk)
  rw [decide_eq_true_eq] at h2
  unfold dueI
  rw [fitN_eq _ k hk]
  have e : (ini q).2.map (advs ls) = shapesL.map (advs (leadL q ++ ls)) := by
    unfold ini
    dsimp only
    rw [List.map_map]
    apply List.map_congr_left
    intro p _
    exact (advs_app _ _ _).symm
  rw [← e]
  exact h2

/-- the run on the rows is the run on their ranks -/
theorem swp_map {cmp : PyData → PyData → Int} {ρ : PyData → Nat} {RS : List PyData} (h : ∀ a b, a ∈ RS → b ∈ RS → cmp a b = sgnR (ρ a) (ρ b)) (k : Nat) {a b c d : PyData} (hR : ∀ x ∈ [a, b, c, d], x ∈ RS) : (swp cmp k [a, b, c, d]).map ρ = swq k ([a, b, c, d].map ρ) := by
  have pos : ∀ x y, x ∈ RS → y ∈ RS → (0 < cmp x y ↔ ρ y < ρ x) := fun x y hx hy => by
    rw [h x y hx hy]; unfold sgnR; omega
  have pr : ∀ (p q : Prop) [Decidable p] [Decidable q] (l l' : List PyData), (p ↔ q) → (if p then l else l').map ρ = if q then l.map ρ else l'.map ρ := by
    intro p q _ _ l l' e
    by_cases hp : p
    · rw [if_pos hp, if_pos (e.mp hp)]
    · rw [if_neg hp, if_neg fun hq => hp (e.mpr hq)]
  have ma : a ∈ RS := hR a (by simp)
  have mb : b ∈ RS := hR b (by simp)
  have mc : c ∈ RS := hR c (by simp)
  have md : d ∈ RS := hR d (by simp)
  match k with
  | 0 => exact pr _ _ _ _ (pos a b ma mb)
  | 1 => exact pr _ _ _ _ (pos b c mb mc)
  | _ + 2 => exact pr _ _ _ _ (pos c d mc md)
theorem run_map {cmp : PyData → PyData → Int} {ρ : PyData → Nat} {RS : List PyData} (h : ∀ a b, a ∈ RS → b ∈ RS → cmp a b = sgnR (ρ a) (ρ b)) : ∀ (ls : List Nat) (a b c d : PyData), (∀ x ∈ [a, b, c, d], x ∈ RS) →
    ∃ a' b' c' d', ls.foldl (fun x l => swp cmp (l - 97) x) [a, b, c, d] = [a', b', c', d'] ∧ [a', b', c', d'].map ρ = runQ ls ([a, b, c, d].map ρ) ∧ [a', b', c', d'].Perm [a, b, c, d]
  | [], a, b, c, d, hR => ⟨a, b, c, d, rfl, rfl, List.Perm.refl _⟩
  | l :: ls, a, b, c, d, hR => by
    obtain ⟨a1, b1, c1, d1, e1, m1⟩ := swp4 cmp (l - 97) a b c d
    have e2 := swp_map h (l - 97) hR
    rw [e1] at e2
    obtain ⟨a2, b2, c2, d2, e3, e4, p4⟩ := run_map h ls a1 b1 c1 d1 fun x hx => hR x ((m1 x).mp hx)
    refine ⟨a2, b2, c2, d2, ?_, ?_, p4.trans ?_⟩
    · rw [List.foldl_cons, e1]; exact e3
    · rw [e4, e2]; rfl
    · rw [← e1]
      have pr : ∀ (p : Prop) [Decidable p] (l : List PyData), l.Perm [a, b, c, d] → (if p then l else [a, b, c, d]).Perm [a, b, c, d] := by
        intro p _ l hl
        by_cases hp : p
        · rw [if_pos hp]; exact hl
        · rw [if_neg hp]
      match l - 97 with
      | 0 => exact pr _ _ (List.Perm.swap _ _ _)
      | 1 => exact pr _ _ (List.Perm.cons _ (List.Perm.swap _ _ _))
      | _ + 2 => exact pr _ _ (List.Perm.cons _ (List.Perm.cons _ (List.Perm.swap _ _ _)))
end Mine
end
section
set_option maxRecDepth 100000
namespace Mine
open PySem

/-! law: what it draws. -/
noncomputable abbrev lB : List Stmt := fB 130
noncomputable abbrev lS (i : Nat) : Stmt := at_ lB i
noncomputable abbrev lM (loc cel : List (Str × PV)) : Fm := ⟨fS 130, loc, cel, false, 0⟩
noncomputable abbrev fixedI : List Int := [162, 1489, 795, 1108, 0, 2, 0, 0]
noncomputable abbrev R8 : List Nat := [0, 1, 2, 3, 4, 5, 6, 7]
noncomputable abbrev numsD (N : Nat → Nat) : PyData := .list (R8.map fun i => nI (N i : Int))
noncomputable abbrev scrD (ns : List Int) : PyData := .list (ns.map nI)

theorem nums_nat (ns : List Int) : ∃ N : Nat → Nat, (∀ i, N i < 1000000) ∧ (ns.take 8).map (· % 1000000) ++ fixedI.drop ns.length = R8.map fun i => (N i : Int) := by
  generalize hL : (ns.take 8).map (· % 1000000) ++ fixedI.drop ns.length = L
  have hlen : L.length = 8 := by rw [← hL]; simp; omega
  have hb : ∀ x ∈ L, 0 ≤ x ∧ x < 1000000 := by
    intro x hx
    rw [← hL] at hx
    rcases List.mem_append.mp hx with h | h
    · obtain ⟨y, _, rfl⟩ := List.mem_map.mp h
      exact ⟨Int.emod_nonneg _ (by decide), Int.emod_lt_of_pos _ (by decide)⟩
    · have h := List.mem_of_mem_drop h
      simp only [fixedI, List.mem_cons, List.not_mem_nil, or_false] at h
      omega
  refine ⟨fun i => (L.getD i 0).toNat, fun i => ?_, ?_⟩
  · by_cases h : i < L.length
    · have := hb _ (List.getElem_mem h)
      dsimp only
      rw [List.getD_eq_getElem?_getD, List.getElem?_eq_getElem h]
      simp only [Option.getD_some]
      omega
    · dsimp only
      rw [List.getD_eq_getElem?_getD, List.getElem?_eq_none (by omega)]
      decide
  · match L, hlen with
    | [x0, x1, x2, x3, x4, x5, x6, x7], _ =>
      have h0 := hb x0 (by simp)
      have h1 := hb x1 (by simp)
      have h2 := hb x2 (by simp)
      have h3 := hb x3 (by simp)
      have h4 := hb x4 (by simp)
      have h5 := hb x5 (by simp)
      have h6 := hb x6 (by simp)
      have h7 := hb x7 (by simp)
      show [x0, x1, x2, x3, x4, x5, x6, x7] = [(x0.toNat : Int), (x1.toNat : Int), (x2.toNat : Int), (x3.toNat : Int), (x4.toNat : Int), (x5.toNat : Int), (x6.toNat : Int), (x7.toNat : Int)]
      rw [Int.toNat_of_nonneg h0.1, Int.toNat_of_nonneg h1.1, Int.toNat_of_nonneg h2.1, Int.toNat_of_nonneg h3.1, Int.toNat_of_nonneg h4.1, Int.toNat_of_nonneg h5.1, Int.toNat_of_nonneg h6.1, Int.toNat_of_nonneg h7.1]

section
variable {ns : List Int} {N : Nat → Nat} {st : St}
noncomputable abbrev fixedD : PyData := .list (fixedI.map nI)
noncomputable abbrev lM0 (ns : List Int) : Fm := lM [(nm "script", .d (scrD ns))] []
noncomputable abbrev lM1 (ns : List Int) : Fm := lM [(nm "script", .d (scrD ns)), (nm "fixed", .d fixedD)] []
theorem law0 (n : Nat) : stepS (ev (n + 9)) (lM0 ns) st (lS 0) = some (.nx, lM1 ns, st) := by kernel_rfl

theorem slc_take {xs : List PyData} {k : Nat} (h : xs.length ≤ lim) (hk : k ≤ 1000000) : slc (.list xs) none (some (k : Int)) = some (.list (xs.take k)) := by
  show (if xs.length ≤ lim then _ else _) = _
  rw [if_pos h]
  show (if 0 ≤ (k : Int) ∧ (k : Int) ≤ 1000000 then some (xs.take (k : Int).toNat) else none).map _ = _
  rw [if_pos (by omega)]
  rfl
theorem slc_drop {xs : List PyData} {k : Nat} (h : xs.length ≤ lim) (hk : k ≤ 1000000) : slc (.list xs) (some (k : Int)) none = some (.list (xs.drop k)) := by
  show (if xs.length ≤ lim then _ else _) = _
  rw [if_pos h]
  show (if 0 ≤ (k : Int) ∧ (k : Int) ≤ 1000000 then some (xs.drop (k : Int).toNat) else none).map _ = _
  rw [if_pos (by omega)]
  rfl

noncomputable abbrev xM (e : Expr) (l : List (Str × PV)) : Fm := ⟨(cScope e).names, l, [], false, 0⟩
theorem law1 (n : Nat) (hl : ns.length ≤ 1000) (hN : (ns.take 8).map (· % 1000000) ++ fixedI.drop ns.length = R8.map fun i => (N i : Int)) : stepS (ev (n + 9)) (lM1 ns) st (lS 1) = some (.nx, lM [(nm "script", .d (scrD ns)), (nm "fixed", .d fixedD)] [(nm "numbers", .d (numsD N))], st) := by
  refine S_asg (nm "numbers") (v := .d (numsD N)) (by kernel_rfl) ?_ (by kernel_rfl)
  let e := kid (sv (lS 1)) 0
  let fmOf : Option Int → Fm := fun o => match o with
    | none => xM e []
    | some x => xM e [(nm "x", .d (nI x))]
  have turn : ∀ x ∈ ns.take 8, ∀ o xs, xs.length ≤ lim → compTurn1 (ev (n + 7)) (cG e 0).target (cG e 0).ifs (fun c => compBody (ev (n + 7)) (cElt e) (cGens e).tail c) (.d (nI x)) (fmOf o, st, xs) = some (fmOf (some x), st, xs ++ [nI (x % 1000000)]) := by
    intro x _ o xs hx
    have hput : putT (fmOf o) (cG e 0).target (.d (nI x)) = some (xM e [(nm "x", .d (nI x))]) := by cases o <;> kernel_rfl
    show compTurn1 _ _ _ (fun c => compBody _ _ [] c) _ _ = _
    exact turn_of (x := nI (x % 1000000)) hput rfl (by kernel_rfl) hx
  have hl8 : (ns.take 8).length ≤ 8 := by simp; omega
  obtain ⟨o', h⟩ := over_idx fmOf (fun x => .d (nI x)) (fun x => [nI (x % 1000000)]) st (ns.take 8) none [] turn (by rw [List.nil_append, ← List.map_eq_flatMap, List.length_map]; unfold lim; omega)
  rw [List.nil_append, ← List.map_eq_flatMap] at h
  have hc : (ev (n + 8)).E (lM1 ns) st (kid (sv (lS 1)) 0) = some (.d (.list ((ns.take 8).map fun x => nI (x % 1000000))), st) := by
    refine E_comp (by kernel_rfl) (comp_of (x := .d (.list ((ns.take 8).map nI))) (it := .items ((ns.take 8).map fun x => .d (nI x))) (fm' := fmOf o') (st1 := st) (by kernel_rfl) ?_ ?_ ?_)
    · have := slc_take (xs := ns.map nI) (k := 8) (by simp [lim]; omega) (by decide)
      rw [← List.map_take] at this
      exact E_slcR (x := scrD ns) (j := 8) (st1 := st) (by kernel_rfl) (by kernel_rfl) (by kernel_rfl) this
    · have := iter_list (st := st) (xs := (ns.take 8).map nI) (by simp [lim]; omega)
      rw [List.map_map] at this
      exact this
    · have : cFm (lM1 ns) e = xM e [] := by kernel_rfl
      show over _ _ (cFm (lM1 ns) e, st, []) = _
      rw [this]
      exact h
  have hd : (ev (n + 8)).E (lM1 ns) st (kid (sv (lS 1)) 1) = some (.d (.list ((fixedI.drop ns.length).map nI)), st) := by
    have := slc_drop (xs := fixedI.map nI) (k := ns.length) (by simp [lim]) (by omega)
    rw [← List.map_drop] at this
    refine E_slcL (x := fixedD) (i := (ns.length : Int)) (st1 := st) (by kernel_rfl) (by kernel_rfl) ?_ this
    refine E_call (fv := .bi "len") (vs := [.d (scrD ns)]) (st1 := st) (st2 := st) (by kernel_rfl) (by kernel_rfl) (by kernel_rfl) (by kernel_rfl) ?_
    have := len_C (r := ev (n + 5)) (xs := ns.map nI) (st := st) (by simp [lim]; omega)
    rw [List.length_map] at this
    exact this
  refine E_bin .Add (x := .list ((ns.take 8).map fun x => nI (x % 1000000))) (y := .list ((fixedI.drop ns.length).map nI)) (st1 := st) (by kernel_rfl) hc hd ?_
  have hsum := congrArg (List.map nI) hN
  rw [List.map_append, List.map_map, List.map_map] at hsum
  show chk _ (PyData.list (_ ++ _)) = _
  have e2 : ((ns.take 8).map fun x => nI (x % 1000000)) ++ (fixedI.drop ns.length).map nI = R8.map fun i => nI (N i : Int) := hsum
  rw [e2]
  refine chk_of ?_
  simp [lim]; omega

theorem sum_C {r : Ev} {l : List Int} (h : ∀ x ∈ l, -1000000000 ≤ x ∧ x ≤ 1000000000) (hl : l.length ≤ lim) : (step r).C (.bi "sum") [.d (.list (l.map nI))] st = some (.d (nI l.sum), st) := by
  have e : (step r).C (.bi "sum") [.d (.list (l.map nI))] st = (allInts (l.map nI)).bind fun l => if l.all (fun i => decide (-1000000000 ≤ i ∧ i ≤ 1000000000)) then chk l.length (.d (.int l.sum), st) else none := by kernel_rfl
  rw [e, allInts_map]
  show (if _ = true then _ else _) = _
  rw [if_pos (by rw [List.all_eq_true]; intro x hx; exact decide_eq_true (h x hx)), chk_of hl]
noncomputable def totN (N : Nat → Nat) : Nat := N 0 + N 1 + N 2 + N 3 + N 4 + N 5 + N 6 + N 7
noncomputable abbrev lC1 (N : Nat → Nat) : List (Str × PV) := [(nm "numbers", .d (numsD N))]
theorem law2 (n : Nat) (hb : ∀ i, N i < 1000000) : stepS (ev (n + 9)) (lM [(nm "script", .d (scrD ns)), (nm "fixed", .d fixedD)] (lC1 N)) st (lS 2) = some (.nx, lM [(nm "script", .d (scrD ns)), (nm "fixed", .d fixedD), (nm "total", .d (nI (totN N : Int)))] (lC1 N), st) := by
  refine S_asg (nm "total") (v := .d (nI (totN N : Int))) (by kernel_rfl) (E_call (fv := .bi "sum") (vs := [.d (numsD N)]) (st1 := st) (st2 := st) (by kernel_rfl) (by kernel_rfl) (by kernel_rfl) (by kernel_rfl) ?_) (by kernel_rfl)
  have := sum_C (st := st) (r := ev (n + 7)) (l := R8.map fun i => (N i : Int)) (by
    intro x hx
    obtain ⟨i, _, rfl⟩ := List.mem_map.mp hx
    have := hb i
    omega) (by simp [lim])
  rw [List.map_map] at this
  have e : (R8.map fun i => (N i : Int)).sum = (totN N : Int) := by
    unfold totN
    simp only [List.map_cons, List.map_nil, List.sum_cons, List.sum_nil]
    omega
  rw [e] at this
  exact this
end
end Mine
end
section
set_option maxRecDepth 100000
namespace Mine
open PySem

/-! law: words, rows, keys, network, text. -/
noncomputable def sgN (m : Nat) : Nat := signL.getD (m % 6) 0
noncomputable def ltN (m : Nat) : List Nat := ([[], [97], [98], [99]] : List (List Nat)).getD (m % 4) []
theorem sign_idx (m : Nat) : idx (nS signL) ((m % 6 : Nat) : Int) = some (nS [sgN m]) := by
  have h : m % 6 < 6 := Nat.mod_lt _ (by decide)
  unfold sgN
  generalize m % 6 = j at h
  match j, h with
  | 0, _ => rfl
  | 1, _ => rfl
  | 2, _ => rfl
  | 3, _ => rfl
  | 4, _ => rfl
  | 5, _ => rfl
noncomputable abbrev lettersD : PyData := .list [nS [], nS [97], nS [98], nS [99]]
theorem let_idx (m : Nat) : idx lettersD ((m % 4 : Nat) : Int) = some (nS (ltN m)) := by
  have h : m % 4 < 4 := Nat.mod_lt _ (by decide)
  unfold ltN
  generalize m % 4 = j at h
  match j, h with
  | 0, _ => rfl
  | 1, _ => rfl
  | 2, _ => rfl
  | 3, _ => rfl
noncomputable def wN (N : Nat → Nat) (i : Nat) : List Nat := [sgN (N i / 48), sgN (N i / 288)]
noncomputable def netW (N : Nat → Nat) (i : Nat) : List Nat := ltN (N i) ++ ltN (N i / 4)
noncomputable def netL (N : Nat → Nat) : List Nat := (R8.map (netW N)).flatten
noncomputable abbrev XN (N : Nat → Nat) (i : Nat) : List PyData := [nI ((N i : Int) / 16 % 3), nS (wN N i), nI (i : Int)]
noncomputable def ksT (t : Nat) : List (Nat × Int) := [(t % 2, 1 - (t : Int) / 2 % 2 * 2), (1 - t % 2, 1 - (t : Int) / 4 % 2 * 2), (2, 1)]

section
variable {ns : List Int} {N : Nat → Nat} {st : St}
noncomputable abbrev lL2 (ns : List Int) (N : Nat → Nat) : List (Str × PV) := [(nm "script", .d (scrD ns)), (nm "fixed", .d fixedD), (nm "total", .d (nI (totN N : Int)))]
noncomputable abbrev wordsD (N : Nat → Nat) : PyData := .list (I4.map fun i => nS (wN N i))
noncomputable abbrev lC2 (N : Nat → Nat) : List (Str × PV) := [(nm "numbers", .d (numsD N)), (nm "signs", .d (nS signL))]
noncomputable abbrev lC3 (N : Nat → Nat) : List (Str × PV) := lC2 N ++ [(nm "words", .d (wordsD N))]
noncomputable abbrev lC4 (N : Nat → Nat) : List (Str × PV) := lC3 N ++ [(nm "rows", .d (.list (raB (XN N) I4)))]
noncomputable abbrev lC5 (N : Nat → Nat) : List (Str × PV) := lC4 N ++ [(nm "letters", .d lettersD)]
noncomputable abbrev keysD (N : Nat → Nat) : PyData := .list ((ksT (totN N)).map kD)
noncomputable abbrev lL3 (ns : List Int) (N : Nat → Nat) : List (Str × PV) := lL2 ns N ++ [(nm "keys", .d (keysD N))]
noncomputable abbrev lL4 (ns : List Int) (N : Nat → Nat) : List (Str × PV) := lL3 ns N ++ [(nm "network", .d (nS (netL N)))]
noncomputable def wsN (N : Nat → Nat) : List (List Nat) := I4.map (wN N) ++ (netL N).map fun c => [c]
noncomputable def textN (N : Nat → Nat) : List Nat := txtL (totN N) 0 (wsN N)
noncomputable abbrev lL5 (ns : List Int) (N : Nat → Nat) : List (Str × PV) := lL4 ns N ++ [(nm "text", .d (nS (textN N)))]

theorem law3 (n : Nat) : stepS (ev (n + 12)) (lM (lL2 ns N) (lC1 N)) st (lS 3) = some (.nx, lM (lL2 ns N) (lC2 N), st) := by kernel_rfl

noncomputable abbrev snC (e : Expr) (l : List (Str × PV)) : Fm := ⟨(cScope e).names, l, [(nm "signs", .d (nS signL))], false, 0⟩
theorem law4 (n : Nat) : stepS (ev (n + 12)) (lM (lL2 ns N) (lC2 N)) st (lS 4) = some (.nx, lM (lL2 ns N) (lC3 N), st) := by
  refine S_asgC (nm "words") (v := .d (wordsD N)) (by kernel_rfl) ?_ (by kernel_rfl)
  let e := sv (lS 4)
  let fmOf : Option Nat → Fm := fun o => match o with
    | none => snC e []
    | some i => snC e [(nm "n", .d (nI (N i : Int)))]
  have turn : ∀ i ∈ I4, ∀ o xs, xs.length ≤ lim → compTurn1 (ev (n + 12)) (cG e 0).target (cG e 0).ifs (fun c => compBody (ev (n + 12)) (cElt e) (cGens e).tail c) (.d (nI (N i : Int))) (fmOf o, st, xs) = some (fmOf (some i), st, xs ++ [nS (wN N i)]) := by
    intro i _ o xs hx
    have hput : putT (fmOf o) (cG e 0).target (.d (nI (N i : Int))) = some (snC e [(nm "n", .d (nI (N i : Int)))]) := by cases o <;> kernel_rfl
    show compTurn1 _ _ _ (fun c => compBody _ _ [] c) _ _ = _
    refine turn_of (fm1 := snC e [(nm "n", .d (nI (N i : Int)))]) (st1 := st) hput rfl ?_ hx
    have i1 := sign_idx (N i / 48)
    have i2 := sign_idx (N i / 288)
    rw [show (((N i / 48 % 6 : Nat)) : Int) = (N i : Int) / 48 % 6 by omega] at i1
    rw [show (((N i / 288 % 6 : Nat)) : Int) = (N i : Int) / 288 % 6 by omega] at i2
    refine E_bin .Add (x := nS [sgN (N i / 48)]) (y := nS [sgN (N i / 288)]) (st1 := st) (by kernel_rfl) ?_ ?_ rfl
    · exact E_idx (ov := .d (nS signL)) (k := (N i : Int) / 48 % 6) (x := nS signL) (st1 := st) (by kernel_rfl) (by kernel_rfl) (by kernel_rfl) rfl i1
    · exact E_idx (ov := .d (nS signL)) (k := (N i : Int) / 288 % 6) (x := nS signL) (st1 := st) (by kernel_rfl) (by kernel_rfl) (by kernel_rfl) rfl i2
  obtain ⟨o', h⟩ := over_idx fmOf (fun i => .d (nI (N i : Int))) (fun i => [nS (wN N i)]) st I4 none [] turn (by simp [lim])
  rw [List.nil_append, ← List.map_eq_flatMap] at h
  refine comp_of (x := .d (.list (I4.map fun i => nI (N i : Int)))) (it := .items (I4.map fun i => .d (nI (N i : Int)))) (fm' := fmOf o') (st1 := st) (by kernel_rfl) (by kernel_rfl) (by kernel_rfl) ?_
  have : cFm (lM (lL2 ns N) (lC2 N)) (sv (lS 4)) = snC e [] := by kernel_rfl
  rw [this]
  exact h
theorem law5 (n : Nat) : stepS (ev (n + 12)) (lM (lL2 ns N) (lC3 N)) st (lS 5) = some (.nx, lM (lL2 ns N) (lC4 N), st) := by kernel_rfl
theorem law6 (n : Nat) : stepS (ev (n + 12)) (lM (lL2 ns N) (lC4 N)) st (lS 6) = some (.nx, lM (lL3 ns N) (lC4 N), st) := by
  have e1 : ((totN N % 2 : Nat) : Int) = (totN N : Int) % 2 := by omega
  have e2 : ((1 - totN N % 2 : Nat) : Int) = 1 - (totN N : Int) % 2 := by omega
  have e : keysD N = .list [.tuple [nI ((totN N : Int) % 2), nI (1 - (totN N : Int) / 2 % 2 * 2)], .tuple [nI (1 - (totN N : Int) % 2), nI (1 - (totN N : Int) / 4 % 2 * 2)], .tuple [nI 2, nI 1]] := by
    show PyData.list [.tuple [nI ((totN N % 2 : Nat) : Int), _], .tuple [nI ((1 - totN N % 2 : Nat) : Int), _], .tuple [nI 2, nI 1]] = _
    rw [e1, e2]
  unfold lL3
  rw [e]
  kernel_rfl
theorem law7 (n : Nat) : stepS (ev (n + 12)) (lM (lL3 ns N) (lC4 N)) st (lS 7) = some (.nx, lM (lL3 ns N) (lC5 N), st) := by kernel_rfl

noncomputable abbrev leC (e : Expr) (l : List (Str × PV)) : Fm := ⟨(cScope e).names, l, [(nm "letters", .d lettersD)], false, 0⟩
theorem ltN_len (m : Nat) : (ltN m).length ≤ 1 := by
  have h : m % 4 < 4 := Nat.mod_lt _ (by decide)
  unfold ltN
  generalize m % 4 = j at h
  match j, h with
  | 0, _ => decide
  | 1, _ => decide
  | 2, _ => decide
  | 3, _ => decide
theorem netW_len (i : Nat) : (netW N i).length ≤ 2 := by
  have h1 := ltN_len (N i)
  have h2 := ltN_len (N i / 4)
  unfold netW
  rw [List.length_append]; omega
theorem net_sum : ((R8.map (netW N)).map (·.length)).sum ≤ 16 := by
  have h := netW_len (N := N)
  have h0 := h 0
  have h1 := h 1
  have h2 := h 2
  have h3 := h 3
  have h4 := h 4
  have h5 := h 5
  have h6 := h 6
  have h7 := h 7
  simp only [List.map_cons, List.map_nil, List.sum_cons, List.sum_nil]
  omega
theorem net_len : (netL N).length ≤ 16 := by
  unfold netL
  rw [List.length_flatten]
  exact net_sum
theorem law8 (n : Nat) : stepS (ev (n + 12)) (lM (lL3 ns N) (lC5 N)) st (lS 8) = some (.nx, lM (lL4 ns N) (lC5 N), st) := by
  refine S_asg (nm "network") (v := .d (nS (netL N))) (by kernel_rfl) ?_ (by kernel_rfl)
  let e := kid (sv (lS 8)) 1
  let fmOf : Option Nat → Fm := fun o => match o with
    | none => leC e []
    | some i => leC e [(nm "n", .d (nI (N i : Int)))]
  have turn : ∀ i ∈ R8, ∀ o xs, xs.length ≤ lim → compTurn1 (ev (n + 10)) (cG e 0).target (cG e 0).ifs (fun c => compBody (ev (n + 10)) (cElt e) (cGens e).tail c) (.d (nI (N i : Int))) (fmOf o, st, xs) = some (fmOf (some i), st, xs ++ [nS (netW N i)]) := by
    intro i _ o xs hx
    have hput : putT (fmOf o) (cG e 0).target (.d (nI (N i : Int))) = some (leC e [(nm "n", .d (nI (N i : Int)))]) := by cases o <;> kernel_rfl
    show compTurn1 _ _ _ (fun c => compBody _ _ [] c) _ _ = _
    refine turn_of (fm1 := leC e [(nm "n", .d (nI (N i : Int)))]) (st1 := st) hput rfl ?_ hx
    have i1 := let_idx (N i)
    have i2 := let_idx (N i / 4)
    have h1 := ltN_len (N i)
    have h2 := ltN_len (N i / 4)
    rw [show (((N i % 4 : Nat)) : Int) = (N i : Int) % 4 by omega] at i1
    rw [show (((N i / 4 % 4 : Nat)) : Int) = (N i : Int) / 4 % 4 by omega] at i2
    refine E_bin .Add (x := nS (ltN (N i))) (y := nS (ltN (N i / 4))) (st1 := st) (by kernel_rfl) ?_ ?_ (chk_of (show (ltN (N i)).length + (ltN (N i / 4)).length ≤ lim by unfold lim; omega))
    · exact E_idx (ov := .d lettersD) (k := (N i : Int) % 4) (x := lettersD) (st1 := st) (by kernel_rfl) (by kernel_rfl) (by kernel_rfl) rfl i1
    · exact E_idx (ov := .d lettersD) (k := (N i : Int) / 4 % 4) (x := lettersD) (st1 := st) (by kernel_rfl) (by kernel_rfl) (by kernel_rfl) rfl i2
  obtain ⟨o', h⟩ := over_idx fmOf (fun i => .d (nI (N i : Int))) (fun i => [nS (netW N i)]) st R8 none [] turn (by simp [lim])
  rw [List.nil_append, ← List.map_eq_flatMap] at h
  refine E_meth (nm "join") (ov := .d (nS [])) (cal := .sm (nm "join") (mkS [])) (vs := [.d (.list ((R8.map (netW N)).map nS))]) (st1 := st) (st2 := st) (by kernel_rfl) (by kernel_rfl) (by kernel_rfl) rfl ?_ (strM_join _ st (Nat.le_trans net_sum (by decide)))
  refine evL_one (t := e) (by kernel_rfl) (E_comp (by kernel_rfl) (comp_of (x := .d (numsD N)) (it := .items (R8.map fun i => .d (nI (N i : Int)))) (fm' := fmOf o') (st1 := st) (by kernel_rfl) (by kernel_rfl) (by kernel_rfl) ?_))
  have : cFm (lM (lL3 ns N) (lC5 N)) e = leC e [] := by kernel_rfl
  rw [this]
  exact h

theorem list_C {r : Ev} {l : List Nat} (h : l.length ≤ lim) : (step r).C (.ty "list") [.d (nS l)] st = some (.d (.list (l.map fun c => nS [c])), st) := by
  have e : (step r).C (.ty "list") [.d (nS l)] st = chk l.length (.d (.list (l.map fun c => .str (mkS [c]))), st) := by kernel_rfl
  rw [e]; exact chk_of h
theorem wsN_len : ∀ w ∈ wsN N, w.length ≤ 2 := by
  intro w hw
  unfold wsN at hw
  rcases List.mem_append.mp hw with h | h
  · obtain ⟨i, _, rfl⟩ := List.mem_map.mp h
    exact Nat.le_refl _
  · obtain ⟨c, _, rfl⟩ := List.mem_map.mp h
    exact Nat.le_succ _
theorem wsN_size : (wsN N).length ≤ 20 := by
  have := net_len (N := N)
  unfold wsN
  rw [List.length_append, List.length_map, List.length_map]
  show 4 + _ ≤ 20
  omega
theorem law9 (n : Nat) : stepS (ev (n + 12)) (lM (lL4 ns N) (lC5 N)) st (lS 9) = some (.nx, lM (lL5 ns N) (lC5 N), st) := by
  have hn := net_len (N := N)
  refine S_asg (nm "text") (v := .d (nS (textN N))) (by kernel_rfl) ?_ (by kernel_rfl)
  refine E_call (fv := .fn 103) (vs := [.d (.list ((wsN N).map nS)), .d (nI (totN N : Int))]) (st1 := st) (st2 := st) (by kernel_rfl) (by kernel_rfl) (by kernel_rfl) ?_ (written_ok n wsN_len (by have := wsN_size (N := N); omega))
  refine evL_cons (t := kid (sv (lS 9)) 1) (es := (kids (sv (lS 9))).drop 2) (st1 := st) (by kernel_rfl) ?_ (by kernel_rfl)
  have e : (wsN N).map nS = (I4.map fun i => nS (wN N i)) ++ (netL N).map fun c => nS [c] := by
    unfold wsN
    rw [List.map_append, List.map_map, List.map_map]
    rfl
  rw [e]
  refine E_bin .Add (x := wordsD N) (y := .list ((netL N).map fun c => nS [c])) (st1 := st) (by kernel_rfl) (by kernel_rfl) ?_ (chk_of ?_)
  · exact E_call (fv := .ty "list") (vs := [.d (nS (netL N))]) (st1 := st) (st2 := st) (by kernel_rfl) (by kernel_rfl) (by kernel_rfl) (by kernel_rfl) (list_C (by unfold lim; omega))
  · show 4 + ((netL N).map fun c => nS [c]).length ≤ lim
    rw [List.length_map]; unfold lim; omega
end
end Mine
end
section
set_option maxRecDepth 100000
namespace Mine
open PySem

/-! law: ranks, order, compare of all rows. -/
noncomputable def ltX (N : Nat → Nat) (k i j : Nat) : Bool := match k with
  | 0 => decide ((N i : Int) / 16 % 3 < (N j : Int) / 16 % 3)
  | 1 => (cmpD .Lt (nS (wN N i)) (nS (wN N j))).getD false
  | _ => decide (i < j)
theorem ltX1 (N : Nat → Nat) (i j : Nat) : ltX N 1 i j = true ↔ wN N i < wN N j := by
  show (some (decide (wN N i < wN N j))).getD false = true ↔ _
  exact decide_eq_true_iff
theorem ltX_swo (N : Nat → Nat) : ∀ k, Swo (ltX N k)
  | 0 => ⟨fun i => decide_eq_false (by omega), fun i j k a b => by
      have a := of_decide_eq_true a
      have b := of_decide_eq_true b
      exact decide_eq_true (by omega), fun i j k a => by
      have a := of_decide_eq_true a
      by_cases h : (N i : Int) / 16 % 3 < (N j : Int) / 16 % 3
      · exact .inl (decide_eq_true h)
      · exact .inr (decide_eq_true (by omega))⟩
  | 1 => ⟨fun i => by
      cases h : ltX N 1 i i with
      | false => rfl
      | true => exact absurd ((ltX1 N i i).mp h) (List.lt_irrefl _),
      fun i j k a b => (ltX1 N i k).mpr (List.lt_trans ((ltX1 N i j).mp a) ((ltX1 N j k).mp b)),
      fun i j k a => by
      by_cases h : wN N i < wN N j
      · exact .inl ((ltX1 N i j).mpr h)
      · exact .inr ((ltX1 N j k).mpr (List.lt_of_le_of_lt (List.not_lt.mp h) ((ltX1 N i k).mp a)))⟩
  | k + 2 => ⟨fun i => decide_eq_false (by omega), fun i j k a b => by
      have a := of_decide_eq_true a
      have b := of_decide_eq_true b
      exact decide_eq_true (by omega), fun i j k a => by
      have a := of_decide_eq_true a
      by_cases h : i < j
      · exact .inl (decide_eq_true h)
      · exact .inr (decide_eq_true (by omega))⟩

theorem rows_ok (N : Nat → Nat) (t : Nat) : RowsOk (XN N) (ltX N) (ksT t) := by
  have key : ∀ k, k = 0 ∨ k = 1 ∨ k = 2 → ∀ i j, k < 1000 ∧ ∃ x y, (XN N i)[k]? = some x ∧ (XN N j)[k]? = some y ∧ cmpD .Lt x y = some (ltX N k i j) ∧ cmpD .Gt x y = some (ltX N k j i) := by
    intro k hk i j
    rcases hk with rfl | rfl | rfl
    · exact ⟨by decide, _, _, rfl, rfl, rfl, rfl⟩
    · exact ⟨by decide, _, _, rfl, rfl, rfl, rfl⟩
    · refine ⟨by decide, _, _, rfl, rfl, ?_, ?_⟩
      · show some (decide ((i : Int) < (j : Int))) = some (decide (i < j))
        exact congrArg some (decide_eq_decide.mpr Int.ofNat_lt)
      · show some (decide ((j : Int) < (i : Int))) = some (decide (j < i))
        exact congrArg some (decide_eq_decide.mpr Int.ofNat_lt)
  intro i _ j _ kw hkw
  refine key kw.1 ?_ i j
  unfold ksT at hkw
  simp only [List.mem_cons, List.not_mem_nil, or_false] at hkw
  rcases hkw with rfl | rfl | rfl
  · dsimp only; omega
  · dsimp only; omega
  · exact .inr (.inr rfl)
theorem ksT_sign (t : Nat) : ∀ kw ∈ ksT t, kw.2 = 1 ∨ kw.2 = -1 := by
  intro kw hkw
  unfold ksT at hkw
  simp only [List.mem_cons, List.not_mem_nil, or_false] at hkw
  rcases hkw with rfl | rfl | rfl
  · dsimp only; omega
  · dsimp only; omega
  · exact .inl rfl
theorem ahead_ne (N : Nat → Nat) (t : Nat) : ∀ i ∈ I4, ∀ j ∈ I4, i ≠ j → aheadK (ltX N) (ksT t) i ≠ aheadK (ltX N) (ksT t) j := by
  intro i hi j hj hne e
  have h3 : cntL (lessK (ltX N) (2, 1)) i = cntL (lessK (ltX N) (2, 1)) j := by
    have := congrArg (·[2]?) e
    have : some ((cntL (lessK (ltX N) (2, 1)) i : Nat) : Int) = some ((cntL (lessK (ltX N) (2, 1)) j : Nat) : Int) := this
    have := Option.some.inj this
    omega
  have s := lessK_swo (ltX_swo N) (2, 1)
  have e1 := cnt_iff s (j := j) hi
  have e2 := cnt_iff s (j := i) hj
  have l1 : lessK (ltX N) (2, 1) i j = decide (i < j) := rfl
  have l2 : lessK (ltX N) (2, 1) j i = decide (j < i) := rfl
  rw [l1, h3] at e1
  rw [l2, h3] at e2
  rw [decide_eq_false (show ¬ cntL (lessK (ltX N) (2, 1)) j < cntL (lessK (ltX N) (2, 1)) j by omega)] at e1 e2
  have a1 := of_decide_eq_false e1
  have a2 := of_decide_eq_false e2
  omega

noncomputable def rkN (N : Nat → Nat) : Nat → Nat := rankK (ltX N) (ksT (totN N))
theorem rk_perm (N : Nat → Nat) : I4.map (rkN N) ∈ perms4 := ranks_perm (ahead_ne N _)
noncomputable def rho (r : Nat → Nat) : PyData → Nat
  | .tuple [_, _, .int i] => r i.toNat
  | _ => 0
noncomputable def cmpR (r : Nat → Nat) (a b : PyData) : Int := sgnR (rho r a) (rho r b)
noncomputable abbrev ordO (N : Nat → Nat) : MO := .inst 38 [(nm "comp_select_list", .d (keysD N))]
theorem rho_row (r : Nat → Nat) (N : Nat → Nat) (i : Nat) : rho r (.tuple (XN N i)) = r i := rfl
theorem cmp_ok (n : Nat) (N : Nat → Nat) (qo : Nat) : CmpOk (n + 10) qo (ordO N) (raB (XN N) I4) (cmpR (rkN N)) := by
  refine ⟨⟨_, rfl, by kernel_rfl⟩, fun st a b ha hb ho => ?_⟩
  obtain ⟨i, hi, rfl⟩ := List.mem_map.mp ha
  obtain ⟨j, hj, rfl⟩ := List.mem_map.mp hb
  have h := compare_ok n (st := st) (qo := qo) (ks := ksT (totN N)) (xs := XN N i) (ys := XN N j) (lt := fun k => ltX N k i j) (gt := fun k => ltX N k j i) ho (show 3 < 1000 by decide) fun kw hkw => rows_ok N _ i hi j hj kw hkw
  rw [cmp_rank (ltX_swo N) (ksT_sign _) (ahead_ne N _) hi hj] at h
  exact h

noncomputable abbrev orM (q : Nat) (k : PV) : Fm := ⟨fS 28, [(nm "self", .obj q), (nm "comp_select_list", k)], [], false, 0⟩
theorem order_new (n : Nat) (st : St) (k : PyData) : (ev (n + 6)).C (.fn 38) [.d k] st = some (.obj st.length, st ++ [.inst 38 [(nm "comp_select_list", .d k)]]) :=
  C_cls (i := 28) (fm := orM st.length (.d k)) (by kernel_rfl) (by kernel_rfl) ⟨orM st.length (.d k), B_start (B_at (fm1 := orM st.length (.d k)) (st1 := st ++ [.inst 38 [(nm "comp_select_list", .d k)]]) 0 (by kernel_rfl)
    (S_setA (nm "comp_select_list") (v := .d k) (ov := .obj st.length) (st1 := st ++ [.inst 38 []]) (st2 := st ++ [.inst 38 []]) (by kernel_rfl) (by kernel_rfl) (by kernel_rfl) (setA_new (by kernel_rfl))) (B_nil 1 (by kernel_rfl)))⟩

section
variable {ns : List Int} {N : Nat → Nat} {st : St}
noncomputable abbrev rksD (r : Nat → Nat) : PyData := .list (I4.map fun j => nI (r j : Int))
noncomputable abbrev lC6 (N : Nat → Nat) : List (Str × PV) := lC5 N ++ [(nm "ranks", .d (rksD (rkN N)))]
noncomputable abbrev lC7 (N : Nat → Nat) (q : Nat) : List (Str × PV) := lC6 N ++ [(nm "order", .obj q)]
noncomputable abbrev ahO (N : Nat → Nat) : MO := .list (I4.map (aheadD (ltX N) (ksT (totN N))))
theorem law10 (n : Nat) : stepS (ev (n + 12)) (lM (lL5 ns N) (lC5 N)) st (lS 10) = some (.nx, lM (lL5 ns N) (lC6 N), st ++ [ahO N]) := by
  refine S_asg (nm "ranks") (v := .d (rksD (rkN N))) (by kernel_rfl) ?_ (by kernel_rfl)
  exact E_call (fv := .fn 113) (vs := [.d (.list (raB (XN N) I4)), .d (keysD N)]) (st1 := st) (st2 := st) (by kernel_rfl) (by kernel_rfl) (by kernel_rfl) (by kernel_rfl) (ranks_ok n (rows_ok N _) (show 3 ≤ 1000 by decide))
theorem law11 (n : Nat) : stepS (ev (n + 12)) (lM (lL5 ns N) (lC6 N)) st (lS 11) = some (.nx, lM (lL5 ns N) (lC7 N st.length), st ++ [ordO N]) := by
  refine S_asg (nm "order") (v := .obj st.length) (by kernel_rfl) ?_ (by kernel_rfl)
  exact E_call (fv := .fn 38) (vs := [.d (keysD N)]) (st1 := st) (st2 := st) (by kernel_rfl) (by kernel_rfl) (by kernel_rfl) (by kernel_rfl) (order_new (n + 5) st (keysD N))

noncomputable def sgI (d : Int) : Int := if -1 < (if d < 1 then d else 1) then (if d < 1 then d else 1) else -1
theorem sgI_eq (a b : Nat) : sgI ((a : Int) - (b : Int)) = sgnR a b := by
  unfold sgI sgnR
  split <;> split at * <;> omega
/-- the comprehension over all pairs -/
noncomputable def prC : Expr := kid (sv (lS 12)) 0
noncomputable abbrev prM (N : Nat → Nat) (q : Nat) (l : List (Str × PV)) : Fm := ⟨(cScope prC).names, l, [(nm "order", .obj q), (nm "ranks", .d (rksD (rkN N))), (nm "rows", .d (.list (raB (XN N) I4)))], false, 0⟩
noncomputable def prP (N : Nat → Nat) (i : Nat) (l : List (Str × PV)) : Prop := l = [(nm "one", .d (.tuple (XN N i)))] ∨ ∃ u, l = [(nm "one", .d (.tuple (XN N i))), (nm "other", u)]
theorem pair_turn (n : Nat) {q : Nat} (hq : st[q]? = some (ordO N)) {i j : Nat} (hi : i ∈ I4) (hj : j ∈ I4) {l : List (Str × PV)} (hl : prP N i l) (xs : List PyData) (k : CSt → Option CSt) :
    compTurn1 (ev (n + 16)) (cG prC 1).target (cG prC 1).ifs k (.d (.tuple (XN N j))) (prM N q l, st, xs) = some (prM N q [(nm "one", .d (.tuple (XN N i))), (nm "other", .d (.tuple (XN N j)))], st, xs) := by
  have hput : putT (prM N q l) (cG prC 1).target (.d (.tuple (XN N j))) = some (prM N q [(nm "one", .d (.tuple (XN N i))), (nm "other", .d (.tuple (XN N j)))]) := by
    rcases hl with rfl | ⟨u, rfl⟩ <;> kernel_rfl
  have hR : (ev (n + 15)).E (prM N q [(nm "one", .d (.tuple (XN N i))), (nm "other", .d (.tuple (XN N j)))]) st (kid ((cG prC 1).ifs.getD 0 prC) 1) = some (.d (nI (sgI ((rkN N i : Int) - (rkN N j : Int)))), st) := by
    generalize rkN N = r
    simp only [I4, List.mem_cons, List.not_mem_nil, or_false] at hi hj
    rcases hi with rfl | rfl | rfl | rfl <;> rcases hj with rfl | rfl | rfl | rfl <;> kernel_rfl
  have hC := (cmp_ok (n + 4) N q).2 st (.tuple (XN N i)) (.tuple (XN N j)) (List.mem_map.mpr ⟨i, hi, rfl⟩) (List.mem_map.mpr ⟨j, hj, rfl⟩) hq
  have hT : (ev (n + 16)).T (prM N q [(nm "one", .d (.tuple (XN N i))), (nm "other", .d (.tuple (XN N j)))]) st ((cG prC 1).ifs.getD 0 prC) = some (false, st) := by
    refine T_cmp .NotEq (x := .d (nI (cmpR (rkN N) (.tuple (XN N i)) (.tuple (XN N j))))) (y := .d (nI (sgI ((rkN N i : Int) - (rkN N j : Int))))) (st1 := st) (by kernel_rfl) (E_meth (nm "compare") (ov := .obj q) (cal := .pv (.fn 35) [.obj q]) (vs := [.d (.tuple (XN N i)), .d (.tuple (XN N j))]) (st1 := st) (st2 := st) (by kernel_rfl) (by kernel_rfl) (methOf_inst hq (by kernel_rfl)) (by kernel_rfl) (by kernel_rfl) hC) hR ?_
    rw [sgI_eq]
    show some (!decide (sgnR (rkN N i) (rkN N j) = sgnR (rkN N i) (rkN N j))) = _
    rw [decide_eq_true rfl]; rfl
  have hifs : evIfs (ev (n + 16)) (prM N q [(nm "one", .d (.tuple (XN N i))), (nm "other", .d (.tuple (XN N j)))]) st (cG prC 1).ifs = some (false, st) := ifs_one hT
  exact turn_no hput hifs
theorem pair_in (n : Nat) {q : Nat} (hq : st[q]? = some (ordO N)) {i : Nat} (hi : i ∈ I4) (xs : List PyData) (k : CSt → Option CSt) : ∀ (js : List Nat) (l : List (Str × PV)), (∀ j ∈ js, j ∈ I4) → prP N i l →
    ∃ l', prP N i l' ∧ overItems (compTurn1 (ev (n + 16)) (cG prC 1).target (cG prC 1).ifs k) (js.map fun j => .d (.tuple (XN N j))) (prM N q l, st, xs) = some (prM N q l', st, xs)
  | [], l, _, hl => ⟨l, hl, rfl⟩
  | j :: js, l, hj, hl => by
    obtain ⟨l', h1, h2⟩ := pair_in n hq hi xs k js [(nm "one", .d (.tuple (XN N i))), (nm "other", .d (.tuple (XN N j)))] (fun x hx => hj x (List.mem_cons_of_mem _ hx)) (.inr ⟨_, rfl⟩)
    exact ⟨l', h1, overItems_cons (pair_turn n hq hi (hj j List.mem_cons_self) hl xs k) h2⟩
theorem pair_out (n : Nat) {q : Nat} (hq : st[q]? = some (ordO N)) : ∀ (is : List Nat) (l : List (Str × PV)), (∀ i ∈ is, i ∈ I4) → (l = [] ∨ ∃ i, prP N i l) →
    ∃ l', overItems (compTurn1 (ev (n + 16)) (cG prC 0).target (cG prC 0).ifs (fun c => compBody (ev (n + 16)) (cElt prC) (cGens prC).tail c)) (is.map fun j => .d (.tuple (XN N j))) (prM N q l, st, []) = some (prM N q l', st, [])
  | [], l, _, hl => ⟨l, rfl⟩
  | i :: is, l, hi, hl => by
    have hput : ∃ l1, prP N i l1 ∧ putT (prM N q l) (cG prC 0).target (.d (.tuple (XN N i))) = some (prM N q l1) := by
      rcases hl with rfl | ⟨i', rfl | ⟨u, rfl⟩⟩
      · exact ⟨_, .inl rfl, by kernel_rfl⟩
      · exact ⟨_, .inl rfl, by kernel_rfl⟩
      · exact ⟨_, .inr ⟨u, rfl⟩, by kernel_rfl⟩
    obtain ⟨l1, p1, hput⟩ := hput
    have hi0 := hi i List.mem_cons_self
    obtain ⟨l2, p2, h2⟩ := pair_in n hq hi0 [] (fun c => compBody (ev (n + 16)) (cElt prC) [] c) I4 l1 (fun _ h => h) p1
    have hbody : compBody (ev (n + 16)) (cElt prC) (cGens prC).tail (prM N q l1, st, []) = some (prM N q l2, st, []) := by
      have e : (cGens prC).tail = [cG prC 1] := by kernel_rfl
      rw [e]
      unfold compBody
      have hc : ((cG prC 1).is_async = 0 && plainE (cG prC 1).iter) = true := by kernel_rfl
      rw [if_pos hc]
      have hE : (ev (n + 16)).E (prM N q l1) st (cG prC 1).iter = some (.d (.list (raB (XN N) I4)), st) := by
        rcases p1 with rfl | ⟨u, rfl⟩ <;> kernel_rfl
      show ((ev (n + 16)).E (prM N q l1) st (cG prC 1).iter).bind _ = _
      rw [hE]
      have hi : iterOf (.d (.list (raB (XN N) I4))) st = some (.items (I4.map fun j => .d (.tuple (XN N j)))) := by kernel_rfl
      simp only [Option.bind_some, hi]
      exact h2
    have ht : compTurn1 (ev (n + 16)) (cG prC 0).target (cG prC 0).ifs (fun c => compBody (ev (n + 16)) (cElt prC) (cGens prC).tail c) (.d (.tuple (XN N i))) (prM N q l, st, []) = some (prM N q l2, st, []) := by
      unfold compTurn1
      show (putT (prM N q l) (cG prC 0).target (.d (.tuple (XN N i)))).bind _ = _
      rw [hput]
      exact hbody
    obtain ⟨l3, h3⟩ := pair_out n hq is l2 (fun x hx => hi x (List.mem_cons_of_mem _ hx)) (.inr ⟨i, p2⟩)
    exact ⟨l3, overItems_cons ht h3⟩

theorem law12 (n : Nat) {q : Nat} (hq : st[q]? = some (ordO N)) : stepS (ev (n + 18)) (lM (lL5 ns N) (lC7 N q)) st (lS 12) = some (.nx, lM (lL5 ns N) (lC7 N q), st) := by
  obtain ⟨l', h⟩ := pair_out n hq I4 [] (fun _ h => h) (.inl rfl)
  have hT : (ev (n + 18)).T (lM (lL5 ns N) (lC7 N q)) st (sv (lS 12)) = some (false, st) := by
    refine T_cmp .NotEq (x := .d (.list [])) (y := .d (.list [])) (st1 := st) (by kernel_rfl) (E_comp (e := prC) (by kernel_rfl) (comp_of (x := .d (.list (raB (XN N) I4))) (it := .items (I4.map fun j => .d (.tuple (XN N j)))) (fm' := prM N q l') (st1 := st) (by kernel_rfl) (by kernel_rfl) (by kernel_rfl) ?_)) (by kernel_rfl) (ne_nil (xs := []) fun _ h => nomatch h)
    have : cFm (lM (lL5 ns N) (lC7 N q)) prC = prM N q [] := by kernel_rfl
    rw [this]
    exact h
  refine (S_iff (by kernel_rfl) hT rfl).trans ?_
  kernel_rfl
end
end Mine
end
section
set_option maxRecDepth 100000
namespace Mine
open PySem

/-! law: one start's turn, its parts. -/
noncomputable def loS : Stmt := lS 13
noncomputable abbrev loB : List Stmt := sb loS
noncomputable abbrev lCq (N : Nat → Nat) (q : List Nat) (qo : Nat) : List (Str × PV) := lC5 N ++ [(nm "ranks", .d (ranksD q)), (nm "order", .obj qo)]
noncomputable abbrev toldD (N : Nat → Nat) (p : List Nat) : PyData := .tuple [wordsD N, nS (netL N), nI (1 + ((textN N).count 10 : Nat)), .list (raB (XN N) p)]
noncomputable def getR (q : List Nat) (i : Nat) : Nat := q.getD i 0
noncomputable abbrev rowN (N : Nat → Nat) (i : Nat) : PyData := .tuple (XN N i)

theorem perm_mem {p : List Nat} (hp : p ∈ perms4) : (∀ i ∈ p, i ∈ I4) ∧ p.length = 4 := by
  have : ∀ p ∈ perms4, (∀ i ∈ p, i ∈ I4) ∧ p.length = 4 := by decide
  exact this p hp
theorem rank_idx {q : List Nat} (hq : q ∈ perms4) {i : Nat} (hi : i ∈ I4) : idx (ranksD q) (i : Int) = some (nI (getR q i : Int)) := by
  have hl := (perm_mem hq).2
  have h4 : i < 4 := by
    simp only [I4, List.mem_cons, List.not_mem_nil, or_false] at hi; omega
  refine idx0 i _ ?_ (by omega)
  rw [List.getElem?_map, List.getElem?_eq_getElem (by omega)]
  unfold getR
  rw [List.getD_eq_getElem?_getD, List.getElem?_eq_getElem (by omega)]
  rfl

section
variable {ns : List Int} {N : Nat → Nat} {st : St} {q : List Nat} {qo : Nat}

/-! told's counts -/
noncomputable def coC : Expr := sv (at_ loB 2)
noncomputable def coC2 : Expr := kid (cElt coC) 1
noncomputable abbrev coM (N : Nat → Nat) (q p : List Nat) (l : List (Str × PV)) : Fm := ⟨(cScope coC).names, [], [(nm "ranks", .d (ranksD q)), (nm "told", .d (toldD N p))] ++ l, false, 0⟩
noncomputable abbrev coM2 (q : List Nat) (k : Int) (l : List (Str × PV)) : Fm := ⟨(cScope coC2).names, l, [(nm "k", .d (nI k)), (nm "ranks", .d (ranksD q))], false, 0⟩

theorem count_one (n : Nat) (hq : q ∈ perms4) {p : List Nat} (hp : p ∈ perms4) (k : Nat) (hk : k < 9) :
    (ev (n + 12)).E (coM N q p [(nm "k", .d (nI (k : Int)))]) st (cElt coC) = some (.d (nI (cntQ (p.map (getR q)) k : Int)), st) := by
  obtain ⟨hpm, hpl⟩ := perm_mem hp
  let fmOf : Option Nat → Fm := fun o => match o with
    | none => coM2 q k []
    | some i => coM2 q k [(nm "row", .d (rowN N i))]
  let c : Nat → Bool := fun i => decide ((getR q i : Int) < 3 - (k : Int) % 3)
  let f : Nat → List PyData := fun i => if c i then [rowN N i] else []
  have turn : ∀ i ∈ p.take (k / 3 + 1), ∀ o xs, xs.length ≤ lim → compTurn1 (ev (n + 10)) (cG coC2 0).target (cG coC2 0).ifs (fun c => compBody (ev (n + 10)) (cElt coC2) (cGens coC2).tail c) (.d (rowN N i)) (fmOf o, st, xs) = some (fmOf (some i), st, xs ++ f i) := by
    intro i hi o xs hx
    have hi4 := hpm i (List.mem_of_mem_take hi)
    have hput : putT (fmOf o) (cG coC2 0).target (.d (rowN N i)) = some (coM2 q k [(nm "row", .d (rowN N i))]) := by cases o <;> kernel_rfl
    have hT : (ev (n + 10)).T (coM2 q k [(nm "row", .d (rowN N i))]) st ((cG coC2 0).ifs.getD 0 coC2) = some (c i, st) := by
      refine T_cmp .Lt (x := .d (nI (getR q i : Int))) (y := .d (nI (3 - (k : Int) % 3))) (st1 := st) (by kernel_rfl) ?_ (by kernel_rfl) rfl
      exact E_idx (ov := .d (ranksD q)) (k := (i : Int)) (x := ranksD q) (st1 := st) (by kernel_rfl) (by kernel_rfl) (by kernel_rfl) rfl (rank_idx hq hi4)
    have hifs : evIfs (ev (n + 10)) (coM2 q k [(nm "row", .d (rowN N i))]) st (cG coC2 0).ifs = some (c i, st) := ifs_one hT
    show compTurn1 _ _ _ (fun c => compBody _ _ [] c) _ _ = some (coM2 q k [(nm "row", .d (rowN N i))], st, xs ++ if c i then [rowN N i] else [])
    cases hb : c i with
    | true =>
      rw [hb] at hifs
      exact turn_of hput hifs (by kernel_rfl) hx
    | false =>
      rw [hb] at hifs
      rw [if_neg Bool.false_ne_true, List.append_nil]
      exact turn_no hput hifs
  have htl : (p.take (k / 3 + 1)).length ≤ 4 := by rw [List.length_take]; omega
  have hfl : (p.take (k / 3 + 1)).flatMap f = ((p.take (k / 3 + 1)).filter c).map (rowN N) := filt_map c (rowN N) _
  have hle : ((p.take (k / 3 + 1)).filter c).length ≤ 4 := Nat.le_trans (List.length_filter_le ..) htl
  obtain ⟨o', h⟩ := over_idx fmOf (fun i => .d (rowN N i)) f st (p.take (k / 3 + 1)) none [] turn (by rw [hfl, List.nil_append, List.length_map]; unfold lim; omega)
  rw [hfl, List.nil_append] at h
  have hcnt : cntQ (p.map (getR q)) k = ((p.take (k / 3 + 1)).filter c).length := by
    unfold cntQ
    rw [← List.map_take, List.filter_map, List.length_map]
    congr 1
    apply List.filter_congr
    intro i _
    show decide (getR q i < 3 - k % 3) = decide ((getR q i : Int) < 3 - (k : Int) % 3)
    exact decide_eq_decide.mpr (by omega)
  rw [hcnt]
  refine E_call (fv := .bi "len") (vs := [.d (.list (((p.take (k / 3 + 1)).filter c).map (rowN N)))]) (st1 := st) (st2 := st) (by kernel_rfl) (by kernel_rfl) (by kernel_rfl) (evL_one (t := coC2) (by kernel_rfl) (E_comp (by kernel_rfl) (comp_of (x := .d (.list ((p.take (k / 3 + 1)).map (rowN N)))) (it := .items ((p.take (k / 3 + 1)).map fun i => .d (rowN N i))) (fm' := fmOf o') (st1 := st) (by kernel_rfl) ?_ ?_ ?_))) ?_
  · have hs := slc_take (xs := raB (XN N) p) (k := k / 3 + 1) (by rw [List.length_map, hpl]; decide) (by omega)
    rw [← List.map_take, show (((k / 3 + 1 : Nat)) : Int) = (k : Int) / 3 + 1 by omega] at hs
    exact E_slcR (x := .list (raB (XN N) p)) (j := (k : Int) / 3 + 1) (st1 := st) (by kernel_rfl) (by kernel_rfl) (by kernel_rfl) hs
  · have := iter_list (st := st) (xs := (p.take (k / 3 + 1)).map (rowN N)) (by rw [List.length_map]; unfold lim; omega)
    rw [List.map_map] at this
    exact this
  · have : cFm (coM N q p [(nm "k", .d (nI (k : Int)))]) coC2 = coM2 q k [] := by kernel_rfl
    rw [this]
    exact h
  · have := len_C (r := ev (n + 10)) (xs := ((p.take (k / 3 + 1)).filter c).map (rowN N)) (st := st) (by rw [List.length_map]; unfold lim; omega)
    rw [List.length_map] at this
    exact this
theorem count_all (n : Nat) (hq : q ∈ perms4) {p : List Nat} (hp : p ∈ perms4) {fm : Fm} (hok : COk fm coC) (hi : (ev (n + 12)).E fm st (cG coC 0).iter = some (.rng 9, st)) (hcf : cFm fm coC = coM N q p []) :
    comp (ev (n + 12)) fm st (cElt coC) (cGens coC) (cScope coC) = some (.d (.list ((List.range 9).map fun (k : Nat) => nI (cntQ (p.map (getR q)) k : Int))), st) := by
  let fmOf : Option Nat → Fm := fun o => match o with
    | none => coM N q p []
    | some k => coM N q p [(nm "k", .d (nI (k : Int)))]
  have turn : ∀ k ∈ List.range 9, ∀ o xs, xs.length ≤ lim → compTurn1 (ev (n + 12)) (cG coC 0).target (cG coC 0).ifs (fun c => compBody (ev (n + 12)) (cElt coC) (cGens coC).tail c) (.d (nI (k : Int))) (fmOf o, st, xs) = some (fmOf (some k), st, xs ++ [nI (cntQ (p.map (getR q)) k : Int)]) := by
    intro k hk o xs hx
    have hput : putT (fmOf o) (cG coC 0).target (.d (nI (k : Int))) = some (coM N q p [(nm "k", .d (nI (k : Int)))]) := by cases o <;> kernel_rfl
    show compTurn1 _ _ _ (fun c => compBody _ _ [] c) _ _ = _
    exact turn_of (fm1 := coM N q p [(nm "k", .d (nI (k : Int)))]) (st1 := st) hput rfl (count_one n hq hp k (List.mem_range.mp hk)) hx
  obtain ⟨o', h⟩ := over_idx fmOf (fun (k : Nat) => .d (nI (k : Int))) (fun k => [nI (cntQ (p.map (getR q)) k : Int)]) st (List.range 9) none [] turn (by rw [List.nil_append, ← List.map_eq_flatMap, List.length_map, List.length_range]; decide)
  rw [List.nil_append, ← List.map_eq_flatMap] at h
  refine comp_of (x := .rng 9) (it := .items (rngL 9)) (fm' := fmOf o') (st1 := st) hok hi (by kernel_rfl) ?_
  rw [hcf]
  exact h

/-! the start's ranks -/
noncomputable def leC1 : Expr := kid (kid (kid (kid (sv (at_ loB 3)) 1) 1) 0) 1
noncomputable abbrev leM (q : List Nat) (l : List (Str × PV)) : Fm := ⟨(cScope leC1).names, l, [(nm "ranks", .d (ranksD q))], false, 0⟩
theorem start_ranks (n : Nat) (hq : q ∈ perms4) {p : List Nat} (hp : p ∈ perms4) {fm : Fm} (hok : COk fm leC1) (hi : (ev (n + 10)).E fm st (cG leC1 0).iter = some (.d (.list (raB (XN N) p)), st)) (hcf : cFm fm leC1 = leM q []) :
    comp (ev (n + 10)) fm st (cElt leC1) (cGens leC1) (cScope leC1) = some (.d (ranksD (p.map (getR q))), st) := by
  obtain ⟨hpm, hpl⟩ := perm_mem hp
  let fmOf : Option Nat → Fm := fun o => match o with
    | none => leM q []
    | some i => leM q [(nm "row", .d (rowN N i))]
  have turn : ∀ i ∈ p, ∀ o xs, xs.length ≤ lim → compTurn1 (ev (n + 10)) (cG leC1 0).target (cG leC1 0).ifs (fun c => compBody (ev (n + 10)) (cElt leC1) (cGens leC1).tail c) (.d (rowN N i)) (fmOf o, st, xs) = some (fmOf (some i), st, xs ++ [nI (getR q i : Int)]) := by
    intro i hi o xs hx
    have hput : putT (fmOf o) (cG leC1 0).target (.d (rowN N i)) = some (leM q [(nm "row", .d (rowN N i))]) := by cases o <;> kernel_rfl
    show compTurn1 _ _ _ (fun c => compBody _ _ [] c) _ _ = _
    refine turn_of (fm1 := leM q [(nm "row", .d (rowN N i))]) (st1 := st) hput rfl ?_ hx
    exact E_idx (ov := .d (ranksD q)) (k := (i : Int)) (x := ranksD q) (st1 := st) (by kernel_rfl) (by kernel_rfl) (by kernel_rfl) rfl (rank_idx hq (hpm i hi))
  obtain ⟨o', h⟩ := over_idx fmOf (fun i => .d (rowN N i)) (fun i => [nI (getR q i : Int)]) st p none [] turn (by rw [List.nil_append, ← List.map_eq_flatMap, List.length_map]; unfold lim; omega)
  rw [List.nil_append, ← List.map_eq_flatMap] at h
  refine comp_of (x := .d (.list (raB (XN N) p))) (it := .items (p.map fun i => .d (rowN N i))) (fm' := fmOf o') (st1 := st) hok hi ?_ ?_
  · have := iter_list (st := st) (xs := raB (XN N) p) (by rw [List.length_map, hpl]; decide)
    rw [List.map_map] at this
    exact this
  · rw [hcf, List.map_map]
    exact h

/-! the run's lines are the rows -/
noncomputable def trP (k : Nat) : List Nat → List Nat
  | [a, b, c, d] => match k with
    | 0 => [b, a, c, d]
    | 1 => [a, c, b, d]
    | _ => [a, b, d, c]
  | l => l
theorem trP_mem : ∀ p ∈ perms4, trP 0 p ∈ perms4 ∧ trP 1 p ∈ perms4 ∧ trP 2 p ∈ perms4 := by decide
theorem run_idx {r : Nat → Nat} : ∀ (ls p : List Nat), p ∈ perms4 → ∃ p' ∈ perms4, ls.foldl (fun x l => swp (cmpR r) (l - 97) x) (raB (XN N) p) = raB (XN N) p' ∧ p'.map r = runQ ls (p.map r)
  | [], p, hp => ⟨p, hp, rfl, rfl⟩
  | l :: ls, p, hp => by
    have one : ∃ p1 ∈ perms4, swp (cmpR r) (l - 97) (raB (XN N) p) = raB (XN N) p1 ∧ p1.map r = swq (l - 97) (p.map r) := by
      have hl := (perm_mem hp).2
      have ht := trP_mem p hp
      match p, hl with
      | [a, b, c, d], _ =>
        have pos : ∀ x y, 0 < cmpR r (rowN N x) (rowN N y) ↔ r y < r x := fun x y => by
          show 0 < sgnR (r x) (r y) ↔ _
          unfold sgnR; omega
        have key : ∀ (P Q : Prop) [Decidable P] [Decidable Q] (p1 : List Nat), p1 ∈ perms4 → (P ↔ Q) → ∃ p2 ∈ perms4, (if P then raB (XN N) p1 else raB (XN N) [a, b, c, d]) = raB (XN N) p2 ∧ p2.map r = if Q then p1.map r else [a, b, c, d].map r := by
          intro P Q _ _ p1 h1 e
          by_cases h : P
          · exact ⟨p1, h1, if_pos h, (if_pos (e.mp h)).symm⟩
          · exact ⟨_, hp, if_neg h, (if_neg fun hq => h (e.mpr hq)).symm⟩
        match l - 97 with
        | 0 => exact key _ _ _ ht.1 (pos a b)
        | 1 => exact key _ _ _ ht.2.1 (pos b c)
        | _ + 2 => exact key _ _ _ ht.2.2 (pos c d)
    obtain ⟨p1, h1, e1, e2⟩ := one
    obtain ⟨p2, h2, e3, e4⟩ := run_idx ls p1 h1
    refine ⟨p2, h2, ?_, ?_⟩
    · rw [List.foldl_cons, e1]; exact e3
    · rw [e4, e2]; rfl
end
end Mine
end
section
set_option maxRecDepth 100000
namespace Mine
open PySem

/-! law: the whole. -/
theorem layAllD (d : Nat) : ∀ xs : List PyData, (∀ x ∈ xs, x.canLay0 = true ∧ x.depth ≤ d) → PyData.canLayAll0 xs = true ∧ PyData.depthAll xs ≤ d
  | [], _ => by
    refine ⟨by unfold PyData.canLayAll0; rfl, by unfold PyData.depthAll; omega⟩
  | x :: xs, h => by
    obtain ⟨h1, h2⟩ := h x List.mem_cons_self
    obtain ⟨h3, h4⟩ := layAllD d xs fun y hy => h y (List.mem_cons_of_mem _ hy)
    refine ⟨by unfold PyData.canLayAll0; rw [h1, h3]; rfl, by unfold PyData.depthAll; omega⟩
theorem lay_list {d : Nat} {xs : List PyData} (h : ∀ x ∈ xs, x.canLay0 = true ∧ x.depth ≤ d) : (PyData.list xs).canLay0 = true ∧ (PyData.list xs).depth ≤ d + 1 := by
  obtain ⟨h1, h2⟩ := layAllD d xs h
  exact ⟨by unfold PyData.canLay0; exact h1, by unfold PyData.depth; omega⟩
theorem lay_tuple {d : Nat} {xs : List PyData} (h : ∀ x ∈ xs, x.canLay0 = true ∧ x.depth ≤ d) : (PyData.tuple xs).canLay0 = true ∧ (PyData.tuple xs).depth ≤ d + 1 := by
  obtain ⟨h1, h2⟩ := layAllD d xs h
  exact ⟨by unfold PyData.canLay0; exact h1, by unfold PyData.depth; omega⟩
theorem small_of {x : PyData} (h : x.canLay0 = true ∧ x.depth ≤ 64) : PyData.small x = true := by
  unfold PyData.small SeqAt.shaped
  rw [h.1, decide_eq_true h.2]; rfl
theorem lay_str {d : Nat} {l : List Nat} (h : ∀ c ∈ l, c < 1000) : (nS l).canLay0 = true ∧ (nS l).depth ≤ d := ⟨(flat_str h).1, by unfold PyData.depth; omega⟩
theorem lay_int {d : Nat} (i : Int) : (nI i).canLay0 = true ∧ (nI i).depth ≤ d := ⟨(flat_int i).1, by unfold PyData.depth; omega⟩
theorem ne_tuple {xs : List PyData} (h : (PyData.tuple xs).canLay0 = true ∧ (PyData.tuple xs).depth ≤ 64) : cmpD .NotEq (.tuple xs) (.tuple xs) = some false := by
  show (if PyData.small (.tuple xs) && PyData.small (.tuple xs) then some (!PyData.eqv (.tuple xs) (.tuple xs)) else none) = _
  rw [small_of h]
  show some (!PyData.eqv (.tuple xs) (.tuple xs)) = _
  rw [SeqAt.eqv_refl _ h.1]; rfl
theorem ne_list {xs : List PyData} (h : (PyData.list xs).canLay0 = true ∧ (PyData.list xs).depth ≤ 64) : cmpD .NotEq (.list xs) (.list xs) = some false := by
  show (if PyData.small (.list xs) && PyData.small (.list xs) then some (!PyData.eqv (.list xs) (.list xs)) else none) = _
  rw [small_of h]
  show some (!PyData.eqv (.list xs) (.list xs)) = _
  rw [SeqAt.eqv_refl _ h.1]; rfl

theorem sg_mem (m : Nat) : sgN m ∈ signL := by
  have h : m % 6 < 6 := Nat.mod_lt _ (by decide)
  unfold sgN
  generalize m % 6 = j at h
  match j, h with
  | 0, _ => decide
  | 1, _ => decide
  | 2, _ => decide
  | 3, _ => decide
  | 4, _ => decide
  | 5, _ => decide
theorem lt_mem (m : Nat) : ∀ c ∈ ltN m, c = 97 ∨ c = 98 ∨ c = 99 := by
  have h : m % 4 < 4 := Nat.mod_lt _ (by decide)
  unfold ltN
  generalize m % 4 = j at h
  match j, h with
  | 0, _ => decide
  | 1, _ => decide
  | 2, _ => decide
  | 3, _ => decide
theorem net_mem (N : Nat → Nat) : ∀ c ∈ netL N, c = 97 ∨ c = 98 ∨ c = 99 := by
  intro c hc
  unfold netL at hc
  obtain ⟨w, hw, hc⟩ := List.mem_flatten.mp hc
  obtain ⟨i, _, rfl⟩ := List.mem_map.mp hw
  unfold netW at hc
  rcases List.mem_append.mp hc with h | h
  · exact lt_mem _ c h
  · exact lt_mem _ c h
theorem w_mem (N : Nat → Nat) (i : Nat) : wN N i ∈ wordsL := by
  have : ∀ c ∈ signL, ∀ d ∈ signL, [c, d] ∈ wordsL := by decide
  exact this _ (sg_mem _) _ (sg_mem _)
theorem w_small (N : Nat → Nat) (i : Nat) : ∀ c ∈ wN N i, c < 1000 := by
  have : ∀ c ∈ signL, c < 1000 := by decide
  intro c hc
  unfold wN at hc
  simp only [List.mem_cons, List.not_mem_nil, or_false] at hc
  rcases hc with rfl | rfl
  · exact this _ (sg_mem _)
  · exact this _ (sg_mem _)

theorem count_C {text : List Nat} {st : St} : strM (nm "count") (mkS text) [.d (nS [10])] st = some (.d (nI ((text.count 10 : Nat) : Int)), st) := by kernel_rfl

section
variable {ns : List Int} {N : Nat → Nat} {st : St} {qo : Nat}

theorem getR_rk {i : Nat} (hi : i ∈ I4) : getR (I4.map (rkN N)) i = rkN N i := by
  simp only [I4, List.mem_cons, List.not_mem_nil, or_false] at hi
  rcases hi with rfl | rfl | rfl | rfl <;> rfl
theorem map_rk {p : List Nat} (hp : p ∈ perms4) : p.map (getR (I4.map (rkN N))) = p.map (rkN N) := List.map_congr_left fun i hi => getR_rk ((perm_mem hp).1 i hi)

/-- the run of one start -/
theorem told_ok (n : Nat) (ho : st[qo]? = some (ordO N)) {p : List Nat} (hp : p ∈ perms4) : ∃ st' p', (ev (n + 23)).C (.fn 108) [.d (nS (textN N)), .d (.list (raB (XN N) p)), .obj qo] st = some (.d (toldD N p'), st') ∧ p' ∈ perms4 ∧ p'.map (rkN N) = runQ (netL N) (p.map (rkN N)) ∧ ∀ q, q < st.length → st'[q]? = st[q]? := by
  have hlen : (textN N).length < 900 := by
    have h1 := txtL_len (totN N) (wsN N) 0 wsN_len
    have h2 := wsN_size (N := N)
    unfold textN; omega
  obtain ⟨R4, Rend, x1, x2, x3⟩ := lexes_both (totN N) (I4.map (wN N)) ((netL N).map fun c => [c]) (fun w hw => by
    obtain ⟨i, _, rfl⟩ := List.mem_map.mp hw
    exact w_mem N i) (fun w hw => by
    obtain ⟨c, hc, rfl⟩ := List.mem_map.mp hw
    have : ∀ c, c = 97 ∨ c = 98 ∨ c = 99 → [c] ∈ wordsL := by
      rintro c (rfl | rfl | rfl) <;> decide
    exact this c (net_mem N c hc))
  obtain ⟨p', hp', e1, e2⟩ := run_idx (N := N) (r := rkN N) (netL N) p hp
  obtain ⟨hpm, hpl⟩ := perm_mem hp
  have hrow : ∀ x ∈ raB (XN N) p, x ∈ raB (XN N) I4 := fun x hx => by
    obtain ⟨i, hi, rfl⟩ := List.mem_map.mp hx
    exact List.mem_map.mpr ⟨i, hpm i hi, rfl⟩
  match p, hpl with
  | [a, b, c, d], _ =>
    obtain ⟨st', h1, h2⟩ := run_ok n (cmp_ok (n + 8) N qo) hlen (r0 := rowN N a) (r1 := rowN N b) (r2 := rowN N c) (r3 := rowN N d) (w0 := wN N 0) (w1 := wN N 1) (w2 := wN N 2) (w3 := wN N 3) ho hrow x1 x2 x3 (net_mem N) (by have := net_len (N := N); omega)
    have e1' : (netL N).foldl (fun x l => swp (cmpR (rkN N)) (l - 97) x) [rowN N a, rowN N b, rowN N c, rowN N d] = raB (XN N) p' := e1
    rw [e1'] at h1
    exact ⟨st', p', h1, hp', e2, h2⟩

noncomputable abbrev sfM (ns : List Int) (N : Nat → Nat) (qo : Nat) (p : List Nat) (ct tt : List (Str × PV)) : Fm := lM (lL5 ns N ++ (nm "start", .d (.list (raB (XN N) p))) :: ct) (lCq N (I4.map (rkN N)) qo ++ tt)
noncomputable def sT (ct tt : List (Str × PV)) : Prop := (ct = [] ∧ tt = []) ∨ ∃ a b, ct = [(nm "counts", a)] ∧ tt = [(nm "told", b)]
noncomputable abbrev cntD (N : Nat → Nat) (p : List Nat) : PyData := .list ((List.range 9).map fun (k : Nat) => nI (cntQ (p.map (getR (I4.map (rkN N)))) k : Int))

theorem turn0 (n : Nat) {p : List Nat} {ct tt : List (Str × PV)} (ht : sT ct tt) {st' : St} {v : PV} (h : (ev (n + 23)).C (.fn 108) [.d (nS (textN N)), .d (.list (raB (XN N) p)), .obj qo] st = some (v, st')) :
    stepS (ev (n + 24)) (sfM ns N qo p ct tt) st (at_ loB 0) = some (.nx, sfM ns N qo p ct [(nm "told", v)], st') := by
  refine S_asg (nm "told") (v := v) (by kernel_rfl) ?_ ?_
  · exact E_call (fv := .fn 108) (vs := [.d (nS (textN N)), .d (.list (raB (XN N) p)), .obj qo]) (st1 := st) (st2 := st) (by kernel_rfl) (by kernel_rfl) (by kernel_rfl) (by kernel_rfl) h
  · rcases ht with ⟨rfl, rfl⟩ | ⟨a, b, rfl, rfl⟩ <;> kernel_rfl

theorem turn1 (n : Nat) {p p' : List Nat} (hp' : p' ∈ perms4) {ct : List (Str × PV)} : stepS (ev (n + 24)) (sfM ns N qo p ct [(nm "told", .d (toldD N p'))]) st (at_ loB 1) = some (.nx, sfM ns N qo p ct [(nm "told", .d (toldD N p'))], st) := by
  have hlay : (PyData.tuple [wordsD N, nS (netL N), nI (1 + ((textN N).count 10 : Nat))]).canLay0 = true ∧ (PyData.tuple [wordsD N, nS (netL N), nI (1 + ((textN N).count 10 : Nat))]).depth ≤ 64 := by
    have hw : (wordsD N).canLay0 = true ∧ (wordsD N).depth ≤ 1 := lay_list (d := 0) fun x hx => by
      obtain ⟨i, _, rfl⟩ := List.mem_map.mp hx
      exact lay_str (w_small N i)
    have := lay_tuple (d := 1) (xs := [wordsD N, nS (netL N), nI (1 + ((textN N).count 10 : Nat))]) fun x hx => by
      simp only [List.mem_cons, List.not_mem_nil, or_false] at hx
      rcases hx with rfl | rfl | rfl
      · exact hw
      · exact lay_str fun c hc => by have := net_mem N c hc; omega
      · exact lay_int _
    exact ⟨this.1, by omega⟩
  have c1 : (ev (n + 23)).T (sfM ns N qo p ct [(nm "told", .d (toldD N p'))]) st (kid (sv (at_ loB 1)) 0) = some (false, st) := by
    refine T_cmp .NotEq (x := .d (.tuple [wordsD N, nS (netL N), nI (1 + ((textN N).count 10 : Nat))])) (y := .d (.tuple [wordsD N, nS (netL N), nI (1 + ((textN N).count 10 : Nat))])) (st1 := st) (by kernel_rfl) (by kernel_rfl) ?_ (ne_tuple hlay)
    refine E_tup (vs := [.d (wordsD N), .d (nS (netL N)), .d (nI (1 + ((textN N).count 10 : Nat)))]) (by kernel_rfl) ?_ (by kernel_rfl) (by simp [lim])
    refine evL_cons (t := kid (kid (kid (sv (at_ loB 1)) 0) 1) 0) (es := (kids (kid (kid (sv (at_ loB 1)) 0) 1)).drop 1) (st1 := st) (by kernel_rfl) (by kernel_rfl) ?_
    refine evL_cons (t := kid (kid (kid (sv (at_ loB 1)) 0) 1) 1) (es := (kids (kid (kid (sv (at_ loB 1)) 0) 1)).drop 2) (st1 := st) (by kernel_rfl) (by kernel_rfl) ?_
    refine evL_one (t := kid (kid (kid (sv (at_ loB 1)) 0) 1) 2) (by kernel_rfl) ?_
    refine E_bin .Add (x := nI 1) (y := nI ((textN N).count 10 : Nat)) (st1 := st) (by kernel_rfl) (by kernel_rfl) ?_ rfl
    exact E_meth (nm "count") (ov := .d (nS (textN N))) (cal := .sm (nm "count") (mkS (textN N))) (vs := [.d (nS [10])]) (st1 := st) (st2 := st) (by kernel_rfl) (by kernel_rfl) (by kernel_rfl) rfl (by kernel_rfl) count_C
  have c2 : (ev (n + 23)).T (sfM ns N qo p ct [(nm "told", .d (toldD N p'))]) st (kid (sv (at_ loB 1)) 1) = some (false, st) := by
    simp only [perms4, List.mem_cons, List.not_mem_nil, or_false] at hp'
    rcases hp' with rfl|rfl|rfl|rfl|rfl|rfl|rfl|rfl|rfl|rfl|rfl|rfl|rfl|rfl|rfl|rfl|rfl|rfl|rfl|rfl|rfl|rfl|rfl|rfl <;> kernel_rfl
  have hT : (ev (n + 24)).T (sfM ns N qo p ct [(nm "told", .d (toldD N p'))]) st (sv (at_ loB 1)) = some (false, st) := by
    refine (T_or (by kernel_rfl)).trans ?_
    have e : kids (sv (at_ loB 1)) = [kid (sv (at_ loB 1)) 0, kid (sv (at_ loB 1)) 1] := by kernel_rfl
    rw [e]
    exact (evOr_f c1).trans ((evOr_f c2).trans rfl)
  refine (S_iff (by kernel_rfl) hT rfl).trans ?_
  kernel_rfl

theorem turn2 (n : Nat) {p p' : List Nat} (hp' : p' ∈ perms4) {ct tt : List (Str × PV)} (ht : sT ct tt) : stepS (ev (n + 24)) (sfM ns N qo p ct [(nm "told", .d (toldD N p'))]) st (at_ loB 2) = some (.nx, sfM ns N qo p [(nm "counts", .d (cntD N p'))] [(nm "told", .d (toldD N p'))], st) := by
  refine S_asgC (nm "counts") (v := .d (cntD N p')) (by kernel_rfl) (count_all (N := N) (n + 12) (rk_perm N) hp' ?_ ?_ ?_) ?_
  · kernel_rfl
  · kernel_rfl
  · kernel_rfl
  · rcases ht with ⟨rfl, rfl⟩ | ⟨a, b, rfl, rfl⟩ <;> kernel_rfl

theorem lead_len : ∀ q ∈ perms4, (leadL q).length ≤ 6 := by decide +kernel
theorem perm_comp : ∀ p ∈ perms4, ∀ q ∈ perms4, p.map (getR q) ∈ perms4 := by decide +kernel

theorem turn3 (n : Nat) {p p' : List Nat} (hp : p ∈ perms4) (hp' : p' ∈ perms4) (hrun : p'.map (rkN N) = runQ (netL N) (p.map (rkN N))) : ∃ st', stepS (ev (n + 24)) (sfM ns N qo p [(nm "counts", .d (cntD N p'))] [(nm "told", .d (toldD N p'))]) st (at_ loB 3) = some (.nx, sfM ns N qo p [(nm "counts", .d (cntD N p'))] [(nm "told", .d (toldD N p'))], st') ∧ ∀ q, q < st.length → st'[q]? = st[q]? := by
  have hq0 := perm_comp p hp _ (rk_perm N)
  generalize hgot : leadL (p.map (getR (I4.map (rkN N)))) ++ netL N = got
  have hl := lead_len _ hq0
  have hn := net_len (N := N)
  have hlen : got.length ≤ 10000 := by rw [← hgot, List.length_append]; omega
  have hcnt : cntD N p' = .list ((List.range 9).map fun (k : Nat) => nI (dueI got k)) := by
    have : (List.range 9).map (fun (k : Nat) => nI (cntQ (p'.map (getR (I4.map (rkN N)))) k : Int)) = (List.range 9).map fun (k : Nat) => nI (dueI got k) := by
      apply List.map_congr_left
      intro k hk
      have := net_law hq0 (net_mem N) (List.mem_range.mp hk)
      rw [hgot, map_rk hp, ← hrun] at this
      rw [map_rk hp', this]
    show PyData.list _ = PyData.list _
    rw [this]
  refine ⟨st ++ [.list ((List.range 9).map fun (k : Nat) => nI (dueI got k))], ?_, fun q h => List.getElem?_append_left h⟩
  have hlay : (PyData.list ((List.range 9).map fun (k : Nat) => nI (dueI got k))).canLay0 = true ∧ (PyData.list ((List.range 9).map fun (k : Nat) => nI (dueI got k))).depth ≤ 64 := by
    have := lay_list (d := 0) (xs := (List.range 9).map fun (k : Nat) => nI (dueI got k)) fun x hx => by
      obtain ⟨k, _, rfl⟩ := List.mem_map.mp hx
      exact lay_int _
    exact ⟨this.1, by omega⟩
  have hT : (ev (n + 24)).T (sfM ns N qo p [(nm "counts", .d (cntD N p'))] [(nm "told", .d (toldD N p'))]) st (sv (at_ loB 3)) = some (false, st ++ [.list ((List.range 9).map fun (k : Nat) => nI (dueI got k))]) := by
    refine T_cmp .NotEq (x := .d (cntD N p')) (y := .obj st.length) (st1 := st) (by kernel_rfl) (by kernel_rfl) ?_ ?_
    · refine E_call (fv := .fn 125) (vs := [.d (nS got)]) (st1 := st) (st2 := st) (by kernel_rfl) (by kernel_rfl) (by kernel_rfl) ?_ (due_ok (n + 2) hlen st)
      refine evL_one (t := kid (kid (sv (at_ loB 3)) 1) 1) (by kernel_rfl) ?_
      rw [← hgot]
      refine E_bin .Add (x := nS (leadL (p.map (getR (I4.map (rkN N)))))) (y := nS (netL N)) (st1 := st) (by kernel_rfl) ?_ (by kernel_rfl) (chk_of (show (leadL (p.map (getR (I4.map (rkN N))))).length + (netL N).length ≤ lim by unfold lim; omega))
      refine E_call (fv := .fn 120) (vs := [.d (ranksD (p.map (getR (I4.map (rkN N)))))]) (st1 := st) (st2 := st) (by kernel_rfl) (by kernel_rfl) (by kernel_rfl) ?_ (lead_ok (n + 9) st hq0)
      exact evL_one (t := leC1) (by kernel_rfl) (E_comp (by kernel_rfl) (start_ranks (N := N) (n + 9) (rk_perm N) hp (by kernel_rfl) (by kernel_rfl) (by kernel_rfl)))
    · show ((some (cntD N p')).bind fun x => (asD (st ++ [.list ((List.range 9).map fun (k : Nat) => nI (dueI got k))]) (.obj st.length)).bind fun y => cmpD .NotEq x y) = _
      rw [asD_list (get_at st _ []), hcnt]
      exact ne_list hlay
  refine (S_iff (by kernel_rfl) hT rfl).trans ?_
  kernel_rfl

/-- one start's turn -/
theorem start_turn (n : Nat) (ho : st[qo]? = some (ordO N)) {p : List Nat} (hp : p ∈ perms4) {ct tt : List (Str × PV)} (ht : sT ct tt) : ∃ st' a b, (ev (n + 25)).B (sfM ns N qo p ct tt) st loB = some (.nx, sfM ns N qo p [(nm "counts", a)] [(nm "told", b)], st') ∧ st'[qo]? = some (ordO N) := by
  obtain ⟨st1, p', h1, hp', hrun, k1⟩ := told_ok n ho hp
  have hl := get_lt ho
  have ht1 : sT ct tt := ht
  obtain ⟨st2, h3, k3⟩ := turn3 (ns := ns) (qo := qo) (st := st1) n hp hp' hrun
  have ho1 : st1[qo]? = some (ordO N) := (k1 qo hl).trans ho
  exact ⟨st2, _, _, B_start (B_at 0 (by kernel_rfl) (turn0 n ht h1) (B_at 1 (by kernel_rfl) (turn1 n hp') (B_at 2 (by kernel_rfl) (turn2 n hp' ht) (B_at 3 (by kernel_rfl) h3 (B_nil 4 (by kernel_rfl)))))), (k3 qo (get_lt ho1)).trans ho1⟩

noncomputable def fallP (q : List Nat) : List Nat := [3, 2, 1, 0].map fun v => q.idxOf v
theorem fall_perm : ∀ q ∈ perms4, fallP q ∈ perms4 := by decide
theorem fall_ok (n : Nat) {q : List Nat} (hq : q ∈ perms4) : (ev (n + 24)).E (lM (lL5 ns N) (lCq N q qo)) st (kid (sv loS) 0) = some (.d (.list (raB (XN N) (fallP q))), st) := by
  simp only [perms4, List.mem_cons, List.not_mem_nil, or_false] at hq
  rcases hq with rfl|rfl|rfl|rfl|rfl|rfl|rfl|rfl|rfl|rfl|rfl|rfl|rfl|rfl|rfl|rfl|rfl|rfl|rfl|rfl|rfl|rfl|rfl|rfl <;> kernel_rfl

theorem law13 (n : Nat) (ho : st[qo]? = some (ordO N)) : ∃ st' p a b, stepS (ev (n + 25)) (lM (lL5 ns N) (lC7 N qo)) st (lS 13) = some (.nx, sfM ns N qo p [(nm "counts", a)] [(nm "told", b)], st') := by
  have hq := rk_perm N
  have hf := fall_perm _ hq
  have hE : (ev (n + 25)).E (lM (lL5 ns N) (lCq N (I4.map (rkN N)) qo)) st (sv loS) = some (.d (.list [.list (raB (XN N) (fallP (I4.map (rkN N)))), .list (raB (XN N) I4)]), st) := by
    refine E_lst (vs := [.d (.list (raB (XN N) (fallP (I4.map (rkN N))))), .d (.list (raB (XN N) I4))]) (by kernel_rfl) ?_ (by kernel_rfl) (by simp [lim])
    exact evL_cons (t := kid (sv loS) 0) (es := (kids (sv loS)).drop 1) (st1 := st) (by kernel_rfl) (fall_ok n hq) (by kernel_rfl)
  generalize fallP (I4.map (rkN N)) = pf at hE hf
  obtain ⟨st1, a1, b1, h1, o1⟩ := start_turn (ns := ns) (ct := []) (tt := []) n ho hf (.inl ⟨rfl, rfl⟩)
  obtain ⟨st2, a2, b2, h2, o2⟩ := start_turn (ns := ns) (ct := [(nm "counts", a1)]) (tt := [(nm "told", b1)]) n o1 (p := I4) (by decide) (.inr ⟨_, _, rfl, rfl⟩)
  refine ⟨st2, I4, a2, b2, ?_⟩
  show stepS (ev (n + 25)) (lM (lL5 ns N) (lCq N (I4.map (rkN N)) qo)) st loS = _
  rw [S_for (r := ev (n + 25)) (x := .d (.list [.list (raB (XN N) pf), .list (raB (XN N) I4)])) (st1 := st) (it := .items [.d (.list (raB (XN N) pf)), .d (.list (raB (XN N) I4))]) (by kernel_rfl) hE (by kernel_rfl), forLoop_items]
  have p1 : putT (lM (lL5 ns N) (lCq N (I4.map (rkN N)) qo)) (tg loS) (.d (.list (raB (XN N) pf))) = some (sfM ns N qo pf [] []) := by kernel_rfl
  have p2 : putT (sfM ns N qo pf [(nm "counts", a1)] [(nm "told", b1)]) (tg loS) (.d (.list (raB (XN N) I4))) = some (sfM ns N qo I4 [(nm "counts", a1)] [(nm "told", b1)]) := by kernel_rfl
  rw [forItems_next p1 h1, forItems_next p2 h2]
  rfl
end

/-- law answers True -/
theorem law_true (n : Nat) (ns : List Int) (hl : ns.length ≤ 1000) : ∃ fm' st', (ev (n + 26)).B (lM0 ns) [] (fB 130) = some (.rt (.d (.bool true)), fm', st') := by
  obtain ⟨N, hb, hN⟩ := nums_nat ns
  have hgo : ([] ++ [ahO N] ++ [ordO N] : St)[([] ++ [ahO N] : St).length]? = some (ordO N) := rfl
  obtain ⟨st', p, a, b, h13⟩ := law13 (ns := ns) n hgo
  exact ⟨sfM ns N ([] ++ [ahO N] : St).length p [(nm "counts", a)] [(nm "told", b)], st', B_start (B_at 0 (by kernel_rfl) (law0 (n + 16)) (B_at 1 (by kernel_rfl) (law1 (n + 16) hl hN) (B_at 2 (by kernel_rfl) (law2 (n + 16) hb) (B_at 3 (by kernel_rfl) (law3 (n + 13)) (B_at 4 (by kernel_rfl) (law4 (n + 13)) (B_at 5 (by kernel_rfl) (law5 (n + 13)) (B_at 6 (by kernel_rfl) (law6 (n + 13)) (B_at 7 (by kernel_rfl) (law7 (n + 13)) (B_at 8 (by kernel_rfl) (law8 (n + 13)) (B_at 9 (by kernel_rfl) (law9 (n + 13)) (B_at 10 (by kernel_rfl) (law10 (n + 13)) (B_at 11 (by kernel_rfl) (law11 (n + 13)) (B_at 12 (by kernel_rfl) (law12 (n + 7) hgo) (B_at 13 (by kernel_rfl) h13 (B_end 14 (by kernel_rfl) (by kernel_rfl) trivial)))))))))))))))⟩
end Mine
end
section
namespace Mine
open PySem PySem.W PyProof.Rows
set_option maxRecDepth 100000
set_option maxHeartbeats 8000000
theorem nr_tw {p : Program} (h : PySem.W.Fast.tw8377067652309620493 p = true) : namesResolve p = true := (congrFun PySem.W.Fast.te8377067652309620493 p).trans h
theorem rl_tw {k : Look} {l : List Stmt} (h : PySem.W.Fast.tw8326940854005059898 k l = true) : noRoadLSs k l = true := (congrFun (congrFun PySem.W.Fast.te8326940854005059898 k) l).trans h
theorem nm_tw {p : Program} {b : List Stmt} {ok : Scope → Str → Bool} (h : PySem.W.Fast.tw17119622794617984870 p b ok = true) : namesMeet p b ok = true := (congrFun (congrFun (congrFun PySem.W.Fast.te17119622794617984870 p) b) ok).trans h
theorem said_ok : PySem.Challenge.rw_pm0019_01.wellSaid = true := by
  unfold OpenLaw.wellSaid OpenRow.wellSaid OpenRow.partSaid looksOpen
  repeat' with_reducible refine look_both ?_ ?_
  all_goals first
    | with_reducible refine nr_tw ?_
    | with_reducible refine rl_tw ?_
    | with_reducible refine nm_tw ?_
    | skip
  all_goals decide +kernel
theorem left_of {p q : Program} {loose : List Str} {Xt : Shared → Bool} {α : Type} {Yf : Shared → α} {Ya : World → α} {N : Nat} {g0 : Bool} {H₀ : Params → Heap} {gs₀ : Array GenState} {d₀ : Drawn} {k₀ : Nat}
    (o : ∀ w : World, (fencedOpening treeTable p w N).map (fun s => (s.heap, s.gens, s.drawn, s.toks)) = some (H₀ w.params, gs₀, d₀, k₀))
    (run : ∀ (w : World) (os : OsState), (match (H₀ w.params).isNs mainGlobals && gs₀.size == 0 with
      | true => (PySem.W.Fast.tw14082659384304107361 PySem.W.Fast.tw14364793385576792824 p w (H₀ w.params).objs.size ((H₀ w.params).nsMap mainGlobals "__annotations__") N ⟨H₀ w.params, gs₀, d₀, k₀, os⟩ (topStub p)).bind fun s₁ => match staticsOk (importedModules p.main.body) (H₀ w.params) s₁.heap && namesBound p s₁.heap && gensDone s₁ && laidKept (H₀ w.params) s₁.heap with
        | true => some s₁
        | false => none
      | false => none).map (fun s => (PySem.W.Fast.tw4187177175401517315 q loose (importedModules p.main.body) Xt g0 s, Yf s)) = some (openGood q loose, Ya w)) : LeftO p q loose Xt Yf Ya N g0 := fun w => by
  obtain ⟨⟨h, gs, d, k, os⟩, e, e'⟩ := Option.map_eq_some_iff.mp (o w)
  obtain ⟨rfl, rfl, rfl, rfl⟩ : h = H₀ w.params ∧ gs = gs₀ ∧ d = d₀ ∧ k = k₀ := by simpa using e'
  unfold openEnds
  rw [e]
  have r := run w os
  rw [← PySem.W.Fast.te14082659384304107361, ← PySem.W.Fast.te14364793385576792824, ← PySem.W.Fast.te4187177175401517315] at r
  exact r
noncomputable def qv : Program :=
  let p := PySem.Challenge.rw_pm0019_01.row.toRowW.prog
  { p with main := { p.main with body := (p.main.body.drop 1).take 1 ++ ((p.main.body.drop 3).take 2 ++ ((p.main.body.drop 6).take 1 ++ p.main.body.drop 8)) } }
local macro_rules
  | `(tactic| o_head $H) => `(tactic| (
    refine holds_open (q := qv) (loose := []) (Xt := fun s => xlAt qv [] s && recOk (RowW.records PySem.Challenge.rw_pm0019_01.row.toRowW) s) (XP := XL qv []) (Yf := Hook.obs $H) (Ya := Hook.val $H) (YP := Hook.says $H) (N := 1836) ?hl (Hook.of $H) (Hook.keeps $H) (fun s e => xl_of s (Bool.and_eq_true_iff.mp e).1) XL.keeps (by rfl) (by rfl) (by rfl) (fun s e => recFacts_of (Bool.and_eq_true_iff.mp e).2) (by rfl) (by first | assumption | decide +kernel) (by decide +kernel) ⟨rfl, rfl, rfl, rfl, rfl, by decide +kernel⟩ ?hw ?hc
    case hl => exact left_of (boot_open (by kernel_rfl) (by rfl) (fun s => by kernel_rfl)) (fun w os => by kernel_rfl)))
local macro_rules
  | `(tactic| o_law) => `(tactic| refine holds_law said_ok fun said => ?_)
open_top hd for PySem.Challenge.rw_pm0019_01
end Mine
end
section
set_option maxRecDepth 100000
namespace Mine
open PySem PySem.W PyProof.Rows

/-! What the heap of the head says. -/
noncomputable abbrev KP (P : Params) : Frag := hd.heap_1 P
noncomputable def ofK (P : Params) (a : Addr) : Obj := ((KP P).lookup a).getD ⟨.none, none, .plain, #[]⟩
noncomputable def fR (a : Addr) : FnRec := (fnTab a).getD ⟨[], [], ⟨.function, [], false, false, []⟩, 0⟩
noncomputable def fdD : FuncData := { name := mkS [], qualname := mkS [], params := { posonlyargs := [], args := [], vararg := none, kwonlyargs := [], kw_defaults := [], kwarg := none, defaults := [] }, body := .stmts [], scope := ⟨.function, [], false, false, []⟩, globals := 0, closure := [], defaults := .none, kwdefaults := .none, doc := .none, pyModule := .none, annotations := none, code := .none, closureTuple := .none, builtins := 0 }
noncomputable def fdK (P : Params) (a : Addr) : FuncData := match (ofK P a).data with
  | .func fd => fd
  | _ => fdD
theorem uniq_of {l : List (Str × NameKind)} (h : (l.all fun x => l.lookup x.1 == some x.2) = true) : ∀ x ∈ l, l.lookup x.1 = some x.2 := fun x hx => beq_iff_eq.mp (List.all_eq_true.mp h x hx)
theorem len1 {α : Type} {l : List α} (h : l.length = 1) : ∃ a, l = [a] := by
  cases l with
  | nil => exact nomatch h
  | cons a l => exact ⟨a, by rw [List.eq_nil_of_length_eq_zero (Nat.succ.inj h)]⟩
theorem len2 {α : Type} {l : List α} (h : l.length = 2) : ∃ a b, l = [a, b] := by
  cases l with
  | nil => exact nomatch h
  | cons a l =>
    obtain ⟨b, e⟩ := len1 (Nat.succ.inj h)
    exact ⟨a, b, by rw [e]⟩
theorem len3 {α : Type} {l : List α} (h : l.length = 3) : ∃ a b c, l = [a, b, c] := by
  cases l with
  | nil => exact nomatch h
  | cons a l =>
    obtain ⟨b, c, e⟩ := len2 (Nat.succ.inj h)
    exact ⟨a, b, c, by rw [e]⟩
theorem lkm {α β : Type} [BEq α] [LawfulBEq α] {a : α} {b : β} : ∀ {l : List (α × β)}, l.lookup a = some b → (a, b) ∈ l
  | [], h => nomatch h
  | (x, y) :: l, h => by
    rw [List.lookup_cons] at h
    cases c : a == x with
    | true => rw [c] at h; rw [beq_iff_eq.mp c, sinj h]; exact List.mem_cons_self
    | false => rw [c] at h; exact List.mem_cons_of_mem _ (lkm h)
theorem allN {α : Type} {P : α → Prop} : ∀ x ∈ ([] : List α), P x := fun _ h => nomatch h
theorem allC {α : Type} {P : α → Prop} {a : α} {l : List α} (h : P a) (hl : ∀ x ∈ l, P x) : ∀ x ∈ a :: l, P x := List.forall_mem_cons.mpr ⟨h, hl⟩
section
variable {w : World} {h₀ : Heap} (X : (KP w.params).In h₀)
include X

theorem fnIs_28 : FnIs (KP w.params) h₀ 28 (fR 28) (ofK w.params 28) (fdK w.params 28) where
  at_ := X _ _ (by kernel_rfl)
  data := by kernel_rfl
  cls := by kernel_rfl
  body := by kernel_rfl
  scope := by kernel_rfl
  gl := by kernel_rfl
  bl := by kernel_rfl
  closure := by kernel_rfl
  crec := codeRec_of X (by kernel_rfl)
  kind := by kernel_rfl
  gen := by kernel_rfl
  cor := by kernel_rfl
  code := fun h => absurd (show (fR 28).code = 0 by kernel_rfl) h
  bind := fun vs h => by
    have hl : (fR 28).params.length = 2 := by kernel_rfl
    rw [hl] at h
    obtain ⟨v0, v1, rfl⟩ := len2 h
    kernel_rfl
  uniq := uniq_of (by kernel_rfl)
  type := by kernel_rfl
theorem fnIs_35 : FnIs (KP w.params) h₀ 35 (fR 35) (ofK w.params 35) (fdK w.params 35) where
  at_ := X _ _ (by kernel_rfl)
  data := by kernel_rfl
  cls := by kernel_rfl
  body := by kernel_rfl
  scope := by kernel_rfl
  gl := by kernel_rfl
  bl := by kernel_rfl
  closure := by kernel_rfl
  crec := codeRec_of X (by kernel_rfl)
  kind := by kernel_rfl
  gen := by kernel_rfl
  cor := by kernel_rfl
  code := fun h => absurd (show (fR 35).code = 0 by kernel_rfl) h
  bind := fun vs h => by
    have hl : (fR 35).params.length = 3 := by kernel_rfl
    rw [hl] at h
    obtain ⟨v0, v1, v2, rfl⟩ := len3 h
    kernel_rfl
  uniq := uniq_of (by kernel_rfl)
  type := by kernel_rfl
theorem fnIs_49 : FnIs (KP w.params) h₀ 49 (fR 49) (ofK w.params 49) (fdK w.params 49) where
  at_ := X _ _ (by kernel_rfl)
  data := by kernel_rfl
  cls := by kernel_rfl
  body := by kernel_rfl
  scope := by kernel_rfl
  gl := by kernel_rfl
  bl := by kernel_rfl
  closure := by kernel_rfl
  crec := codeRec_of X (by kernel_rfl)
  kind := by kernel_rfl
  gen := by kernel_rfl
  cor := by kernel_rfl
  code := fun h => absurd (show (fR 49).code = 0 by kernel_rfl) h
  bind := fun vs h => by
    have hl : (fR 49).params.length = 2 := by kernel_rfl
    rw [hl] at h
    obtain ⟨v0, v1, rfl⟩ := len2 h
    kernel_rfl
  uniq := uniq_of (by kernel_rfl)
  type := by kernel_rfl
theorem fnIs_63 : FnIs (KP w.params) h₀ 63 (fR 63) (ofK w.params 63) (fdK w.params 63) where
  at_ := X _ _ (by kernel_rfl)
  data := by kernel_rfl
  cls := by kernel_rfl
  body := by kernel_rfl
  scope := by kernel_rfl
  gl := by kernel_rfl
  bl := by kernel_rfl
  closure := by kernel_rfl
  crec := codeRec_of X (by kernel_rfl)
  kind := by kernel_rfl
  gen := by kernel_rfl
  cor := by kernel_rfl
  code := fun h => absurd (show (fR 63).code = 0 by kernel_rfl) h
  bind := fun vs h => by
    have hl : (fR 63).params.length = 2 := by kernel_rfl
    rw [hl] at h
    obtain ⟨v0, v1, rfl⟩ := len2 h
    kernel_rfl
  uniq := uniq_of (by kernel_rfl)
  type := by kernel_rfl
theorem fnIs_70 : FnIs (KP w.params) h₀ 70 (fR 70) (ofK w.params 70) (fdK w.params 70) where
  at_ := X _ _ (by kernel_rfl)
  data := by kernel_rfl
  cls := by kernel_rfl
  body := by kernel_rfl
  scope := by kernel_rfl
  gl := by kernel_rfl
  bl := by kernel_rfl
  closure := by kernel_rfl
  crec := codeRec_of X (by kernel_rfl)
  kind := by kernel_rfl
  gen := by kernel_rfl
  cor := by kernel_rfl
  code := fun h => absurd (show (fR 70).code = 0 by kernel_rfl) h
  bind := fun vs h => by
    have hl : (fR 70).params.length = 1 := by kernel_rfl
    rw [hl] at h
    obtain ⟨v0, rfl⟩ := len1 h
    kernel_rfl
  uniq := uniq_of (by kernel_rfl)
  type := by kernel_rfl
theorem fnIs_77 : FnIs (KP w.params) h₀ 77 (fR 77) (ofK w.params 77) (fdK w.params 77) where
  at_ := X _ _ (by kernel_rfl)
  data := by kernel_rfl
  cls := by kernel_rfl
  body := by kernel_rfl
  scope := by kernel_rfl
  gl := by kernel_rfl
  bl := by kernel_rfl
  closure := by kernel_rfl
  crec := codeRec_of X (by kernel_rfl)
  kind := by kernel_rfl
  gen := by kernel_rfl
  cor := by kernel_rfl
  code := fun h => absurd (show (fR 77).code = 0 by kernel_rfl) h
  bind := fun vs h => by
    have hl : (fR 77).params.length = 1 := by kernel_rfl
    rw [hl] at h
    obtain ⟨v0, rfl⟩ := len1 h
    kernel_rfl
  uniq := uniq_of (by kernel_rfl)
  type := by kernel_rfl
theorem fnIs_84 : FnIs (KP w.params) h₀ 84 (fR 84) (ofK w.params 84) (fdK w.params 84) where
  at_ := X _ _ (by kernel_rfl)
  data := by kernel_rfl
  cls := by kernel_rfl
  body := by kernel_rfl
  scope := by kernel_rfl
  gl := by kernel_rfl
  bl := by kernel_rfl
  closure := by kernel_rfl
  crec := codeRec_of X (by kernel_rfl)
  kind := by kernel_rfl
  gen := by kernel_rfl
  cor := by kernel_rfl
  code := fun h => absurd (show (fR 84).code = 0 by kernel_rfl) h
  bind := fun vs h => by
    have hl : (fR 84).params.length = 2 := by kernel_rfl
    rw [hl] at h
    obtain ⟨v0, v1, rfl⟩ := len2 h
    kernel_rfl
  uniq := uniq_of (by kernel_rfl)
  type := by kernel_rfl
theorem fnIs_98 : FnIs (KP w.params) h₀ 98 (fR 98) (ofK w.params 98) (fdK w.params 98) where
  at_ := X _ _ (by kernel_rfl)
  data := by kernel_rfl
  cls := by kernel_rfl
  body := by kernel_rfl
  scope := by kernel_rfl
  gl := by kernel_rfl
  bl := by kernel_rfl
  closure := by kernel_rfl
  crec := codeRec_of X (by kernel_rfl)
  kind := by kernel_rfl
  gen := by kernel_rfl
  cor := by kernel_rfl
  code := fun _ => ⟨by kernel_rfl, by kernel_rfl⟩
  bind := fun vs h => by
    have hl : (fR 98).params.length = 1 := by kernel_rfl
    rw [hl] at h
    obtain ⟨v0, rfl⟩ := len1 h
    kernel_rfl
  uniq := uniq_of (by kernel_rfl)
  type := by kernel_rfl
theorem fnIs_103 : FnIs (KP w.params) h₀ 103 (fR 103) (ofK w.params 103) (fdK w.params 103) where
  at_ := X _ _ (by kernel_rfl)
  data := by kernel_rfl
  cls := by kernel_rfl
  body := by kernel_rfl
  scope := by kernel_rfl
  gl := by kernel_rfl
  bl := by kernel_rfl
  closure := by kernel_rfl
  crec := codeRec_of X (by kernel_rfl)
  kind := by kernel_rfl
  gen := by kernel_rfl
  cor := by kernel_rfl
  code := fun h => absurd (show (fR 103).code = 0 by kernel_rfl) h
  bind := fun vs h => by
    have hl : (fR 103).params.length = 2 := by kernel_rfl
    rw [hl] at h
    obtain ⟨v0, v1, rfl⟩ := len2 h
    kernel_rfl
  uniq := uniq_of (by kernel_rfl)
  type := by kernel_rfl
theorem fnIs_108 : FnIs (KP w.params) h₀ 108 (fR 108) (ofK w.params 108) (fdK w.params 108) where
  at_ := X _ _ (by kernel_rfl)
  data := by kernel_rfl
  cls := by kernel_rfl
  body := by kernel_rfl
  scope := by kernel_rfl
  gl := by kernel_rfl
  bl := by kernel_rfl
  closure := by kernel_rfl
  crec := codeRec_of X (by kernel_rfl)
  kind := by kernel_rfl
  gen := by kernel_rfl
  cor := by kernel_rfl
  code := fun h => absurd (show (fR 108).code = 0 by kernel_rfl) h
  bind := fun vs h => by
    have hl : (fR 108).params.length = 3 := by kernel_rfl
    rw [hl] at h
    obtain ⟨v0, v1, v2, rfl⟩ := len3 h
    kernel_rfl
  uniq := uniq_of (by kernel_rfl)
  type := by kernel_rfl
theorem fnIs_113 : FnIs (KP w.params) h₀ 113 (fR 113) (ofK w.params 113) (fdK w.params 113) where
  at_ := X _ _ (by kernel_rfl)
  data := by kernel_rfl
  cls := by kernel_rfl
  body := by kernel_rfl
  scope := by kernel_rfl
  gl := by kernel_rfl
  bl := by kernel_rfl
  closure := by kernel_rfl
  crec := codeRec_of X (by kernel_rfl)
  kind := by kernel_rfl
  gen := by kernel_rfl
  cor := by kernel_rfl
  code := fun h => absurd (show (fR 113).code = 0 by kernel_rfl) h
  bind := fun vs h => by
    have hl : (fR 113).params.length = 2 := by kernel_rfl
    rw [hl] at h
    obtain ⟨v0, v1, rfl⟩ := len2 h
    kernel_rfl
  uniq := uniq_of (by kernel_rfl)
  type := by kernel_rfl
theorem fnIs_120 : FnIs (KP w.params) h₀ 120 (fR 120) (ofK w.params 120) (fdK w.params 120) where
  at_ := X _ _ (by kernel_rfl)
  data := by kernel_rfl
  cls := by kernel_rfl
  body := by kernel_rfl
  scope := by kernel_rfl
  gl := by kernel_rfl
  bl := by kernel_rfl
  closure := by kernel_rfl
  crec := codeRec_of X (by kernel_rfl)
  kind := by kernel_rfl
  gen := by kernel_rfl
  cor := by kernel_rfl
  code := fun h => absurd (show (fR 120).code = 0 by kernel_rfl) h
  bind := fun vs h => by
    have hl : (fR 120).params.length = 1 := by kernel_rfl
    rw [hl] at h
    obtain ⟨v0, rfl⟩ := len1 h
    kernel_rfl
  uniq := uniq_of (by kernel_rfl)
  type := by kernel_rfl
theorem fnIs_125 : FnIs (KP w.params) h₀ 125 (fR 125) (ofK w.params 125) (fdK w.params 125) where
  at_ := X _ _ (by kernel_rfl)
  data := by kernel_rfl
  cls := by kernel_rfl
  body := by kernel_rfl
  scope := by kernel_rfl
  gl := by kernel_rfl
  bl := by kernel_rfl
  closure := by kernel_rfl
  crec := codeRec_of X (by kernel_rfl)
  kind := by kernel_rfl
  gen := by kernel_rfl
  cor := by kernel_rfl
  code := fun h => absurd (show (fR 125).code = 0 by kernel_rfl) h
  bind := fun vs h => by
    have hl : (fR 125).params.length = 1 := by kernel_rfl
    rw [hl] at h
    obtain ⟨v0, rfl⟩ := len1 h
    kernel_rfl
  uniq := uniq_of (by kernel_rfl)
  type := by kernel_rfl
theorem fnIs_130 : FnIs (KP w.params) h₀ 130 (fR 130) (ofK w.params 130) (fdK w.params 130) where
  at_ := X _ _ (by kernel_rfl)
  data := by kernel_rfl
  cls := by kernel_rfl
  body := by kernel_rfl
  scope := by kernel_rfl
  gl := by kernel_rfl
  bl := by kernel_rfl
  closure := by kernel_rfl
  crec := codeRec_of X (by kernel_rfl)
  kind := by kernel_rfl
  gen := by kernel_rfl
  cor := by kernel_rfl
  code := fun h => absurd (show (fR 130).code = 0 by kernel_rfl) h
  bind := fun vs h => by
    have hl : (fR 130).params.length = 1 := by kernel_rfl
    rw [hl] at h
    obtain ⟨v0, rfl⟩ := len1 h
    kernel_rfl
  uniq := uniq_of (by kernel_rfl)
  type := by kernel_rfl
theorem fnQ {a : Addr} {v : Option FnRec} {o : Obj} {fd : FuncData} (e : v = some (fR a)) (F : FnIs (KP w.params) h₀ a (fR a) o fd) : ∀ f, v = some f → ∃ o fd, FnIs (KP w.params) h₀ a f o fd := fun f h => ⟨o, fd, sinj (e.symm.trans h) ▸ F⟩
theorem fns_ok : ∀ a f, fnTab a = some f → ∃ o fd, FnIs (KP w.params) h₀ a f o fd := by
  intro a f h
  obtain ⟨v, h1, h2⟩ := bnd h
  have key : ∀ p ∈ fnT, ∀ f, p.2 = some f → ∃ o fd, FnIs (KP w.params) h₀ p.1 f o fd := by
    unfold fnT
    refine allC (fnQ X (by kernel_rfl) (fnIs_28 X)) ?_
    refine allC (fnQ X (by kernel_rfl) (fnIs_35 X)) ?_
    refine allC (fnQ X (by kernel_rfl) (fnIs_49 X)) ?_
    refine allC (fnQ X (by kernel_rfl) (fnIs_63 X)) ?_
    refine allC (fnQ X (by kernel_rfl) (fnIs_70 X)) ?_
    refine allC (fnQ X (by kernel_rfl) (fnIs_77 X)) ?_
    refine allC (fnQ X (by kernel_rfl) (fnIs_84 X)) ?_
    refine allC (fnQ X (by kernel_rfl) (fnIs_98 X)) ?_
    refine allC (fnQ X (by kernel_rfl) (fnIs_103 X)) ?_
    refine allC (fnQ X (by kernel_rfl) (fnIs_108 X)) ?_
    refine allC (fnQ X (by kernel_rfl) (fnIs_113 X)) ?_
    refine allC (fnQ X (by kernel_rfl) (fnIs_120 X)) ?_
    refine allC (fnQ X (by kernel_rfl) (fnIs_125 X)) ?_
    refine allC (fnQ X (by kernel_rfl) (fnIs_130 X)) ?_
    exact allN
  exact key (a, v) (lkm h1) f h2
end

theorem builtins_in {h₀ : Heap} {mg mb : Str → Option Value} {loose : List Str} {mean : ExcName → Option Value} (T : Top topProg loose mean mg mb h₀) (X : ∀ bm, mg "__builtins__" = some (.ref bm) → bm ≠ mainGlobals ∧ bm ≠ tabP) : h₀.BuiltinsAt mg tabP := by
  obtain ⟨bm, ob, h1, h2, h3, h4, h5, h6⟩ := T.bmain
  exact ⟨bm, ob, h1, h2, (X bm h1).1, (X bm h1).2, h3, h4, h5, h6⟩

theorem glob_mem {x : Str} {pv : PV} (h : glob x = some pv) : (x, pv) ∈ globTab := lkm h
theorem glob_all {w : World} {h₀ : Heap} {mg mb : Str → Option Value} {loose : List Str} {mean : ExcName → Option Value} (X : (KP w.params).In h₀) (T : Top topProg loose mean mg mb h₀) : ∀ p ∈ globTab, ∃ v, (mg p.1 = some v ∨ (mg p.1 = none ∧ mb p.1 = some v)) ∧ Rp h₀.get? [] v p.2 := by
  unfold globTab
  refine allC ⟨_, .inl (mg_of X T.g (v := .ref 38) (by kernel_rfl)), .fn _⟩ ?_
  refine allC ⟨_, .inl (mg_of X T.g (v := .str (Str.ofString "...") (match nsIn (KP w.params) mainGlobals (Str.ofString "ELLIPSIS_MARKER") with | some (some (.str _ t)) => t | _ => 0)) (by kernel_rfl)), .d (.str _ _)⟩ ?_
  refine allC ⟨_, .inl (mg_of X T.g (v := .ref 49) (by kernel_rfl)), .fn _⟩ ?_
  refine allC ⟨_, .inl (mg_of X T.g (v := .ref 87) (by kernel_rfl)), .fn _⟩ ?_
  refine allC ⟨_, .inl (mg_of X T.g (v := .ref 98) (by kernel_rfl)), .fn _⟩ ?_
  refine allC ⟨_, .inl (mg_of X T.g (v := .ref 103) (by kernel_rfl)), .fn _⟩ ?_
  refine allC ⟨_, .inl (mg_of X T.g (v := .ref 108) (by kernel_rfl)), .fn _⟩ ?_
  refine allC ⟨_, .inl (mg_of X T.g (v := .ref 113) (by kernel_rfl)), .fn _⟩ ?_
  refine allC ⟨_, .inl (mg_of X T.g (v := .ref 120) (by kernel_rfl)), .fn _⟩ ?_
  refine allC ⟨_, .inl (mg_of X T.g (v := .ref 125) (by kernel_rfl)), .fn _⟩ ?_
  refine allC ⟨_, .inr ⟨mg_none_of X T.g (by kernel_rfl), (T.builtins _ (by decide)).trans (show bootBuiltins _ = some (.builtin "len") by kernel_rfl)⟩, .bi _⟩ ?_
  refine allC ⟨_, .inr ⟨mg_none_of X T.g (by kernel_rfl), (T.builtins _ (by decide)).trans (show bootBuiltins _ = some (.builtin "sum") by kernel_rfl)⟩, .bi _⟩ ?_
  refine allC ⟨_, .inr ⟨mg_none_of X T.g (by kernel_rfl), (T.builtins _ (by decide)).trans (show bootBuiltins _ = some (.builtin "max") by kernel_rfl)⟩, .bi _⟩ ?_
  refine allC ⟨_, .inr ⟨mg_none_of X T.g (by kernel_rfl), (T.builtins _ (by decide)).trans (show bootBuiltins _ = some (.builtin "min") by kernel_rfl)⟩, .bi _⟩ ?_
  refine allC ⟨_, .inr ⟨mg_none_of X T.g (by kernel_rfl), (T.builtins _ (by decide)).trans (show bootBuiltins _ = some (.builtin "sorted") by kernel_rfl)⟩, .bi _⟩ ?_
  refine allC ⟨_, .inr ⟨mg_none_of X T.g (by kernel_rfl), (T.builtins _ (by decide)).trans (show bootBuiltins _ = some (.builtin "iter") by kernel_rfl)⟩, .bi _⟩ ?_
  refine allC ⟨_, .inr ⟨mg_none_of X T.g (by kernel_rfl), (T.builtins _ (by decide)).trans (show bootBuiltins _ = some (.type "range") by kernel_rfl)⟩, .ty _⟩ ?_
  refine allC ⟨_, .inr ⟨mg_none_of X T.g (by kernel_rfl), (T.builtins _ (by decide)).trans (show bootBuiltins _ = some (.type "list") by kernel_rfl)⟩, .ty _⟩ ?_
  exact allN
theorem gd_ok {w : World} {h₀ : Heap} {mg mb : Str → Option Value} {loose : List Str} {mean : ExcName → Option Value} (X : (KP w.params).In h₀) (T : Top topProg loose mean mg mb h₀) (t0 : h₀.get? tabP = none) (C : CodeHd h₀ 97 tabP) : Gd w (KP w.params) h₀ mg mb where
  X := X
  g := T.g
  b := T.b
  nolimit := T.nolimit
  tab0 := t0
  code := C
  bat := builtins_in T fun bm hbm => by
    obtain ⟨_, ob, h1, _, h3, h4, _, h6⟩ := T.bmain
    rw [hbm] at h1
    cases h1
    constructor
    · rintro rfl
      obtain ⟨o, es, ep, ho, hd', _⟩ := T.g
      rw [ho] at h3; cases h3; rw [hd'] at h6; cases h6
    · rintro rfl
      rw [t0] at h3; cases h3
  glob := fun x pv h => glob_all X T (x, pv) (glob_mem h)
  fns := fns_ok X
  init := fun c i h => by
    have key : ∀ p ∈ iniT, InitIs (KP w.params) p.1 p.2 := by
      unfold iniT
      refine allC ⟨by kernel_rfl, by kernel_rfl, by kernel_rfl, by kernel_rfl, by kernel_rfl, by kernel_rfl, by kernel_rfl⟩ ?_
      refine allC ⟨by kernel_rfl, by kernel_rfl, by kernel_rfl, by kernel_rfl, by kernel_rfl, by kernel_rfl, by kernel_rfl⟩ allN
    exact key (c, i) (lkm h)
  meth := fun c x f h => by
    have key : ∀ p ∈ mthT, MethIs (KP w.params) p.1.1 p.1.2 p.2 := by
      unfold mthT
      refine allC ⟨by kernel_rfl, by kernel_rfl, by kernel_rfl, by kernel_rfl, by kernel_rfl, by kernel_rfl⟩ ?_
      refine allC ⟨by kernel_rfl, by kernel_rfl, by kernel_rfl, by kernel_rfl, by kernel_rfl, by kernel_rfl⟩ ?_
      refine allC ⟨by kernel_rfl, by kernel_rfl, by kernel_rfl, by kernel_rfl, by kernel_rfl, by kernel_rfl⟩ ?_
      refine allC ⟨by kernel_rfl, by kernel_rfl, by kernel_rfl, by kernel_rfl, by kernel_rfl, by kernel_rfl⟩ allN
    exact key ((c, x), f) (lkm h)
  attr := fun c x h => by
    have key : ∀ p ∈ attT, AttrIs (KP w.params) p.1 p.2 := by
      unfold attT
      refine allC ⟨by kernel_rfl, by kernel_rfl, by kernel_rfl⟩ ?_
      refine allC ⟨by kernel_rfl, by kernel_rfl, by kernel_rfl⟩ ?_
      refine allC ⟨by kernel_rfl, by kernel_rfl, by kernel_rfl⟩ ?_
      refine allC ⟨by kernel_rfl, by kernel_rfl, by kernel_rfl⟩ ?_
      refine allC ⟨by kernel_rfl, by kernel_rfl, by kernel_rfl⟩ allN
    exact key (c, x) (List.contains_iff_mem.mp h)
end Mine
end
section
set_option maxRecDepth 100000
namespace Mine
open PySem PySem.W PyProof.Rows

theorem cells_get {cm : Str → Option Value} : ∀ {cs : List (Str × Addr)} {cells : List (Addr × Obj)}, CellsAre cm cs cells → ∀ x c, cs.lookup x = some c → ∃ o, (c, o) ∈ cells ∧ o.data = .cell (cm x)
  | _, _, .nil, x, c, e => nomatch e
  | _, _, .cons (n := n) (c := c') (o := o) h r, x, c, e => by
    rw [List.lookup_cons] at e
    by_cases q : x = n
    · subst q
      rw [beq_self_eq_true] at e
      cases e
      exact ⟨o, List.mem_cons_self, h⟩
    · have : (x == n) = false := by simpa using q
      rw [this] at e
      obtain ⟨o', h1, h2⟩ := cells_get r x c e
      exact ⟨o', List.mem_cons_of_mem _ h1, h2⟩
noncomputable def lawSc : Scope := (fR 130).scope
theorem law_names : fS 130 = lawSc.names := by kernel_rfl
noncomputable def cellN : List Str := [nm "told", nm "order", nm "ranks", nm "letters", nm "rows", nm "words", nm "signs", nm "numbers"]
theorem law_cells (L : Addr) : cellsFrom (L + 1) lawSc.names [] = [(nm "told", L + 8), (nm "order", L + 7), (nm "ranks", L + 6), (nm "letters", L + 5), (nm "rows", L + 4), (nm "words", L + 3), (nm "signs", L + 2), (nm "numbers", L + 1)] := by kernel_rfl
theorem law_cell_mem {L : Addr} {x : Str} {c : Addr} (h : (cellsFrom (L + 1) lawSc.names []).lookup x = some c) : (x = nm "told" ∧ c = L + 8) ∨ (x = nm "order" ∧ c = L + 7) ∨ (x = nm "ranks" ∧ c = L + 6) ∨ (x = nm "letters" ∧ c = L + 5) ∨ (x = nm "rows" ∧ c = L + 4) ∨ (x = nm "words" ∧ c = L + 3) ∨ (x = nm "signs" ∧ c = L + 2) ∨ (x = nm "numbers" ∧ c = L + 1) := by
  rw [law_cells] at h
  have := mem_of_lookup h
  simpa only [List.mem_cons, List.not_mem_nil, or_false, Prod.mk.injEq] using this
theorem law_cell_has (L : Addr) {x : Str} (h : lawSc.names.lookup x = some .cell) : ((cellsFrom (L + 1) lawSc.names []).lookup x).isSome = true := by
  have m := mem_of_lookup h
  have all : ∀ p ∈ lawSc.names, p.2 = .cell → p.1 ∈ cellN := by decide +kernel
  have hx := all _ m rfl
  rw [law_cells]
  simp only [cellN, List.mem_cons, List.not_mem_nil, or_false] at hx
  rcases hx with rfl | rfl | rfl | rfl | rfl | rfl | rfl | rfl <;> kernel_rfl

theorem ints_rd {g : Frz} {vs : List Value} {ns : List Int} (h : IntsAre vs ns) : RdL g vs (ns.map nI) := by
  induction h with
  | nil => exact .nil
  | cons n t _ ih => exact .cons (.int n t) ih

section
variable {w : World} {mg mb : Str → Option Value} {h₀ h₁ : Heap} {L fa : Addr} {cd : Value} {name : Str} {m cm : Str → Option Value} {cells : List (Addr × Obj)} {la : Addr} {vs : List Value} {ns : List Int}

theorem ltA (L k : Nat) (h : 0 < k) : L < L + k := by omega
theorem neA {L i j : Nat} (h : L + i = L + j) (hij : i ≠ j) : False := by omega
theorem frame_ok (l0 : 93 < L) (t0 : h₀.get? tabP = none) (F : Fr h₀ L h₁ m) (hm : m (nm "script") = some (.ref la)) (hli : h₀.IsList la vs.toArray) (hI : IntsAre vs ns) (X0 : CellsAre cm (cellsFrom (L + 1) lawSc.names []) cells) (N : News h₀ L h₁ (cells ++ [(93, tabObj #[])])) :
    FmOk h₀.get? [] h₁ (envOfC name lawSc L fa cd) (lM0 ns) := by
  have big : ∀ a, L ≤ a → h₀.get? a = none := fun a ha => by
    cases e : h₀.get? a with
    | none => rfl
    | some o => exact absurd (PySem.Heap.lt_size e) (Nat.not_lt.mpr (Nat.le_trans F.above ha))
  have cell : ∀ x c, (cellsFrom (L + 1) lawSc.names []).lookup x = some c → L < c ∧ ∃ v, h₁.IsCell c v := fun x c e => by
    obtain ⟨o, h1, h2⟩ := cells_get X0 x c e
    refine ⟨?_, _, o, (N _ (List.mem_append_left _ h1)).1, h2⟩
    rcases law_cell_mem e with h | h | h | h | h | h | h | h <;> (obtain ⟨_, rfl⟩ := h; exact ltA L _ (by decide))
  have nofoot : ∀ x, ¬ foot [] x := fun x ⟨p, hp, _⟩ => nomatch hp
  refine ⟨rfl, rfl, rfl, fun x k e => ?_, ⟨m, F.ns, fun x pv e => ?_⟩, (fun x pv e => nomatch e), fun x e => ?_, fun x y c e1 e2 => ?_, ⟨nofoot _, ?_, ?_⟩, fun x c e => ?_, fun _ x c _ e => ?_, fun h => absurd rfl h⟩
  · have e : lawSc.names.lookup x = some k := by rw [← law_names]; exact e
    show kindRel k (lawSc.names.lookup x)
    rw [e]
    cases k <;> simp [kindRel]
  · have mm := mem_of_lookup e
    simp only [List.mem_cons, List.not_mem_nil, or_false, Prod.mk.injEq] at mm
    obtain ⟨rfl, rfl⟩ := mm
    obtain ⟨o, ho, hc, k, hd⟩ := hli
    exact ⟨.ref la, hm, .d (.list ho hc hd (ints_rd hI))⟩
  · have e : lawSc.names.lookup x = some .cell := by rw [← law_names]; exact e
    obtain ⟨c, hc⟩ := Option.isSome_iff_exists.mp (law_cell_has L e)
    exact ⟨c, hc, (cell x c hc).2⟩
  · have d1 := law_cell_mem e1
    have d2 := law_cell_mem e2
    rcases d1 with h | h | h | h | h | h | h | h <;> obtain ⟨rfl, rfl⟩ := h <;> rcases d2 with h' | h' | h' | h' | h' | h' | h' | h' <;> obtain ⟨rfl, h2⟩ := h' <;> first | rfl | exact (neA h2 (by decide)).elim
  · exact Nat.ne_of_gt l0
  · exact big L (Nat.le_refl _)
  · obtain ⟨h1, v, h2⟩ := cell x c e
    refine ⟨nofoot _, ?_, v, h2⟩
    exact Nat.ne_of_gt (Nat.lt_trans l0 h1)
  · exact big c (Nat.le_of_lt (cell x c e).1)
theorem room_units (env : Env) : (callerA.deeper env).units + 16 * (3 * (0 + 26)) + 400 < cLine := by
  show 4 + 3 + 16 * (3 * (0 + 26)) + 400 < 9900
  decide
theorem room_depth (env : Env) : (callerA.deeper env).depth + 4 * (3 * (0 + 26)) < 700 := by
  show 1 + claimMargin + 1 + 4 * (3 * (0 + 26)) < 700
  decide
theorem room_handled (env : Env) : (callerA.deeper env).handled = none := rfl
theorem inv_ok (t0 : h₀.get? tabP = none) (F : Fr h₀ L h₁ m) (N : News h₀ L h₁ (cells ++ [(93, tabObj #[])])) : Inv h₀ h₀.get? [] [] h₁ where
  base := fun _ _ e => e
  sub := F.keep
  len := rfl
  mat := fun r p mo e => by simp at e
  off := fun x ⟨p, hp, _⟩ => nomatch hp
  apart := fun r r' p p' e => by simp at e
  tab := ⟨#[], (N _ (List.mem_append_right _ List.mem_cons_self)).1, trivial, fun pos c e => nomatch e⟩
  gtab := t0
  old := F.keep

theorem run_b {r : Ev} {n : Nat} (S : SndB w h₀ r n) {A : Around} {env : Env} {fm fm' : Fm} {g : Frz} {ρ : Locs} {st st' : St} {s : Shared} {b : List Stmt} {fl : Fl} (R : Room n A) (I : Inv h₀ g ρ st s.heap) (F : FmOk g ρ s.heap env fm) (h : r.B fm st b = some (fl, fm', st')) :
    wpAny (model TP w) A (execs b env) (BA h₀ env fm g ρ s st' fl fm') Fls s := S A env fm fm' g ρ st st' s b fl R I F h
theorem end_ok {s : Shared} {scope : Scope} {body : List Stmt} {loose : List Str} {mean : ExcName → Option Value} (hsc : scope = lawSc) (hb : ∃ fm' st', (ev (0 + 26)).B (lM0 ns) [] body = some (.rt (.d (.bool true)), fm', st')) (X : (hd.heap_1 w.params).In h₀) (T : Top topProg loose mean mg mb h₀) (t0 : h₀.get? tabP = none) (C : CodeHd h₀ 97 93) (l0 : 93 < L)
    (F : Fr h₀ L s.heap m) (hm : m (nm "script") = some (.ref la)) (hli : h₀.IsList la vs.toArray) (hI : IntsAre vs ns) (X0 : CellsAre cm (cellsFrom (L + 1) scope.names []) cells) (N : News h₀ L s.heap (cells ++ [(93, tabObj #[])]))
    {Q : Flow → Shared → Prop} {E : Value → Shared → Prop} (hQ : ∀ h' tk', (∀ b o, h₀.get? b = some o → h'.get? b = some o) → GrownAll [(97, 93)] h' → Q (.ret (.bool true)) { s with heap := h', toks := tk' }) :
    wpAny (model TP w) (callerA.deeper (envOfC name scope L fa cd)) (execs body (envOfC name scope L fa cd)) Q E s := by
  rw [hsc] at X0
  rw [hsc]
  have D := gd_ok (w := w) X T t0 C
  obtain ⟨fm', st', h⟩ := hb
  have R : Room (3 * (0 + 26)) (callerA.deeper (envOfC name lawSc L fa cd)) := Room.mk (room_handled _) (room_depth _) (room_units _)
  have S := (Snd_ev D (0 + 26)).B
  have I0 := inv_ok t0 F N
  have F0 := frame_ok (fa := fa) (cd := cd) (name := name) l0 t0 F hm hli hI X0 N
  have hB := @run_b w h₀ (ev (0 + 26)) (3 * (0 + 26)) S (callerA.deeper (envOfC name lawSc L fa cd)) (envOfC name lawSc L fa cd) (lM0 ns) fm' h₀.get? [] [] st' s body (.rt (.d (.bool true))) R I0 F0 h
  clear S
  refine wpAny_mono hB (fun f s' z => ?_) fun _ _ z => z.elim
  obtain ⟨g', ρ', h', tk', rfl, X1, I1, fo, _, _⟩ := z
  cases fo with
  | rt ru =>
    cases ru with | d ru =>
      cases ru
      obtain ⟨ps, hp, _⟩ := I1.tab
      exact hQ h' tk' I1.old ⟨⟨ps, hp⟩, trivial⟩
end
end Mine
end
section
set_option maxRecDepth 100000
set_option maxHeartbeats 8000000
namespace Mine
open PySem PySem.W PyProof.Rows
theorem hb_of {body : List Stmt} {ns : List Int} (e : body = fB 130) (hl : ns.length ≤ 1000) : ∃ fm' st', (ev (0 + 26)).B (lM0 ns) [] body = some (.rt (.d (.bool true)), fm', st') := by rw [e]; exact law_true 0 ns hl
theorem t0_of (h : Heap) : (ghostOf h [(97, 93)]).get? tabP = none := hideAll_none _ (List.mem_singleton.mpr rfl)
end Mine
end
open PySem PySem.W PyProof.Rows Mine
set_option maxRecDepth 100000 in
set_option maxHeartbeats 8000000 in
theorem PySem.Challenge.cw_pm0019_01_holds : PySem.Challenge.rw_pm0019_01.Holds := by
  refine Mine.hd ?_
  k_go0
  all_goals try k_fold
  refine' end_ok ?hsc ?hb ?X ?T ?t0 ?C ?l0 ?F ?hm ?hli ?hI ?X0 ?N ?hQ
  case X => assumption
  case T => assumption
  case t0 => exact t0_of _
  case C => assumption
  case l0 => assumption
  case F => assumption
  case hli => assumption
  case hI => assumption
  case X0 => assumption
  case N => assumption
  case hsc => kernel_rfl
  case hb => exact hb_of (by kernel_rfl) (by omega)
  case hm => kernel_rfl
  case hQ =>
    intro h' tk' keep gr
    refine ⟨⟨.inl ⟨.bool true, .bool true, [], rfl, ?_, ?_, ?_, ?_⟩, keep, rfl, ?_⟩, gr⟩
    · exact fun _ => rfl
    · exact .bool true
    · kernel_rfl
    · exact fun _ => ⟨List.nodup_nil, fun a ha => nomatch ha⟩
    · assumption
