import PyProof.Rows.All
import Wide.All
import OpenK.AllK
import Wide.FinOn
import PySem.Challenge.RW_aj5011_01
set_option Elab.async false

section -- M1
open PySem PySem.W PyProof.Rows
namespace Mine

/-- values -/
inductive V where
  | undef
  | none
  | bool (b : Bool)
  | int (i : Int)
  | str (s : PySem.Str)
  | tup (vs : List V)
  | lst (vs : List V)

/-- expressions; a name is a place in a table of names -/
inductive X where
  | none
  | bool (b : Bool)
  | int (i : Int)
  | str (s : PySem.Str)
  | var (i : Nat)
  | glo (i : Nat)
  | bin (op : Operator) (l r : X)
  | neg (x : X)
  | not (x : X)
  | one (x : X)
  | and (l r : X)
  | or (l r : X)
  | cmp (op : CmpOp) (l r : X)
  | ite (c a b : X)
  | tup (xs : List X)
  | lst (xs : List X)
  | rept (x n : X)
  | idx (x i : X)
  | upto (x n : X)
  | shift (r : X)
  | call (f : Nat) (xs : List X)
  | len (x : X)
  | toint (x : X)
  | isint (x : X)
  | divmod (a b : X)
  | min (a b : X)
  | all (x : X)
  | bits (x : X)
  | comp (elt : X) (i : Nat) (it : X)
  | compR (elt : X) (i : Nat) (xs : List X)

inductive S where
  | asg (i : Nat) (e : X)
  | asgC (i : Nat) (e : X)
  | asgT (is : List Nat) (e : X)
  | asgU (is : List Nat) (e : X)
  | asgW (is : List Nat) (e : X)
  | aug (i : Nat) (op : Operator) (e : X)
  | setIdx (i : Nat) (j e : X)
  | app (i : Nat) (e : X)
  | ite (c : X) (a b : List S)
  | for_ (i : Nat) (it : X) (body : List S)
  | forR (i : Nat) (xs : List X) (body : List S)
  | ret (e : X)
  | asrt (e : X)
  | bad

noncomputable def truthyV : V → Option Bool
  | .none => some false
  | .bool b => some b
  | .int i => some (i != 0)
  | _ => Option.none

noncomputable def mulOk (a b : Int) : Bool := decide (Builtin.Int.intBits a ≤ 64) || decide (Builtin.Int.intBits b ≤ 64) || (decide (Builtin.Int.intBits a ≤ 2 ^ 20) && decide (Builtin.Int.intBits b ≤ 2 ^ 20))
noncomputable def divOk (b : Int) : Bool := b != 0 && decide (b.natAbs.log2 < 9000)
noncomputable def powOk (a n : Int) : Bool := decide (0 ≤ n) && decide ((Builtin.Int.intBits a : Int) * n ≤ 2 ^ 27)
noncomputable def shlOk (a n : Int) : Bool := decide (0 ≤ n) && decide ((Builtin.Int.intBits a : Int) + n ≤ 2 ^ 27)

noncomputable def intop : Operator → Int → Int → Option Int
  | .Add, a, b => some (a + b)
  | .Sub, a, b => some (a - b)
  | .Mult, a, b => if mulOk a b = true then some (a * b) else Option.none
  | .FloorDiv, a, b => if divOk b = true then some (a.fdiv b) else Option.none
  | .Mod, a, b => if divOk b = true then some (a.fmod b) else Option.none
  | .Pow, a, b => if powOk a b = true then some (a ^ b.toNat) else Option.none
  | .LShift, a, b => if shlOk a b = true then some (a * 2 ^ b.toNat) else Option.none
  | .RShift, a, b => if decide (0 ≤ b) = true then some (a.fdiv (2 ^ b.toNat)) else Option.none
  | .BitAnd, a, b => some (Builtin.bitAnd a b)
  | .BitXor, a, b => some (Builtin.bitXor a b)
  | _, _, _ => Option.none

noncomputable def binop (op : Operator) : V → V → Option V
  | .int a, .int b => (intop op a b).map .int
  | _, _ => Option.none

noncomputable def ints? : List V → Option (List Int)
  | [] => some []
  | .int i :: r => (ints? r).map (i :: ·)
  | _ :: _ => Option.none
noncomputable def bools? : List V → Option (List Bool)
  | [] => some []
  | .bool i :: r => (bools? r).map (i :: ·)
  | _ :: _ => Option.none

noncomputable def intcmp : CmpOp → Int → Int → Option Bool
  | .Eq, a, b => some (a == b)
  | .NotEq, a, b => some (a != b)
  | .Lt, a, b => some (decide (a < b))
  | .LtE, a, b => some (decide (a ≤ b))
  | .Gt, a, b => some (decide (b < a))
  | .GtE, a, b => some (decide (b ≤ a))
  | _, _, _ => Option.none

noncomputable def cmpop (op : CmpOp) : V → V → Option Bool
  | .int a, .int b => intcmp op a b
  | .str a, .str b => match op with
    | .Eq => some (a == b)
    | .NotEq => some (a != b)
    | _ => Option.none
  | .tup a, .tup b => match op, ints? a, ints? b with
    | .Eq, some x, some y => some (decide (x = y))
    | .NotEq, some x, some y => some (!decide (x = y))
    | _, _, _ => Option.none
  | _, _ => Option.none

noncomputable def itemAt (vs : List V) (i : Int) : Option V := if decide (0 ≤ i) = true then (if decide (i < 2 ^ 62) = true then vs[i.toNat]? else Option.none) else Option.none

noncomputable def rangeUp (lo : Int) : Nat → List V
  | 0 => []
  | n + 1 => .int lo :: rangeUp (lo + 1) n
noncomputable def rangeDown (lo : Int) : Nat → List V
  | 0 => []
  | n + 1 => .int lo :: rangeDown (lo - 1) n

noncomputable def smallR (a b : Int) : Bool := decide (-1000000 ≤ a) && decide (a ≤ 1000000) && decide (-1000000 ≤ b) && decide (b ≤ 1000000)

noncomputable def rangeOf : List V → Option (List V)
  | [.int n] => if smallR 0 n = true then some (rangeUp 0 n.toNat) else Option.none
  | [.int a, .int b] => if smallR a b = true then some (rangeUp a (b - a).toNat) else Option.none
  | [.int a, .int b, .int c] => if (c == -1 && smallR a b) = true then some (rangeDown a (a - b).toNat) else Option.none
  | _ => Option.none

noncomputable def itemsOf : V → Option (List V)
  | .lst vs => if decide (vs.length ≤ 2 ^ 22) = true then some vs else Option.none
  | .str s => if (s.cps.all (fun c => decide (c < 128)) && decide (s.cps.size ≤ 2 ^ 22)) = true then some (s.cps.toList.map fun c => .str ⟨#[c]⟩) else Option.none
  | _ => Option.none

mutual
noncomputable def flat : V → Bool
  | .undef => false
  | .lst _ => false
  | .tup vs => flats vs
  | .none => true
  | .bool _ => true
  | .int _ => true
  | .str _ => true
noncomputable def flats : List V → Bool
  | [] => true
  | v :: r => flat v && flats r
end

noncomputable def mapO (f : V → Option V) : List V → Option (List V)
  | [] => some []
  | v :: r => (f v).bind fun a => (mapO f r).map (a :: ·)

/-- the constants of the top -/
abbrev GT := List (PySem.Str × V)

section
variable (gt : GT) (sh : List (PySem.Str × V)) (cs : Nat → List V → Option V)

mutual
noncomputable def ev (x : X) (σ : List V) : Option V :=
  match x with
  | .none => some .none
  | .bool b => some (.bool b)
  | .int i => some (.int i)
  | .str s => some (.str s)
  | .var i => match σ[i]? with
    | some .undef => Option.none
    | some v => some v
    | Option.none => Option.none
  | .glo i => (gt[i]?).map (·.2)
  | .bin op l r => (ev l σ).bind fun a => (ev r σ).bind fun b => binop op a b
  | .neg x => (ev x σ).bind fun a => match a with
    | .int i => some (.int (-i))
    | _ => Option.none
  | .not x => (ev x σ).bind fun a => (truthyV a).map fun b => .bool (!b)
  | .one x => ev x σ
  | .and l r => (ev l σ).bind fun a => (truthyV a).bind fun b => if b = true then ev r σ else some a
  | .or l r => (ev l σ).bind fun a => (truthyV a).bind fun b => if b = true then some a else ev r σ
  | .cmp op l r => (ev l σ).bind fun a => (ev r σ).bind fun b => (cmpop op a b).map .bool
  | .ite c a b => (ev c σ).bind fun t => (truthyV t).bind fun t => if t = true then ev a σ else ev b σ
  | .tup xs => (evs xs σ).map .tup
  | .lst xs => (evs xs σ).map .lst
  | .rept x n => (ev x σ).bind fun a => (ev n σ).bind fun k => match k with
    | .int k => if (decide (0 ≤ k) && decide (k ≤ 1000000)) = true then some (.lst (List.replicate k.toNat a)) else Option.none
    | _ => Option.none
  | .idx x i => (ev x σ).bind fun a => (ev i σ).bind fun k => match a, k with
    | .tup vs, .int i => itemAt vs i
    | .lst vs, .int i => itemAt vs i
    | _, _ => Option.none
  | .upto x n => (ev x σ).bind fun a => (ev n σ).bind fun k => match a, k with
    | .lst vs, .int i => if (decide (0 ≤ i) && decide (i ≤ 1000000) && decide (vs.length ≤ 2 ^ 22)) = true then some (.lst (vs.take i.toNat)) else Option.none
    | _, _ => Option.none
  | .shift r => (ev r σ).bind fun a => match a with
    | .str s => sh.lookup s
    | _ => Option.none
  | .call f xs => (evs xs σ).bind fun vs => cs f vs
  | .len x => (ev x σ).bind fun a => match a with
    | .lst vs => if decide (vs.length ≤ 2 ^ 40) = true then some (.int vs.length) else Option.none
    | _ => Option.none
  | .toint x => (ev x σ).bind fun a => match a with
    | .int i => some (.int i)
    | .bool b => some (.int (if b then 1 else 0))
    | _ => Option.none
  | .isint x => (ev x σ).bind fun a => match a with
    | .int _ => some (.bool true)
    | _ => Option.none
  | .divmod a b => (ev a σ).bind fun a => (ev b σ).bind fun b => match a, b with
    | .int a, .int b => if divOk b = true then some (.tup [.int (a.fdiv b), .int (a.fmod b)]) else Option.none
    | _, _ => Option.none
  | .min a b => (ev a σ).bind fun a => (ev b σ).bind fun b => match a, b with
    | .int a, .int b => some (.int (if b < a then b else a))
    | _, _ => Option.none
  | .all x => (ev x σ).bind fun a => match a with
    | .lst vs => if decide (vs.length ≤ 2 ^ 22) = true then (bools? vs).map fun bs => .bool (bs.all id) else Option.none
    | _ => Option.none
  | .bits x => (ev x σ).bind fun a => match a with
    | .int i => some (.int (Builtin.Int.intBits i))
    | _ => Option.none
  | .comp elt i it => (ev it σ).bind fun a => (itemsOf a).bind fun items => (mapO (fun v => ev elt (σ.set i v)) items).bind fun outs => if flats outs = true then some (.lst outs) else Option.none
  | .compR elt i xs => (evs xs σ).bind fun as => (rangeOf as).bind fun items => (mapO (fun v => ev elt (σ.set i v)) items).bind fun outs => if flats outs = true then some (.lst outs) else Option.none
noncomputable def evs (xs : List X) (σ : List V) : Option (List V) :=
  match xs with
  | [] => some []
  | x :: r => (ev x σ).bind fun v => (evs r σ).map (v :: ·)
end
end

noncomputable def fresh : X → Bool
  | .lst _ => true
  | .rept _ _ => true
  | .upto _ _ => true
  | .comp _ _ _ => true
  | .compR _ _ _ => true
  | _ => false

/-- what a statement leaves: the names' values and the one that holds a list of the frame's own; or what is handed back -/
inductive R where
  | next (σ : List V) (ow : Option (Nat × Bool))
  | ret (v : V)

abbrev Ow := Option (Nat × Bool)
/-- the owned list is another name's, or none -/
noncomputable def owBut (ow : Ow) (i : Nat) : Ow := match ow with
  | some (j, p) => if j = i then Option.none else some (j, p)
  | Option.none => Option.none
noncomputable def owns (ow : Ow) (i : Nat) : Bool := match ow with
  | some (j, _) => j == i
  | Option.none => false
noncomputable def flatList : V → Bool
  | .lst vs => flats vs
  | _ => false

noncomputable def asgV (i : Nat) (fr : Bool) (v : V) (σ : List V) (ow : Ow) : R :=
  if (fr && flatList v) = true then .next (σ.set i v) (some (i, true))
  else if flat v = true then .next (σ.set i v) (owBut ow i)
  else .next (σ.set i v) Option.none

noncomputable def setAll : List Nat → List V → List V → List V
  | i :: is, v :: vs, σ => setAll is vs (σ.set i v)
  | _, _, σ => σ

noncomputable def setItemAt (vs : List V) (j : Int) (v : V) : Option (List V) :=
  if (decide (0 ≤ j) && decide (j < vs.length) && decide (j < 2 ^ 62)) = true then some (vs.set j.toNat v) else Option.none

noncomputable def loop (f : List V → Ow → Option R) (i : Nat) : List V → List V → Ow → Option R
  | [], σ, ow => some (.next σ ow)
  | x :: xs, σ, ow => (f (σ.set i x) (if flat x = true then owBut ow i else Option.none)).bind fun r => match r with
    | .next σ' ow' => loop f i xs σ' ow'
    | .ret v => some (.ret v)

section
variable (gt : GT) (sh : List (PySem.Str × V)) (cs : Nat → List V → Option V)
mutual
noncomputable def ex (s : S) (σ : List V) (ow : Ow) : Option R :=
  match s with
  | .asg i e => (ev gt sh cs e σ).map fun v => asgV i (fresh e) v σ ow
  | .asgC i e => (ev gt sh cs e σ).map fun v => asgV i (fresh e) v σ ow
  | .asgT is e => (ev gt sh cs e σ).bind fun v => match v with
    | .tup vs => if (decide (vs.length = is.length)) = true then some (.next (setAll is vs σ) Option.none) else Option.none
    | _ => Option.none
  | .asgU is e => (ev gt sh cs e σ).bind fun v => match v with
    | .tup vs => if (decide (vs.length = is.length)) = true then some (.next (setAll is vs σ) Option.none) else Option.none
    | _ => Option.none
  | .asgW is e => (ev gt sh cs e σ).bind fun v => match v with
    | .tup vs => if (decide (vs.length = is.length)) = true then some (.next (setAll is.reverse vs.reverse σ) Option.none) else Option.none
    | _ => Option.none
  | .aug i op e => (ev gt sh cs (.var i) σ).bind fun a => (ev gt sh cs e σ).bind fun b => (binop op a b).map fun v => asgV i false v σ ow
  | .setIdx i j e => (ev gt sh cs e σ).bind fun v => (ev gt sh cs (.var i) σ).bind fun l => (ev gt sh cs j σ).bind fun k => match l, k with
    | .lst vs, .int k => if (owns ow i && flat v) = true then (setItemAt vs k v).map fun vs' => .next (σ.set i (.lst vs')) (some (i, false)) else Option.none
    | _, _ => Option.none
  | .app i e => (ev gt sh cs (.var i) σ).bind fun l => (ev gt sh cs e σ).bind fun v => match l with
    | .lst vs => if (decide (ow = some (i, true)) && flat v && decide (vs.length ≤ 2 ^ 20)) = true then some (.next (σ.set i (.lst (vs ++ [v]))) ow) else Option.none
    | _ => Option.none
  | .ite c a b => (ev gt sh cs c σ).bind fun t => (truthyV t).bind fun t => if t = true then exs a σ ow else exs b σ ow
  | .for_ i it body => (ev gt sh cs it σ).bind fun a => (itemsOf a).bind fun items => loop (fun σ ow => exs body σ ow) i items σ Option.none
  | .forR i xs body => (evs gt sh cs xs σ).bind fun as => (rangeOf as).bind fun items => loop (fun σ ow => exs body σ ow) i items σ ow
  | .ret e => (ev gt sh cs e σ).map .ret
  | .asrt e => (ev gt sh cs e σ).bind fun t => (truthyV t).bind fun t => if t = true then some (.next σ ow) else Option.none
  | .bad => Option.none
noncomputable def exs (ss : List S) (σ : List V) (ow : Ow) : Option R :=
  match ss with
  | [] => some (.next σ ow)
  | s :: r => (ex s σ ow).bind fun q => match q with
    | .next σ' ow' => exs r σ' ow'
    | .ret v => some (.ret v)
end
end

/-- a function: how many parameters, the last ones' defaults, how many names, the body -/
structure FD where
  np : Nat
  defs : List V
  nl : Nat
  body : List S

noncomputable def bindV (fd : FD) (args : List V) : Option (List V) :=
  if (decide (args.length ≤ fd.np) && decide (fd.np ≤ args.length + fd.defs.length)) = true then some (args ++ fd.defs.drop (args.length + fd.defs.length - fd.np)) else Option.none

noncomputable def runF (gt : GT) (sh : List (PySem.Str × V)) (cs : Nat → List V → Option V) (fd : FD) (args : List V) : Option V :=
  (bindV fd args).bind fun vs => (exs gt sh cs fd.body (vs ++ List.replicate (fd.nl - fd.np) .undef) Option.none).map fun r => match r with
    | .ret v => v
    | .next _ _ => .none

noncomputable def cal (gt : GT) (sh : List (PySem.Str × V)) (ft : List FD) : Nat → Nat → List V → Option V
  | 0, _, _ => Option.none
  | k + 1, f, args => (ft[f]?).bind fun fd => runF gt sh (cal gt sh ft k) fd args
end Mine

end
section -- M2
open PySem PySem.W PyProof.Rows
namespace Mine
/-- 0 n -/
noncomputable def f_trailing : FD := { np := 1, defs := [], nl := 1, body :=
  [.ite (.not (.var 0))
    [.ret (.int 0)]
    [],
  .ret (.bin .Sub (.bits (.bin .BitAnd (.var 0) (.neg (.var 0)))) (.int 1))] }
noncomputable def nm_trailing : List Str := ["n"]
/-- 0 n, 1 p, 2 k -/
noncomputable def f_ifac : FD := { np := 1, defs := [], nl := 3, body :=
  [.asg 1 (.int 1),
  .forR 2 [(.int 2), (.bin .Add (.var 0) (.int 1))]
    [.aug 1 .Mult (.var 2)],
  .ret (.var 1)] }
noncomputable def nm_ifac : List Str := ["n", "p", "k"]
/-- 0 n, 1 k, 2 L, 3 m, 4 j -/
noncomputable def f_stirling1 : FD := { np := 2, defs := [], nl := 5, body :=
  [.ite (.or (.cmp .Lt (.var 0) (.int 0)) (.one (.cmp .Lt (.var 1) (.int 0))))
    [.bad]
    [],
  .ite (.cmp .GtE (.var 1) (.var 0))
    [.ret (.toint (.cmp .Eq (.var 0) (.var 1)))]
    [],
  .ite (.cmp .Lt (.var 1) (.int 1))
    [.ret (.glo 0)]
    [],
  .asg 2 (.rept (.glo 0) (.bin .Add (.var 1) (.int 1))),
  .setIdx 2 (.int 1) (.glo 1),
  .forR 3 [(.int 2), (.bin .Add (.var 0) (.int 1))]
    [.forR 4 [(.min (.var 1) (.var 3)), (.int 0), (.neg (.int 1))]
      [.setIdx 2 (.var 4) (.bin .Add (.bin .Mult (.bin .Sub (.var 3) (.int 1)) (.idx (.var 2) (.var 4))) (.idx (.var 2) (.bin .Sub (.var 4) (.int 1))))]],
  .ret (.bin .Mult (.bin .Pow (.neg (.int 1)) (.bin .Add (.var 0) (.var 1))) (.idx (.var 2) (.var 1)))] }
noncomputable def nm_stirling1 : List Str := ["n", "k", "L", "m", "j"]
/-- 0 n, 1 k, 2 s, 3 t, 4 j -/
noncomputable def f_stirling2 : FD := { np := 2, defs := [], nl := 5, body :=
  [.ite (.or (.cmp .Lt (.var 0) (.int 0)) (.one (.cmp .Lt (.var 1) (.int 0))))
    [.bad]
    [],
  .ite (.cmp .GtE (.var 1) (.var 0))
    [.ret (.toint (.cmp .Eq (.var 0) (.var 1)))]
    [],
  .ite (.cmp .LtE (.var 1) (.int 1))
    [.ret (.toint (.cmp .Eq (.var 1) (.int 1)))]
    [],
  .asg 2 (.glo 0),
  .asg 3 (.glo 1),
  .forR 4 [(.bin .Add (.var 1) (.int 1))]
    [.ite (.bin .BitAnd (.bin .Add (.var 1) (.var 4)) (.int 1))
      [.aug 2 .Sub (.bin .Mult (.var 3) (.bin .Pow (.toint (.var 4)) (.var 0)))]
      [.aug 2 .Add (.bin .Mult (.var 3) (.bin .Pow (.toint (.var 4)) (.var 0)))],
    .asg 3 (.bin .FloorDiv (.bin .Mult (.var 3) (.bin .Sub (.var 1) (.var 4))) (.bin .Add (.var 4) (.int 1)))],
  .ret (.bin .FloorDiv (.var 2) (.call 1 [(.var 1)]))] }
noncomputable def nm_stirling2 : List Str := ["n", "k", "s", "t", "j"]
/-- 0 sign, 1 man, 2 exp, 3 bc, 4 prec, 5 rnd, 6 n, 7 t -/
noncomputable def f__normalize : FD := { np := 6, defs := [], nl := 8, body :=
  [.ite (.not (.var 1))
    [.ret (.glo 8)]
    [],
  .asg 6 (.bin .Sub (.var 3) (.var 4)),
  .ite (.cmp .Gt (.var 6) (.int 0))
    [.ite (.cmp .Eq (.var 5) (.glo 2))
      [.asg 7 (.bin .RShift (.var 1) (.bin .Sub (.var 6) (.int 1))),
      .ite (.and (.bin .BitAnd (.var 7) (.int 1)) (.one (.or (.bin .BitAnd (.var 7) (.int 2)) (.one (.bin .BitAnd (.var 1) (.bin .Sub (.bin .LShift (.glo 1) (.bin .Sub (.var 6) (.int 1))) (.int 1)))))))
        [.asg 1 (.bin .Add (.bin .RShift (.var 7) (.int 1)) (.int 1))]
        [.asg 1 (.bin .RShift (.var 7) (.int 1))]]
      [.ite (.idx (.shift (.var 5)) (.var 0))
        [.aug 1 .RShift (.var 6)]
        [.asg 1 (.neg (.bin .RShift (.neg (.var 1)) (.var 6)))]],
    .aug 2 .Add (.var 6),
    .asg 3 (.var 4)]
    [],
  .ite (.not (.bin .BitAnd (.var 1) (.int 1)))
    [.asg 7 (.call 0 [(.var 1)]),
    .aug 1 .RShift (.var 7),
    .aug 2 .Add (.var 7),
    .aug 3 .Sub (.var 7)]
    [],
  .ite (.cmp .Eq (.var 1) (.int 1))
    [.asg 3 (.int 1)]
    [],
  .ret (.tup [(.var 0), (.var 1), (.var 2), (.var 3)])] }
noncomputable def nm__normalize : List Str := ["sign", "man", "exp", "bc", "prec", "rnd", "n", "t"]
/-- 0 sign, 1 man, 2 exp, 3 bc, 4 prec, 5 rnd -/
noncomputable def f_normalize : FD := { np := 6, defs := [], nl := 6, body :=
  [.asrt (.cmp .Eq (.var 3) (.bits (.var 1))),
  .asrt (.cmp .GtE (.var 1) (.int 0)),
  .ret (.call 4 [(.var 0), (.var 1), (.var 2), (.var 3), (.var 4), (.var 5)])] }
noncomputable def nm_normalize : List Str := ["sign", "man", "exp", "bc", "prec", "rnd"]
/-- 0 man, 1 exp, 2 prec, 3 rnd, 4 sign, 5 bc, 6 t -/
noncomputable def f_from_man_exp : FD := { np := 4, defs := [.int 0, .str "d"], nl := 7, body :=
  [.ite (.not (.isint (.var 0)))
    [.bad]
    [],
  .asg 4 (.int 0),
  .ite (.cmp .Lt (.var 0) (.int 0))
    [.asg 4 (.int 1),
    .asg 0 (.neg (.var 0))]
    [],
  .asg 5 (.bits (.var 0)),
  .ite (.not (.var 2))
    [.ite (.not (.var 0))
      [.ret (.glo 8)]
      [],
    .ite (.not (.bin .BitAnd (.var 0) (.int 1)))
      [.ite (.bin .BitAnd (.var 0) (.int 2))
        [.ret (.tup [(.var 4), (.bin .RShift (.var 0) (.int 1)), (.bin .Add (.var 1) (.int 1)), (.bin .Sub (.var 5) (.int 1))])]
        [],
      .asg 6 (.call 0 [(.var 0)]),
      .aug 0 .RShift (.var 6),
      .aug 1 .Add (.var 6),
      .aug 5 .Sub (.var 6)]
      [],
    .ret (.tup [(.var 4), (.var 0), (.var 1), (.var 5)])]
    [],
  .ret (.call 5 [(.var 4), (.var 0), (.var 1), (.var 5), (.var 2), (.var 3)])] }
noncomputable def nm_from_man_exp : List Str := ["man", "exp", "prec", "rnd", "sign", "bc", "t"]
/-- 0 n, 1 prec, 2 rnd -/
noncomputable def f_from_int : FD := { np := 3, defs := [.int 0, .str "d"], nl := 3, body :=
  [.ret (.call 6 [(.toint (.var 0)), (.int 0), (.var 1), (.var 2)])] }
noncomputable def nm_from_int : List Str := ["n", "prec", "rnd"]
/-- 0 s, 1 prec, 2 rnd, 3 sign, 4 man, 5 exp, 6 bc -/
noncomputable def f_mpf_pos : FD := { np := 3, defs := [.int 0, .str "d"], nl := 7, body :=
  [.ite (.var 1)
    [.asgT [3, 4, 5, 6] (.var 0),
    .ite (.and (.not (.var 4)) (.one (.var 5)))
      [.ret (.var 0)]
      [],
    .ret (.call 5 [(.var 3), (.var 4), (.var 5), (.var 6), (.var 1), (.var 2)])]
    [],
  .ret (.var 0)] }
noncomputable def nm_mpf_pos : List Str := ["s", "prec", "rnd", "sign", "man", "exp", "bc"]
/-- 0 s, 1 prec, 2 rnd, 3 sign, 4 man, 5 exp, 6 bc -/
noncomputable def f_mpf_neg : FD := { np := 3, defs := [.int 0, .str "d"], nl := 7, body :=
  [.asgT [3, 4, 5, 6] (.var 0),
  .ite (.not (.var 4))
    [.ite (.var 5)
      [.ite (.cmp .Eq (.var 0) (.glo 11))
        [.ret (.glo 12)]
        [],
      .ite (.cmp .Eq (.var 0) (.glo 12))
        [.ret (.glo 11)]
        []]
      [],
    .ret (.var 0)]
    [],
  .ite (.not (.var 1))
    [.ret (.tup [(.bin .Sub (.int 1) (.var 3)), (.var 4), (.var 5), (.var 6)])]
    [],
  .ret (.call 5 [(.bin .Sub (.int 1) (.var 3)), (.var 4), (.var 5), (.var 6), (.var 1), (.var 2)])] }
noncomputable def nm_mpf_neg : List Str := ["s", "prec", "rnd", "sign", "man", "exp", "bc"]
/-- 0 s, 1 prec, 2 rnd, 3 sign, 4 man, 5 exp, 6 bc -/
noncomputable def f_mpf_abs : FD := { np := 3, defs := [.int 0, .str "d"], nl := 7, body :=
  [.asgT [3, 4, 5, 6] (.var 0),
  .ite (.and (.not (.var 4)) (.one (.var 5)))
    [.ite (.cmp .Eq (.var 0) (.glo 12))
      [.ret (.glo 11)]
      [],
    .ret (.var 0)]
    [],
  .ite (.not (.var 1))
    [.ite (.var 3)
      [.ret (.tup [(.int 0), (.var 4), (.var 5), (.var 6)])]
      [],
    .ret (.var 0)]
    [],
  .ret (.call 5 [(.int 0), (.var 4), (.var 5), (.var 6), (.var 1), (.var 2)])] }
noncomputable def nm_mpf_abs : List Str := ["s", "prec", "rnd", "sign", "man", "exp", "bc"]
/-- 0 s, 1 sign, 2 man, 3 exp, 4 bc -/
noncomputable def f_mpf_sign : FD := { np := 1, defs := [], nl := 5, body :=
  [.asgT [1, 2, 3, 4] (.var 0),
  .ite (.not (.var 2))
    [.ite (.cmp .Eq (.var 0) (.glo 11))
      [.ret (.int 1)]
      [],
    .ite (.cmp .Eq (.var 0) (.glo 12))
      [.ret (.neg (.int 1))]
      [],
    .ret (.int 0)]
    [],
  .ret (.bin .Pow (.neg (.int 1)) (.var 1))] }
noncomputable def nm_mpf_sign : List Str := ["s", "sign", "man", "exp", "bc"]
/-- 0 s, 1 t, 2 prec, 3 rnd, 4 _sub, 5 ssign, 6 sman, 7 sexp, 8 sbc, 9 tsign, 10 tman, 11 texp, 12 tbc, 13 offset, 14 delta, 15 man, 16 bc -/
noncomputable def f_mpf_add : FD := { np := 5, defs := [.int 0, .str "d", .int 0], nl := 17, body :=
  [.asgT [5, 6, 7, 8] (.var 0),
  .asgT [9, 10, 11, 12] (.var 1),
  .aug 9 .BitXor (.var 4),
  .ite (.and (.var 6) (.one (.var 10)))
    [.asg 13 (.bin .Sub (.var 7) (.var 11)),
    .ite (.var 13)
      [.ite (.cmp .Gt (.var 13) (.int 0))
        [.ite (.and (.cmp .Gt (.var 13) (.int 100)) (.one (.var 2)))
          [.asg 14 (.bin .Sub (.bin .Sub (.bin .Add (.var 8) (.var 7)) (.var 12)) (.var 11)),
          .ite (.cmp .Gt (.var 14) (.bin .Add (.var 2) (.int 4)))
            [.asg 13 (.bin .Add (.var 2) (.int 4)),
            .aug 6 .LShift (.var 13),
            .ite (.cmp .Eq (.var 9) (.var 5))
              [.aug 6 .Add (.int 1)]
              [.aug 6 .Sub (.int 1)],
            .ret (.call 5 [(.var 5), (.var 6), (.bin .Sub (.var 7) (.var 13)), (.bits (.var 6)), (.var 2), (.var 3)])]
            []]
          [],
        .ite (.cmp .Eq (.var 5) (.var 9))
          [.asg 15 (.bin .Add (.var 10) (.bin .LShift (.var 6) (.var 13)))]
          [.ite (.var 5)
            [.asg 15 (.bin .Sub (.var 10) (.bin .LShift (.var 6) (.var 13)))]
            [.asg 15 (.bin .Sub (.bin .LShift (.var 6) (.var 13)) (.var 10))],
          .ite (.cmp .GtE (.var 15) (.int 0))
            [.asg 5 (.int 0)]
            [.asg 15 (.neg (.var 15)),
            .asg 5 (.int 1)]],
        .asg 16 (.bits (.var 15)),
        .ret (.call 5 [(.var 5), (.var 15), (.var 11), (.var 16), (.or (.var 2) (.one (.var 16))), (.var 3)])]
        [.ite (.cmp .Lt (.var 13) (.int 0))
          [.ite (.and (.cmp .Lt (.var 13) (.neg (.int 100))) (.one (.var 2)))
            [.asg 14 (.bin .Sub (.bin .Sub (.bin .Add (.var 12) (.var 11)) (.var 8)) (.var 7)),
            .ite (.cmp .Gt (.var 14) (.bin .Add (.var 2) (.int 4)))
              [.asg 13 (.bin .Add (.var 2) (.int 4)),
              .aug 10 .LShift (.var 13),
              .ite (.cmp .Eq (.var 5) (.var 9))
                [.aug 10 .Add (.int 1)]
                [.aug 10 .Sub (.int 1)],
              .ret (.call 5 [(.var 9), (.var 10), (.bin .Sub (.var 11) (.var 13)), (.bits (.var 10)), (.var 2), (.var 3)])]
              []]
            [],
          .ite (.cmp .Eq (.var 5) (.var 9))
            [.asg 15 (.bin .Add (.var 6) (.bin .LShift (.var 10) (.neg (.var 13))))]
            [.ite (.var 9)
              [.asg 15 (.bin .Sub (.var 6) (.bin .LShift (.var 10) (.neg (.var 13))))]
              [.asg 15 (.bin .Sub (.bin .LShift (.var 10) (.neg (.var 13))) (.var 6))],
            .ite (.cmp .GtE (.var 15) (.int 0))
              [.asg 5 (.int 0)]
              [.asg 15 (.neg (.var 15)),
              .asg 5 (.int 1)]],
          .asg 16 (.bits (.var 15)),
          .ret (.call 5 [(.var 5), (.var 15), (.var 7), (.var 16), (.or (.var 2) (.one (.var 16))), (.var 3)])]
          []]]
      [],
    .ite (.cmp .Eq (.var 5) (.var 9))
      [.asg 15 (.bin .Add (.var 10) (.var 6))]
      [.ite (.var 5)
        [.asg 15 (.bin .Sub (.var 10) (.var 6))]
        [.asg 15 (.bin .Sub (.var 6) (.var 10))],
      .ite (.cmp .GtE (.var 15) (.int 0))
        [.asg 5 (.int 0)]
        [.asg 15 (.neg (.var 15)),
        .asg 5 (.int 1)]],
    .asg 16 (.bits (.var 15)),
    .ret (.call 5 [(.var 5), (.var 15), (.var 11), (.var 16), (.or (.var 2) (.one (.var 16))), (.var 3)])]
    [],
  .ite (.var 4)
    [.asg 1 (.call 9 [(.var 1)])]
    [],
  .ite (.not (.var 6))
    [.ite (.var 7)
      [.ite (.or (.cmp .Eq (.var 0) (.var 1)) (.or (.var 10) (.one (.not (.var 11)))))
        [.ret (.var 0)]
        [],
      .ret (.glo 10)]
      [],
    .ite (.var 10)
      [.ret (.call 5 [(.var 9), (.var 10), (.var 11), (.var 12), (.or (.var 2) (.one (.var 12))), (.var 3)])]
      [],
    .ret (.var 1)]
    [],
  .ite (.var 11)
    [.ret (.var 1)]
    [],
  .ite (.var 6)
    [.ret (.call 5 [(.var 5), (.var 6), (.var 7), (.var 8), (.or (.var 2) (.one (.var 8))), (.var 3)])]
    [],
  .ret (.var 0)] }
noncomputable def nm_mpf_add : List Str := ["s", "t", "prec", "rnd", "_sub", "ssign", "sman", "sexp", "sbc", "tsign", "tman", "texp", "tbc", "offset", "delta", "man", "bc"]
/-- 0 s, 1 t, 2 prec, 3 rnd -/
noncomputable def f_mpf_sub : FD := { np := 4, defs := [.int 0, .str "d"], nl := 4, body :=
  [.ret (.call 12 [(.var 0), (.var 1), (.var 2), (.var 3), (.int 1)])] }
noncomputable def nm_mpf_sub : List Str := ["s", "t", "prec", "rnd"]
/-- 0 xs, 1 prec, 2 rnd, 3 absolute, 4 man, 5 exp, 6 max_extra_prec, 7 special, 8 x, 9 xsign, 10 xman, 11 xexp, 12 xbc, 13 delta -/
noncomputable def f_mpf_sum : FD := { np := 4, defs := [.int 0, .str "d", .bool false], nl := 14, body :=
  [.asg 4 (.toint (.int 0)),
  .asg 5 (.int 0),
  .asg 6 (.or (.bin .Mult (.var 1) (.int 2)) (.one (.int 1000000))),
  .asg 7 .none,
  .for_ 8 (.var 0)
    [.asgT [9, 10, 11, 12] (.var 8),
    .ite (.var 10)
      [.ite (.and (.var 9) (.one (.not (.var 3))))
        [.asg 10 (.neg (.var 10))]
        [],
      .asg 13 (.bin .Sub (.var 11) (.var 5)),
      .ite (.cmp .GtE (.var 11) (.var 5))
        [.ite (.and (.cmp .Gt (.var 13) (.var 6)) (.one (.or (.not (.var 4)) (.one (.cmp .Gt (.bin .Sub (.var 13) (.bits (.var 4))) (.var 6))))))
          [.asg 4 (.var 10),
          .asg 5 (.var 11)]
          [.aug 4 .Add (.bin .LShift (.var 10) (.var 13))]]
        [.asg 13 (.neg (.var 13)),
        .ite (.cmp .Gt (.bin .Sub (.var 13) (.var 12)) (.var 6))
          [.ite (.not (.var 4))
            [.asgW [4, 5] (.tup [(.var 10), (.var 11)])]
            []]
          [.asg 4 (.bin .Add (.bin .LShift (.var 4) (.var 13)) (.var 10)),
          .asg 5 (.var 11)]]]
      [.ite (.var 11)
        [.ite (.var 3)
          [.asg 8 (.call 10 [(.var 8)])]
          [],
        .asg 7 (.call 12 [(.or (.var 7) (.one (.glo 8))), (.var 8), (.int 1)])]
        []]],
  .ite (.var 7)
    [.ret (.var 7)]
    [],
  .ret (.call 6 [(.var 4), (.var 5), (.var 1), (.var 2)])] }
noncomputable def nm_mpf_sum : List Str := ["xs", "prec", "rnd", "absolute", "man", "exp", "max_extra_prec", "special", "x", "xsign", "xman", "xexp", "xbc", "delta"]
/-- 0 s, 1 t, 2 prec, 3 rnd, 4 ssign, 5 sman, 6 sexp, 7 sbc, 8 tsign, 9 tman, 10 texp, 11 tbc, 12 sign, 13 man, 14 bc, 15 s_special, 16 t_special -/
noncomputable def f_mpf_mul : FD := { np := 4, defs := [.int 0, .str "d"], nl := 17, body :=
  [.asgT [4, 5, 6, 7] (.var 0),
  .asgT [8, 9, 10, 11] (.var 1),
  .asg 12 (.bin .BitXor (.var 4) (.var 8)),
  .asg 13 (.bin .Mult (.var 5) (.var 9)),
  .ite (.var 13)
    [.asg 14 (.bits (.var 13)),
    .ite (.var 2)
      [.ret (.call 5 [(.var 12), (.var 13), (.bin .Add (.var 6) (.var 10)), (.var 14), (.var 2), (.var 3)])]
      [.ret (.tup [(.var 12), (.var 13), (.bin .Add (.var 6) (.var 10)), (.var 14)])]]
    [],
  .asg 15 (.and (.not (.var 5)) (.one (.var 6))),
  .asg 16 (.and (.not (.var 9)) (.one (.var 10))),
  .ite (.and (.not (.var 15)) (.one (.not (.var 16))))
    [.ret (.glo 8)]
    [],
  .bad,
  .ite (.and (.not (.var 9)) (.one (.var 10)))
    [.asgW [0, 1] (.tup [(.var 1), (.var 0)])]
    [],
  .ite (.cmp .Eq (.var 1) (.glo 8))
    [.ret (.glo 10)]
    [],
  .bad] }
noncomputable def nm_mpf_mul : List Str := ["s", "t", "prec", "rnd", "ssign", "sman", "sexp", "sbc", "tsign", "tman", "texp", "tbc", "sign", "man", "bc", "s_special", "t_special"]
/-- 0 s, 1 n, 2 prec, 3 rnd, 4 sign, 5 man, 6 exp, 7 bc -/
noncomputable def f_mpf_mul_int : FD := { np := 4, defs := [.str "d"], nl := 8, body :=
  [.asgT [4, 5, 6, 7] (.var 0),
  .ite (.not (.var 5))
    [.ret (.call 15 [(.var 0), (.call 7 [(.var 1)]), (.var 2), (.var 3)])]
    [],
  .ite (.not (.var 1))
    [.ret (.glo 8)]
    [],
  .ite (.cmp .Lt (.var 1) (.int 0))
    [.aug 4 .BitXor (.int 1),
    .asg 1 (.neg (.var 1))]
    [],
  .aug 5 .Mult (.var 1),
  .aug 7 .Add (.bin .Sub (.bits (.var 1)) (.int 1)),
  .aug 7 .Add (.bin .RShift (.var 5) (.var 7)),
  .ret (.call 5 [(.var 4), (.var 5), (.var 6), (.var 7), (.var 2), (.var 3)])] }
noncomputable def nm_mpf_mul_int : List Str := ["s", "n", "prec", "rnd", "sign", "man", "exp", "bc"]
/-- 0 s, 1 t, 2 prec, 3 rnd, 4 ssign, 5 sman, 6 sexp, 7 sbc, 8 tsign, 9 tman, 10 texp, 11 tbc, 12 s_special, 13 t_special, 14 sign, 15 extra, 16 quot, 17 rem, 18 bc -/
noncomputable def f_mpf_div : FD := { np := 4, defs := [.str "d"], nl := 19, body :=
  [.asgT [4, 5, 6, 7] (.var 0),
  .asgT [8, 9, 10, 11] (.var 1),
  .ite (.or (.not (.var 5)) (.one (.not (.var 9))))
    [.ite (.cmp .Eq (.var 0) (.glo 8))
      [.ite (.cmp .Eq (.var 1) (.glo 8))
        [.bad]
        [],
      .ite (.cmp .Eq (.var 1) (.glo 10))
        [.ret (.glo 10)]
        [],
      .ret (.glo 8)]
      [],
    .ite (.cmp .Eq (.var 1) (.glo 8))
      [.bad]
      [],
    .asg 12 (.and (.not (.var 5)) (.one (.var 6))),
    .asg 13 (.and (.not (.var 9)) (.one (.var 10))),
    .ite (.and (.var 12) (.one (.var 13)))
      [.ret (.glo 10)]
      [],
    .ite (.or (.cmp .Eq (.var 0) (.glo 10)) (.one (.cmp .Eq (.var 1) (.glo 10))))
      [.ret (.glo 10)]
      [],
    .ite (.not (.var 13))
      [.ite (.cmp .Eq (.var 1) (.glo 8))
        [.ret (.glo 10)]
        [],
      .bad]
      [],
    .ret (.glo 8)]
    [],
  .asg 14 (.bin .BitXor (.var 4) (.var 8)),
  .ite (.cmp .Eq (.var 9) (.int 1))
    [.ret (.call 5 [(.var 14), (.var 5), (.bin .Sub (.var 6) (.var 10)), (.var 7), (.var 2), (.var 3)])]
    [],
  .ite (.not (.var 2))
    [.bad]
    [.asg 15 (.bin .Add (.bin .Add (.bin .Sub (.var 2) (.var 7)) (.var 11)) (.int 5))],
  .ite (.cmp .Lt (.var 15) (.int 5))
    [.asg 15 (.int 5)]
    [],
  .asgT [16, 17] (.divmod (.bin .LShift (.var 5) (.var 15)) (.var 9)),
  .ite (.var 17)
    [.asg 16 (.bin .Add (.bin .LShift (.var 16) (.int 1)) (.int 1)),
    .aug 15 .Add (.int 1)]
    [],
  .asg 18 (.bits (.var 16)),
  .ret (.call 5 [(.var 14), (.var 16), (.bin .Sub (.bin .Sub (.var 6) (.var 10)) (.var 15)), (.var 18), (.or (.var 2) (.one (.var 18))), (.var 3)])] }
noncomputable def nm_mpf_div : List Str := ["s", "t", "prec", "rnd", "ssign", "sman", "sexp", "sbc", "tsign", "tman", "texp", "tbc", "s_special", "t_special", "sign", "extra", "quot", "rem", "bc"]
/-- 0 s, 1 n, 2 prec, 3 rnd, 4 sign, 5 man, 6 exp, 7 bc, 8 _, 9 inverse, 10 result_sign, 11 rounds_down, 12 workprec, 13 pm, 14 pe, 15 pbc -/
noncomputable def f_mpf_pow_int : FD := { np := 4, defs := [.str "d"], nl := 16, body :=
  [.asgT [4, 5, 6, 7] (.var 0),
  .ite (.and (.not (.var 5)) (.one (.var 6)))
    [.ite (.cmp .Eq (.var 0) (.glo 11))
      [.ite (.cmp .Gt (.var 1) (.int 0))
        [.ret (.var 0)]
        [],
      .ite (.cmp .Eq (.var 1) (.int 0))
        [.ret (.glo 9)]
        [],
      .ret (.glo 8)]
      [],
    .ite (.cmp .Eq (.var 0) (.glo 12))
      [.ite (.cmp .Gt (.var 1) (.int 0))
        [.ret (.idx (.lst [(.glo 11), (.glo 12)]) (.bin .BitAnd (.var 1) (.int 1)))]
        [],
      .ite (.cmp .Eq (.var 1) (.int 0))
        [.ret (.glo 9)]
        [],
      .ret (.glo 8)]
      [],
    .ite (.cmp .Eq (.var 1) (.int 0))
      [.ret (.glo 9)]
      [],
    .ret (.glo 10)]
    [],
  .asg 1 (.toint (.var 1)),
  .ite (.cmp .Eq (.var 1) (.int 0))
    [.ret (.glo 9)]
    [],
  .ite (.cmp .Eq (.var 1) (.int 1))
    [.ret (.call 8 [(.var 0), (.var 2), (.var 3)])]
    [],
  .ite (.cmp .Eq (.var 1) (.int 2))
    [.asgT [8, 5, 6, 7] (.var 0),
    .ite (.not (.var 5))
      [.ret (.glo 8)]
      [],
    .asg 5 (.bin .Mult (.var 5) (.var 5)),
    .ite (.cmp .Eq (.var 5) (.int 1))
      [.ret (.tup [(.int 0), (.glo 1), (.bin .Add (.var 6) (.var 6)), (.int 1)])]
      [],
    .asg 7 (.bin .Sub (.bin .Add (.var 7) (.var 7)) (.int 2)),
    .aug 7 .Add (.bits (.bin .RShift (.var 5) (.var 7))),
    .ret (.call 5 [(.int 0), (.var 5), (.bin .Add (.var 6) (.var 6)), (.var 7), (.var 2), (.var 3)])]
    [],
  .ite (.cmp .Eq (.var 1) (.neg (.int 1)))
    [.ret (.call 17 [(.glo 9), (.var 0), (.var 2), (.var 3)])]
    [],
  .ite (.cmp .Lt (.var 1) (.int 0))
    [.bad,
    .ret (.call 17 [(.glo 9), (.var 9), (.var 2), (.var 3)])]
    [],
  .asg 10 (.bin .BitAnd (.var 4) (.var 1)),
  .ite (.cmp .Eq (.var 5) (.int 1))
    [.ret (.tup [(.var 10), (.glo 1), (.bin .Mult (.var 6) (.var 1)), (.int 1)])]
    [],
  .ite (.cmp .Lt (.bin .Mult (.var 7) (.var 1)) (.int 1000))
    [.aug 5 .Pow (.var 1),
    .ret (.call 5 [(.var 10), (.var 5), (.bin .Mult (.var 6) (.var 1)), (.bits (.var 5)), (.var 2), (.var 3)])]
    [],
  .asg 11 (.or (.cmp .Eq (.var 3) (.glo 2)) (.one (.idx (.shift (.var 3)) (.var 10)))),
  .asg 12 (.bin .Add (.bin .Add (.var 2) (.bin .Mult (.int 4) (.bits (.var 1)))) (.int 4)),
  .asgT [8, 13, 14, 15] (.glo 9),
  .bad,
  .ret (.call 5 [(.var 10), (.var 13), (.var 14), (.var 15), (.var 2), (.var 3)])] }
noncomputable def nm_mpf_pow_int : List Str := ["s", "n", "prec", "rnd", "sign", "man", "exp", "bc", "_", "inverse", "result_sign", "rounds_down", "workprec", "pm", "pe", "pbc"]
/-- 0 script, 1 k, 2 n -/
noncomputable def f__law_mixed : FD := { np := 2, defs := [], nl := 3, body :=
  [.asg 2 (.ite (.cmp .Lt (.var 1) (.len (.var 0))) (.idx (.var 0) (.var 1)) (.int 0)),
  .ite (.cmp .GtE (.var 2) (.bin .Pow (.int 2) (.int 64)))
    [.ret (.var 2)]
    [],
  .ret (.bin .Mod (.bin .Add (.bin .Mult (.var 2) (.int 6364136223846793005)) (.bin .Mult (.bin .Add (.var 1) (.int 1)) (.int 1442695040888963407))) (.bin .Pow (.int 2) (.int 190)))] }
noncomputable def nm__law_mixed : List Str := ["script", "k", "n"]
/-- 0 rich, 1 bits, 2 spread, 3 kind, 4 e, 5 m, 6 man -/
noncomputable def f__law_raw : FD := { np := 3, defs := [], nl := 7, body :=
  [.asgW [3, 4, 5] (.tup [(.bin .Mod (.bin .FloorDiv (.var 0) (.int 2)) (.int 8)), (.bin .Sub (.bin .Mod (.bin .FloorDiv (.var 0) (.int 16)) (.bin .Add (.bin .Mult (.int 2) (.var 2)) (.int 1))) (.var 2)), (.bin .FloorDiv (.var 0) (.bin .Pow (.int 2) (.int 16)))]),
  .ite (.cmp .Eq (.var 3) (.int 0))
    [.ret (.tup [(.int 0), (.int 0), (.int 0), (.int 0)])]
    [],
  .asg 6 (.bin .Add (.bin .Mult (.bin .FloorDiv (.bin .Mod (.var 5) (.bin .Pow (.int 2) (.bin .Add (.int 1) (.bin .Mod (.var 5) (.var 1))))) (.int 2)) (.int 2)) (.int 1)),
  .ite (.cmp .Eq (.var 3) (.int 1))
    [.asg 6 (.int 1)]
    [.ite (.cmp .Eq (.var 3) (.int 2))
      [.asg 6 (.bin .Sub (.bin .Pow (.int 2) (.bin .Add (.int 1) (.bin .Mod (.var 5) (.var 1)))) (.int 1))]
      [.ite (.and (.cmp .Eq (.var 3) (.int 3)) (.one (.cmp .Gt (.var 1) (.int 1))))
        [.asg 6 (.bin .Add (.bin .Pow (.int 2) (.bin .Add (.int 1) (.bin .Mod (.var 5) (.bin .Sub (.var 1) (.int 1))))) (.int 1))]
        []]],
  .ret (.tup [(.bin .Mod (.var 0) (.int 2)), (.var 6), (.var 4), (.bits (.var 6))])] }
noncomputable def nm__law_raw : List Str := ["rich", "bits", "spread", "kind", "e", "m", "man"]
/-- 0 x, 1 n, 2 value, 3 k -/
noncomputable def f__law_steps : FD := { np := 2, defs := [], nl := 4, body :=
  [.asg 2 (.call 7 [(.int 1)]),
  .forR 3 [(.var 1)]
    [.asg 2 (.call 15 [(.var 2), (.call 13 [(.var 0), (.call 7 [(.var 3)])])])],
  .ret (.var 2)] }
noncomputable def nm__law_steps : List Str := ["x", "n", "value", "k"]
/-- 0 x, 1 y, 2 n, 3 powers, 4 due, 5 k, 6 ways -/
noncomputable def f__law_sums_right : FD := { np := 4, defs := [], nl := 7, body :=
  [.asg 4 (.lst []),
  .forR 5 [(.bin .Add (.var 2) (.int 1))]
    [.asg 6 (.bin .FloorDiv (.call 1 [(.var 2)]) (.bin .Mult (.call 1 [(.var 5)]) (.call 1 [(.bin .Sub (.var 2) (.var 5))]))),
    .app 4 (.call 16 [(.call 15 [(.idx (.var 3) (.var 5)), (.call 18 [(.var 1), (.bin .Sub (.var 2) (.var 5)), (.int 4000)])]), (.var 6), (.int 4000)])],
  .ret (.cmp .Eq (.call 18 [(.call 12 [(.var 0), (.var 1)]), (.var 2), (.int 4000)]) (.call 14 [(.var 4)]))] }
noncomputable def nm__law_sums_right : List Str := ["x", "y", "n", "powers", "due", "k", "ways"]
/-- 0 x, 1 n, 2 powers, 3 there, 4 k, 5 back -/
noncomputable def f__law_falling_right : FD := { np := 3, defs := [], nl := 6, body :=
  [.asgC 3 (.compR (.call 16 [(.idx (.var 2) (.var 4)), (.call 2 [(.var 1), (.var 4)]), (.int 4000)]) 4 [(.bin .Add (.var 1) (.int 1))]),
  .asgC 5 (.compR (.call 16 [(.call 21 [(.var 0), (.var 4)]), (.call 3 [(.var 1), (.var 4)]), (.int 4000)]) 4 [(.bin .Add (.var 1) (.int 1))]),
  .ret (.and (.cmp .Eq (.call 14 [(.var 3)]) (.call 21 [(.var 0), (.var 1)])) (.one (.cmp .Eq (.call 14 [(.var 5)]) (.idx (.var 2) (.var 1)))))] }
noncomputable def nm__law_falling_right : List Str := ["x", "n", "powers", "there", "k", "back"]
/-- 0 x, 1 n, 2 powers, 3 one, 4 total, 5 above, 6 below, 7 rnd -/
noncomputable def f__law_quotient_right : FD := { np := 3, defs := [], nl := 8, body :=
  [.asgU [3, 4] (.tup [(.call 7 [(.int 1)]), (.call 14 [(.upto (.var 2) (.var 1))])]),
  .asgU [5, 6] (.tup [(.call 13 [(.idx (.var 2) (.var 1)), (.var 3)]), (.call 13 [(.var 0), (.var 3)])]),
  .ite (.cmp .NotEq (.call 15 [(.var 6), (.var 4)]) (.var 5))
    [.ret (.bool false)]
    [],
  .ite (.cmp .Eq (.var 0) (.var 3))
    [.ret (.cmp .Eq (.var 4) (.call 7 [(.var 1)]))]
    [],
  .ret (.all (.comp (.cmp .Eq (.call 17 [(.var 5), (.var 6), (.int 4000), (.var 7)]) (.var 4)) 7 (.str "nfcdu")))] }
noncomputable def nm__law_quotient_right : List Str := ["x", "n", "powers", "one", "total", "above", "below", "rnd"]
/-- 0 script, 1 first, 2 x, 3 y, 4 n, 5 m, 6 powers, 7 k, 8 due, 9 j -/
noncomputable def f_law : FD := { np := 1, defs := [], nl := 10, body :=
  [.asg 1 (.call 19 [(.var 0), (.int 0)]),
  .asgU [2, 3, 4] (.tup [(.call 20 [(.call 19 [(.var 0), (.int 1)]), (.int 30), (.int 20)]), (.call 20 [(.call 19 [(.var 0), (.int 2)]), (.int 30), (.int 20)]), (.bin .Mod (.var 1) (.int 7))]),
  .ite (.cmp .Eq (.bin .Mod (.bin .FloorDiv (.var 1) (.int 7)) (.int 6)) (.int 0))
    [.asg 2 (.idx (.lst [(.call 7 [(.int 1)]), (.call 7 [(.neg (.int 1))]), (.call 7 [(.bin .Mod (.bin .FloorDiv (.var 1) (.int 42)) (.int 9))]), (.call 9 [(.var 3)])]) (.bin .Mod (.bin .FloorDiv (.var 1) (.int 400)) (.int 4)))]
    [],
  .asg 5 (.bin .Mod (.bin .FloorDiv (.var 1) (.int 2000)) (.int 7)),
  .asgC 6 (.compR (.call 18 [(.var 2), (.var 7), (.int 4000)]) 7 [(.bin .Add (.bin .Add (.var 4) (.var 5)) (.int 1))]),
  .forR 7 [(.bin .Add (.bin .Add (.var 4) (.var 5)) (.int 1))]
    [.asg 8 (.call 7 [(.int 1)]),
    .forR 9 [(.var 7)]
      [.asg 8 (.call 15 [(.var 8), (.var 2)])],
    .ite (.or (.cmp .NotEq (.idx (.var 6) (.var 7)) (.var 8)) (.one (.cmp .NotEq (.call 18 [(.call 9 [(.var 2)]), (.var 7), (.int 4000)]) (.ite (.cmp .Eq (.bin .Mod (.var 7) (.int 2)) (.int 1)) (.call 9 [(.var 8)]) (.var 8)))))
      [.ret (.bool false)]
      []],
  .ite (.or (.cmp .NotEq (.call 15 [(.idx (.var 6) (.var 4)), (.idx (.var 6) (.var 5))]) (.idx (.var 6) (.bin .Add (.var 4) (.var 5)))) (.one (.cmp .NotEq (.call 15 [(.idx (.var 6) (.var 4)), (.call 18 [(.var 3), (.var 4), (.int 4000)])]) (.call 18 [(.call 15 [(.var 2), (.var 3)]), (.var 4), (.int 4000)]))))
    [.ret (.bool false)]
    [],
  .ret (.and (.call 22 [(.var 2), (.var 3), (.var 4), (.var 6)]) (.and (.call 23 [(.var 2), (.var 4), (.var 6)]) (.one (.call 24 [(.var 2), (.var 4), (.var 6)]))))] }
noncomputable def nm_law : List Str := ["script", "first", "x", "y", "n", "m", "powers", "k", "due", "j"]
noncomputable def ft : List FD := [f_trailing, f_ifac, f_stirling1, f_stirling2, f__normalize, f_normalize, f_from_man_exp, f_from_int, f_mpf_pos, f_mpf_neg, f_mpf_abs, f_mpf_sign, f_mpf_add, f_mpf_sub, f_mpf_sum, f_mpf_mul, f_mpf_mul_int, f_mpf_div, f_mpf_pow_int, f__law_mixed, f__law_raw, f__law_steps, f__law_sums_right, f__law_falling_right, f__law_quotient_right, f_law]
noncomputable def fnames : List Str := ["trailing", "ifac", "stirling1", "stirling2", "_normalize", "normalize", "from_man_exp", "from_int", "mpf_pos", "mpf_neg", "mpf_abs", "mpf_sign", "mpf_add", "mpf_sub", "mpf_sum", "mpf_mul", "mpf_mul_int", "mpf_div", "mpf_pow_int", "_law_mixed", "_law_raw", "_law_steps", "_law_sums_right", "_law_falling_right", "_law_quotient_right", "law"]

noncomputable def T4 (a b c d : Int) : V := .tup [.int a, .int b, .int c, .int d]
noncomputable def gt0 : GT := [("MPZ_ZERO", .int 0), ("MPZ_ONE", .int 1), ("round_nearest", .str "n"), ("round_floor", .str "f"), ("round_ceiling", .str "c"), ("round_up", .str "u"), ("round_down", .str "d"), ("round_fast", .str "d"),
  ("fzero", T4 0 0 0 0), ("fone", T4 0 1 0 1), ("fnan", T4 0 0 (-123) (-1)), ("finf", T4 0 0 (-456) (-2)), ("fninf", T4 1 0 (-789) (-3))]
noncomputable def sh0 : List (PySem.Str × V) := [("f", .tup [.int 1, .int 0]), ("c", .tup [.int 0, .int 1]), ("d", .tup [.int 1, .int 1]), ("u", .tup [.int 0, .int 0])]
noncomputable def call0 (k f : Nat) (args : List V) : Option V := cal gt0 sh0 ft k f args
end Mine

end
section -- M3
open PySem PySem.Calls PySem.W PyProof.Rows
set_option maxRecDepth 10000
namespace Mine

abbrev Part := Addr → Option Obj

mutual
inductive Rep (g : Part) : Value → V → Prop
  | none : Rep g Value.none V.none
  | bool (b : Bool) : Rep g (Value.bool b) (V.bool b)
  | int (i : Int) (t : Tok) : Rep g (Value.int i t) (V.int i)
  | str (x : PySem.Str) (t : Tok) : Rep g (Value.str x t) (V.str x)
  | tup {a : Addr} {o : Obj} {items : Array Value} {n : Nat} {vs : List V} : g a = some o → o.cls = .type "tuple" → o.data = .seq items n → RepL g items.toList vs → Rep g (Value.ref a) (V.tup vs)
  | lst {a : Addr} {o : Obj} {items : Array Value} {n : Nat} {vs : List V} : g a = some o → o.cls = .type "list" → o.data = .seq items n → RepL g items.toList vs → Rep g (Value.ref a) (V.lst vs)
inductive RepL (g : Part) : List Value → List V → Prop
  | nil : RepL g [] []
  | cons {m : Value} {ms : List Value} {v : V} {vs : List V} : Rep g m v → RepL g ms vs → RepL g (m :: ms) (v :: vs)
end

mutual
theorem Rep.mono {g g' : Part} (hs : ∀ b o, g b = some o → (∃ xs n, o.data = .seq xs n) → g' b = some o) : ∀ {m : Value} {v : V}, Rep g m v → Rep g' m v
  | _, _, .none => .none
  | _, _, .bool b => .bool b
  | _, _, .int i t => .int i t
  | _, _, .str x t => .str x t
  | _, _, .tup h1 h2 h3 r => .tup (hs _ _ h1 ⟨_, _, h3⟩) h2 h3 (RepL.mono hs r)
  | _, _, .lst h1 h2 h3 r => .lst (hs _ _ h1 ⟨_, _, h3⟩) h2 h3 (RepL.mono hs r)
theorem RepL.mono {g g' : Part} (hs : ∀ b o, g b = some o → (∃ xs n, o.data = .seq xs n) → g' b = some o) : ∀ {ms : List Value} {vs : List V}, RepL g ms vs → RepL g' ms vs
  | _, _, .nil => .nil
  | _, _, .cons h r => .cons (Rep.mono hs h) (RepL.mono hs r)
end

noncomputable def minus (g : Part) (a : Addr) : Part := fun b => if b = a then Option.none else g b

mutual
theorem Rep.avoid {g : Part} {a : Addr} {o : Obj} (ha : g a = some o) (hl : o.cls = .type "list") : ∀ {m : Value} {v : V}, Rep g m v → flat v = true → Rep (minus g a) m v
  | _, _, .none, _ => .none
  | _, _, .bool b, _ => .bool b
  | _, _, .int i t, _ => .int i t
  | _, _, .str x t, _ => .str x t
  | _, _, .tup (a := b) (o := o') h1 h2 h3 r, hf => by
    refine .tup (o := o') ?_ h2 h3 (RepL.avoid ha hl r (by simpa [flat] using hf))
    unfold minus
    rw [if_neg]
    · exact h1
    · rintro rfl
      rw [ha] at h1; cases h1
      rw [hl] at h2; exact absurd h2 (by simp)
  | _, _, .lst .., hf => by simp [flat] at hf
theorem RepL.avoid {g : Part} {a : Addr} {o : Obj} (ha : g a = some o) (hl : o.cls = .type "list") : ∀ {ms : List Value} {vs : List V}, RepL g ms vs → flats vs = true → RepL (minus g a) ms vs
  | _, _, .nil, _ => .nil
  | _, _, .cons h r, hf => by
    simp only [flats, Bool.and_eq_true] at hf
    exact .cons (Rep.avoid ha hl h hf.1) (RepL.avoid ha hl r hf.2)
end

theorem Rep.keeps {h h' : Heap} {m : Value} {v : V} (r : Rep h.get? m v) (hk : ∀ b o, h.get? b = some o → h'.get? b = some o) : Rep h'.get? m v := r.mono fun b o e _ => hk b o e
theorem RepL.keeps {h h' : Heap} {ms : List Value} {vs : List V} (r : RepL h.get? ms vs) (hk : ∀ b o, h.get? b = some o → h'.get? b = some o) : RepL h'.get? ms vs := r.mono fun b o e _ => hk b o e

theorem RepL.length {g : Part} {ms : List Value} {vs : List V} (r : RepL g ms vs) : ms.length = vs.length := by
  induction ms generalizing vs with
  | nil => cases r; rfl
  | cons m ms ih => cases r with | cons h r => simp [ih r]
theorem RepL.get {g : Part} {ms : List Value} {vs : List V} (r : RepL g ms vs) {k : Nat} {v : V} (hk : vs[k]? = some v) : ∃ m, ms[k]? = some m ∧ Rep g m v := by
  induction ms generalizing vs k with
  | nil => cases r; simp at hk
  | cons m ms ih =>
    cases r with
    | cons h r =>
      cases k with
      | zero => simp at hk; subst hk; exact ⟨m, rfl, h⟩
      | succ k => simpa using ih r (by simpa using hk)
theorem RepL.get' {g : Part} {ms : List Value} {vs : List V} (r : RepL g ms vs) {k : Nat} {m : Value} (hk : ms[k]? = some m) : ∃ v, vs[k]? = some v ∧ Rep g m v := by
  induction ms generalizing vs k with
  | nil => simp at hk
  | cons m' ms ih =>
    cases r with
    | cons h r =>
      cases k with
      | zero => simp at hk; subst hk; exact ⟨_, rfl, h⟩
      | succ k => simpa using ih r (by simpa using hk)
theorem RepL.append {g : Part} {ms ns : List Value} {vs us : List V} (r : RepL g ms vs) (q : RepL g ns us) : RepL g (ms ++ ns) (vs ++ us) := by
  induction ms generalizing vs with
  | nil => cases r; exact q
  | cons m ms ih => cases r with | cons h r => exact .cons h (ih r)
theorem RepL.one {g : Part} {m : Value} {v : V} (r : Rep g m v) : RepL g [m] [v] := .cons r .nil
theorem RepL.take {g : Part} : ∀ {ms : List Value} {vs : List V}, RepL g ms vs → ∀ n, RepL g (ms.take n) (vs.take n)
  | _, _, .nil, _ => by simp; exact .nil
  | _, _, .cons _ _, 0 => .nil
  | _, _, .cons h r, n + 1 => .cons h (r.take n)
theorem RepL.set {g : Part} : ∀ {ms : List Value} {vs : List V} (_ : RepL g ms vs) (n : Nat) {m : Value} {v : V}, Rep g m v → RepL g (ms.set n m) (vs.set n v)
  | _, _, .nil, _, _, _, _ => .nil
  | _, _, .cons _ r, 0, _, _, q => .cons q r
  | _, _, .cons h r, n + 1, _, _, q => .cons h (r.set n q)
theorem RepL.replicate {g : Part} {m : Value} {v : V} (r : Rep g m v) : ∀ n, RepL g (List.replicate n m) (List.replicate n v)
  | 0 => .nil
  | n + 1 => .cons r (RepL.replicate r n)
theorem RepL.reverse {g : Part} {ms : List Value} {vs : List V} (r : RepL g ms vs) : RepL g ms.reverse vs.reverse := by
  induction ms generalizing vs with
  | nil => cases r; exact .nil
  | cons m ms ih => cases r with | cons h r => simp only [List.reverse_cons]; exact (ih r).append (.one h)

theorem RepL.ints {g : Part} : ∀ {ms : List Value} {vs : List V} {ns : List Int}, RepL g ms vs → ints? vs = some ns → IntsAre ms ns
  | _, _, _, .nil, e => by cases e; exact .nil
  | _, _, _, .cons (v := .int i) (.int _ t) r, e => by
    simp only [ints?, Option.map_eq_some_iff] at e
    obtain ⟨ns, e1, rfl⟩ := e
    exact .cons _ _ (r.ints e1)
  | _, _, _, .cons (v := .undef) h r, e => by cases e
  | _, _, _, .cons (v := .none) h r, e => by cases e
  | _, _, _, .cons (v := .bool _) h r, e => by cases e
  | _, _, _, .cons (v := .str _) h r, e => by cases e
  | _, _, _, .cons (v := .tup _) h r, e => by cases e
  | _, _, _, .cons (v := .lst _) h r, e => by cases e

theorem repL_of_ints {g : Part} {ms : List Value} {ns : List Int} (h : IntsAre ms ns) : RepL g ms (ns.map V.int) := by
  induction h with
  | nil => exact .nil
  | cons _ _ _ ih => exact .cons (.int _ _) ih

/-- the names' values -/
structure RS (nm : List PySem.Str) (env : Env) (g : Part) (m : PySem.Str → Option Value) (σ : List V) : Prop where
  loc : ∀ (i : Nat) (x : PySem.Str) (v : V), nm[i]? = some x → σ[i]? = some v → v ≠ .undef → env.kindOf x = some .local → ∃ mv, m x = some mv ∧ Rep g mv v
  cel : ∀ (i : Nat) (x : PySem.Str) (v : V), nm[i]? = some x → σ[i]? = some v → v ≠ .undef → env.kindOf x = some .cell ∨ env.kindOf x = some .free →
    ∃ c o mv, env.cells.lookup x = some c ∧ g c = some o ∧ o.data = .cell (some mv) ∧ Rep g mv v

/-- the world that stays -/
structure Wd where
  prog : Program
  w : World
  K : Frag
  p : Program
  loose : List PySem.Str
  mean : ExcName → Option Value
  mg : PySem.Str → Option Value
  mb : PySem.Str → Option Value

abbrev Wd.M (W : Wd) : Model := model W.prog W.w
structure Wd.OK (W : Wd) (h : Heap) : Prop where
  inK : W.K.In h
  top : Top W.p W.loose W.mean W.mg W.mb h
theorem Wd.OK.keeps {W : Wd} {h h' : Heap} (x : W.OK h) (hk : ∀ b o, h.get? b = some o → h'.get? b = some o) : W.OK h' := ⟨x.inK.keeps hk, x.top.keeps hk⟩

structure EnvOK (env : Env) (kd : PySem.Str → Option NameKind) : Prop where
  kind : env.scope.kind = .function
  kdEq : ∀ x : PySem.Str, env.kindOf x = kd x
  glob : env.globals = mainGlobals
  blt : env.builtins = builtinsNs
  cells : ∀ x : PySem.Str, kd x = some .cell ∨ kd x = some .free → ∃ c, env.cells.lookup x = some c

/-- a state in which the names stand so -/
structure SO (W : Wd) (nm : List PySem.Str) (env : Env) (m : PySem.Str → Option Value) (σ : List V) (s : Shared) : Prop where
  ns : s.heap.Ns env.locals m
  rs : RS nm env s.heap.get? m σ
  ok : W.OK s.heap

theorem RS.mono {nm : List PySem.Str} {env : Env} {g g' : Part} {m : PySem.Str → Option Value} {σ : List V} (r : RS nm env g m σ) (hk : ∀ b o, g b = some o → g' b = some o) : RS nm env g' m σ where
  loc := fun i x v h1 h2 h3 h4 => let ⟨mv, e, q⟩ := r.loc i x v h1 h2 h3 h4; ⟨mv, e, q.mono fun b o e _ => hk b o e⟩
  cel := fun i x v h1 h2 h3 h4 => let ⟨c, o, mv, e1, e2, e3, q⟩ := r.cel i x v h1 h2 h3 h4; ⟨c, o, mv, e1, hk _ _ e2, e3, q.mono fun b o e _ => hk b o e⟩

theorem kHeap {s s' : Shared} (h : Keeps s s') : ∀ b o, s.heap.get? b = some o → s'.heap.get? b = some o := by
  obtain ⟨h', tk, rfl, hk⟩ := h; exact hk
theorem kRfl {s : Shared} : Keeps s s := ⟨s.heap, s.toks, rfl, fun _ _ e => e⟩
theorem kTrans {s s' s'' : Shared} (h : Keeps s s') (h' : Keeps s' s'') : Keeps s s'' := by
  obtain ⟨h1, tk, rfl, hk⟩ := h
  obtain ⟨h2, tk2, rfl, hk2⟩ := h'
  exact ⟨h2, tk2, rfl, fun b o e => hk2 b o (hk b o e)⟩
theorem kToks {s : Shared} (n : Nat) : Keeps s { s with toks := n } := ⟨s.heap, n, rfl, fun _ _ e => e⟩
theorem kPush {s : Shared} (o : Obj) (n : Nat) : Keeps s { s with heap := s.heap.push o, toks := n } := ⟨_, n, rfl, fun _ _ e => Heap.get?_push_of_some _ e⟩

theorem SO.keeps {W : Wd} {nm : List PySem.Str} {env : Env} {m : PySem.Str → Option Value} {σ : List V} {s s' : Shared} (h : SO W nm env m σ s) (k : Keeps s s') : SO W nm env m σ s' :=
  ⟨h.ns.keeps (kHeap k), h.rs.mono (kHeap k), h.ok.keeps (kHeap k)⟩

structure Room (A : Around) (k : Nat) : Prop where
  handled : A.handled = none
  depth : A.depth + k < recursionLimit
  units : A.units + 4 * k + 100 < cLine

theorem Room.in1 {A : Around} {k : Nat} (h : Room A k) : A.in1.units + 4 * k + 99 < cLine := by
  have := h.units; simp only [Around.in1_units]; omega

/-- false: nothing is raised -/
abbrev Fal : Value → Shared → Prop := fun _ _ => False

/-- an end: v, all else as it was -/
noncomputable def Gives (s : Shared) (v : V) : Value → Shared → Prop := fun mv s' => Rep s'.heap.get? mv v ∧ Keeps s s'

theorem Gives.self {s s' : Shared} {v : V} {mv : Value} (r : Rep s'.heap.get? mv v) (k : Keeps s s') : Gives s v mv s' := ⟨r, k⟩

noncomputable def FnOk (W : Wd) (fad : List Addr) (k f : Nat) (args : List V) (r : V) : Prop :=
  ∀ a, fad[f]? = some a → ∀ (A : Around) (s : Shared) (vals : List Value), Room A k → W.OK s.heap → RepL s.heap.get? vals args →
    wpAny W.M A (call (.ref a) vals) (Gives s r) Fal s

theorem wpF {α : Type} {M : Model} {A : Around} {t : Sem α} {Q Q' : α → Shared → Prop} {E : Value → Shared → Prop} {s : Shared} (h : wpAny M A t Q Fal s) (hq : ∀ a s', Q a s' → Q' a s') : wpAny M A t Q' E s :=
  wpAny_mono h hq fun _ _ f => f.elim
end Mine

end
section -- M4
open PySem PySem.Calls PySem.W PyProof.Rows
set_option maxRecDepth 10000
namespace Mine

section
variable {prog : Program} {w : World} {A : Around} {E : Value → Shared → Prop} {s : Shared} {ma mb : Value} {a b v : V}

theorem gInt (i : Int) (t n : Nat) : Gives s (.int i) (.int i t) { s with toks := n } := ⟨.int _ _, kToks n⟩
theorem gInt0 (i : Int) (t : Nat) : Gives s (.int i) (.int i t) s := ⟨.int _ _, kRfl⟩
theorem gBool (b : Bool) : Gives s (.bool b) (.bool b) s := ⟨.bool _, kRfl⟩

theorem mulOk_ok {a b : Int} (h : mulOk a b = true) : IntMulOk a b := by
  unfold mulOk at h
  simp only [Bool.or_eq_true, Bool.and_eq_true, decide_eq_true_eq] at h
  rcases h with (h | h) | ⟨h, h'⟩
  · exact .of_left h
  · exact .of_right h
  · exact .of_bits h h'
theorem divOk_ok {a b : Int} (h : divOk b = true) : b ≠ 0 ∧ Builtin.divisionGoesByPylong a b = false := by
  unfold divOk at h
  simp only [Bool.and_eq_true, bne_iff_ne, decide_eq_true_eq] at h
  exact ⟨h.1, PyProof.noPylong_of_log2 h.2⟩

theorem intop_ok {op : Operator} {i j k : Int} {t u : Tok} (h : intop op i j = some k) : wpAny (model prog w) A (binaryOp op (.int i t) (.int j u)) (Gives s (.int k)) E s := by
  cases op <;> simp only [intop] at h
  all_goals first | (cases h; done) | skip
  · cases h; exact add_int (gInt _ _ _)
  · cases h; exact sub_int (gInt _ _ _)
  · split at h
    · rename_i hm; cases h; exact mul_int (gInt _ _ _) (mulOk_ok hm)
    · cases h
  · split at h
    · rename_i hm; cases h; exact mod_int (divOk_ok (a := i) hm).1 (gInt _ _ _)
    · cases h
  · split at h
    · rename_i hm; cases h
      unfold powOk at hm
      simp only [Bool.and_eq_true, decide_eq_true_eq] at hm
      exact pow_int hm.1 hm.2 (gInt _ _ _)
    · cases h
  · split at h
    · rename_i hm; cases h
      unfold shlOk at hm
      simp only [Bool.and_eq_true, decide_eq_true_eq] at hm
      exact lshift_int hm.1 hm.2 (gInt _ _ _)
    · cases h
  · split at h
    · rename_i hm; cases h
      simp only [decide_eq_true_eq] at hm
      exact rshift_int hm (gInt _ _ _)
    · cases h
  · cases h; exact xor_int (gInt _ _ _)
  · cases h; exact and_int (gInt _ _ _)
  · split at h
    · rename_i hm; cases h; exact floordiv_int (divOk_ok (a := i) hm).1 (gInt _ _ _) (.inl (divOk_ok hm).2)
    · cases h

theorem iintop_ok {op : Operator} {i j k : Int} {t u : Tok} (h : intop op i j = some k) : wpAny (model prog w) A (inplaceOp op (.int i t) (.int j u)) (Gives s (.int k)) E s := by
  cases op <;> simp only [intop] at h
  all_goals first | (cases h; done) | skip
  · cases h; exact iadd_int (gInt _ _ _)
  · cases h; exact isub_int (gInt _ _ _)
  · split at h
    · rename_i hm; cases h; exact imul_int (gInt _ _ _) (mulOk_ok hm)
    · cases h
  · split at h
    · rename_i hm; cases h; exact imod_int (divOk_ok (a := i) hm).1 (gInt _ _ _)
    · cases h
  · split at h
    · rename_i hm; cases h
      unfold powOk at hm
      simp only [Bool.and_eq_true, decide_eq_true_eq] at hm
      exact ipow_int hm.1 hm.2 (gInt _ _ _)
    · cases h
  · split at h
    · rename_i hm; cases h
      unfold shlOk at hm
      simp only [Bool.and_eq_true, decide_eq_true_eq] at hm
      exact ilshift_int hm.1 hm.2 (gInt _ _ _)
    · cases h
  · split at h
    · rename_i hm; cases h
      simp only [decide_eq_true_eq] at hm
      exact irshift_int hm (gInt _ _ _)
    · cases h
  · cases h; exact ixor_int (gInt _ _ _)
  · cases h; exact iand_int (gInt _ _ _)
  · split at h
    · rename_i hm; cases h; exact ifloordiv_int (divOk_ok (a := i) hm).1 (gInt _ _ _) (.inl (divOk_ok hm).2)
    · cases h

theorem binop_ints {op : Operator} (h : binop op a b = some v) : ∃ i j k, a = .int i ∧ b = .int j ∧ intop op i j = some k ∧ v = .int k := by
  unfold binop at h
  split at h
  · rename_i i j
    obtain ⟨k, h1, h2⟩ := Option.map_eq_some_iff.mp h
    exact ⟨i, j, k, rfl, rfl, h1, h2.symm⟩
  · cases h

theorem Rep.isInt {g : Part} {m : Value} {i : Int} (r : Rep g m (.int i)) : ∃ t, m = .int i t := by cases r; exact ⟨_, rfl⟩
theorem Rep.isBool {g : Part} {m : Value} {i : Bool} (r : Rep g m (.bool i)) : m = .bool i := by cases r; rfl
theorem Rep.isStr {g : Part} {m : Value} {i : PySem.Str} (r : Rep g m (.str i)) : ∃ t, m = .str i t := by cases r; exact ⟨_, rfl⟩
theorem Rep.isTup {h : Heap} {m : Value} {vs : List V} (r : Rep h.get? m (.tup vs)) : ∃ a items, m = .ref a ∧ IsTup h a items ∧ RepL h.get? items.toList vs := by
  cases r with | tup h1 h2 h3 h4 => exact ⟨_, _, rfl, ⟨_, h1, h2, _, h3⟩, h4⟩
theorem Rep.isLst {h : Heap} {m : Value} {vs : List V} (r : Rep h.get? m (.lst vs)) : ∃ a items, m = .ref a ∧ h.IsList a items ∧ RepL h.get? items.toList vs := by
  cases r with | lst h1 h2 h3 h4 => exact ⟨_, _, rfl, ⟨_, h1, h2, _, h3⟩, h4⟩
theorem repTup {h : Heap} {a : Addr} {items : Array Value} {vs : List V} (t : IsTup h a items) (r : RepL h.get? items.toList vs) : Rep h.get? (.ref a) (.tup vs) :=
  let ⟨_, h1, h2, _, h3⟩ := t; .tup h1 h2 h3 r
theorem repLst {h : Heap} {a : Addr} {items : Array Value} {vs : List V} (t : h.IsList a items) (r : RepL h.get? items.toList vs) : Rep h.get? (.ref a) (.lst vs) :=
  let ⟨_, h1, h2, _, h3⟩ := t; .lst h1 h2 h3 r

theorem binop_ok {op : Operator} (h : binop op a b = some v) (ra : Rep s.heap.get? ma a) (rb : Rep s.heap.get? mb b) : wpAny (model prog w) A (binaryOp op ma mb) (Gives s v) E s := by
  obtain ⟨i, j, k, rfl, rfl, hk, rfl⟩ := binop_ints h
  obtain ⟨t, rfl⟩ := ra.isInt
  obtain ⟨u, rfl⟩ := rb.isInt
  exact intop_ok hk
theorem ibinop_ok {op : Operator} (h : binop op a b = some v) (ra : Rep s.heap.get? ma a) (rb : Rep s.heap.get? mb b) : wpAny (model prog w) A (inplaceOp op ma mb) (Gives s v) E s := by
  obtain ⟨i, j, k, rfl, rfl, hk, rfl⟩ := binop_ints h
  obtain ⟨t, rfl⟩ := ra.isInt
  obtain ⟨u, rfl⟩ := rb.isInt
  exact iintop_ok hk

theorem truthy_ok {c : Bool} (h : truthyV a = some c) (ra : Rep s.heap.get? ma a) : wpAny (model prog w) A (truthy ma) (fun b s' => b = c ∧ Keeps s s') E s := by
  cases ra with
  | none => cases h; exact truthy_none ⟨rfl, kRfl⟩
  | bool b => cases h; exact wpAny_truthy_bool ⟨rfl, kRfl⟩
  | int i t => cases h; exact truthy_int ⟨rfl, kRfl⟩
  | str => cases h
  | tup => cases h
  | lst => cases h

theorem readsInts {h : Heap} : ∀ {ms : List Value} {vs : List V} {ns : List Int}, RepL h.get? ms vs → ints? vs = some ns → PySem.ReadsAll h ms (ns.map PyData.int) [] := by
  intro ms vs ns r e
  exact readsAll_of_ints (r.ints e)

theorem shapedT (ns : List Int) : SeqAt.shaped (.tuple (ns.map PyData.int)) = true := by
  have h1 := canLayAll0_ints ns
  have h2 := PySem.W.depthAll_ints ns
  unfold SeqAt.shaped
  simp only [PyData.canLay0, PyData.depth, Bool.and_eq_true]
  exact ⟨h1, decide_eq_true (by omega)⟩

theorem eqvAll_ints : ∀ ns ms : List Int, PyData.eqvAll (ns.map PyData.int) (ms.map PyData.int) = decide (ns = ms)
  | [], [] => by simp [PyData.eqvAll]
  | [], _ :: _ => by simp [PyData.eqvAll]
  | _ :: _, [] => by simp [PyData.eqvAll]
  | a :: r, b :: t => by
    simp only [List.map_cons, PyData.eqvAll, PyData.eqv, eqvAll_ints r t]
    by_cases h : a = b <;> by_cases h' : r = t <;> simp [h, h']

theorem cmp_ok {op : CmpOp} {c : Bool} (hu : A.units + 64 < cLine) (h : cmpop op a b = some c) (ra : Rep s.heap.get? ma a) (rb : Rep s.heap.get? mb b) : wpAny (model prog w) A (compareOp op ma mb) (Gives s (.bool c)) E s := by
  unfold cmpop at h
  split at h
  · rename_i i j
    obtain ⟨t, rfl⟩ := ra.isInt
    obtain ⟨u, rfl⟩ := rb.isInt
    cases op <;> simp only [intcmp] at h
    all_goals first | (cases h; done) | skip
    · cases h; exact eq_int (gBool _)
    · cases h; exact ne_int (gBool _)
    · cases h; exact lt_int (gBool _)
    · cases h; exact le_int (gBool _)
    · cases h; exact gt_int (gBool _)
    · cases h; exact ge_int (gBool _)
  · rename_i i j
    obtain ⟨t, rfl⟩ := ra.isStr
    obtain ⟨u, rfl⟩ := rb.isStr
    cases op <;> simp only [] at h
    all_goals first | (cases h; done) | skip
    · cases h; exact eq_str (gBool _)
    · cases h; exact ne_str (gBool _)
  · rename_i xs ys
    cases ra with | tup a1 a2 a3 a4 =>
    cases rb with | tup b1 b2 b3 b4 =>
    split at h
    · rename_i x y hx hy
      cases h
      refine eq_dataH (.tuple a1 a2 a3 (readsInts a4 hx)) (.tuple b1 b2 b3 (readsInts b4 hy)) (shapedT _) (shapedT _) hu ?_
      simp only [PyData.eqv, eqvAll_ints]
      exact gBool _
    · rename_i x y hx hy
      cases h
      refine ne_dataH (.tuple a1 a2 a3 (readsInts a4 hx)) (.tuple b1 b2 b3 (readsInts b4 hy)) (shapedT _) (shapedT _) hu ?_
      simp only [PyData.eqv, eqvAll_ints]
      exact gBool _
    · cases h
  · cases h
end
end Mine

end
section -- M5
open PySem PySem.Calls PySem.W PyProof.Rows
set_option maxRecDepth 10000
namespace Mine

/-- a value that was not there before -/
noncomputable def New (s : Shared) (mv : Value) (s' : Shared) : Prop := ∃ a o, mv = .ref a ∧ s.heap.get? a = none ∧ s'.heap.get? a = some o ∧ o.dict = none ∧ o.slots = #[]
theorem New.of_size {s s' : Shared} {o : Obj} {n : Nat} (k : Keeps s s') (hd : o.dict = none ∧ o.slots = #[]) (hf : o.isFreed = false) : New s (.ref s'.heap.objs.size) { s' with heap := s'.heap.push o, toks := n } := by
  refine ⟨_, o, rfl, ?_, Heap.get?_push_size _ hf, hd⟩
  cases e : s.heap.get? s'.heap.objs.size with
  | none => rfl
  | some o => exact absurd (Heap.lt_size (kHeap k _ _ e)) (Nat.lt_irrefl _)
theorem New.before {s s₁ s' : Shared} {mv : Value} (n : New s₁ mv s') (k : Keeps s s₁) : New s mv s' := by
  obtain ⟨a, o, rfl, h, r⟩ := n
  refine ⟨a, o, rfl, ?_, r⟩
  cases e : s.heap.get? a with
  | none => rfl
  | some o => rw [kHeap k _ _ e] at h; cases h

section
variable {M : Model} {A : Around} {E : Value → Shared → Prop} {s : Shared} {ms : List Value} {vs : List V}

theorem newTuple_ok (r : RepL s.heap.get? ms vs) (hsz : ms.length ≤ sizeLine) : wpAny M A (newTuple ms) (Gives s (.tup vs)) E s :=
  wpAny_newObj_type ⟨.tup (Heap.get?_push_size _ rfl) rfl rfl (by simpa using r.keeps fun _ _ e => Heap.get?_push_of_some _ e), kPush _ _⟩ (by show ms.toArray.size ≤ sizeLine; rw [List.size_toArray]; exact hsz)
theorem newList_ok (r : RepL s.heap.get? ms vs) (hsz : ms.length ≤ sizeLine) : wpAny M A (newList ms) (fun mv s' => Gives s (.lst vs) mv s' ∧ New s mv s') E s :=
  wpAny_newObj_type ⟨⟨.lst (Heap.get?_push_size _ rfl) rfl rfl (by simpa using r.keeps fun _ _ e => Heap.get?_push_of_some _ e), kPush _ _⟩, New.of_size kRfl ⟨rfl, rfl⟩ rfl⟩ (by show ms.toArray.size ≤ sizeLine; rw [List.size_toArray]; exact hsz)
end

section
variable {prog : Program} {w : World} {A : Around} {E : Value → Shared → Prop} {s : Shared} {ma mb : Value} {a b v : V}

theorem itemAt_some {vs : List V} {i : Int} (h : itemAt vs i = some v) : 0 ≤ i ∧ i < 2 ^ 62 ∧ vs[i.toNat]? = some v := by
  unfold itemAt at h
  split at h
  · split at h
    · rename_i h1 h2; exact ⟨by simpa using h1, by simpa using h2, h⟩
    · cases h
  · cases h

theorem seqIndex_of {i : Int} {n : Nat} (h0 : 0 ≤ i) (h : i.toNat < n) : seqIndex? i n = some i.toNat := by
  have e : ¬ i < 0 := by omega
  simp only [seqIndex?, if_neg e]
  rw [if_pos]
  simp only [Bool.and_eq_true, decide_eq_true_eq]
  omega

theorem idxTup_ok {value slice : Expr} {vs : List V} {i : Int} (h : itemAt vs i = some v) (ra : Rep s.heap.get? ma (.tup vs)) (rb : Rep s.heap.get? mb (.int i))
    (hs : ∀ o i, subscripted slice false o i = operate [o, i] (getItem o i)) : wpAny (model prog w) A (subscriptTail value slice ma mb) (Gives s v) E s := by
  obtain ⟨h0, h1, h2⟩ := itemAt_some h
  obtain ⟨t, items, rfl, ht, hr⟩ := ra.isTup
  obtain ⟨u, rfl⟩ := rb.isInt
  obtain ⟨m, hm, hm'⟩ := hr.get h2
  have hm2 : items[i.toNat]? = some m := by simpa using hm
  have hlt : i.toNat < items.size := by
    rcases Nat.lt_or_ge i.toNat items.size with h | h
    · exact h
    · rw [Array.getElem?_eq_none h] at hm2; cases hm2
  exact tail_any ht.typeIs slot_tuple_getitem.lookup (getItem_tuple ht (by omega) (by omega) (seqIndex_of h0 hlt) hm2 ⟨hm', kRfl⟩) (hs _ _)
theorem idxLst_ok {value slice : Expr} {vs : List V} {i : Int} (h : itemAt vs i = some v) (ra : Rep s.heap.get? ma (.lst vs)) (rb : Rep s.heap.get? mb (.int i))
    (hs : ∀ o i, subscripted slice false o i = operate [o, i] (getItem o i)) : wpAny (model prog w) A (subscriptTail value slice ma mb) (Gives s v) E s := by
  obtain ⟨h0, h1, h2⟩ := itemAt_some h
  obtain ⟨t, items, rfl, ht, hr⟩ := ra.isLst
  obtain ⟨u, rfl⟩ := rb.isInt
  obtain ⟨m, hm, hm'⟩ := hr.get h2
  have hm2 : items[i.toNat]? = some m := by simpa using hm
  exact tail_any ht.typeIs slot_list_getitem.lookup (wpAny_getItem_list ht h0 (by omega) hm2 ⟨hm', kRfl⟩) (hs _ _)

theorem pick_upto (items : Array Value) {y : Int} (h : 0 ≤ y) : (slicePick items none (some y) none).toList = items.toList.take y.toNat := by
  have e : sliceBounds none (some y) none items.size = (((0 : Nat) : Int), ((min y.toNat items.size : Nat) : Int), 1) := by
    simp only [sliceBounds, Option.getD_none, show (1 : Int) > 0 by decide, if_true, if_neg (show ¬ (y < 0) by omega)]
    congr 1
    congr 1
    omega
  rw [kmk_pick_nat _ e]
  rw [List.drop_zero, Nat.sub_zero, ← Array.length_toList, kmk_take_min]

theorem upto_ok {value : Expr} {e : Option Expr} {p : Pos} {vs : List V} {i : Int} (h0 : 0 ≤ i) (hsz : vs.length ≤ 2 ^ 22) (ra : Rep s.heap.get? ma (.lst vs)) (rb : Rep s.heap.get? mb (.int i)) :
    wpAny (model prog w) A (newFields "slice" [.none, mb, .none]) (fun sl s₁ => wpAny (model prog w) A (subscriptTail value (.Slice none e none p) ma sl) (fun mv s' => Gives s (.lst (vs.take i.toNat)) mv s' ∧ New s mv s') E s₁) E s := by
  obtain ⟨t, items, rfl, ht, hr⟩ := ra.isLst
  obtain ⟨u, rfl⟩ := rb.isInt
  have hlen : items.size = vs.length := by have := hr.length; simpa using this
  refine wpAny_newObj_type ?_
  have hT : Shared.TypeIs { s with heap := s.heap.push { cls := .type "slice", data := .fields #[.none, .int i u, .none] } } (.ref t) "list" := (ht.push _).typeIs
  refine tail_any (ops := [.ref s.heap.objs.size, .ref t]) hT slot_list_getitem.lookup
    (wpAny_getItem_list_slice (ht.push _) (Heap.IsSliceOf.new ..) .none (.int i u) .none (by simp) ?_ (by rw [sizeLine_eq, hlen]; omega)) rfl
  refine ⟨⟨.lst (Heap.get?_push_size _ rfl) rfl rfl ?_, kTrans (kPush _ _) (kPush _ _)⟩, New.of_size (kPush _ s.toks) ⟨rfl, rfl⟩ rfl⟩
  rw [pick_upto items h0]
  exact (hr.take _).keeps fun b o e => Heap.get?_push_of_some _ (Heap.get?_push_of_some _ e)

theorem rept_ok {l : Addr} {x : Value} {k : Nat} {n : Int} {u : Tok} (hl : s.heap.get? l = some { cls := .type "list", dict := none, data := .seq #[x] k, slots := #[] }) (h0 : 0 ≤ n) (h1 : n ≤ 1000000) (rx : Rep s.heap.get? x v) :
    wpAny (model prog w) A (binaryOp .Mult (.ref l) (.int n u)) (fun mv s' => Gives s (.lst (List.replicate n.toNat v)) mv s' ∧ New s mv s') E s := by
  refine wpAny_binaryOp_repeat_ref (T := "list") (U := "int") (by decide) ⟨_, hl, rfl⟩ (fun s' => typeIs_int s' n u) noFill_list_mul F.fills_int_mul F.slot_int_rmul repeat_list F.slot_int_index.lookup
    (call_meets F.slot_int_rmul (typeIs_int s n u) F.entry_int_rmul (F.args_int_rmul_2 _ _) (int___rmul___int_list n u l #[x] k)
      ⟨hl, rfl, ⟨_, hl, rfl⟩, call_meets F.slot_list_mul ⟨_, hl, rfl⟩ F.entry_list_mul (F.args_list_mul_2 _ _)
        (AutoListH.list___mul___list_int_3 l #[x] k n u (by simp [Builtin.List.listFitsIndex]; omega) (by simp; omega) (by simp [Builtin.List.listTooLong, sizeLine]; omega))
        ⟨hl, ?_⟩⟩)
  have e : ∀ k : Nat, (List.foldl (fun x1 x2 => x1 ++ x2) (#[] : Array Value) (List.replicate k #[x])).toList = List.replicate k x := by
    have e' : ∀ (k : Nat) (acc : Array Value), (List.foldl (fun x1 x2 => x1 ++ x2) acc (List.replicate k #[x])).toList = acc.toList ++ List.replicate k x := by
      intro k
      induction k with
      | zero => intro acc; simp
      | succ k ih => intro acc; rw [List.replicate_succ, List.foldl_cons, ih]; simp [List.replicate_succ]
    intro k; simpa using e' k #[]
  refine ⟨⟨.lst (Heap.get?_push_size _ rfl) rfl rfl ?_, kPush _ _⟩, New.of_size kRfl ⟨rfl, rfl⟩ rfl⟩
  rw [if_neg (by simp), e]
  exact RepL.replicate (rx.keeps fun b o e => Heap.get?_push_of_some _ e) _

theorem len_ok {vs : List V} (h : vs.length ≤ 2 ^ 40) (ra : Rep s.heap.get? ma (.lst vs)) : wpAny (model prog w) A (call (.builtin "len") [ma]) (Gives s (.int vs.length)) E s := by
  obtain ⟨t, items, rfl, ht, hr⟩ := ra.isLst
  have hlen : items.size = vs.length := by have := hr.length; simpa using this
  exact len_list ht (by rw [hlen]; omega) (by rw [hlen]; exact gInt _ _ _)
theorem intI_ok {i : Int} (ra : Rep s.heap.get? ma (.int i)) : wpAny (model prog w) A (call (.type "int") [ma]) (Gives s (.int i)) E s := by
  obtain ⟨t, rfl⟩ := ra.isInt
  exact call_int_int (gInt0 _ _)
theorem intB_ok {b : Bool} (ra : Rep s.heap.get? ma (.bool b)) : wpAny (model prog w) A (call (.type "int") [ma]) (Gives s (.int (if b then 1 else 0))) E s := by
  obtain rfl := ra.isBool
  exact call_int_bool (gInt _ _ _)
theorem isi_ok {i : Int} (ra : Rep s.heap.get? ma (.int i)) : wpAny (model prog w) A (call (.builtin "isinstance") [ma, .type "int"]) (Gives s (.bool true)) E s := by
  obtain ⟨t, rfl⟩ := ra.isInt
  exact IsiPair.int_int (gBool _)
theorem divmod_ok {i j : Int} (h : divOk j = true) (ra : Rep s.heap.get? ma (.int i)) (rb : Rep s.heap.get? mb (.int j)) :
    wpAny (model prog w) A (call (.builtin "divmod") [ma, mb]) (Gives s (.tup [.int (i.fdiv j), .int (i.fmod j)])) E s := by
  obtain ⟨t, rfl⟩ := ra.isInt
  obtain ⟨u, rfl⟩ := rb.isInt
  exact divmod_int (divOk_ok (a := i) h).1 ⟨.tup (Heap.get?_push_size _ rfl) rfl rfl (.cons (.int _ _) (.cons (.int _ _) .nil)), kPush _ _⟩ (.inl (divOk_ok h).2)
theorem min_ok {i j : Int} (hh : A.handled = none) (ra : Rep s.heap.get? ma (.int i)) (rb : Rep s.heap.get? mb (.int j)) :
    wpAny (model prog w) A (call (.builtin "min") [ma, mb]) (Gives s (.int (if j < i then j else i))) E s := by
  obtain ⟨t, rfl⟩ := ra.isInt
  obtain ⟨u, rfl⟩ := rb.isInt
  refine min_two_ints hh fun h' tk hk => ?_
  split
  · exact ⟨.int _ _, h', tk, rfl, hk⟩
  · exact ⟨.int _ _, h', tk, rfl, hk⟩
theorem bits_ok {i : Int} {pl : Sem Bool} (ra : Rep s.heap.get? ma (.int i)) : wpAny (model prog w) A (getMethod ma (Str.ofString "bit_length") pl) (fun fx s₂ => fx = (.builtin "int.bit_length", [ma]) ∧ s₂ = s) E s := by
  obtain ⟨t, rfl⟩ := ra.isInt
  exact getMethod_int_bit_length ⟨rfl, rfl⟩
theorem callBits_ok {i : Int} (ra : Rep s.heap.get? ma (.int i)) : wpAny (model prog w) A (call (.builtin "int.bit_length") [ma]) (Gives s (.int (Builtin.Int.intBits i))) E s := by
  obtain ⟨t, rfl⟩ := ra.isInt
  exact call_int_bit_length (gInt _ _ _)

theorem bools_get {vs : List V} {bs : List Bool} (h : bools? vs = some bs) : ∀ {i : Nat} {x : V}, vs[i]? = some x → ∃ b, bs[i]? = some b ∧ x = .bool b := by
  induction vs generalizing bs with
  | nil => intro i x hx; simp at hx
  | cons y r ih =>
    intro i x hx
    cases y <;> simp only [bools?] at h <;> try (cases h; done)
    rename_i b
    obtain ⟨bs', h1, rfl⟩ := Option.map_eq_some_iff.mp h
    cases i with
    | zero => simp at hx; subst hx; exact ⟨b, rfl, rfl⟩
    | succ i => simpa using ih h1 (by simpa using hx)
theorem bools_len {vs : List V} {bs : List Bool} (h : bools? vs = some bs) : bs.length = vs.length := by
  induction vs generalizing bs with
  | nil => cases h; rfl
  | cons y r ih =>
    cases y <;> simp only [bools?] at h <;> try (cases h; done)
    obtain ⟨bs', h1, rfl⟩ := Option.map_eq_some_iff.mp h
    simp [ih h1]

theorem all_range_get (bs : List Bool) : (List.range bs.length).all (fun i => bs.getD i true) = bs.all id := by
  rw [Bool.eq_iff_iff]
  simp only [List.all_eq_true, List.mem_range, id]
  constructor
  · intro h b hb
    obtain ⟨i, hi, rfl⟩ := List.getElem_of_mem hb
    have := h i hi
    simpa [List.getD_eq_getElem?_getD, hi] using this
  · intro h i hi
    have := h bs[i] (List.getElem_mem hi)
    simpa [List.getD_eq_getElem?_getD, hi] using this

theorem all_ok {vs : List V} {bs : List Bool} (hh : A.handled = none) (h : bools? vs = some bs) (ra : Rep s.heap.get? ma (.lst vs)) : wpAny (model prog w) A (call (.builtin "all") [ma]) (Gives s (.bool (bs.all id))) E s := by
  obtain ⟨t, items, rfl, ht, hr⟩ := ra.isLst
  have hlen : items.size = bs.length := by have := hr.length; rw [bools_len h]; simpa using this
  obtain ⟨o, ho, _⟩ := id ht
  have hne : t ≠ s.heap.objs.size := Nat.ne_of_lt (Heap.lt_size ho)
  refine call_all_walk (wpAny_pyIter_list ht ⟨_, _, _, _, _, _, fun i => bs.getD i true, rfl, Walks.list (A := A.in1) hh s.heap.objs.size t hne items, ⟨⟨_, Heap.get?_push_size _ rfl, rfl, rfl⟩, ht.push _⟩, ?_, ?_⟩)
  · intro i v s' Q E' hv hQ
    have hv' : items.toList[i]? = some v := by simpa using hv
    obtain ⟨x, hx, hr'⟩ := hr.get' hv'
    obtain ⟨b, hb, rfl⟩ := bools_get h hx
    obtain rfl := hr'.isBool
    refine wpAny_truthy_bool ?_
    simpa [List.getD_eq_getElem?_getD, hb] using hQ
  · intro h' tk hk
    rw [hlen, all_range_get]
    refine ⟨.bool _, h', tk, rfl, fun b o e => hk b o ?_ (Heap.get?_push_of_some _ e)⟩
    intro hm
    rw [List.mem_singleton.mp hm] at e
    exact absurd (Heap.lt_size e) (Nat.lt_irrefl _)
end
end Mine

end
section -- M6
open PySem PySem.Calls PySem.W PyProof.Rows
set_option maxRecDepth 10000
namespace Mine

/-- what is iterated: items, and the iterator that has just been made -/
noncomputable def Src (prog : Program) (w : World) (s₀ : Shared) (lst : Bool) (items : List V) (it : Value) (s₂ : Shared) : Prop :=
  ∃ (I : Addr) (fp : List Addr) (P : Nat → Value → Prop) (St : Nat → Heap → Prop), it = .ref I ∧ (∀ A' : Around, A'.handled = none → Walks prog w A' I fp [I] items.length P St) ∧ St 0 s₂.heap ∧ Keeps s₀ s₂ ∧
    s₀.heap.get? I = none ∧ I < s₂.heap.objs.size ∧ (∀ b ∈ fp, b = I ∨ (lst = true ∧ ∃ o, s₀.heap.get? b = some o ∧ ∃ xs n, o.data = .seq xs n)) ∧ I ∈ fp ∧
    (∀ i h, St i h → ∃ o fs, h.get? I = some o ∧ o.data = .fields fs) ∧ (∀ i v, P i v → ∃ x, items[i]? = some x ∧ Rep s₀.heap.get? v x)

theorem Src.up {prog : Program} {w : World} {s₀ s₂ : Shared} {lst : Bool} {items : List V} {it : Value} (h : Src prog w s₀ lst items it s₂) : Src prog w s₀ true items it s₂ := by
  obtain ⟨I, fp, P, St, a, b, c, d, e, f, g, r⟩ := h
  exact ⟨I, fp, P, St, a, b, c, d, e, f, fun b hb => (g b hb).imp id fun h => ⟨rfl, h.2⟩, r⟩
theorem get_size (h : Heap) : h.get? h.objs.size = none := by
  cases e : h.get? h.objs.size with
  | none => rfl
  | some o => exact absurd (Heap.lt_size e) (Nat.lt_irrefl _)

section
variable {prog : Program} {w : World} {A : Around} {E : Value → Shared → Prop} {s : Shared} {ma : Value}

theorem src_list {vs : List V} (ra : Rep s.heap.get? ma (.lst vs)) : wpAny (model prog w) A (pyIter ma) (fun it s₂ => Src prog w s true vs it s₂) E s := by
  obtain ⟨t, items, rfl, ht, hr⟩ := ra.isLst
  have hlen : items.size = vs.length := by have := hr.length; simpa using this
  obtain ⟨o, ho, _, no, hdo⟩ := id ht
  have hne : t ≠ s.heap.objs.size := Nat.ne_of_lt (Heap.lt_size ho)
  refine wpAny_pyIter_list ht ⟨s.heap.objs.size, _, _, _, rfl, fun A' hh => hlen ▸ Walks.list (A := A') hh s.heap.objs.size t hne items, ⟨⟨_, Heap.get?_push_size _ rfl, rfl, rfl⟩, ht.push _⟩, kPush _ s.toks, get_size _, ?_, ?_, ?_, ?_, ?_⟩
  · show s.heap.objs.size < (s.heap.push _).objs.size; rw [Heap.size_push]; exact Nat.lt_succ_self _
  · intro b hb
    rcases List.mem_cons.mp hb with rfl | hb
    · exact .inl rfl
    · rw [List.mem_singleton.mp hb]; exact .inr ⟨rfl, o, ho, _, _, hdo⟩
  · exact List.mem_cons_self
  · rintro i h ⟨⟨o', ho', _, hd⟩, _⟩
    exact ⟨o', _, ho', hd⟩
  · intro i v hv
    have hv' : items.toList[i]? = some v := by simpa using hv
    exact hr.get' hv'

theorem src_str {x : PySem.Str} (hx : x.cps.all (fun c => decide (c < 128)) = true) (ra : Rep s.heap.get? ma (.str x)) :
    wpAny (model prog w) A (pyIter ma) (fun it s₂ => Src prog w s false (x.cps.toList.map fun c => .str ⟨#[c]⟩) it s₂) E s := by
  obtain ⟨t, rfl⟩ := ra.isStr
  refine wpAny_pyIter_ascii hx ⟨s.heap.objs.size, [s.heap.objs.size], SignAt x, fun i h => h.IsStrIter s.heap.objs.size "str_ascii_iterator" x t i, rfl, fun A' hh => ?_, ⟨_, Heap.get?_push_size _ rfl, rfl, rfl⟩, kPush _ s.toks, get_size _, ?_, ?_, ?_, ?_, ?_⟩
  · have := Walks.strAscii (prog := prog) (w := w) (A := A') hh s.heap.objs.size x t
    simpa using this
  · show s.heap.objs.size < (s.heap.push _).objs.size; rw [Heap.size_push]; exact Nat.lt_succ_self _
  · intro b hb; rw [List.mem_singleton.mp hb]; exact .inl rfl
  · exact List.mem_singleton_self _
  · rintro i h ⟨o', ho', _, hd⟩
    exact ⟨o', _, ho', hd⟩
  · rintro i v ⟨c, u, hc, rfl⟩
    exact ⟨.str ⟨#[c]⟩, by simpa using hc, .str _ _⟩

theorem rangeUp_get : ∀ (n : Nat) (lo : Int) (i : Nat), i < n → (rangeUp lo n)[i]? = some (.int (lo + i))
  | 0, _, _, h => absurd h (Nat.not_lt_zero _)
  | n + 1, lo, 0, _ => by simp [rangeUp]
  | n + 1, lo, i + 1, h => by
    have := rangeUp_get n (lo + 1) i (by omega)
    simp only [rangeUp, List.getElem?_cons_succ, this]
    congr 2
    push_cast; omega
theorem rangeDown_get : ∀ (n : Nat) (lo : Int) (i : Nat), i < n → (rangeDown lo n)[i]? = some (.int (lo - i))
  | 0, _, _, h => absurd h (Nat.not_lt_zero _)
  | n + 1, lo, 0, _ => by simp [rangeDown]
  | n + 1, lo, i + 1, h => by
    have := rangeDown_get n (lo - 1) i (by omega)
    simp only [rangeDown, List.getElem?_cons_succ, this]
    congr 2
    push_cast; omega
theorem rangeUp_len : ∀ (n : Nat) (lo : Int), (rangeUp lo n).length = n
  | 0, _ => rfl
  | n + 1, lo => by simp [rangeUp, rangeUp_len n]
theorem rangeDown_len : ∀ (n : Nat) (lo : Int), (rangeDown lo n).length = n
  | 0, _ => rfl
  | n + 1, lo => by simp [rangeDown, rangeDown_len n]

theorem src_rangeAt {r : Addr} {a b c : Int} {t u v : Tok} {n : Nat} {items : List V} (hr : IsRange s.heap r a b c t u v) (hsm : Builtin.Range.small a b c = true) (hn : Builtin.Range.rangeSize a b c = (n : Int)) (hl : items.length = n)
    (hi : ∀ i, i < n → items[i]? = some (.int (a + i * c))) : wpAny (model prog w) A (pyIter (.ref r)) (fun it s₂ => Src prog w s false items it s₂) E s := by
  refine wpAny_pyIter_range hr hsm ⟨s.heap.objs.size, [s.heap.objs.size], _, _, rfl, fun A' hh => hl ▸ (Walks.range (A := A') hh s.heap.objs.size a c n).bound, ?_, kPush _ s.toks, get_size _, ?_, ?_, ?_, ?_, ?_⟩
  · show Heap.get? _ _ = some _
    rw [hn]
    have e1 : a + ((0 : Nat) : Int) * c = a := by simp
    have e2 : (n : Int) - ((0 : Nat) : Int) = n := by simp
    rw [e1, hl, e2]
    exact Heap.get?_push_size _ rfl
  · show s.heap.objs.size < (s.heap.push _).objs.size; rw [Heap.size_push]; exact Nat.lt_succ_self _
  · intro b hb; rw [List.mem_singleton.mp hb]; exact .inl rfl
  · exact List.mem_singleton_self _
  · intro i h ho
    exact ⟨_, _, ho, rfl⟩
  · rintro i v ⟨h, t, rfl⟩
    exact ⟨_, hi i (hl ▸ h), .int _ _⟩

theorem smallR_ok {a b : Int} (h : smallR a b = true) : -1000000 ≤ a ∧ a ≤ 1000000 ∧ -1000000 ≤ b ∧ b ≤ 1000000 := by
  unfold smallR at h
  simp only [Bool.and_eq_true, decide_eq_true_eq] at h
  omega

theorem small_down {a b : Int} (h : smallR a b = true) : Builtin.Range.small a b (-1) = true ∧ Builtin.Range.rangeSize a b (-1) = ((a - b).toNat : Int) := by
  obtain ⟨h1, h2, h3, h4⟩ := smallR_ok h
  have e : Builtin.Range.rangeSize a b (-1) = ((a - b).toNat : Int) := by
    unfold Builtin.Range.rangeSize
    rw [if_neg (by decide)]
    split
    · rw [show (- -1 : Int) = 1 by decide, Int.ediv_one]; omega
    · omega
  refine ⟨?_, e⟩
  unfold Builtin.Range.small
  rw [e]
  simp only [Builtin.Range.rangeFitsLong, Bool.and_eq_true, Bool.or_eq_true, decide_eq_true_eq, beq_iff_eq]
  refine ⟨⟨⟨⟨?_, ?_⟩, ?_⟩, ?_⟩, ?_⟩ <;> first | omega | (right; rw [if_neg (by decide)]; simp only [Bool.and_eq_true, decide_eq_true_eq]; omega)

/-- range(..), then iter of it -/
theorem src_range {margs : List Value} {args items : List V} (h : rangeOf args = some items) (ra : RepL s.heap.get? margs args) :
    wpAny (model prog w) A (call (.type "range") margs) (fun rv s₁ => Keeps s s₁ ∧ wpAny (model prog w) A (pyIter rv) (fun it s₂ => Src prog w s₁ false items it s₂) E s₁) E s := by
  unfold rangeOf at h
  split at h
  · rename_i n
    split at h
    · rename_i hs; cases h
      cases ra with | cons ra r0 =>
      cases r0
      obtain ⟨t, rfl⟩ := ra.isInt
      obtain ⟨_, _, h3, h4⟩ := smallR_ok hs
      refine call_range_1 ⟨kPush _ _, src_rangeAt (n := n.toNat) (IsRange.new ..) (small_one (by omega) (by omega) (by omega) (by omega)) (by rw [rangeSize_one]; split <;> omega) (rangeUp_len _ _) fun i hi => ?_⟩
      rw [rangeUp_get _ _ _ hi]; simp
    · cases h
  · rename_i a b
    split at h
    · rename_i hs; cases h
      cases ra with | cons ra r0 =>
      cases r0 with | cons rb r0 =>
      cases r0
      obtain ⟨t, rfl⟩ := ra.isInt
      obtain ⟨u, rfl⟩ := rb.isInt
      obtain ⟨_, _, h3, h4⟩ := smallR_ok hs
      refine call_range_2 ⟨kPush _ _, src_rangeAt (n := (b - a).toNat) (IsRange.new ..) (small_one (by omega) (by omega) (by omega) (by omega)) (by rw [rangeSize_one]; split <;> omega) (rangeUp_len _ _) fun i hi => ?_⟩
      rw [rangeUp_get _ _ _ hi]; simp
    · cases h
  · rename_i a b c
    split at h
    · rename_i hs; cases h
      simp only [Bool.and_eq_true, beq_iff_eq] at hs
      obtain ⟨rfl, hs⟩ := hs
      cases ra with | cons ra r0 =>
      cases r0 with | cons rb r0 =>
      cases r0 with | cons rc r0 =>
      cases r0
      obtain ⟨t, rfl⟩ := ra.isInt
      obtain ⟨u, rfl⟩ := rb.isInt
      obtain ⟨v, rfl⟩ := rc.isInt
      obtain ⟨_, _, h3, h4⟩ := smallR_ok hs
      refine call_range_3 (by decide) ⟨kPush _ _, src_rangeAt (n := (a - b).toNat) (IsRange.new ..) (small_down hs).1 (small_down hs).2 (rangeDown_len _ _) fun i hi => ?_⟩ (.inl (PyProof.noPylong_of_log2 (by decide +kernel)))
      rw [rangeDown_get _ _ _ hi]; congr 2; omega
    · cases h
  · cases h
end
end Mine

end
section -- M7
open PySem PySem.Calls PySem.W PyProof.Rows
set_option maxRecDepth 10000
namespace Mine

theorem flats_get : ∀ {vs : List V} {i : Nat} {v : V}, flats vs = true → vs[i]? = some v → flat v = true
  | [], _, _, _, h => by simp at h
  | x :: r, 0, v, hf, h => by
    simp only [flats, Bool.and_eq_true] at hf
    simp at h; subst h; exact hf.1
  | x :: r, i + 1, v, hf, h => by
    simp only [flats, Bool.and_eq_true] at hf
    exact flats_get hf.2 (by simpa using h)

section
variable {prog : Program} {w : World} {A : Around} {R : Result → Shared → Prop} {s : Shared}

theorem compLoop_rep {elt iter : Expr} {x : PySem.Str} {px : Pos} {scope : Scope} {pos : Pos} {I D : Addr} {fp : List Addr} {P : Nat → Value → Prop} {St : Nat → Heap → Prop} {cenv : Env} {m : PySem.Str → Option Value}
    {base : Heap} {items outs : List V} (W : Walks prog w A I fp [I] items.length P St)
    (hI : ∀ i h, St i h → ∀ o, h.get? I = some o → ∀ xs n, o.data ≠ .seq xs n)
    (hx : cenv.kindOf x = some .local) (hp : (cenv.scope.kind == .class || (cenv.scope.kind == .module && cenv.locals != cenv.globals)) = false)
    (hDC : D ≠ cenv.locals) (hDI : D ≠ I) (hCI : cenv.locals ≠ I) (hDf : D ∉ fp) (hCf : cenv.locals ∉ fp)
    (hbI : base.get? I = none) (hbD : base.get? D = none) (hbC : base.get? cenv.locals = none)
    (hst : St 0 s.heap) (hacc : s.heap.PlainList D #[]) (hn : s.heap.Ns cenv.locals m) (hbase : ∀ b o, base.get? b = some o → s.heap.get? b = some o)
    (hlen : outs.length = items.length) (hsz : items.length ≤ sizeLine) (hflat : flats outs = true)
    (helt : ∀ (i : Nat) (v : Value) (s₂ : Shared) (m₂ : PySem.Str → Option Value) (y : V), outs[i]? = some y → P i v → s₂.heap.Ns cenv.locals m₂ → m₂ x = some v → (∀ b o, base.get? b = some o → s₂.heap.get? b = some o) → wpAny (model prog w) A (eval elt cenv) (Gives s₂ y) Fal s₂)
    (hR : ∀ h' tk m' ys, h'.Ns cenv.locals m' → h'.PlainList D ys → RepL h'.get? ys.toList outs → (∀ b o, base.get? b = some o → h'.get? b = some o) → R (.ok .next) { s with heap := h', toks := tk }) :
    codeAny (model prog w) A (.compLoop (.ListComp elt [⟨.Name x px, iter, [], 0⟩] scope pos) 0 (.ref I) (.ref D) cenv) R s := by
  refine codeAny_compLoop_tests
    (fun k s' => ∃ h' tk m' ys i, s' = { s with heap := h', toks := tk } ∧ St i h' ∧ h'.PlainList D ys ∧ h'.Ns cenv.locals m' ∧ RepL (minus h'.get? D) ys.toList (outs.take i) ∧ i ≤ items.length ∧ k = items.length + 1 - i ∧
      (∀ b o, base.get? b = some o → h'.get? b = some o)) ?_ (items.length + 1)
    ⟨s.heap, s.toks, m, #[], 0, rfl, hst, hacc, hn, by simpa using RepL.nil, Nat.zero_le _, rfl, hbase⟩
  rintro k s' ⟨H, tk, m', ys, i, rfl, hst', hacc', hn', hF, hi, rfl, hk⟩
  by_cases hlt : i < items.length
  · refine W.item i _ _ _ hlt hst' fun v h₁ tk₁ hPv hst₁ hk₁ => ?_
    have hk₁' : ∀ b o, b ≠ I → H.get? b = some o → h₁.get? b = some o := fun b o hb e => hk₁ b o (by simpa using hb) e
    refine wpAny_assign_Name (wpAny_storeName_local hx (hn'.at' fun o e => hk₁' _ o hCI e) (fun h₂ hn₂ hs₂ => ?_) hp)
    have up₂ : ∀ b o, b ≠ cenv.locals → b ≠ I → H.get? b = some o → h₂.get? b = some o := fun b o hbC hbI e => hs₂.extBut b o hbC (hk₁' b o hbI e)
    have hst₂ : St (i + 1) h₂ := W.frame _ _ _ hst₁ fun b hb o e => hs₂.extBut b o (fun h => hCf (h ▸ hb)) e
    have hbase₂ : ∀ b o, base.get? b = some o → h₂.get? b = some o := fun b o e => up₂ b o (by rintro rfl; rw [hbC] at e; cases e) (by rintro rfl; rw [hbI] at e; cases e) (hk b o e)
    refine wpAny_tests_nil ?_
    simp only [if_true]
    obtain ⟨y, hy⟩ : ∃ y, outs[i]? = some y := ⟨outs[i]'(by omega), by simp⟩
    refine wpF (helt i v _ _ y hy hPv hn₂ (by simp) hbase₂) (fun mv s₄ h₄ => ?_)
    obtain ⟨hr, h₄, tk₄, rfl, hk₄⟩ := h₄
    have hys : ys.size ≤ sizeLine := by
      have e1 := hF.length
      simp only [Array.length_toList, List.length_take] at e1
      omega
    have hacc₄ : h₄.PlainList D ys := hacc'.at fun o e => hk₄ _ o (up₂ D o hDC hDI e)
    refine wpAny_list_append_plain (hsz := hys) hacc₄ fun h₅ hl₅ hs₅ => ?_
    refine ⟨items.length + 1 - (i + 1), by omega, h₅, tk₄, _, ys.push mv, i + 1, rfl, ?_, hl₅, (hn₂.keeps hk₄).sameBut hs₅ (Ne.symm hDC), ?_, hlt, rfl, fun b o e => hs₅.extBut b o (by rintro rfl; rw [hbD] at e; cases e) (hk₄ b o (hbase₂ b o e))⟩
    · exact W.frame _ _ h₅ hst₂ fun b hb o e => hs₅.extBut b o (fun h => hDf (h ▸ hb)) (hk₄ b o e)
    · rw [List.take_add_one, hy]
      have e2 : (ys.push mv).toList = ys.toList ++ [mv] := by simp
      rw [e2]
      obtain ⟨nD, hD₄⟩ := hacc₄
      refine RepL.append (hF.mono fun b o e hseq => ?_) (.one ((hr.avoid (a := D) hD₄ rfl (flats_get hflat hy)).mono fun b o e _ => ?_))
      · unfold minus at e ⊢
        split at e
        · cases e
        · rename_i hbD'
          rw [if_neg hbD']
          refine hs₅.extBut b o hbD' (hk₄ b o (up₂ b o ?_ ?_ e))
          · rintro rfl
            obtain ⟨o', es, ep, ho', hd', _⟩ := hn'
            rw [ho'] at e; cases e
            obtain ⟨xs, n, hd⟩ := hseq
            rw [hd'] at hd; cases hd
          · rintro rfl
            obtain ⟨xs, n, hd⟩ := hseq
            exact hI _ _ hst' _ e xs n hd
      · unfold minus at e ⊢
        split at e
        · cases e
        · rename_i hbD'
          rw [if_neg hbD']
          exact hs₅.extBut b o hbD' e
  · have hin : i = items.length := by omega
    subst hin
    refine W.done _ _ _ hst' fun h₁ tk₁ hk₁ => ?_
    have hk₁' : ∀ b o, b ≠ I → H.get? b = some o → h₁.get? b = some o := fun b o hb e => hk₁ b o (by simpa using hb) e
    rw [List.take_of_length_le (by omega)] at hF
    refine hR h₁ tk₁ m' ys (hn'.at' fun o e => hk₁' _ o hCI e) (hacc'.at fun o e => hk₁' _ o hDI e) (hF.mono fun b o e hseq => ?_) fun b o e => hk₁' b o (by rintro rfl; rw [hbI] at e; cases e) (hk b o e)
    unfold minus at e
    split at e
    · cases e
    · refine hk₁' b o ?_ e
      rintro rfl
      obtain ⟨xs, n, hd⟩ := hseq
      exact hI _ _ hst' _ e xs n hd
end

section
variable {prog : Program} {w : World} {A : Around} {E : Value → Shared → Prop} {env : Env}

theorem comp_block {elt iter : Expr} {x : PySem.Str} {px : Pos} {scope : Scope} {cl : List (PySem.Str × Addr)} {pos : Pos} {s₁ s₂ : Shared} {it : Value} {items outs : List V} {RR : Value → Addr → Result → Shared → Prop}
    (hh : A.handled = none) (hsrc : Src prog w s₁ true items it s₂) (hlen : outs.length = items.length) (hsz : items.length ≤ sizeLine) (hflat : flats outs = true)
    (hcell : ∀ y ∈ scope.names, y.2 ≠ .cell) (hkind : scope.kind = .function) (hx : scope.names.lookup x = some .local)
    (helt : ∀ (C : Addr) (i : Nat) (v : Value) (s₃ : Shared) (m₃ : PySem.Str → Option Value) (y z : V), items[i]? = some z → outs[i]? = some y → Rep s₁.heap.get? v z → s₁.heap.get? C = none → s₃.heap.Ns C m₃ → m₃ x = some v → (∀ b o, s₁.heap.get? b = some o → s₃.heap.get? b = some o) →
      wpAny (model prog w) A (eval elt (compEnvC scope cl C env)) (Gives s₃ y) Fal s₃)
    (hRR : ∀ D C h' tk m' ys, s₁.heap.get? D = none → s₁.heap.get? C = none → D ≠ C → h'.Ns C m' → h'.PlainList D ys → RepL h'.get? ys.toList outs → (∀ b o, s₁.heap.get? b = some o → h'.get? b = some o) →
      RR (.ref D) C (.ok .next) { s₂ with heap := h', toks := tk }) :
    wpAny (model prog w) A (newList []) (fun acc s₃ => wpAny (model prog w) A (newFunctionEnv scope env.globals cl [] env.qual none .none (some env)) (fun cenv s₄ =>
      codeAny (model prog w) A (.compStart (.ListComp elt [⟨.Name x px, iter, [], 0⟩] scope pos) 0 it acc { cenv with scope := relabel scope env }) (RR acc cenv.locals) s₄) E s₃) E s₂ := by
  obtain ⟨I, fp, P, St, rfl, hW, hst, hk12, hI1, hIlt, hfp, hIfp, hIs, hP⟩ := hsrc
  have W := hW A hh
  have hIs' : ∀ i h, St i h → ∀ o, h.get? I = some o → ∀ xs n, o.data ≠ .seq xs n := fun i h st o e xs n hx => by
    obtain ⟨o', fs, h1, h2⟩ := hIs i h st
    rw [h1] at e; cases e; rw [h2] at hx; cases hx
  refine wpAny_newObj_type (wpAny_newFunctionEnv hcell (by intro y hy; simp at hy) (fun h₁ hns₁ hsb₁ => ?_) hkind)
  dsimp only at hns₁ hsb₁ ⊢
  generalize hH2 : s₂.heap.push { cls := .type "list", dict := none, data := .seq ([] : List Value).toArray } = H2 at hns₁ hsb₁ ⊢
  have hC : H2.objs.size = s₂.heap.objs.size + 1 := by rw [← hH2, Heap.size_push]
  have hDC : s₂.heap.objs.size ≠ H2.objs.size := by rw [hC]; exact Nat.ne_of_lt (Nat.lt_succ_self _)
  have hfpl : ∀ b ∈ fp, b < s₂.heap.objs.size := fun b hb => by
    rcases hfp b hb with rfl | ⟨_, o, ho, _⟩
    · exact hIlt
    · exact Heap.lt_size (kHeap hk12 b o ho)
  have below : ∀ b, b < s₂.heap.objs.size → b ≠ H2.objs.size ∧ b ≠ s₂.heap.objs.size := fun b hb => ⟨by rw [hC]; exact Nat.ne_of_lt (Nat.lt_succ_of_lt hb), Nat.ne_of_lt hb⟩
  have hDf : s₂.heap.objs.size ∉ fp := fun hm => Nat.lt_irrefl _ (hfpl _ hm)
  have hCf : H2.objs.size ∉ fp := fun hm => by have := hfpl _ hm; rw [hC] at this; exact Nat.lt_irrefl _ (Nat.lt_of_succ_lt this)
  have old : ∀ b o, s₂.heap.get? b = some o → h₁.get? b = some o := fun b o e => hsb₁.extBut b o (below b (Heap.lt_size e)).1 (Heap.get?_push_of_some _ (hH2 ▸ Heap.get?_push_of_some _ e))
  have hacc : h₁.PlainList s₂.heap.objs.size #[] := ⟨_, hsb₁.extBut _ _ hDC (Heap.get?_push_of_some _ (hH2 ▸ Heap.get?_push_size _ rfl))⟩
  have hst₁ : St 0 h₁ := W.frame _ _ _ hst fun b _ o e => old b o e
  have fresh1 : ∀ a, s₂.heap.objs.size ≤ a → s₁.heap.get? a = none := fun a ha => by
    cases e : s₁.heap.get? a with
    | none => rfl
    | some o' => exact absurd (Heap.lt_size (kHeap hk12 _ _ e)) (Nat.not_lt.mpr ha)
  have hCs : s₁.heap.get? H2.objs.size = none := fresh1 _ (by rw [hC]; exact Nat.le_succ _)
  have loop : ∀ s₃ : Shared, s₃ = { s₂ with heap := h₁, toks := s₂.toks + ([] : List (PySem.Str × Value)).length } →
      codeAny (model prog w) A (.compLoop (.ListComp elt [⟨.Name x px, iter, [], 0⟩] scope pos) 0 (.ref I) (.ref s₂.heap.objs.size) (compEnvC scope cl H2.objs.size env))
        (RR (.ref s₂.heap.objs.size) H2.objs.size) s₃ := by
    rintro s₃ rfl
    refine compLoop_rep (base := s₁.heap) (cenv := compEnvC scope cl H2.objs.size env) (outs := outs) W hIs' (lookup_relabel_local hx) (by simp [compEnvC, relabel, hkind]) hDC (Ne.symm (below I hIlt).2) (Ne.symm (below I hIlt).1) hDf hCf hI1 (fresh1 _ (Nat.le_refl _)) hCs
      hst₁ hacc hns₁ (fun b o e => old b o (kHeap hk12 b o e)) hlen hsz hflat (fun i v s₃ m₃ y hy hPv hn hm hk => ?_) fun h' tk m' ys hn hpl hr hk => ?_
    · obtain ⟨z, hz, hrz⟩ := hP i v hPv
      exact helt _ i v s₃ m₃ y z hz hy hrz hCs hn hm hk
    · exact hRR _ _ h' tk m' ys (fresh1 _ (Nat.le_refl _)) hCs hDC hn hpl hr hk
  exact codeAny_compStart_list (loop _ rfl) (W.self 0 _ _ _ hst₁ (loop _ rfl))

theorem RepL.sameBut_ns {h h' : Heap} {C : Addr} {m : PySem.Str → Option Value} {ms : List Value} {vs : List V} (r : RepL h.get? ms vs) (hn : h.Ns C m) (hs : Heap.SameBut C h h') : RepL h'.get? ms vs := by
  refine r.mono fun b o e hseq => hs.extBut b o ?_ e
  rintro rfl
  obtain ⟨o', es, ep, ho', hd', _⟩ := hn
  rw [ho'] at e; cases e
  obtain ⟨xs, n, hd⟩ := hseq
  rw [hd'] at hd; cases hd
theorem Rep.sameBut_ns {h h' : Heap} {C : Addr} {m : PySem.Str → Option Value} {mv : Value} {v : V} (r : Rep h.get? mv v) (hn : h.Ns C m) (hs : Heap.SameBut C h h') : Rep h'.get? mv v := by
  refine r.mono fun b o e hseq => hs.extBut b o ?_ e
  rintro rfl
  obtain ⟨o', es, ep, ho', hd', _⟩ := hn
  rw [ho'] at e; cases e
  obtain ⟨xs, n, hd⟩ := hseq
  rw [hd'] at hd; cases hd

theorem comp_eval {s : Shared} {elt iter : Expr} {x : PySem.Str} {px : Pos} {scope : Scope} {cl : List (PySem.Str × Addr)} {pos : Pos} {items outs : List V}
    (hh : A.handled = none) (hlen : outs.length = items.length) (hsz : items.length ≤ sizeLine) (hflat : flats outs = true)
    (hclos : closureFor scope env = pure cl) (hcell : ∀ y ∈ scope.names, y.2 ≠ .cell) (hkind : scope.kind = .function)
    (hnames : ∀ y ∈ scope.names, y.2 = .local → scope.names.lookup y.1 = some .local) (hx : scope.names.lookup x = some .local)
    (hs : ∀ x, foldedSetIterable iter env x = pure x)
    (hsrc : wpAny (model prog w) A (eval iter env) (fun xv s₁ => Keeps s s₁ ∧ wpAny (model prog w) A (pyIter xv) (fun it s₂ => Src prog w s₁ true items it s₂) Fal s₁) Fal s)
    (helt : ∀ (s₁ : Shared) (C : Addr) (i : Nat) (v : Value) (s₃ : Shared) (m₃ : PySem.Str → Option Value) (y z : V), Keeps s s₁ → items[i]? = some z → outs[i]? = some y → Rep s₁.heap.get? v z → s₁.heap.get? C = none → s₃.heap.Ns C m₃ → m₃ x = some v → (∀ b o, s₁.heap.get? b = some o → s₃.heap.get? b = some o) →
      wpAny (model prog w) A (eval elt (compEnvC scope cl C env)) (Gives s₃ y) Fal s₃) :
    wpAny (model prog w) A (eval (.ListComp elt [⟨.Name x px, iter, [], 0⟩] scope pos) env) (fun mv s' => Gives s (.lst outs) mv s' ∧ New s mv s') Fal s := by
  rw [eval_ListComp]
  refine wpAny_comprehension_free (use := none) rfl hs hclos hkind hnames (wpAny_mono hsrc (fun xv s₁ h₁ => wpAny_mono h₁.2 (fun it s₂ h₂ => ?_) fun _ _ e => e) fun _ _ e => e)
  refine comp_block (RR := fun acc C => compPost (model prog w) A Fal none (fun mv s' => Gives s (.lst outs) mv s' ∧ New s mv s') acc C) hh h₂ hlen hsz hflat hcell hkind hx (fun C i v s₃ m₃ y z => helt s₁ C i v s₃ m₃ y z h₁.1) ?_
  intro D C h' tk m' ys hD hC hDC hn hpl hr hk
  refine ⟨m', hn, fun h'' hs'' => ⟨⟨repLst ((hpl.extBut hs''.extBut hDC).isList) (hr.sameBut_ns hn hs''), ?_⟩, ⟨D, _, rfl, ?_, (hpl.extBut hs''.extBut hDC).choose_spec, rfl, rfl⟩⟩⟩
  · obtain ⟨I, fp, P, St, rfl, hW, hst, hk12, _⟩ := h₂
    obtain ⟨h1, tk1, rfl, hk1⟩ := h₁.1
    obtain ⟨h2, tk2, rfl, hk2⟩ := hk12
    exact ⟨h'', tk, rfl, fun b o e => hs''.extBut b o (by rintro rfl; rw [hk1 _ _ e] at hC; cases hC) (hk b o (hk1 b o e))⟩
  · cases e : s.heap.get? D with
    | none => rfl
    | some o => rw [kHeap h₁.1 _ _ e] at hD; cases hD
end
end Mine

end
section -- M8
open PySem PySem.Calls PySem.W PyProof.Rows
set_option maxRecDepth 10000
namespace Mine

noncomputable def plainE : Expr → Bool
  | .Starred .. => false
  | .Slice .. => false
  | .Set .. => false
  | .Call (.Name ..) [] [] _ => false
  | _ => true
noncomputable def notComp : Expr → Bool
  | .ListComp .. => false
  | .SetComp .. => false
  | .DictComp .. => false
  | _ => true
noncomputable def testPlain : Expr → Bool
  | .UnaryOp .Not _ _ => false
  | .BoolOp .. => false
  | .IfExp .. => false
  | .Compare .. => false
  | _ => true

abbrev Kd := PySem.Str → Option NameKind
noncomputable def relab (kd : Kd) (names : List (PySem.Str × NameKind)) : List (PySem.Str × NameKind) := names.map fun (n, k) => if (k == .free && kd n == some .cell) = true then (n, .cell) else (n, k)
noncomputable def kdIn (kd : Kd) (sc : Scope) : Kd := fun x => (relab kd sc.names).lookup x
noncomputable def gname (kd : Kd) (want id : PySem.Str) : Bool := id == want && kd id == some .globalImplicit && id != ("__debug__" : PySem.Str)

noncomputable def compOk (nm : List PySem.Str) (kd : Kd) (x : PySem.Str) (sc : Scope) : Bool :=
  sc.kind == .function && sc.names.all (fun y => y.2 != .cell) && sc.names.all (fun y => y.2 != .local || sc.names.lookup y.1 == some .local) && sc.names.lookup x == some .local &&
  nm.all (fun y => y == x || kdIn kd sc y != some .local) && sc.names.all (fun y => y.2 != .free || kd y.1 == some .cell || kd y.1 == some .free)

/-- the tables -/
structure Tb where
  gt : GT
  sh : List (PySem.Str × V)
  fnm : List PySem.Str
  nm : List PySem.Str

section
variable (T : Tb)
mutual
noncomputable def chk (x : X) (kd : Kd) (e : Expr) : Bool :=
  match x with
  | .none => match e with
    | .Constant .none _ _ => true
    | _ => false
  | .bool b => match e with
    | .Constant (.bool c) _ _ => b == c
    | _ => false
  | .int i => match e with
    | .Constant (.int j) _ _ => i == j
    | _ => false
  | .str s => match e with
    | .Constant (.str t) _ _ => s == t
    | _ => false
  | .var i => match e with
    | .Name id _ => T.nm[i]? == some id && (kd id == some .local || kd id == some .cell || kd id == some .free) && id != ("__debug__" : PySem.Str) && id != ("__classdict__" : PySem.Str)
    | _ => false
  | .glo i => match e with
    | .Name id _ => (T.gt[i]?).map (·.1) == some id && kd id == some .globalImplicit && id != ("__debug__" : PySem.Str)
    | _ => false
  | .bin op l r => match e with
    | .BinOp l' op' r' _ => op == op' && chk l kd l' && chk r kd r'
    | _ => false
  | .neg x => match e with
    | .UnaryOp .USub x' _ => chk x kd x'
    | _ => false
  | .not x => match e with
    | .UnaryOp .Not x' _ => chk x kd x'
    | _ => false
  | .one x => match e with
    | .BoolOp _ [x'] _ => chk x kd x'
    | _ => false
  | .and l r => match e with
    | .BoolOp .And (l' :: r' :: rs) p => chk l kd l' && chk r kd (.BoolOp .And (r' :: rs) p)
    | _ => false
  | .or l r => match e with
    | .BoolOp .Or (l' :: r' :: rs) p => chk l kd l' && chk r kd (.BoolOp .Or (r' :: rs) p)
    | _ => false
  | .cmp op l r => match e with
    | .Compare l' [op'] [r'] _ => op == op' && chk l kd l' && chk r kd r' && plainE r'
    | _ => false
  | .ite c a b => match e with
    | .IfExp c' a' b' _ => chk c kd c' && chk a kd a' && chk b kd b'
    | _ => false
  | .tup xs => match e with
    | .Tuple es _ _ => chkL xs kd es && decide (es.length ≤ 1000)
    | _ => false
  | .lst xs => match e with
    | .List es _ => chkL xs kd es && decide (es.length ≤ 1000)
    | _ => false
  | .rept x n => match e with
    | .BinOp (.List [x'] _) .Mult n' _ => chk x kd x' && plainE x' && chk n kd n'
    | _ => false
  | .idx x i => match e with
    | .Subscript x' i' _ => chk x kd x' && chk i kd i' && plainE i'
    | _ => false
  | .upto x n => match e with
    | .Subscript x' (.Slice none (some n') none _) _ => chk x kd x' && chk n kd n'
    | _ => false
  | .shift r => match e with
    | .Subscript (.Name id _) r' _ => gname kd "shifts_down" id && chk r kd r' && plainE r'
    | _ => false
  | .call f xs => match e with
    | .Call (.Name id _) (a :: as) [] _ => (match T.fnm[f]? with | some n => gname kd n id | none => false) && chkL xs kd (a :: as)
    | _ => false
  | .len x => match e with
    | .Call (.Name id _) [x'] [] _ => gname kd "len" id && chk x kd x' && plainE x'
    | _ => false
  | .toint x => match e with
    | .Call (.Name id _) [x'] [] _ => gname kd "int" id && chk x kd x' && plainE x'
    | _ => false
  | .isint x => match e with
    | .Call (.Name id _) [x', .Name id' _] [] _ => gname kd "isinstance" id && gname kd "int" id' && chk x kd x' && plainE x'
    | _ => false
  | .divmod a b => match e with
    | .Call (.Name id _) [a', b'] [] _ => gname kd "divmod" id && chk a kd a' && plainE a' && chk b kd b' && plainE b'
    | _ => false
  | .min a b => match e with
    | .Call (.Name id _) [a', b'] [] _ => gname kd "min" id && chk a kd a' && plainE a' && chk b kd b' && plainE b'
    | _ => false
  | .all x => match e with
    | .Call (.Name id _) [x'] [] _ => gname kd "all" id && chk x kd x' && plainE x'
    | _ => false
  | .bits x => match e with
    | .Call (.Attribute x' at' ap) [] [] p => at' == ("bit_length" : PySem.Str) && ap.endLine == p.line && chk x kd x' && plainE x'
    | _ => false
  | .comp elt i it => match e with
    | .ListComp elt' [⟨.Name x _, it', [], 0⟩] sc _ => T.nm[i]? == some x && compOk T.nm kd x sc && chk it kd it' && plainE it' && chk elt (kdIn kd sc) elt'
    | _ => false
  | .compR elt i xs => match e with
    | .ListComp elt' [⟨.Name x _, .Call (.Name id _) (a :: as) [] _, [], 0⟩] sc _ => T.nm[i]? == some x && compOk T.nm kd x sc && gname kd "range" id && chkL xs kd (a :: as) && chk elt (kdIn kd sc) elt'
    | _ => false
noncomputable def chkL (xs : List X) (kd : Kd) (es : List Expr) : Bool :=
  match xs with
  | [] => match es with
    | [] => true
    | _ => false
  | x :: xs => match es with
    | [] => false
    | e :: es => plainE e && chk x kd e && chkL xs kd es
end
end

section
variable {env : Env} {M : Model} {A : Around} {E : Value → Shared → Prop} {s : Shared}
theorem star_plain {e : Expr} (h : plainE e = true) (rest : List Expr) : starEach (e :: rest) env = (false, eval e env) :: starEach rest env := by
  cases e <;> first | rfl | (cases h; done)
theorem sub_plain {e : Expr} (h : plainE e = true) (o i : Value) : subscripted e false o i = operate [o, i] (getItem o i) := by
  cases e <;> first | rfl | (cases h; done)
theorem fold_plain {e : Expr} (h : plainE e = true) (x : Value) : foldedSetIterable e env x = pure x := by
  cases e <;> first | rfl | (cases h; done)
theorem marks_plain {e : Expr} {op : CmpOp} (h : plainE e = true) : behindInMarks op e = false := by
  cases e <;> first | rfl | (cases h; done)
theorem test_plain {e : Expr} {whole : Sem Value} (h : testPlain e = true) : isTrue e env whole = (do let v ← whole; standAt e.pos; holding [v] (truthy v)) := by
  cases e with
  | UnaryOp op x pos => cases op <;> first | rfl | (cases h; done)
  | BoolOp => cases h
  | IfExp => cases h
  | Compare => cases h
  | _ => rfl
theorem base_plain {e : Expr} {name : PySem.Str} (h : plainE e = true) (whole : Sem Value) : attributeBase e name env whole = whole := by
  cases e with
  | Call f args kws pos =>
    cases f with
    | Name id p =>
      cases args with
      | nil =>
        cases kws with
        | nil => cases h
        | cons => rfl
      | cons => rfl
    | _ => rfl
  | _ => rfl
theorem call_plainE {f : Expr} {args : List Expr} {pos : Pos} {id : PySem.Str} {p : Pos} (hf : f = .Name id p) : eval (.Call f args [] pos) env = (do callWith pos (← eval f env) [] (backTo pos (starEach args env)) (backToKw pos (keywordEach [] env))) := by
  subst hf; rfl
end
end Mine

end
section -- M9
open PySem PySem.Calls PySem.W PyProof.Rows
set_option maxRecDepth 10000
namespace Mine

structure Sys (W : Wd) (T : Tb) (fad : List Addr) (cs : Nat → List V → Option V) (k : Nat) : Prop where
  gt : ∀ (i : Nat) (x : PySem.Str) (v : V), T.gt[i]? = some (x, v) → ∃ mv, nsIn W.K mainGlobals x = some (some mv) ∧ ∀ h : Heap, W.OK h → Rep h.get? mv v
  sh : ∃ a es n, nsIn W.K mainGlobals "shifts_down" = some (some (.ref a)) ∧ W.K.lookup a = some ⟨.type "dict", none, .dict es n, #[]⟩ ∧ KeysLit W.w.params es.toList ∧
    ∀ (x : PySem.Str) (v : V), T.sh.lookup x = some v → ∃ mv, nsIn W.K a x = some (some mv) ∧ ∀ h : Heap, W.OK h → Rep h.get? mv v
  fn : ∀ (f : Nat) (x : PySem.Str), T.fnm[f]? = some x → ∃ a o fd, fad[f]? = some a ∧ nsIn W.K mainGlobals x = some (some (.ref a)) ∧ W.K.lookup a = some o ∧ o.data = .func fd
  blt : ∀ x ∈ (["len", "int", "isinstance", "divmod", "min", "all", "range"] : List PySem.Str), nsIn W.K mainGlobals x = some none
  cs : ∀ f args r, cs f args = some r → FnOk W fad k f args r
  nd : T.nm.Nodup

noncomputable def Post (x : X) (s : Shared) (v : V) (mv : Value) (s' : Shared) : Prop := Gives s v mv s' ∧ (fresh x = true → New s mv s')

section
variable (W : Wd) (T : Tb) (fad : List Addr) (cs : Nat → List V → Option V) (k : Nat)

noncomputable def PE (x : X) : Prop := ∀ (kd : Kd) (e : Expr) (σ : List V) (v : V), chk T x kd e = true → ev T.gt T.sh cs x σ = some v →
  ∀ (env : Env) (m : PySem.Str → Option Value) (s : Shared) (A : Around), EnvOK env kd → Room A k → SO W T.nm env m σ s → wpAny W.M A (eval e env) (Post x s v) Fal s
noncomputable def PT (x : X) : Prop := ∀ (kd : Kd) (e : Expr) (σ : List V) (v : V) (b : Bool), chk T x kd e = true → ev T.gt T.sh cs x σ = some v → truthyV v = some b →
  ∀ (env : Env) (m : PySem.Str → Option Value) (s : Shared) (A : Around), EnvOK env kd → Room A k → SO W T.nm env m σ s → wpAny W.M A (isTrue e env (eval e env)) (fun c s' => c = b ∧ Keeps s s') Fal s
noncomputable def PL (xs : List X) : Prop := ∀ (kd : Kd) (es : List Expr) (σ : List V) (vs : List V), chkL T xs kd es = true → evs T.gt T.sh cs xs σ = some vs →
  ∀ (env : Env) (m : PySem.Str → Option Value) (s : Shared) (A : Around) (pos : Pos), EnvOK env kd → Room A k → SO W T.nm env m σ s →
    wpAny W.M A (spliced (backTo pos (starEach es env))) (fun ms s' => RepL s'.heap.get? ms vs ∧ Keeps s s') Fal s
/-- both -/
noncomputable def PB (x : X) : Prop := PE W T cs k x ∧ PT W T cs k x
end

section
variable {W : Wd} {T : Tb} {fad : List Addr} {cs : Nat → List V → Option V} {k : Nat} {kd : Kd} {env : Env} {M : Model} {A : Around} {E : Value → Shared → Prop} {s : Shared} {m : PySem.Str → Option Value} {σ : List V}

theorem gname_ok {want id : PySem.Str} (h : gname kd want id = true) : id = want ∧ kd id = some .globalImplicit ∧ (id == ("__debug__" : PySem.Str)) = false := by
  unfold gname at h
  simp only [Bool.and_eq_true, beq_iff_eq, bne_iff_ne] at h
  exact ⟨h.1.1, h.1.2, beq_eq_false_iff_ne.mpr h.2⟩

theorem name_glob {x : PySem.Str} {pos : Pos} {v : Value} {Q : Value → Shared → Prop} (hE : EnvOK env kd) (hk : kd x = some .globalImplicit) (hd : (x == ("__debug__" : PySem.Str)) = false) (hok : W.OK s.heap)
    (hn : nsIn W.K mainGlobals x = some (some v)) (h : Q v s) : wpAny M A (eval (.Name x pos) env) Q E s :=
  Name_function_global hE.kind ((hE.kdEq x).trans hk) (loadGlobal_global (mg := W.mg) (by rw [hE.glob]; exact hok.top.g) (mg_of hok.inK hok.top.g hn) h) hd
theorem name_blt {x : PySem.Str} {pos : Pos} {v : Value} {Q : Value → Shared → Prop} (hE : EnvOK env kd) (hk : kd x = some .globalImplicit) (hd : (x == ("__debug__" : PySem.Str)) = false) (hok : W.OK s.heap)
    (hn : nsIn W.K mainGlobals x = some none) (hb : bootBuiltins x = some v) (hx : x ≠ "__name__") (h : Q v s) : wpAny M A (eval (.Name x pos) env) Q E s :=
  Name_function_global hE.kind ((hE.kdEq x).trans hk) (loadGlobal_builtin (mg := W.mg) (mb := W.mb) (by rw [hE.glob]; exact hok.top.g) (mg_none_of hok.inK hok.top.g hn) (by rw [hE.blt]; exact hok.top.b)
    (by rw [hok.top.builtins x hx]; exact hb) h) hd

theorem args1 {e : Expr} {pos : Pos} {Q : List Value → Shared → Prop} (hp : plainE e = true) (h : wpAny M A (eval e env) (fun v s₁ => Q [v] s₁) E s) : wpAny M A (spliced (backTo pos (starEach [e] env))) Q E s :=
  args_cons (wpAny_mono h (fun _ _ h₁ => args_nil h₁) fun _ _ x => x) (star_plain hp [])
theorem args2 {e e' : Expr} {pos : Pos} {Q : List Value → Shared → Prop} (hp : plainE e = true) (hp' : plainE e' = true) (h : wpAny M A (eval e env) (fun v s₁ => wpAny M A (eval e' env) (fun v' s₂ => Q [v, v'] s₂) E s₁) E s) :
    wpAny M A (spliced (backTo pos (starEach [e, e'] env))) Q E s :=
  args_cons (wpAny_mono h (fun _ _ h₁ => args1 hp' h₁) fun _ _ x => x) (star_plain hp [e'])
theorem anyF {e' : Expr} {pos : Pos} (hp' : plainE e' = true) : (backTo pos (starEach [e'] env)).any (·.1) = false := by rw [star_plain hp']; rfl

theorem cb1 {id : String} {f : PySem.Str} {e : Expr} {p pos : Pos} {Q : Value → Shared → Prop} (hE : EnvOK env kd) (hg : gname kd f f = true) (hok : W.OK s.heap) (hn : nsIn W.K mainGlobals f = some none) (hb : bootBuiltins f = some (.builtin id)) (hx : f ≠ "__name__")
    (hp : plainE e = true) (h : wpAny M A (eval e env) (fun v s₁ => wpAny M A (call (.builtin id) [v]) Q E s₁) E s) : wpAny M A (eval (.Call (.Name f p) [e] [] pos) env) Q E s := by
  obtain ⟨_, hk, hd⟩ := gname_ok hg
  exact Call_ (name_blt hE hk hd hok hn hb hx (callWith_builtin1 (args1 hp h) (star_plain hp [])))
theorem cb2 {id : String} {f : PySem.Str} {e e' : Expr} {p pos : Pos} {Q : Value → Shared → Prop} (hE : EnvOK env kd) (hg : gname kd f f = true) (hok : W.OK s.heap) (hn : nsIn W.K mainGlobals f = some none) (hb : bootBuiltins f = some (.builtin id)) (hx : f ≠ "__name__")
    (hp : plainE e = true) (hp' : plainE e' = true) (h : wpAny M A (eval e env) (fun v s₁ => wpAny M A (eval e' env) (fun v' s₂ => wpAny M A (call (.builtin id) [v, v']) Q E s₂) E s₁) E s) : wpAny M A (eval (.Call (.Name f p) [e, e'] [] pos) env) Q E s := by
  obtain ⟨_, hk, hd⟩ := gname_ok hg
  exact Call_ (name_blt hE hk hd hok hn hb hx (callWith_builtin1 (args2 hp hp' h) (star_plain hp [e']) (anyF hp')))
theorem ct1 {id : String} {f : PySem.Str} {e : Expr} {p pos : Pos} {Q : Value → Shared → Prop} (hE : EnvOK env kd) (hg : gname kd f f = true) (hok : W.OK s.heap) (hn : nsIn W.K mainGlobals f = some none) (hb : bootBuiltins f = some (.type id)) (hx : f ≠ "__name__")
    (hp : plainE e = true) (h : wpAny M A (eval e env) (fun v s₁ => wpAny M A (call (.type id) [v]) Q E s₁) E s) : wpAny M A (eval (.Call (.Name f p) [e] [] pos) env) Q E s := by
  obtain ⟨_, hk, hd⟩ := gname_ok hg
  exact Call_ (name_blt hE hk hd hok hn hb hx (Pv.callWith_type1 (args1 hp h) (star_plain hp [])))

theorem chkL_plain {xs : List X} {e : Expr} {es : List Expr} (h : chkL T xs kd (e :: es) = true) : plainE e = true ∧ (∀ pos, (backTo pos (starEach es env)).any (·.1) = false) := by
  have all : ∀ (xs : List X) (es : List Expr), chkL T xs kd es = true → ∀ pos, (backTo pos (starEach es env)).any (·.1) = false := by
    intro xs
    induction xs with
    | nil => intro es h pos; cases es with | nil => rfl | cons => simp [chkL] at h
    | cons x xs ih =>
      intro es h pos
      cases es with
      | nil => simp [chkL] at h
      | cons e es =>
        simp only [chkL, Bool.and_eq_true] at h
        rw [star_plain h.1.1]
        exact ih es h.2 pos
  cases xs with
  | nil => simp [chkL] at h
  | cons x xs =>
    simp only [chkL, Bool.and_eq_true] at h
    exact ⟨h.1.1, all xs es h.2⟩

theorem PT_of_plain {x : X} (h : PE W T cs k x) (hp : ∀ e, chk T x kd e = true → testPlain e = true) {e : Expr} {v : V} {b : Bool} (hc : chk T x kd e = true) (hv : ev T.gt T.sh cs x σ = some v) (hb : truthyV v = some b)
    (hE : EnvOK env kd) (hR : Room A k) (so : SO W T.nm env m σ s) : wpAny W.M A (isTrue e env (eval e env)) (fun c s' => c = b ∧ Keeps s s') Fal s := by
  refine isTrue_plain (wpF (h kd e σ v hc hv env m s A hE hR so) fun mv s₁ h₁ => ?_) (test_plain (hp e hc))
  obtain ⟨⟨r, k1⟩, _⟩ := h₁
  exact wpF (truthy_ok hb r) fun c s₂ h₂ => ⟨h₂.1, kTrans k1 h₂.2⟩
end
end Mine

end
section -- M10
open PySem PySem.Calls PySem.W PyProof.Rows
set_option maxRecDepth 10000
namespace Mine

section
variable {W : Wd} {T : Tb} {fad : List Addr} {cs : Nat → List V → Option V} {k : Nat}

theorem post_of {x : X} {s : Shared} {v : V} {mv : Value} {s' : Shared} (hf : fresh x = false) (h : Gives s v mv s') : Post x s v mv s' := ⟨h, fun e => by rw [hf] at e; cases e⟩
theorem gKeeps {s s₁ s₂ : Shared} {v : V} {mv : Value} (k1 : Keeps s s₁) (g : Gives s₁ v mv s₂) : Gives s v mv s₂ := ⟨g.1, kTrans k1 g.2⟩

theorem pb_plain {x : X} (hp : ∀ kd e, chk T x kd e = true → testPlain e = true) (h : PE W T cs k x) : PB W T cs k x :=
  ⟨h, fun kd _ _ _ _ hc hv hb _ _ _ _ hE hR so => PT_of_plain h (hp kd) hc hv hb hE hR so⟩

theorem pe_none : PE W T cs k .none := by
  intro kd e σ v hc hv env m s A hE hR so
  simp only [chk] at hc
  split at hc <;> first | (cases hc; done) | skip
  cases hv
  exact wpAny_pure (post_of rfl ⟨.none, kRfl⟩)
theorem pe_bool (b : Bool) : PE W T cs k (.bool b) := by
  intro kd e σ v hc hv env m s A hE hR so
  simp only [chk] at hc
  split at hc <;> first | (cases hc; done) | skip
  rw [beq_iff_eq] at hc; subst hc
  cases hv
  exact wpAny_pure (post_of rfl ⟨.bool _, kRfl⟩)
theorem pe_int (i : Int) : PE W T cs k (.int i) := by
  intro kd e σ v hc hv env m s A hE hR so
  simp only [chk] at hc
  split at hc <;> first | (cases hc; done) | skip
  rw [beq_iff_eq] at hc; subst hc
  cases hv
  exact wpAny_Constant_int (post_of rfl (gInt _ _ _))
theorem pe_str (x : PySem.Str) : PE W T cs k (.str x) := by
  intro kd e σ v hc hv env m s A hE hR so
  simp only [chk] at hc
  split at hc <;> first | (cases hc; done) | skip
  rw [beq_iff_eq] at hc; subst hc
  cases hv
  exact Constant_str (post_of rfl ⟨.str _ _, kToks _⟩)

theorem ev_var {gt : GT} {sh : List (PySem.Str × V)} {i : Nat} {σ : List V} {v : V} (h : ev gt sh cs (.var i) σ = some v) : σ[i]? = some v ∧ v ≠ .undef := by
  simp only [ev] at h
  split at h
  · cases h
  · rename_i hne hv; cases h; exact ⟨hv, fun e => by subst e; exact hne rfl⟩
  · cases h

/-- a name is read -/
theorem load_ok {env : Env} {kd : Kd} {m : PySem.Str → Option Value} {s : Shared} {σ : List V} {i : Nat} {x : PySem.Str} {v : V} {A : Around} {E : Value → Shared → Prop} (hE : EnvOK env kd) (so : SO W T.nm env m σ s)
    (hx : T.nm[i]? = some x) (hk : kd x = some .local ∨ kd x = some .cell ∨ kd x = some .free) (hc : (x == ("__classdict__" : PySem.Str)) = false) (hv : σ[i]? = some v) (hn : v ≠ .undef) :
    wpAny W.M A (loadName env x) (fun mv s' => Rep s.heap.get? mv v ∧ s' = s) E s := by
  rcases hk with hk | hk | hk
  · obtain ⟨mv, e, r⟩ := so.rs.loc i x v hx hv hn ((hE.kdEq x).trans hk)
    exact wpAny_loadName_local hE.kind ((hE.kdEq x).trans hk) so.ns e ⟨r, rfl⟩
  · obtain ⟨c, o, mv, e1, e2, e3, r⟩ := so.rs.cel i x v hx hv hn (.inl ((hE.kdEq x).trans hk))
    exact wpAny_loadName_cell hE.kind ((hE.kdEq x).trans hk) e1 ⟨o, e2, e3⟩ ⟨r, rfl⟩
  · obtain ⟨c, o, mv, e1, e2, e3, r⟩ := so.rs.cel i x v hx hv hn (.inr ((hE.kdEq x).trans hk))
    exact wpAny_loadName_free hE.kind ((hE.kdEq x).trans hk) e1 ⟨o, e2, e3⟩ ⟨r, rfl⟩ hc

theorem pe_var (i : Nat) : PE W T cs k (.var i) := by
  intro kd e σ v hc hv env m s A hE hR so
  simp only [chk] at hc
  split at hc <;> first | (cases hc; done) | skip
  rename_i x pos
  simp only [Bool.and_eq_true, Bool.or_eq_true, beq_iff_eq, bne_iff_ne] at hc
  obtain ⟨⟨⟨h1, h2⟩, h3⟩, h4⟩ := hc
  obtain ⟨hv, hn⟩ := ev_var hv
  refine wpAny_Name (wpAny_mono (load_ok hE so h1 (by rcases h2 with (h2 | h2) | h2 <;> simp [h2]) (beq_eq_false_iff_ne.mpr h4) hv hn) (fun mv s' h => ?_) fun _ _ x => x) (beq_eq_false_iff_ne.mpr h3)
  obtain ⟨r, rfl⟩ := h
  exact post_of rfl ⟨r, kRfl⟩

variable (S : Sys W T fad cs k)

include S in
theorem pe_glo (i : Nat) : PE W T cs k (.glo i) := by
  intro kd e σ v hc hv env m s A hE hR so
  simp only [chk] at hc
  split at hc <;> first | (cases hc; done) | skip
  rename_i x pos
  simp only [Bool.and_eq_true, beq_iff_eq, bne_iff_ne] at hc
  obtain ⟨⟨h1, h2⟩, h3⟩ := hc
  simp only [ev] at hv
  cases hg : T.gt[i]? with
  | none => rw [hg] at hv; cases hv
  | some y =>
    obtain ⟨x', v'⟩ := y
    rw [hg] at h1 hv
    simp only [Option.map_some, Option.some.injEq] at h1 hv
    subst h1; subst hv
    obtain ⟨mv, hn, hr⟩ := S.gt i _ _ hg
    exact name_glob hE h2 (beq_eq_false_iff_ne.mpr h3) so.ok hn (post_of rfl ⟨hr _ so.ok, kRfl⟩)

theorem pe_bin {op : Operator} {l r : X} (hl : PE W T cs k l) (hr : PE W T cs k r) : PE W T cs k (.bin op l r) := by
  intro kd e σ v hc hv env m s A hE hR so
  simp only [chk] at hc
  split at hc <;> first | (cases hc; done) | skip
  simp only [Bool.and_eq_true, beq_iff_eq] at hc
  obtain ⟨⟨rfl, h1⟩, h2⟩ := hc
  simp only [ev, Option.bind_eq_some_iff] at hv
  obtain ⟨a, ha, b, hb, hv⟩ := hv
  refine wpAny_BinOp (wpF (hl kd _ σ a h1 ha env m s A hE hR so) fun ma s₁ g₁ => wpF (hr kd _ σ b h2 hb env m s₁ A hE hR (so.keeps g₁.1.2)) fun mb s₂ g₂ => ?_)
  exact wpF (binop_ok (E := Fal) hv (g₁.1.1.keeps (kHeap g₂.1.2)) g₂.1.1) fun mv s₃ g₃ => post_of rfl (gKeeps (kTrans g₁.1.2 g₂.1.2) g₃)
theorem pe_neg {x : X} (hx : PE W T cs k x) : PE W T cs k (.neg x) := by
  intro kd e σ v hc hv env m s A hE hR so
  simp only [chk] at hc
  split at hc <;> first | (cases hc; done) | skip
  simp only [ev, Option.bind_eq_some_iff] at hv
  obtain ⟨a, ha, hv⟩ := hv
  split at hv <;> first | (cases hv; done) | skip
  cases hv
  refine UnaryOp_ (wpF (hx kd _ σ _ hc ha env m s A hE hR so) fun ma s₁ g₁ => ?_)
  obtain ⟨t, rfl⟩ := g₁.1.1.isInt
  exact neg_int (post_of rfl (gKeeps g₁.1.2 (gInt _ _ _)))
theorem pb_not {x : X} (hx : PB W T cs k x) : PB W T cs k (.not x) := by
  constructor
  · intro kd e σ v hc hv env m s A hE hR so
    simp only [chk] at hc
    split at hc <;> first | (cases hc; done) | skip
    simp only [ev, Option.bind_eq_some_iff, Option.map_eq_some_iff] at hv
    obtain ⟨a, ha, b, hb, rfl⟩ := hv
    refine UnaryOp_ (wpF (hx.1 kd _ σ a hc ha env m s A hE hR so) fun ma s₁ g₁ => not_of (wpF (truthy_ok hb g₁.1.1) fun c s₂ h₂ => ?_))
    obtain ⟨rfl, k2⟩ := h₂
    exact post_of rfl ⟨.bool _, kTrans g₁.1.2 k2⟩
  · intro kd e σ v b hc hv hb env m s A hE hR so
    simp only [chk] at hc
    split at hc <;> first | (cases hc; done) | skip
    simp only [ev, Option.bind_eq_some_iff, Option.map_eq_some_iff] at hv
    obtain ⟨a, ha, b', hb', rfl⟩ := hv
    simp only [truthyV, Option.some.injEq] at hb; subst hb
    exact isTrue_not (wpF (hx.2 kd _ σ a b' hc ha hb' env m s A hE hR so) fun c s' h => ⟨by rw [h.1], h.2⟩)
theorem pb_one {x : X} (hx : PB W T cs k x) : PB W T cs k (.one x) := by
  constructor
  · intro kd e σ v hc hv env m s A hE hR so
    simp only [chk] at hc
    split at hc <;> first | (cases hc; done) | skip
    simp only [ev] at hv
    exact BoolOp_one (wpF (hx.1 kd _ σ v hc hv env m s A hE hR so) fun mv s' h => post_of rfl h.1)
  · intro kd e σ v b hc hv hb env m s A hE hR so
    simp only [chk] at hc
    split at hc <;> first | (cases hc; done) | skip
    rename_i op x' p
    simp only [ev] at hv
    cases op with
    | And => exact isTrue_and (wpF (hx.2 kd _ σ v b hc hv hb env m s A hE hR so) fun c s' h => by
        obtain ⟨rfl, h⟩ := h
        cases c
        · exact ⟨rfl, h⟩
        · exact isTrue_and_nil ⟨rfl, h⟩)
    | Or => exact isTrue_or (wpF (hx.2 kd _ σ v b hc hv hb env m s A hE hR so) fun c s' h => by
        obtain ⟨rfl, h⟩ := h
        cases c
        · exact isTrue_or_nil ⟨rfl, h⟩
        · exact ⟨rfl, h⟩)
theorem pb_and {l r : X} (hl : PB W T cs k l) (hr : PB W T cs k r) : PB W T cs k (.and l r) := by
  constructor
  · intro kd e σ v hc hv env m s A hE hR so
    simp only [chk] at hc
    split at hc <;> first | (cases hc; done) | skip
    simp only [Bool.and_eq_true] at hc
    simp only [ev, Option.bind_eq_some_iff] at hv
    obtain ⟨a, ha, b, hb, hv⟩ := hv
    refine BoolOp_and (wpF (hl.1 kd _ σ a hc.1 ha env m s A hE hR so) fun ma s₁ g₁ => wpF (truthy_ok hb g₁.1.1) fun c s₂ h₂ => ?_)
    obtain ⟨rfl, k2⟩ := h₂
    have k12 := kTrans g₁.1.2 k2
    cases c
    · rw [if_neg (by simp)] at hv
      cases hv
      exact post_of rfl ⟨g₁.1.1.keeps (kHeap k2), k12⟩
    · rw [if_pos rfl] at hv
      exact wpF (hr.1 kd _ σ v hc.2 hv env m s₂ A hE hR (so.keeps k12)) fun mv s' h => post_of rfl (gKeeps k12 h.1)
  · intro kd e σ v b hc hv hb env m s A hE hR so
    simp only [chk] at hc
    split at hc <;> first | (cases hc; done) | skip
    simp only [Bool.and_eq_true] at hc
    simp only [ev, Option.bind_eq_some_iff] at hv
    obtain ⟨a, ha, b', hb', hv⟩ := hv
    refine isTrue_and (wpF (hl.2 kd _ σ a b' hc.1 ha hb' env m s A hE hR so) fun c s₁ h₁ => ?_)
    obtain ⟨rfl, k1⟩ := h₁
    cases c
    · rw [if_neg (by simp)] at hv
      cases hv
      rw [hb'] at hb; cases hb
      exact ⟨rfl, k1⟩
    · rw [if_pos rfl] at hv
      exact wpF (hr.2 kd _ σ v b hc.2 hv hb env m s₁ A hE hR (so.keeps k1)) fun c s' h => ⟨h.1, kTrans k1 h.2⟩
theorem pb_or {l r : X} (hl : PB W T cs k l) (hr : PB W T cs k r) : PB W T cs k (.or l r) := by
  constructor
  · intro kd e σ v hc hv env m s A hE hR so
    simp only [chk] at hc
    split at hc <;> first | (cases hc; done) | skip
    simp only [Bool.and_eq_true] at hc
    simp only [ev, Option.bind_eq_some_iff] at hv
    obtain ⟨a, ha, b, hb, hv⟩ := hv
    refine BoolOp_or (wpF (hl.1 kd _ σ a hc.1 ha env m s A hE hR so) fun ma s₁ g₁ => wpF (truthy_ok hb g₁.1.1) fun c s₂ h₂ => ?_)
    obtain ⟨rfl, k2⟩ := h₂
    have k12 := kTrans g₁.1.2 k2
    cases c
    · rw [if_neg (by simp)] at hv
      exact wpF (hr.1 kd _ σ v hc.2 hv env m s₂ A hE hR (so.keeps k12)) fun mv s' h => post_of rfl (gKeeps k12 h.1)
    · rw [if_pos rfl] at hv
      cases hv
      exact post_of rfl ⟨g₁.1.1.keeps (kHeap k2), k12⟩
  · intro kd e σ v b hc hv hb env m s A hE hR so
    simp only [chk] at hc
    split at hc <;> first | (cases hc; done) | skip
    simp only [Bool.and_eq_true] at hc
    simp only [ev, Option.bind_eq_some_iff] at hv
    obtain ⟨a, ha, b', hb', hv⟩ := hv
    refine isTrue_or (wpF (hl.2 kd _ σ a b' hc.1 ha hb' env m s A hE hR so) fun c s₁ h₁ => ?_)
    obtain ⟨rfl, k1⟩ := h₁
    cases c
    · rw [if_neg (by simp)] at hv
      exact wpF (hr.2 kd _ σ v b hc.2 hv hb env m s₁ A hE hR (so.keeps k1)) fun c s' h => ⟨h.1, kTrans k1 h.2⟩
    · rw [if_pos rfl] at hv
      cases hv
      rw [hb'] at hb; cases hb
      exact ⟨rfl, k1⟩
theorem pb_cmp {op : CmpOp} {l r : X} (hl : PE W T cs k l) (hr : PE W T cs k r) : PB W T cs k (.cmp op l r) := by
  constructor
  · intro kd e σ v hc hv env m s A hE hR so
    simp only [chk] at hc
    split at hc <;> first | (cases hc; done) | skip
    simp only [Bool.and_eq_true, beq_iff_eq] at hc
    obtain ⟨⟨⟨rfl, h1⟩, h2⟩, h3⟩ := hc
    simp only [ev, Option.bind_eq_some_iff, Option.map_eq_some_iff] at hv
    obtain ⟨a, ha, b, hb, c, hv, rfl⟩ := hv
    refine wpAny_Compare1 (wpF (hl kd _ σ a h1 ha env m s A hE hR so) fun ma s₁ g₁ => wpF (hr kd _ σ b h2 hb env m s₁ A hE hR (so.keeps g₁.1.2)) fun mb s₂ g₂ => ?_) (marks_plain h3)
    exact wpF (cmp_ok (E := Fal) (by have := hR.units; omega) hv (g₁.1.1.keeps (kHeap g₂.1.2)) g₂.1.1) fun mv s₃ g₃ => post_of rfl (gKeeps (kTrans g₁.1.2 g₂.1.2) g₃)
  · intro kd e σ v b' hc hv hb' env m s A hE hR so
    simp only [chk] at hc
    split at hc <;> first | (cases hc; done) | skip
    simp only [Bool.and_eq_true, beq_iff_eq] at hc
    obtain ⟨⟨⟨rfl, h1⟩, h2⟩, h3⟩ := hc
    simp only [ev, Option.bind_eq_some_iff, Option.map_eq_some_iff] at hv
    obtain ⟨a, ha, b, hb, c, hv, rfl⟩ := hv
    simp only [truthyV, Option.some.injEq] at hb'; subst hb'
    refine wpAny_isTrue_Compare1 (wpF (hl kd _ σ a h1 ha env m s A hE hR so) fun ma s₁ g₁ => wpF (hr kd _ σ b h2 hb env m s₁ A hE hR (so.keeps g₁.1.2)) fun mb s₂ g₂ => ?_) (marks_plain h3)
    refine wpF (cmp_ok (E := Fal) (by have := hR.units; omega) hv (g₁.1.1.keeps (kHeap g₂.1.2)) g₂.1.1) fun mv s₃ g₃ => ?_
    obtain rfl := g₃.1.isBool
    exact wpAny_truthy_bool ⟨rfl, kTrans (kTrans g₁.1.2 g₂.1.2) g₃.2⟩
theorem pb_ite {c a b : X} (hc' : PB W T cs k c) (ha' : PB W T cs k a) (hb' : PB W T cs k b) : PB W T cs k (.ite c a b) := by
  constructor
  · intro kd e σ v hc hv env m s A hE hR so
    simp only [chk] at hc
    split at hc <;> first | (cases hc; done) | skip
    simp only [Bool.and_eq_true] at hc
    obtain ⟨⟨h1, h2⟩, h3⟩ := hc
    simp only [ev, Option.bind_eq_some_iff] at hv
    obtain ⟨t, ht, b, hb, hv⟩ := hv
    refine IfExp_ (wpF (hc'.2 kd _ σ t b h1 ht hb env m s A hE hR so) fun c s₁ h₁ => ?_)
    obtain ⟨rfl, k1⟩ := h₁
    cases c
    · rw [if_neg (by simp)] at hv
      exact wpF (hb'.1 kd _ σ v h3 hv env m s₁ A hE hR (so.keeps k1)) fun mv s' h => post_of rfl (gKeeps k1 h.1)
    · rw [if_pos rfl] at hv
      exact wpF (ha'.1 kd _ σ v h2 hv env m s₁ A hE hR (so.keeps k1)) fun mv s' h => post_of rfl (gKeeps k1 h.1)
  · intro kd e σ v b0 hc hv hb0 env m s A hE hR so
    simp only [chk] at hc
    split at hc <;> first | (cases hc; done) | skip
    simp only [Bool.and_eq_true] at hc
    obtain ⟨⟨h1, h2⟩, h3⟩ := hc
    simp only [ev, Option.bind_eq_some_iff] at hv
    obtain ⟨t, ht, b, hb, hv⟩ := hv
    refine isTrue_IfExp (wpF (hc'.2 kd _ σ t b h1 ht hb env m s A hE hR so) fun c s₁ h₁ => ?_)
    obtain ⟨rfl, k1⟩ := h₁
    cases c
    · rw [if_neg (by simp)] at hv
      exact wpF (hb'.2 kd _ σ v b0 h3 hv hb0 env m s₁ A hE hR (so.keeps k1)) fun mv s' h => ⟨h.1, kTrans k1 h.2⟩
    · rw [if_pos rfl] at hv
      exact wpF (ha'.2 kd _ σ v b0 h2 hv hb0 env m s₁ A hE hR (so.keeps k1)) fun mv s' h => ⟨h.1, kTrans k1 h.2⟩
end
end Mine

end
section -- M11
open PySem PySem.Calls PySem.W PyProof.Rows
set_option maxRecDepth 10000
namespace Mine

noncomputable def clOf (env : Env) : List (PySem.Str × NameKind) → List (PySem.Str × Addr) → List (PySem.Str × Addr)
  | [], acc => acc
  | (n, k) :: r, acc => if (k == .free) = true then clOf env r ((n, (env.cells.lookup n).getD 0) :: acc) else clOf env r acc

theorem closure_ok {env : Env} {sc : Scope} (h : ∀ y ∈ sc.names, y.2 = .free → ∃ c, env.cells.lookup y.1 = some c) : closureFor sc env = pure (clOf env sc.names []) := by
  unfold closureFor
  have e : ∀ (names : List (PySem.Str × NameKind)) (acc : List (PySem.Str × Addr)), (∀ y ∈ names, y.2 = .free → ∃ c, env.cells.lookup y.1 = some c) →
      (forIn names acc (fun (x : PySem.Str × NameKind) (r : List (PySem.Str × Addr)) => match x with
        | (name, kind) => if (kind == NameKind.free) = true then (do let a ← cellOf env name; pure (ForInStep.yield ((name, a) :: r))) else pure (ForInStep.yield r)) : Sem (List (PySem.Str × Addr))) = pure (clOf env names acc) := by
    intro names
    induction names with
    | nil => intro acc _; rfl
    | cons y r ih =>
      intro acc hy
      obtain ⟨n, kk⟩ := y
      rw [List.forIn_cons]
      unfold clOf
      by_cases hk : (kk == NameKind.free) = true
      · obtain ⟨c, hc⟩ := hy _ List.mem_cons_self (by simpa using hk)
        have hco : cellOf env n = pure c := by unfold cellOf; dsimp only at hc; rw [hc]
        simp only [hk, if_true, hco, pure_bind]
        rw [hc]
        exact ih _ fun y hm => hy y (List.mem_cons_of_mem _ hm)
      · rw [if_neg hk]
        simp only [if_neg hk, pure_bind]
        exact ih _ fun y hm => hy y (List.mem_cons_of_mem _ hm)
  exact (congrArg (fun t : Sem (List (PySem.Str × Addr)) => t >>= fun s => pure s) (e sc.names [] h)).trans rfl

theorem clOf_lookup {env : Env} : ∀ (names : List (PySem.Str × NameKind)) (acc : List (PySem.Str × Addr)), (∀ p ∈ acc, p.2 = (env.cells.lookup p.1).getD 0) →
    (∀ p ∈ clOf env names acc, p.2 = (env.cells.lookup p.1).getD 0) ∧ (∀ p ∈ acc, p ∈ clOf env names acc) ∧ ∀ y ∈ names, y.2 = .free → (y.1, (env.cells.lookup y.1).getD 0) ∈ clOf env names acc
  | [], acc, h => ⟨h, fun p hp => hp, fun y hy => nomatch hy⟩
  | (n, k) :: r, acc, h => by
    unfold clOf
    by_cases hk : (k == NameKind.free) = true
    · rw [if_pos hk]
      obtain ⟨h1, h2, h3⟩ := clOf_lookup r ((n, (env.cells.lookup n).getD 0) :: acc) (fun p hp => by
        rcases List.mem_cons.mp hp with rfl | hp
        · rfl
        · exact h p hp)
      refine ⟨h1, fun p hp => h2 p (List.mem_cons_of_mem _ hp), fun y hy hf => ?_⟩
      rcases List.mem_cons.mp hy with rfl | hy
      · exact h2 _ List.mem_cons_self
      · exact h3 y hy hf
    · rw [if_neg hk]
      obtain ⟨h1, h2, h3⟩ := clOf_lookup r acc h
      refine ⟨h1, h2, fun y hy hf => ?_⟩
      rcases List.mem_cons.mp hy with rfl | hy
      · exact absurd (by simpa using hf) hk
      · exact h3 y hy hf
theorem lookup_fun {f : PySem.Str → Addr} : ∀ {l : List (PySem.Str × Addr)} {x : PySem.Str}, (∀ p ∈ l, p.2 = f p.1) → (∃ p ∈ l, p.1 = x) → l.lookup x = some (f x)
  | [], _, _, h => by obtain ⟨p, hp, _⟩ := h; cases hp
  | (n, a) :: r, x, hl, h => by
    rw [List.lookup_cons]
    cases hx : x == n with
    | true =>
      have : x = n := by simpa using hx
      subst this
      have := hl _ List.mem_cons_self
      simp only at this; simp [this]
    | false =>
      refine lookup_fun (fun p hp => hl p (List.mem_cons_of_mem _ hp)) ?_
      obtain ⟨p, hp, rfl⟩ := h
      rcases List.mem_cons.mp hp with rfl | hp
      · simp at hx
      · exact ⟨p, hp, rfl⟩

theorem mem_relab {kd : Kd} : ∀ {names : List (PySem.Str × NameKind)} {x : PySem.Str} {k : NameKind}, (relab kd names).lookup x = some k → ∃ k', (x, k') ∈ names ∧ (k = k' ∨ (k' = .free ∧ k = .cell))
  | [], _, _, h => by cases h
  | (n, kk) :: r, x, k, h => by
    unfold relab at h
    rw [List.map_cons] at h
    by_cases hc : (kk == NameKind.free && kd n == some .cell) = true
    · simp only [hc, if_true, List.lookup_cons] at h
      split at h
      · rename_i hx
        have : x = n := by simpa using hx
        subst this
        cases h
        simp only [Bool.and_eq_true, beq_iff_eq] at hc
        exact ⟨kk, List.mem_cons_self, .inr ⟨hc.1, rfl⟩⟩
      · obtain ⟨k', h1, h2⟩ := mem_relab (kd := kd) (names := r) h
        exact ⟨k', List.mem_cons_of_mem _ h1, h2⟩
    · simp only [if_neg hc, List.lookup_cons] at h
      split at h
      · rename_i hx
        have : x = n := by simpa using hx
        subst this
        cases h
        exact ⟨_, List.mem_cons_self, .inl rfl⟩
      · obtain ⟨k', h1, h2⟩ := mem_relab (kd := kd) (names := r) h
        exact ⟨k', List.mem_cons_of_mem _ h1, h2⟩

structure CompOk (nm : List PySem.Str) (kd : Kd) (x : PySem.Str) (sc : Scope) : Prop where
  kind : sc.kind = .function
  cell : ∀ y ∈ sc.names, y.2 ≠ .cell
  names : ∀ y ∈ sc.names, y.2 = .local → sc.names.lookup y.1 = some .local
  hx : sc.names.lookup x = some .local
  only : ∀ y ∈ nm, y = x ∨ kdIn kd sc y ≠ some .local
  free : ∀ y ∈ sc.names, y.2 = .free → kd y.1 = some .cell ∨ kd y.1 = some .free
theorem compOk_ok {nm : List PySem.Str} {kd : Kd} {x : PySem.Str} {sc : Scope} (h : compOk nm kd x sc = true) : CompOk nm kd x sc := by
  unfold compOk at h
  simp only [Bool.and_eq_true, Bool.or_eq_true, List.all_eq_true, beq_iff_eq, bne_iff_ne] at h
  obtain ⟨⟨⟨⟨⟨h1, h2⟩, h3⟩, h4⟩, h5⟩, h6⟩ := h
  refine ⟨h1, h2, fun y hy hl => ?_, h4, h5, fun y hy hl => ?_⟩
  · rcases h3 y hy with h | h
    · exact absurd hl h
    · exact h
  · rcases h6 y hy with (h | h) | h
    · exact absurd hl h
    · exact .inl h
    · exact .inr h

theorem relabel_names {env : Env} {kd : Kd} {sc : Scope} (hE : EnvOK env kd) : (relabel sc env).names = relab kd sc.names := by
  unfold relabel relab
  simp only [hE.kind, hE.kdEq, beq_self_eq_true, Bool.and_true]

theorem envOK_comp {nm : List PySem.Str} {env : Env} {kd : Kd} {x : PySem.Str} {sc : Scope} (hE : EnvOK env kd) (h : CompOk nm kd x sc) (C : Addr) :
    closureFor sc env = pure (clOf env sc.names []) ∧ EnvOK (compEnvC sc (clOf env sc.names []) C env) (kdIn kd sc) ∧
    (∀ y, kdIn kd sc y = some .cell ∨ kdIn kd sc y = some .free → (kd y = some .cell ∨ kd y = some .free) ∧ (clOf env sc.names []).lookup y = env.cells.lookup y) := by
  have hfree : ∀ y ∈ sc.names, y.2 = .free → ∃ c, env.cells.lookup y.1 = some c := fun y hy hf => hE.cells y.1 (h.free y hy hf)
  have hl : ∀ y, kdIn kd sc y = some .cell ∨ kdIn kd sc y = some .free → (kd y = some .cell ∨ kd y = some .free) ∧ (clOf env sc.names []).lookup y = env.cells.lookup y := by
    intro y hy
    have : ∃ k', (y, k') ∈ sc.names ∧ k' = .free := by
      rcases hy with hy | hy
      · obtain ⟨k', h1, h2⟩ := mem_relab hy
        rcases h2 with h2 | h2
        · exact absurd h2.symm (h.cell _ h1)
        · exact ⟨k', h1, h2.1⟩
      · obtain ⟨k', h1, h2⟩ := mem_relab hy
        rcases h2 with h2 | h2
        · exact ⟨k', h1, h2.symm⟩
        · cases h2.2
    obtain ⟨k', hm, rfl⟩ := this
    obtain ⟨h1, _, h3⟩ := clOf_lookup (env := env) sc.names [] (fun p hp => nomatch hp)
    have hmem := h3 _ hm rfl
    have hlk := lookup_fun (f := fun n => (env.cells.lookup n).getD 0) h1 ⟨_, hmem, rfl⟩
    obtain ⟨c, hc⟩ := hfree _ hm rfl
    refine ⟨h.free _ hm rfl, ?_⟩
    dsimp only at hc
    rw [hlk, hc]; rfl
  refine ⟨closure_ok hfree, ⟨?_, ?_, hE.glob, hE.blt, ?_⟩, hl⟩
  · exact h.kind
  · intro y
    show (relabel sc env).names.lookup y = _
    rw [relabel_names hE]; rfl
  · intro y hy
    obtain ⟨h1, h2⟩ := hl y hy
    obtain ⟨c, hc⟩ := hE.cells y h1
    exact ⟨c, by show (clOf env sc.names []).lookup y = some c; rw [h2, hc]⟩

theorem nodup_idx {nm : List PySem.Str} (hnd : nm.Nodup) {i j : Nat} {x : PySem.Str} (hi : nm[i]? = some x) (hj : nm[j]? = some x) : i = j := by
  obtain ⟨h1, e1⟩ := List.getElem?_eq_some_iff.mp hi
  obtain ⟨h2, e2⟩ := List.getElem?_eq_some_iff.mp hj
  exact (List.getElem_inj hnd).mp (e1.trans e2.symm)

theorem so_comp {W : Wd} {nm : List PySem.Str} {env : Env} {kd : Kd} {x : PySem.Str} {sc : Scope} {m m₃ : PySem.Str → Option Value} {σ : List V} {s s₃ : Shared} {i : Nat} {v : Value} {z : V} {C : Addr}
    (hnd : nm.Nodup) (hE : EnvOK env kd) (h : CompOk nm kd x sc) (hi : nm[i]? = some x) (so : SO W nm env m σ s) (hk : ∀ b o, s.heap.get? b = some o → s₃.heap.get? b = some o)
    (hn : s₃.heap.Ns C m₃) (hm : m₃ x = some v) (hr : Rep s₃.heap.get? v z) : SO W nm (compEnvC sc (clOf env sc.names []) C env) m₃ (σ.set i z) s₃ := by
  obtain ⟨_, hE', hl⟩ := envOK_comp hE h C
  refine ⟨hn, ⟨?_, ?_⟩, so.ok.keeps hk⟩
  · intro j y v' hj hv' hu hloc
    rw [hE'.kdEq] at hloc
    rcases h.only y (List.mem_of_getElem? hj) with rfl | hne
    · obtain rfl := nodup_idx hnd hi hj
      have hz : z = v' := by
        rw [List.getElem?_set] at hv'
        simp only [if_true] at hv'
        split at hv'
        · exact Option.some.inj hv'
        · cases hv'
      subst hz
      exact ⟨v, hm, hr⟩
    · exact absurd hloc hne
  · intro j y v' hj hv' hu hk'
    rw [hE'.kdEq] at hk'
    obtain ⟨h1, h2⟩ := hl y hk'
    have hij : i ≠ j := by
      rintro rfl
      rw [hi] at hj; cases hj
      have hx' : kdIn kd sc x = some .local := by
        show (relab kd sc.names).lookup x = some .local
        rw [← relabel_names hE]; exact lookup_relabel_local h.hx
      rw [hx'] at hk'
      rcases hk' with e | e <;> cases e
    rw [List.getElem?_set_ne hij] at hv'
    obtain ⟨c, o, mv, e1, e2, e3, r⟩ := so.rs.cel j y v' hj hv' hu (by rw [hE.kdEq]; exact h1)
    exact ⟨c, o, mv, by show (clOf env sc.names []).lookup y = some c; rw [h2, e1], hk _ _ e2, e3, r.keeps hk⟩
end Mine

end
section -- M12
open PySem PySem.Calls PySem.W PyProof.Rows
set_option maxRecDepth 10000
namespace Mine

theorem b_len : bootBuiltins "len" = some (.builtin "len") := by decide +kernel
theorem b_int : bootBuiltins "int" = some (.type "int") := by decide +kernel
theorem b_isi : bootBuiltins "isinstance" = some (.builtin "isinstance") := by decide +kernel
theorem b_divmod : bootBuiltins "divmod" = some (.builtin "divmod") := by decide +kernel
theorem b_min : bootBuiltins "min" = some (.builtin "min") := by decide +kernel
theorem b_all : bootBuiltins "all" = some (.builtin "all") := by decide +kernel
theorem b_range : bootBuiltins "range" = some (.type "range") := by decide +kernel

theorem evs_len {gt : GT} {sh : List (PySem.Str × V)} {cs : Nat → List V → Option V} {σ : List V} : ∀ {xs : List X} {vs : List V}, evs gt sh cs xs σ = some vs → vs.length = xs.length
  | [], _, h => by simp only [evs, Option.some.injEq] at h; subst h; rfl
  | x :: xs, vs, h => by
    simp only [evs, Option.bind_eq_some_iff, Option.map_eq_some_iff] at h
    obtain ⟨v, _, r, hr, rfl⟩ := h
    simp [evs_len hr]
theorem chkL_len {T : Tb} {kd : Kd} : ∀ {xs : List X} {es : List Expr}, chkL T xs kd es = true → xs.length = es.length
  | [], [], _ => rfl
  | [], _ :: _, h => by simp [chkL] at h
  | _ :: _, [], h => by simp [chkL] at h
  | x :: xs, e :: es, h => by
    simp only [chkL, Bool.and_eq_true] at h
    simp [chkL_len h.2]

section
variable {W : Wd} {T : Tb} {fad : List Addr} {cs : Nat → List V → Option V} {k : Nat}

theorem pl_nil : PL W T cs k [] := by
  intro kd es σ vs hc hv env m s A pos hE hR so
  simp only [chkL] at hc
  split at hc <;> first | (cases hc; done) | skip
  simp only [evs, Option.some.injEq] at hv; subst hv
  exact args_nil ⟨.nil, kRfl⟩
theorem pl_cons {x : X} {xs : List X} (hx : PE W T cs k x) (hxs : PL W T cs k xs) : PL W T cs k (x :: xs) := by
  intro kd es σ vs hc hv env m s A pos hE hR so
  simp only [chkL] at hc
  split at hc <;> first | (cases hc; done) | skip
  rename_i e es
  simp only [Bool.and_eq_true] at hc
  simp only [evs, Option.bind_eq_some_iff, Option.map_eq_some_iff] at hv
  obtain ⟨v, hv, vs', hvs, rfl⟩ := hv
  refine args_cons (wpF (hx kd e σ v hc.1.2 hv env m s A hE hR so) fun mv s₁ g₁ => wpF (hxs kd es σ vs' hc.2 hvs env m s₁ A pos hE hR (so.keeps g₁.1.2)) fun ms s₂ g₂ => ?_) (star_plain hc.1.1 es)
  exact ⟨.cons (g₁.1.1.keeps (kHeap g₂.2)) g₂.1, kTrans g₁.1.2 g₂.2⟩

theorem pe_tup {xs : List X} (hx : PL W T cs k xs) : PE W T cs k (.tup xs) := by
  intro kd e σ v hc hv env m s A hE hR so
  simp only [chk] at hc
  split at hc <;> first | (cases hc; done) | skip
  simp only [Bool.and_eq_true, decide_eq_true_eq] at hc
  simp only [ev, Option.map_eq_some_iff] at hv
  obtain ⟨vs, hvs, rfl⟩ := hv
  refine Tuple_ (wpF (hx kd _ σ vs hc.1 hvs env m s A _ hE hR so) fun ms s₁ g₁ => ?_)
  have hl : ms.length ≤ sizeLine := by rw [g₁.1.length, evs_len hvs, chkL_len hc.1, sizeLine_eq]; omega
  exact wpF (newTuple_ok (E := Fal) g₁.1 hl) fun mv s₂ g₂ => post_of rfl (gKeeps g₁.2 g₂)
theorem pe_lst {xs : List X} (hx : PL W T cs k xs) : PE W T cs k (.lst xs) := by
  intro kd e σ v hc hv env m s A hE hR so
  simp only [chk] at hc
  split at hc <;> first | (cases hc; done) | skip
  simp only [Bool.and_eq_true, decide_eq_true_eq] at hc
  simp only [ev, Option.map_eq_some_iff] at hv
  obtain ⟨vs, hvs, rfl⟩ := hv
  refine List_ (wpF (hx kd _ σ vs hc.1 hvs env m s A _ hE hR so) fun ms s₁ g₁ => ?_)
  have hl : ms.length ≤ sizeLine := by rw [g₁.1.length, evs_len hvs, chkL_len hc.1, sizeLine_eq]; omega
  exact wpF (newList_ok (E := Fal) g₁.1 hl) fun mv s₂ g₂ => ⟨gKeeps g₁.2 g₂.1, fun _ => g₂.2.before g₁.2⟩
theorem pe_rept {x n : X} (hx : PE W T cs k x) (hn : PE W T cs k n) : PE W T cs k (.rept x n) := by
  intro kd e σ v hc hv env m s A hE hR so
  simp only [chk] at hc
  split at hc <;> first | (cases hc; done) | skip
  simp only [Bool.and_eq_true] at hc
  obtain ⟨⟨h1, h2⟩, h3⟩ := hc
  simp only [ev, Option.bind_eq_some_iff] at hv
  obtain ⟨a, ha, b, hb, hv⟩ := hv
  split at hv <;> first | (cases hv; done) | skip
  rename_i i
  split at hv <;> first | (cases hv; done) | skip
  rename_i hi
  simp only [Bool.and_eq_true, decide_eq_true_eq] at hi
  cases hv
  refine wpAny_BinOp (List_ (args1 h2 (wpF (hx kd _ σ a h1 ha env m s A hE hR so) fun ma s₁ g₁ => wpAny_newObj_type ?_)))
  have k2 : Keeps s₁ { s₁ with heap := s₁.heap.push { cls := .type "list", data := .seq [ma].toArray } } := kPush _ s₁.toks
  refine wpF (hn kd _ σ _ h3 hb env m _ A hE hR ((so.keeps g₁.1.2).keeps k2)) fun mb s₃ g₃ => ?_
  obtain ⟨t, rfl⟩ := g₃.1.1.isInt
  have kk := kTrans g₁.1.2 (kTrans k2 g₃.1.2)
  exact wpF (rept_ok (E := Fal) (kHeap g₃.1.2 _ _ (Heap.get?_push_size _ rfl)) hi.1 hi.2 (g₁.1.1.keeps (kHeap (kTrans k2 g₃.1.2)))) fun mv s₄ g₄ => ⟨gKeeps kk g₄.1, fun _ => g₄.2.before kk⟩
theorem pe_idx {x i : X} (hx : PE W T cs k x) (hi : PE W T cs k i) : PE W T cs k (.idx x i) := by
  intro kd e σ v hc hv env m s A hE hR so
  simp only [chk] at hc
  split at hc <;> first | (cases hc; done) | skip
  simp only [Bool.and_eq_true] at hc
  obtain ⟨⟨h1, h2⟩, h3⟩ := hc
  simp only [ev, Option.bind_eq_some_iff] at hv
  obtain ⟨a, ha, b, hb, hv⟩ := hv
  refine Subscript_ (wpF (hx kd _ σ a h1 ha env m s A hE hR so) fun ma s₁ g₁ => wpF (hi kd _ σ b h2 hb env m s₁ A hE hR (so.keeps g₁.1.2)) fun mb s₂ g₂ => ?_)
  have kk := kTrans g₁.1.2 g₂.1.2
  have ra := g₁.1.1.keeps (kHeap g₂.1.2)
  split at hv <;> first | (cases hv; done) | skip
  · exact wpF (idxTup_ok (E := Fal) hv ra g₂.1.1 (sub_plain h3)) fun mv s₃ g₃ => post_of rfl (gKeeps kk g₃)
  · exact wpF (idxLst_ok (E := Fal) hv ra g₂.1.1 (sub_plain h3)) fun mv s₃ g₃ => post_of rfl (gKeeps kk g₃)
theorem pe_upto {x n : X} (hx : PE W T cs k x) (hn : PE W T cs k n) : PE W T cs k (.upto x n) := by
  intro kd e σ v hc hv env m s A hE hR so
  simp only [chk] at hc
  split at hc <;> first | (cases hc; done) | skip
  simp only [Bool.and_eq_true] at hc
  obtain ⟨h1, h2⟩ := hc
  simp only [ev, Option.bind_eq_some_iff] at hv
  obtain ⟨a, ha, b, hb, hv⟩ := hv
  split at hv <;> first | (cases hv; done) | skip
  split at hv <;> first | (cases hv; done) | skip
  rename_i hi
  simp only [Bool.and_eq_true, decide_eq_true_eq] at hi
  cases hv
  refine Subscript_ (wpF (hx kd _ σ _ h1 ha env m s A hE hR so) fun ma s₁ g₁ => ?_)
  rw [arm_eval_Slice]
  refine wpAny_bind (m := valueOrNone (evalOpt none env)) (wpAny_pure (wpAny_bind (wpAny_holding (wpAny_mono (hn kd _ σ _ h2 hb env m s₁ A hE hR (so.keeps g₁.1.2)) (fun mb s₂ g₂ => ?_) fun _ _ x => x))))
  refine wpAny_bind (wpAny_holding (wpAny_pure ?_))
  have kk := kTrans g₁.1.2 g₂.1.2
  refine wpF (upto_ok (E := Fal) hi.1.1 hi.2 (g₁.1.1.keeps (kHeap g₂.1.2)) g₂.1.1) fun sl s₃ h₃ => wpF h₃ fun mv s₄ g₄ => ⟨gKeeps kk g₄.1, fun _ => g₄.2.before kk⟩
theorem pe_shift (S : Sys W T fad cs k) {r : X} (hr : PE W T cs k r) : PE W T cs k (.shift r) := by
  intro kd e σ v hc hv env m s A hE hR so
  simp only [chk] at hc
  split at hc <;> first | (cases hc; done) | skip
  simp only [Bool.and_eq_true] at hc
  obtain ⟨⟨h1, h2⟩, h3⟩ := hc
  obtain ⟨rfl, hk, hd⟩ := gname_ok h1
  simp only [ev, Option.bind_eq_some_iff] at hv
  obtain ⟨a, ha, hv⟩ := hv
  split at hv <;> first | (cases hv; done) | skip
  rename_i x
  obtain ⟨ad, es, n, hn, hl, hK, hlook⟩ := S.sh
  obtain ⟨mv, he, hrep⟩ := hlook _ _ hv
  refine Subscript_ (name_glob hE hk hd so.ok hn (wpF (hr kd _ σ _ h2 ha env m s A hE hR so) fun mb s₂ g₂ => ?_))
  obtain ⟨t, rfl⟩ := g₂.1.1.isStr
  have ok₂ := so.ok.keeps (kHeap g₂.1.2)
  have hm := mapOf_K (prog := W.prog) ok₂.inK hl hK
  exact tail_any hm.typeIs slot_dict_getitem.lookup (wpAny_getItem_of (strKind_is W.prog W.w x t) hm (find_K hl he) (post_of rfl ⟨hrep _ ok₂, kTrans g₂.1.2 (kToks _)⟩)) (sub_plain h3 _ _)
theorem pe_call (S : Sys W T fad cs k) {f : Nat} {xs : List X} (hx : PL W T cs k xs) : PE W T cs k (.call f xs) := by
  intro kd e σ v hc hv env m s A hE hR so
  simp only [chk] at hc
  split at hc <;> first | (cases hc; done) | skip
  simp only [Bool.and_eq_true] at hc
  obtain ⟨h1, h2⟩ := hc
  split at h1 <;> first | (cases h1; done) | skip
  rename_i n hf
  obtain ⟨rfl, hk, hd⟩ := gname_ok h1
  simp only [ev, Option.bind_eq_some_iff] at hv
  obtain ⟨vs, hvs, hv⟩ := hv
  obtain ⟨a, o, fd, hfa, hn, hl, hdat⟩ := S.fn f _ hf
  obtain ⟨hp, _⟩ := chkL_plain (env := env) h2
  refine Call_ (name_glob hE hk hd so.ok hn (callWith_def hdat (wpF (hx kd _ σ vs h2 hvs env m s A _ hE hR so) fun ms s₁ g₁ => ⟨(so.ok.keeps (kHeap g₁.2)).inK _ _ hl, ?_⟩) (star_plain hp _)))
  exact wpF (S.cs f vs v hv a hfa A s₁ ms hR (so.ok.keeps (kHeap g₁.2)) g₁.1) fun mv s₂ g₂ => post_of rfl (gKeeps g₁.2 g₂)
theorem pe_len (S : Sys W T fad cs k) {x : X} (hx : PE W T cs k x) : PE W T cs k (.len x) := by
  intro kd e σ v hc hv env m s A hE hR so
  simp only [chk] at hc
  split at hc <;> first | (cases hc; done) | skip
  simp only [Bool.and_eq_true] at hc
  obtain ⟨⟨h1, h2⟩, h3⟩ := hc
  obtain ⟨rfl, _⟩ := gname_ok h1
  simp only [ev, Option.bind_eq_some_iff] at hv
  obtain ⟨a, ha, hv⟩ := hv
  split at hv <;> first | (cases hv; done) | skip
  split at hv <;> first | (cases hv; done) | skip
  rename_i hi
  simp only [decide_eq_true_eq] at hi
  cases hv
  exact cb1 hE h1 so.ok (S.blt _ (by decide)) b_len (by decide) h3 (wpF (hx kd _ σ _ h2 ha env m s A hE hR so) fun ma s₁ g₁ => wpF (len_ok (E := Fal) hi g₁.1.1) fun mv s₂ g₂ => post_of rfl (gKeeps g₁.1.2 g₂))
theorem pe_toint (S : Sys W T fad cs k) {x : X} (hx : PE W T cs k x) : PE W T cs k (.toint x) := by
  intro kd e σ v hc hv env m s A hE hR so
  simp only [chk] at hc
  split at hc <;> first | (cases hc; done) | skip
  simp only [Bool.and_eq_true] at hc
  obtain ⟨⟨h1, h2⟩, h3⟩ := hc
  obtain ⟨rfl, _⟩ := gname_ok h1
  simp only [ev, Option.bind_eq_some_iff] at hv
  obtain ⟨a, ha, hv⟩ := hv
  split at hv <;> first | (cases hv; done) | skip
  · cases hv
    exact ct1 hE h1 so.ok (S.blt _ (by decide)) b_int (by decide) h3 (wpF (hx kd _ σ _ h2 ha env m s A hE hR so) fun ma s₁ g₁ => wpF (intI_ok (E := Fal) g₁.1.1) fun mv s₂ g₂ => post_of rfl (gKeeps g₁.1.2 g₂))
  · cases hv
    exact ct1 hE h1 so.ok (S.blt _ (by decide)) b_int (by decide) h3 (wpF (hx kd _ σ _ h2 ha env m s A hE hR so) fun ma s₁ g₁ => wpF (intB_ok (E := Fal) g₁.1.1) fun mv s₂ g₂ => post_of rfl (gKeeps g₁.1.2 g₂))
theorem pe_isint (S : Sys W T fad cs k) {x : X} (hx : PE W T cs k x) : PE W T cs k (.isint x) := by
  intro kd e σ v hc hv env m s A hE hR so
  simp only [chk] at hc
  split at hc <;> first | (cases hc; done) | skip
  simp only [Bool.and_eq_true] at hc
  obtain ⟨⟨⟨h1, h1'⟩, h2⟩, h3⟩ := hc
  obtain ⟨rfl, _⟩ := gname_ok h1
  obtain ⟨rfl, hk', hd'⟩ := gname_ok h1'
  simp only [ev, Option.bind_eq_some_iff] at hv
  obtain ⟨a, ha, hv⟩ := hv
  split at hv <;> first | (cases hv; done) | skip
  cases hv
  refine cb2 hE h1 so.ok (S.blt _ (by decide)) b_isi (by decide) h3 rfl (wpF (hx kd _ σ _ h2 ha env m s A hE hR so) fun ma s₁ g₁ => ?_)
  exact name_blt hE hk' hd' (so.ok.keeps (kHeap g₁.1.2)) (S.blt _ (by decide)) b_int (by decide) (wpF (isi_ok (E := Fal) g₁.1.1) fun mv s₂ g₂ => post_of rfl (gKeeps g₁.1.2 g₂))
theorem pe_divmod (S : Sys W T fad cs k) {x y : X} (hx : PE W T cs k x) (hy : PE W T cs k y) : PE W T cs k (.divmod x y) := by
  intro kd e σ v hc hv env m s A hE hR so
  simp only [chk] at hc
  split at hc <;> first | (cases hc; done) | skip
  simp only [Bool.and_eq_true] at hc
  obtain ⟨⟨⟨⟨h1, h2⟩, h3⟩, h4⟩, h5⟩ := hc
  obtain ⟨rfl, _⟩ := gname_ok h1
  simp only [ev, Option.bind_eq_some_iff] at hv
  obtain ⟨a, ha, b, hb, hv⟩ := hv
  split at hv <;> first | (cases hv; done) | skip
  split at hv <;> first | (cases hv; done) | skip
  rename_i hi
  cases hv
  exact cb2 hE h1 so.ok (S.blt _ (by decide)) b_divmod (by decide) h3 h5 (wpF (hx kd _ σ _ h2 ha env m s A hE hR so) fun ma s₁ g₁ => wpF (hy kd _ σ _ h4 hb env m s₁ A hE hR (so.keeps g₁.1.2)) fun mb s₂ g₂ =>
    wpF (divmod_ok (E := Fal) hi (g₁.1.1.keeps (kHeap g₂.1.2)) g₂.1.1) fun mv s₃ g₃ => post_of rfl (gKeeps (kTrans g₁.1.2 g₂.1.2) g₃))
theorem pe_min (S : Sys W T fad cs k) {x y : X} (hx : PE W T cs k x) (hy : PE W T cs k y) : PE W T cs k (.min x y) := by
  intro kd e σ v hc hv env m s A hE hR so
  simp only [chk] at hc
  split at hc <;> first | (cases hc; done) | skip
  simp only [Bool.and_eq_true] at hc
  obtain ⟨⟨⟨⟨h1, h2⟩, h3⟩, h4⟩, h5⟩ := hc
  obtain ⟨rfl, _⟩ := gname_ok h1
  simp only [ev, Option.bind_eq_some_iff] at hv
  obtain ⟨a, ha, b, hb, hv⟩ := hv
  split at hv <;> first | (cases hv; done) | skip
  cases hv
  exact cb2 hE h1 so.ok (S.blt _ (by decide)) b_min (by decide) h3 h5 (wpF (hx kd _ σ _ h2 ha env m s A hE hR so) fun ma s₁ g₁ => wpF (hy kd _ σ _ h4 hb env m s₁ A hE hR (so.keeps g₁.1.2)) fun mb s₂ g₂ =>
    wpF (min_ok (E := Fal) hR.handled (g₁.1.1.keeps (kHeap g₂.1.2)) g₂.1.1) fun mv s₃ g₃ => post_of rfl (gKeeps (kTrans g₁.1.2 g₂.1.2) g₃))
theorem pe_all (S : Sys W T fad cs k) {x : X} (hx : PE W T cs k x) : PE W T cs k (.all x) := by
  intro kd e σ v hc hv env m s A hE hR so
  simp only [chk] at hc
  split at hc <;> first | (cases hc; done) | skip
  simp only [Bool.and_eq_true] at hc
  obtain ⟨⟨h1, h2⟩, h3⟩ := hc
  obtain ⟨rfl, _⟩ := gname_ok h1
  simp only [ev, Option.bind_eq_some_iff] at hv
  obtain ⟨a, ha, hv⟩ := hv
  split at hv <;> first | (cases hv; done) | skip
  split at hv <;> first | (cases hv; done) | skip
  simp only [Option.map_eq_some_iff] at hv
  obtain ⟨bs, hbs, rfl⟩ := hv
  exact cb1 hE h1 so.ok (S.blt _ (by decide)) b_all (by decide) h3 (wpF (hx kd _ σ _ h2 ha env m s A hE hR so) fun ma s₁ g₁ => wpF (all_ok (E := Fal) hR.handled hbs g₁.1.1) fun mv s₂ g₂ => post_of rfl (gKeeps g₁.1.2 g₂))
end
end Mine

end
section -- M13
open PySem PySem.Calls PySem.W PyProof.Rows
set_option maxRecDepth 10000
namespace Mine

theorem mapO_get {f : V → Option V} : ∀ {items outs : List V}, mapO f items = some outs → outs.length = items.length ∧ ∀ (j : Nat) (z y : V), items[j]? = some z → outs[j]? = some y → f z = some y
  | [], outs, h => by simp only [mapO, Option.some.injEq] at h; subst h; exact ⟨rfl, fun j z y hz => by simp at hz⟩
  | x :: r, outs, h => by
    simp only [mapO, Option.bind_eq_some_iff, Option.map_eq_some_iff] at h
    obtain ⟨a, ha, r', hr, rfl⟩ := h
    obtain ⟨h1, h2⟩ := mapO_get hr
    refine ⟨by simp [h1], fun j z y hz hy => ?_⟩
    cases j with
    | zero => simp at hz hy; subst hz; subst hy; exact ha
    | succ j => exact h2 j z y (by simpa using hz) (by simpa using hy)

theorem rangeOf_len {as items : List V} (h : rangeOf as = some items) : items.length ≤ 2000000 := by
  unfold rangeOf at h
  split at h
  · split at h
    · rename_i hs; cases h; have := smallR_ok hs; rw [rangeUp_len]; omega
    · cases h
  · split at h
    · rename_i hs; cases h; have := smallR_ok hs; rw [rangeUp_len]; omega
    · cases h
  · split at h
    · rename_i hs; cases h
      simp only [Bool.and_eq_true] at hs
      have := smallR_ok hs.2; rw [rangeDown_len]; omega
    · cases h
  · cases h

theorem itemsOf_len {a : V} {items : List V} (h : itemsOf a = some items) : items.length ≤ sizeLine := by
  rw [sizeLine_eq]
  unfold itemsOf at h
  split at h
  · split at h
    · rename_i hs; cases h; simp only [decide_eq_true_eq] at hs; omega
    · cases h
  · split at h
    · rename_i hs; cases h
      simp only [Bool.and_eq_true, decide_eq_true_eq] at hs
      simp only [List.length_map, Array.length_toList]; omega
    · cases h
  · cases h

theorem src_items {prog : Program} {w : World} {A : Around} {E : Value → Shared → Prop} {s : Shared} {ma : Value} {a : V} {items : List V} (h : itemsOf a = some items) (ra : Rep s.heap.get? ma a) :
    wpAny (model prog w) A (pyIter ma) (fun it s₂ => Src prog w s true items it s₂) E s := by
  unfold itemsOf at h
  split at h
  · split at h
    · cases h; exact src_list ra
    · cases h
  · split at h
    · rename_i hs; cases h
      simp only [Bool.and_eq_true] at hs
      exact wpAny_mono (src_str hs.1 ra) (fun _ _ h => h.up) fun _ _ x => x
    · cases h
  · cases h

section
variable {W : Wd} {T : Tb} {fad : List Addr} {cs : Nat → List V → Option V} {k : Nat}

theorem pe_bits {x : X} (hx : PE W T cs k x) : PE W T cs k (.bits x) := by
  intro kd e σ v hc hv env m s A hE hR so
  simp only [chk] at hc
  split at hc <;> first | (cases hc; done) | skip
  rename_i x' at' ap p
  simp only [Bool.and_eq_true, beq_iff_eq] at hc
  obtain ⟨⟨⟨rfl, h1⟩, h2⟩, h3⟩ := hc
  simp only [ev, Option.bind_eq_some_iff] at hv
  obtain ⟨a, ha, hv⟩ := hv
  split at hv <;> first | (cases hv; done) | skip
  cases hv
  have e1 : eval (.Call (.Attribute x' (Str.ofString "bit_length") ap) [] [] p) env = (do
      let ov ← attributeBase x' (Str.ofString "bit_length") env (eval x' env)
      standAt ap.atName
      methodCall x' (Str.ofString "bit_length") ap p env ov 0 (backTo p (starEach [] env)) []) := rfl
  rw [e1, base_plain h3]
  refine wpAny_bind (wpF (hx kd _ σ _ h2 ha env m s A hE hR so) fun ma s₁ g₁ => wpAny_bind (wpAny_standAt ?_))
  have e2 : methodCallPos true x' env ap p = pure p := by
    unfold methodCallPos
    rw [if_pos]
    simp [h1]
  unfold methodCall
  refine wpAny_bind (wpAny_holding (wpAny_mono (bits_ok g₁.1.1) (fun fx s₂ h₂ => ?_) fun _ _ x => x))
  obtain ⟨rfl, rfl⟩ := h₂
  dsimp only
  rw [show methodCallPos (methodCallForm 0 (backTo p (starEach [] env)) []) x' env ap p = pure p from e2]
  refine wpAny_bind (wpAny_pure ?_)
  exact callWith_method0 (wpF (callBits_ok (E := Fal) g₁.1.1) fun mv s₂ g₂ => post_of rfl (gKeeps g₁.1.2 g₂))

theorem elt_ok (S : Sys W T fad cs k) {elt : X} (helt : PE W T cs k elt) {kd : Kd} {e : Expr} {σ : List V} {env : Env} {m : PySem.Str → Option Value} {s : Shared} {A : Around} {sc : Scope} {x : PySem.Str} {i : Nat} {items outs : List V}
    (hE : EnvOK env kd) (hR : Room A k) (so : SO W T.nm env m σ s) (hi : T.nm[i]? = some x) (hco : CompOk T.nm kd x sc) (hce : chk T elt (kdIn kd sc) e = true) (hmap : mapO (fun v => ev T.gt T.sh cs elt (σ.set i v)) items = some outs)
    (s₁ : Shared) (C : Addr) (j : Nat) (v : Value) (s₃ : Shared) (m₃ : PySem.Str → Option Value) (y z : V) (k1 : Keeps s s₁) (hz : items[j]? = some z) (hy : outs[j]? = some y) (hr : Rep s₁.heap.get? v z) (_ : s₁.heap.get? C = none)
    (hn : s₃.heap.Ns C m₃) (hm : m₃ x = some v) (hk : ∀ b o, s₁.heap.get? b = some o → s₃.heap.get? b = some o) : wpAny W.M A (eval e (compEnvC sc (clOf env sc.names []) C env)) (Gives s₃ y) Fal s₃ := by
  have hev := (mapO_get hmap).2 j z y hz hy
  obtain ⟨_, hE', _⟩ := envOK_comp hE hco C
  exact wpF (helt _ e _ y hce hev _ m₃ s₃ A hE' hR (so_comp S.nd hE hco hi (so.keeps k1) hk hn hm (hr.keeps hk))) fun _ _ h => h.1

theorem pe_comp (S : Sys W T fad cs k) {elt it : X} {i : Nat} (helt : PE W T cs k elt) (hit : PE W T cs k it) : PE W T cs k (.comp elt i it) := by
  intro kd e σ v hc hv env m s A hE hR so
  simp only [chk] at hc
  split at hc <;> first | (cases hc; done) | skip
  simp only [Bool.and_eq_true, beq_iff_eq] at hc
  obtain ⟨⟨⟨⟨h1, h2⟩, h3⟩, h4⟩, h5⟩ := hc
  simp only [ev, Option.bind_eq_some_iff] at hv
  obtain ⟨a, ha, items, hitems, outs, houts, hv⟩ := hv
  split at hv <;> first | (cases hv; done) | skip
  rename_i hflat
  cases hv
  have hco := compOk_ok h2
  obtain ⟨hclos, _, _⟩ := envOK_comp hE hco 0
  refine wpF (comp_eval hR.handled (mapO_get houts).1 (itemsOf_len hitems) hflat hclos hco.cell hco.kind hco.names hco.hx (fold_plain h4)
    (wpF (hit kd _ σ a h3 ha env m s A hE hR so) fun ma s₁ g₁ => ⟨g₁.1.2, src_items hitems g₁.1.1⟩)
    (elt_ok S helt hE hR so h1 hco h5 houts)) fun mv s' g => ⟨g.1, fun _ => g.2⟩

theorem call_range_ok (S : Sys W T fad cs k) {xs : List X} (hx : PL W T cs k xs) {kd : Kd} {σ : List V} {as items : List V} {env : Env} {m : PySem.Str → Option Value} {s : Shared} {A : Around} {id : PySem.Str} {p pos : Pos} {e : Expr} {es : List Expr}
    (hg : gname kd "range" id = true) (hc : chkL T xs kd (e :: es) = true) (hv : evs T.gt T.sh cs xs σ = some as) (hr : rangeOf as = some items) (hE : EnvOK env kd) (hR : Room A k) (so : SO W T.nm env m σ s) :
    wpAny W.M A (eval (.Call (.Name id p) (e :: es) [] pos) env) (fun xv s₁ => Keeps s s₁ ∧ wpAny W.M A (pyIter xv) (fun it s₂ => Src W.prog W.w s₁ false items it s₂) Fal s₁) Fal s := by
  obtain ⟨rfl, hk, hd⟩ := gname_ok hg
  obtain ⟨hp, hany⟩ := chkL_plain (env := env) hc
  refine Call_ (name_blt hE hk hd so.ok (S.blt _ (by decide)) b_range (by decide) (Pv.callWith_type1 (wpF (hx kd _ σ as hc hv env m s A _ hE hR so) fun ms s₁ g₁ => ?_) (star_plain hp es) (hany _)))
  exact wpF (src_range (E := Fal) hr g₁.1) fun rv s₂ h₂ => ⟨kTrans g₁.2 h₂.1, h₂.2⟩

theorem pe_compR (S : Sys W T fad cs k) {elt : X} {xs : List X} {i : Nat} (helt : PE W T cs k elt) (hx : PL W T cs k xs) : PE W T cs k (.compR elt i xs) := by
  intro kd e σ v hc hv env m s A hE hR so
  simp only [chk] at hc
  split at hc <;> first | (cases hc; done) | skip
  simp only [Bool.and_eq_true, beq_iff_eq] at hc
  obtain ⟨⟨⟨⟨h1, h2⟩, h3⟩, h4⟩, h5⟩ := hc
  simp only [ev, Option.bind_eq_some_iff] at hv
  obtain ⟨as, has, items, hitems, outs, houts, hv⟩ := hv
  split at hv <;> first | (cases hv; done) | skip
  rename_i hflat
  cases hv
  have hco := compOk_ok h2
  obtain ⟨hclos, _, _⟩ := envOK_comp hE hco 0
  refine wpF (comp_eval hR.handled (mapO_get houts).1 (by have := rangeOf_len hitems; rw [sizeLine_eq]; omega) hflat hclos hco.cell hco.kind hco.names hco.hx (fun _ => rfl)
    (wpF (call_range_ok S hx h3 h4 has hitems hE hR so) fun _ _ h => ⟨h.1, wpF h.2 fun _ _ g => g.up⟩)
    (elt_ok S helt hE hR so h1 hco h5 houts)) fun mv s' g => ⟨g.1, fun _ => g.2⟩

end
end Mine

end
section -- M14
open PySem PySem.Calls PySem.W PyProof.Rows
set_option maxRecDepth 10000
namespace Mine

section
variable {W : Wd} {T : Tb} {fad : List Addr} {cs : Nat → List V → Option V} {k : Nat}

theorem pb_all (S : Sys W T fad cs k) : ∀ x, PB W T cs k x := by
  intro x
  refine X.rec (motive_1 := fun x => PB W T cs k x) (motive_2 := fun xs => PL W T cs k xs) ?_ ?_ ?_ ?_ ?_ ?_ ?_ ?_ ?_ ?_ ?_ ?_ ?_ ?_ ?_ ?_ ?_ ?_ ?_ ?_ ?_ ?_ ?_ ?_ ?_ ?_ ?_ ?_ ?_ ?_ ?_ ?_ x
  · exact pb_plain (by intro kd e h; simp only [chk] at h; split at h <;> first | rfl | cases h) pe_none
  · exact fun b => pb_plain (by intro kd e h; simp only [chk] at h; split at h <;> first | rfl | cases h) (pe_bool b)
  · exact fun b => pb_plain (by intro kd e h; simp only [chk] at h; split at h <;> first | rfl | cases h) (pe_int b)
  · exact fun b => pb_plain (by intro kd e h; simp only [chk] at h; split at h <;> first | rfl | cases h) (pe_str b)
  · exact fun b => pb_plain (by intro kd e h; simp only [chk] at h; split at h <;> first | rfl | cases h) (pe_var b)
  · exact fun b => pb_plain (by intro kd e h; simp only [chk] at h; split at h <;> first | rfl | cases h) (pe_glo S b)
  · exact fun op l r hl hr => pb_plain (by intro kd e h; simp only [chk] at h; split at h <;> first | rfl | cases h) (pe_bin hl.1 hr.1)
  · exact fun x hx => pb_plain (by intro kd e h; simp only [chk] at h; split at h <;> first | rfl | cases h) (pe_neg hx.1)
  · exact fun x hx => pb_not hx
  · exact fun x hx => pb_one hx
  · exact fun l r hl hr => pb_and hl hr
  · exact fun l r hl hr => pb_or hl hr
  · exact fun op l r hl hr => pb_cmp hl.1 hr.1
  · exact fun c a b hc ha hb => pb_ite hc ha hb
  · exact fun xs h => pb_plain (by intro kd e h; simp only [chk] at h; split at h <;> first | rfl | cases h) (pe_tup h)
  · exact fun xs h => pb_plain (by intro kd e h; simp only [chk] at h; split at h <;> first | rfl | cases h) (pe_lst h)
  · exact fun l r hl hr => pb_plain (by intro kd e h; simp only [chk] at h; split at h <;> first | rfl | cases h) (pe_rept hl.1 hr.1)
  · exact fun l r hl hr => pb_plain (by intro kd e h; simp only [chk] at h; split at h <;> first | rfl | cases h) (pe_idx hl.1 hr.1)
  · exact fun l r hl hr => pb_plain (by intro kd e h; simp only [chk] at h; split at h <;> first | rfl | cases h) (pe_upto hl.1 hr.1)
  · exact fun r hr => pb_plain (by intro kd e h; simp only [chk] at h; split at h <;> first | rfl | cases h) (pe_shift S hr.1)
  · exact fun f xs h => pb_plain (by intro kd e h; simp only [chk] at h; split at h <;> first | rfl | cases h) (pe_call S h)
  · exact fun r hr => pb_plain (by intro kd e h; simp only [chk] at h; split at h <;> first | rfl | cases h) (pe_len S hr.1)
  · exact fun r hr => pb_plain (by intro kd e h; simp only [chk] at h; split at h <;> first | rfl | cases h) (pe_toint S hr.1)
  · exact fun r hr => pb_plain (by intro kd e h; simp only [chk] at h; split at h <;> first | rfl | cases h) (pe_isint S hr.1)
  · exact fun l r hl hr => pb_plain (by intro kd e h; simp only [chk] at h; split at h <;> first | rfl | cases h) (pe_divmod S hl.1 hr.1)
  · exact fun l r hl hr => pb_plain (by intro kd e h; simp only [chk] at h; split at h <;> first | rfl | cases h) (pe_min S hl.1 hr.1)
  · exact fun r hr => pb_plain (by intro kd e h; simp only [chk] at h; split at h <;> first | rfl | cases h) (pe_all S hr.1)
  · exact fun r hr => pb_plain (by intro kd e h; simp only [chk] at h; split at h <;> first | rfl | cases h) (pe_bits hr.1)
  · exact fun elt i it he hi => pb_plain (by intro kd e h; simp only [chk] at h; split at h <;> first | rfl | cases h) (pe_comp S he.1 hi.1)
  · exact fun elt i xs he hx => pb_plain (by intro kd e h; simp only [chk] at h; split at h <;> first | rfl | cases h) (pe_compR S he.1 hx)
  · exact pl_nil
  · exact fun x xs hx hxs => pl_cons hx.1 hxs
theorem pl_all (S : Sys W T fad cs k) : ∀ xs, PL W T cs k xs
  | [] => pl_nil
  | x :: xs => pl_cons (pb_all S x).1 (pl_all S xs)
end
end Mine

end
section -- M15
open PySem PySem.Calls PySem.W PyProof.Rows
set_option maxRecDepth 10000
namespace Mine

structure OwnAt (nm : List PySem.Str) (env : Env) (h₀ : Heap) (fz : List (Addr × Obj)) (m : PySem.Str → Option Value) (σ : List V) (h : Heap) (i : Nat) (pl : Bool)
    (x : PySem.Str) (a : Addr) (o : Obj) (items : Array Value) (n : Nat) (vs : List V) : Prop where
  hx : nm[i]? = some x
  kind : env.kindOf x = some .local
  at' : m x = some (.ref a)
  get : h.get? a = some o
  cls : o.cls = .type "list"
  data : o.data = .seq items n
  plain : pl = true → o.dict = none ∧ o.slots = #[]
  new : h₀.get? a = none
  off : ∀ p ∈ fz, p.1 ≠ a
  val : σ[i]? = some (.lst vs)
  rep : RepL (minus h.get? a) items.toList vs
  rest : RS nm env (minus h.get? a) m (σ.set i .undef)

noncomputable def OwnI (nm : List PySem.Str) (env : Env) (h₀ : Heap) (fz : List (Addr × Obj)) (m : PySem.Str → Option Value) (σ : List V) (h : Heap) (ow : Ow) : Prop :=
  ∀ i pl, ow = some (i, pl) → ∃ x a o items n vs, OwnAt nm env h₀ fz m σ h i pl x a o items n vs

structure FI (nm : List PySem.Str) (env : Env) (h₀ : Heap) (fz : List (Addr × Obj)) (m : PySem.Str → Option Value) (σ : List V) (ow : Ow) (h : Heap) : Prop where
  F : Fr h₀ env.locals h m
  N : News h₀ env.locals h fz
  rs : RS nm env h.get? m σ
  cells : ∀ (x : PySem.Str) (c : Addr), env.cells.lookup x = some c → (∃ v, h.IsCell c v) ∧ h₀.get? c = none ∧ ∀ p ∈ fz, p.1 ≠ c
  apart : ∀ (x y : PySem.Str) (c : Addr), env.cells.lookup x = some c → env.cells.lookup y = some c → x = y
  own : OwnI nm env h₀ fz m σ h ow
  len : σ.length = nm.length

section
variable {nm : List PySem.Str} {env : Env} {h₀ h h' : Heap} {fz : List (Addr × Obj)} {m : PySem.Str → Option Value} {σ : List V} {ow : Ow}

theorem minus_keeps (hk : ∀ b o, h.get? b = some o → h'.get? b = some o) (a : Addr) : ∀ b o, minus h.get? a b = some o → minus h'.get? a b = some o := by
  intro b o e
  unfold minus at e ⊢
  split at e
  · cases e
  · rename_i hb; rw [if_neg hb]; exact hk _ _ e

theorem FI.keeps (x : FI nm env h₀ fz m σ ow h) (hk : ∀ b o, h.get? b = some o → h'.get? b = some o) : FI nm env h₀ fz m σ ow h' where
  F := x.F.grownK hk
  N := fun p hp => ⟨hk _ _ (x.N p hp).1, (x.N p hp).2⟩
  rs := x.rs.mono hk
  cells := fun n c hc => let ⟨⟨v, hv⟩, r⟩ := x.cells n c hc; ⟨⟨v, hv.keeps hk⟩, r⟩
  apart := x.apart
  own := fun i pl e => by
    obtain ⟨y, a, o, items, n, vs, q⟩ := x.own i pl e
    exact ⟨y, a, o, items, n, vs, ⟨q.hx, q.kind, q.at', hk _ _ q.get, q.cls, q.data, q.plain, q.new, q.off, q.val, q.rep.mono fun b o e _ => minus_keeps hk a b o e, q.rest.mono (minus_keeps hk a)⟩⟩
  len := x.len

theorem FI.disown (x : FI nm env h₀ fz m σ ow h) : FI nm env h₀ fz m σ Option.none h := ⟨x.F, x.N, x.rs, x.cells, x.apart, fun _ _ e => (by cases e), x.len⟩

theorem FI.so {W : Wd} {s : Shared} (x : FI nm env h₀ fz m σ ow s.heap) (ok : W.OK h₀) : SO W nm env m σ s := ⟨x.F.ns, x.rs, ok.keeps x.F.keep⟩

theorem get_set_self {i : Nat} {v w : V} (h : (σ.set i v)[i]? = some w) : v = w := by
  rw [List.getElem?_set] at h
  simp only [if_true] at h
  split at h
  · exact Option.some.inj h
  · cases h

/-- a part of a heap: what holds of it where a name's value is stored -/
theorem RS.store_local {g g' : Part} {i : Nat} {x : PySem.Str} {mv : Value} {v : V} (hnd : nm.Nodup) (r : RS nm env g m σ) (hx : nm[i]? = some x) (hk : env.kindOf x = some .local) (hr : Rep g mv v)
    (hL : ∀ o, g env.locals = some o → (∀ xs n, o.data ≠ .seq xs n) ∧ ∀ w, o.data ≠ .cell w) (hg : ∀ b o, b ≠ env.locals → g b = some o → g' b = some o) :
    RS nm env g' (fun y => if y = x then some mv else m y) (σ.set i v) ∧ Rep g' mv v := by
  have up : ∀ b o, g b = some o → (∃ xs n, o.data = .seq xs n) → g' b = some o := fun b o e hs => hg b o (by rintro rfl; obtain ⟨xs, n, hs⟩ := hs; exact (hL o e).1 xs n hs) e
  refine ⟨⟨?_, ?_⟩, hr.mono up⟩
  · intro j y w hj hw hu hl
    by_cases hij : i = j
    · subst hij
      rw [hx] at hj; cases hj
      obtain rfl := get_set_self hw
      exact ⟨mv, by simp, hr.mono up⟩
    · rw [List.getElem?_set_ne hij] at hw
      obtain ⟨mw, e, q⟩ := r.loc j y w hj hw hu hl
      have hne : y ≠ x := by rintro rfl; exact hij (nodup_idx hnd hx hj)
      exact ⟨mw, by rw [if_neg hne]; exact e, q.mono up⟩
  · intro j y w hj hw hu hc
    by_cases hij : i = j
    · subst hij
      rw [hx] at hj; cases hj
      rw [hk] at hc; rcases hc with e | e <;> cases e
    · rw [List.getElem?_set_ne hij] at hw
      obtain ⟨c, o, mw, e1, e2, e3, q⟩ := r.cel j y w hj hw hu hc
      exact ⟨c, o, mw, e1, hg c o (by rintro rfl; exact (hL o e2).2 _ e3) e2, e3, q.mono up⟩

theorem RS.store_cell {g g' : Part} {i : Nat} {x : PySem.Str} {mv : Value} {v : V} {c : Addr} {o' : Obj} (hnd : nm.Nodup) (r : RS nm env g m σ) (hx : nm[i]? = some x) (hk : env.kindOf x = some .cell) (hr : Rep g mv v)
    (hc : env.cells.lookup x = some c) (hap : ∀ y, env.cells.lookup y = some c → y = x) (hL : ∀ o, g c = some o → ∀ xs n, o.data ≠ .seq xs n) (hg : ∀ b o, b ≠ c → g b = some o → g' b = some o) (hc' : g' c = some o') (hd' : o'.data = .cell (some mv)) :
    RS nm env g' m (σ.set i v) ∧ Rep g' mv v := by
  have up : ∀ b o, g b = some o → (∃ xs n, o.data = .seq xs n) → g' b = some o := fun b o e hs => hg b o (by rintro rfl; obtain ⟨xs, n, hs⟩ := hs; exact hL o e xs n hs) e
  refine ⟨⟨?_, ?_⟩, hr.mono up⟩
  · intro j y w hj hw hu hl
    by_cases hij : i = j
    · subst hij
      rw [hx] at hj; cases hj
      rw [hk] at hl; cases hl
    · rw [List.getElem?_set_ne hij] at hw
      obtain ⟨mw, e, q⟩ := r.loc j y w hj hw hu hl
      exact ⟨mw, e, q.mono up⟩
  · intro j y w hj hw hu hcl
    by_cases hij : i = j
    · subst hij
      rw [hx] at hj; cases hj
      obtain rfl := get_set_self hw
      exact ⟨c, o', mv, hc, hc', hd', hr.mono up⟩
    · rw [List.getElem?_set_ne hij] at hw
      obtain ⟨c₂, o, mw, e1, e2, e3, q⟩ := r.cel j y w hj hw hu hcl
      have hne : c₂ ≠ c := by
        rintro rfl
        have := hap y e1
        subst this
        exact hij (nodup_idx hnd hx hj)
      exact ⟨c₂, o, mw, e1, hg c₂ o hne e2, e3, q.mono up⟩

theorem ns_data {L : Addr} (hn : h.Ns L m) {o : Obj} (e : h.get? L = some o) : (∀ xs n, o.data ≠ .seq xs n) ∧ ∀ w, o.data ≠ .cell w := by
  obtain ⟨o', es, ep, ho', hd', _⟩ := hn
  rw [ho'] at e; cases e
  exact ⟨fun xs n hx => by (rw [hd'] at hx; cases hx), fun w hx => by (rw [hd'] at hx; cases hx)⟩

/-- how the owned list stands after a store of v under name i -/
inductive OwS (nm : List PySem.Str) (env : Env) (h₀ : Heap) (fz : List (Addr × Obj)) (m : PySem.Str → Option Value) (σ : List V) (h : Heap) (i : Nat) (mv : Value) (v : V) (ow : Ow) : Ow → Prop
  | none : OwS nm env h₀ fz m σ h i mv v ow Option.none
  | other (j : Nat) (pl : Bool) : j ≠ i → ow = some (j, pl) → flat v = true → OwS nm env h₀ fz m σ h i mv v ow (some (j, pl))
  | fresh (x : PySem.Str) (a : Addr) (o : Obj) (items : Array Value) (n : Nat) (vs : List V) : nm[i]? = some x → env.kindOf x = some .local → mv = .ref a → v = .lst vs → h.get? a = some o → o.cls = .type "list" → o.data = .seq items n → o.dict = Option.none ∧ o.slots = #[] →
      h₀.get? a = Option.none → (∀ p ∈ fz, p.1 ≠ a) → RepL (minus h.get? a) items.toList vs → RS nm env (minus h.get? a) m σ → OwS nm env h₀ fz m σ h i mv v ow (some (i, true))

theorem set_undef_comm {i j : Nat} (h : j ≠ i) (v : V) : (σ.set i v).set j .undef = (σ.set j .undef).set i v := List.set_comm _ _ (Ne.symm h)

theorem store_ok {W : Wd} {A : Around} {s : Shared} {kd : Kd} {i : Nat} {x : PySem.Str} {mv : Value} {v : V} {ow' : Ow} (hnd : nm.Nodup) (hE : EnvOK env kd) (x0 : FI nm env h₀ fz m σ ow s.heap)
    (hx : nm[i]? = some x) (hk : kd x = some .local ∨ kd x = some .cell) (hr : Rep s.heap.get? mv v) (ho : OwS nm env h₀ fz m σ s.heap i mv v ow ow') :
    wpAny W.M A (storeName env x mv) (fun _ s' => ∃ h' tk m', s' = { s with heap := h', toks := tk } ∧ FI nm env h₀ fz m' (σ.set i v) ow' h' ∧ (∀ b o, s.heap.get? b = some o → (∃ xs n, o.data = .seq xs n) → h'.get? b = some o) ∧
      (∀ C mC, s.heap.Ns C mC → C ≠ env.locals → h'.Ns C mC) ∧ (∀ b o, s.heap.get? b = some o → (∀ w, o.data ≠ .cell w) → b ≠ env.locals → h'.get? b = some o)) Fal s := by
  have hflat : ∀ {j : Nat} {pl : Bool} {y : PySem.Str} {a : Addr} {o : Obj} {items : Array Value} {n : Nat} {vs : List V}, OwnAt nm env h₀ fz m σ s.heap j pl y a o items n vs → flat v = true → Rep (minus s.heap.get? a) mv v :=
    fun q hf => hr.avoid q.get q.cls hf
  rcases hk with hk | hk
  · have hk' : env.kindOf x = some .local := (hE.kdEq x).trans hk
    refine wpAny_storeName_local hk' x0.F.ns (fun h' hn hs => ?_) (by rw [hE.kind]; rfl)
    have hL : ∀ o, s.heap.get? env.locals = some o → (∀ xs n, o.data ≠ .seq xs n) ∧ ∀ w, o.data ≠ .cell w := fun o e => ns_data x0.F.ns e
    have hg : ∀ b o, b ≠ env.locals → s.heap.get? b = some o → h'.get? b = some o := fun b o hb e => hs.extBut b o hb e
    have hL' : ∀ (a : Addr) (o : Obj), minus s.heap.get? a env.locals = some o → (∀ xs n, o.data ≠ .seq xs n) ∧ ∀ w, o.data ≠ .cell w := by
      intro a o e
      unfold minus at e
      split at e
      · cases e
      · exact hL o e
    have hg' : ∀ (a b : Addr) (o : Obj), b ≠ env.locals → minus s.heap.get? a b = some o → minus h'.get? a b = some o := by
      intro a b o hb e
      unfold minus at e ⊢
      split at e
      · cases e
      · rename_i hne; rw [if_neg hne]; exact hg b o hb e
    have cellNe : ∀ c w, s.heap.IsCell c w → c ≠ env.locals := by
      rintro c w ⟨o, ho, hd⟩ rfl
      exact (hL o ho).2 _ hd
    have listNe : ∀ a o, s.heap.get? a = some o → (∃ xs n, o.data = .seq xs n) → a ≠ env.locals := by
      rintro a o ho ⟨xs, n, hd⟩ rfl
      exact (hL o ho).1 _ _ hd
    refine ⟨h', s.toks + 1, _, rfl, ⟨x0.F.set hn hs, x0.N.set hs, (x0.rs.store_local hnd hx hk' hr hL hg).1, fun y c hc => ?_, x0.apart, ?_, by rw [List.length_set]; exact x0.len⟩, fun b o e hseq => hg b o (listNe b o e hseq) e, fun C mC hC hne => hC.sameBut hs hne, fun b o e _ hb => hg b o hb e⟩
    · obtain ⟨⟨w, hw⟩, r⟩ := x0.cells y c hc
      exact ⟨⟨w, hw.sameBut hs (cellNe c w hw)⟩, r⟩
    · intro j pl e
      cases ho with
      | none => cases e
      | other j' pl' hne how hf =>
        cases e
        obtain ⟨y, a, o, items, n, vs, q⟩ := x0.own j pl how
        have ha : a ≠ env.locals := listNe a o q.get ⟨_, _, q.data⟩
        have hyx : y ≠ x := by rintro rfl; exact hne (nodup_idx hnd q.hx hx)
        refine ⟨y, a, o, items, n, vs, ⟨q.hx, q.kind, by rw [if_neg hyx]; exact q.at', hg a o ha q.get, q.cls, q.data, q.plain, q.new, q.off, by rw [List.getElem?_set_ne (Ne.symm hne)]; exact q.val, ?_, ?_⟩⟩
        · exact q.rep.mono fun b o e hseq => hg' a b o (by rintro rfl; obtain ⟨xs, n, hd⟩ := hseq; exact (hL' a o e).1 _ _ hd) e
        · rw [set_undef_comm hne]
          exact (q.rest.store_local hnd hx hk' (hflat q hf) (hL' a) (hg' a)).1
      | fresh y a o items n vs hy hky hmv hv hget hcls hdata hdict hnew hoff hrep hrest =>
        cases e
        rw [hx] at hy; cases hy
        subst hmv
        subst hv
        have ha : a ≠ env.locals := listNe a o hget ⟨_, _, hdata⟩
        refine ⟨x, a, o, items, n, vs, ⟨hx, hky, by simp, hg a o ha hget, hcls, hdata, fun _ => hdict, hnew, hoff, by rw [List.getElem?_set_self (by rw [x0.len]; exact (List.getElem?_eq_some_iff.mp hx).1)], ?_, ?_⟩⟩
        · exact hrep.mono fun b o e hseq => hg' a b o (by rintro rfl; obtain ⟨xs, n, hd⟩ := hseq; exact (hL' a o e).1 _ _ hd) e
        · rw [List.set_set]
          -- the name itself is forgotten: any value that stands nowhere will do
          have h1 : RS nm env (minus h'.get? a) (fun z => if z = x then some Value.none else m z) (σ.set i V.none) := (hrest.store_local hnd hx hk' (mv := Value.none) (v := V.none) .none (hL' a) (hg' a)).1
          refine ⟨fun j y w hj hw hu hl => ?_, fun j y w hj hw hu hc => ?_⟩
          · have hij : i ≠ j := by rintro rfl; exact hu (get_set_self hw).symm
            rw [List.getElem?_set_ne hij] at hw
            obtain ⟨mw, e, q⟩ := h1.loc j y w hj (by rw [List.getElem?_set_ne hij]; exact hw) hu hl
            have hne : y ≠ x := by rintro rfl; exact hij (nodup_idx hnd hx hj)
            exact ⟨mw, by simpa [hne] using e, q⟩
          · have hij : i ≠ j := by rintro rfl; exact hu (get_set_self hw).symm
            rw [List.getElem?_set_ne hij] at hw
            exact h1.cel j y w hj (by rw [List.getElem?_set_ne hij]; exact hw) hu hc
  · have hk' : env.kindOf x = some .cell := (hE.kdEq x).trans hk
    obtain ⟨c, hc⟩ := hE.cells x (.inl hk)
    obtain ⟨⟨w, hw⟩, hc0, hcfz⟩ := x0.cells x c hc
    obtain ⟨oc, hoc, hdc⟩ := id hw
    have cne : c ≠ env.locals := by
      rintro rfl
      exact (ns_data x0.F.ns hoc).2 _ hdc
    refine wpAny_storeName_cell hE.kind hk' hc hw fun h' hcell hs => ?_
    obtain ⟨o', ho', hd'⟩ := hcell
    have hL : ∀ o, s.heap.get? c = some o → ∀ xs n, o.data ≠ .seq xs n := fun o e xs n hx => by rw [hoc] at e; cases e; rw [hdc] at hx; cases hx
    have hg : ∀ b o, b ≠ c → s.heap.get? b = some o → h'.get? b = some o := fun b o hb e => hs.extBut b o hb e
    have hap : ∀ y, env.cells.lookup y = some c → y = x := fun y hy => x0.apart y x c hy hc
    have listNe : ∀ a o, s.heap.get? a = some o → (∃ xs n, o.data = .seq xs n) → a ≠ c := by
      rintro a o ho ⟨xs, n, hd⟩ rfl
      exact hL o ho _ _ hd
    refine ⟨h', s.toks, m, rfl, ⟨⟨x0.F.ns.sameBut hs (Ne.symm cne), fun b o e => hg b o (by rintro rfl; rw [hc0] at e; cases e) (x0.F.keep b o e), x0.F.above⟩, fun p hp => ⟨hg _ _ (hcfz p hp) (x0.N p hp).1, (x0.N p hp).2⟩,
      (x0.rs.store_cell hnd hx hk' hr hc hap hL hg ho' hd').1, fun y c₂ hc₂ => ?_, x0.apart, ?_, by rw [List.length_set]; exact x0.len⟩, fun b o e hseq => hg b o (listNe b o e hseq) e, fun C mC hC hne => hC.sameBut hs ?_, fun b o e hcl hb => hg b o (by rintro rfl; rw [hoc] at e; cases e; exact hcl _ hdc) e⟩
    · by_cases he : c₂ = c
      · subst he; exact ⟨⟨_, o', ho', hd'⟩, hc0, hcfz⟩
      · obtain ⟨⟨w₂, hw₂⟩, r⟩ := x0.cells y c₂ hc₂
        exact ⟨⟨w₂, hw₂.sameBut hs he⟩, r⟩
    · intro j pl e
      cases ho with
      | none => cases e
      | other j' pl' hne how hf =>
        cases e
        obtain ⟨y, a, o, items, n, vs, q⟩ := x0.own j pl how
        have ha : a ≠ c := listNe a o q.get ⟨_, _, q.data⟩
        have hL' : ∀ (o : Obj), minus s.heap.get? a c = some o → ∀ xs n, o.data ≠ .seq xs n := by
          intro o e
          unfold minus at e
          split at e
          · cases e
          · exact hL o e
        have hg' : ∀ (b : Addr) (o : Obj), b ≠ c → minus s.heap.get? a b = some o → minus h'.get? a b = some o := by
          intro b o hb e
          unfold minus at e ⊢
          split at e
          · cases e
          · rename_i hne; rw [if_neg hne]; exact hg b o hb e
        have hcm : minus h'.get? a c = some o' := by unfold minus; rw [if_neg (Ne.symm ha)]; exact ho'
        refine ⟨y, a, o, items, n, vs, ⟨q.hx, q.kind, q.at', hg a o ha q.get, q.cls, q.data, q.plain, q.new, q.off, by rw [List.getElem?_set_ne (Ne.symm hne)]; exact q.val, ?_, ?_⟩⟩
        · exact q.rep.mono fun b o e hseq => hg' b o (by rintro rfl; obtain ⟨xs, n, hd⟩ := hseq; exact hL' o e _ _ hd) e
        · rw [set_undef_comm hne]
          exact (q.rest.store_cell hnd hx hk' (hflat q hf) hc hap hL' hg' hcm hd').1
      | fresh y a o items n vs hy hky =>
        rw [hx] at hy; cases hy
        rw [hk'] at hky; cases hky
    · rintro rfl
      exact (ns_data hC hoc).2 _ hdc
end
end Mine

end
section -- M16
open PySem PySem.Calls PySem.W PyProof.Rows
set_option maxRecDepth 10000
namespace Mine

noncomputable def notTup : Expr → Bool
  | .Tuple .. => false
  | _ => true
noncomputable def chkNames (nm : List PySem.Str) (kd : Kd) : List Nat → List Expr → Bool
  | [], [] => true
  | i :: is, .Name id _ :: es => nm[i]? == some id && (kd id == some .local || kd id == some .cell) && chkNames nm kd is es
  | _, _ => false
noncomputable def isLoc (kd : Kd) : Expr → Bool
  | .Name id _ => kd id == some .local
  | _ => false
noncomputable def lineOf : List Expr → Nat
  | e :: _ => e.pos.line
  | [] => 0
noncomputable def onLine (n : Nat) : Expr → Bool
  | .Name _ p => p.line == n
  | _ => false
noncomputable def nameOf : Expr → PySem.Str
  | .Name id _ => id
  | _ => Str.empty

section
variable (T : Tb)
mutual
noncomputable def chkS (st : S) (kd : Kd) (s : Stmt) : Bool :=
  match st with
  | .asg i e => match s with
    | .Assign [.Name id _] v _ => T.nm[i]? == some id && (kd id == some .local || (kd id == some .cell && !fresh e)) && notComp v && chk T e kd v
    | _ => false
  | .asgC i e => match s with
    | .Assign [.Name id p] (.ListComp elt' gs sc pos) _ => T.nm[i]? == some id && kd id == some .local && p.line == pos.line && !(sc.names.any fun (n, k) => n == id && (k == .local || k == .cell)) && chk T e kd (.ListComp elt' gs sc pos)
    | _ => false
  | .asgT is e => match s with
    | .Assign [.Tuple es _ _] v _ => notComp v && notTup v && chkNames T.nm kd is es && chk T e kd v
    | _ => false
  | .asgU is e => match s with
    | .Assign [.Tuple es _ _] v _ => notComp v && es.any (fun e => !isLoc kd e) && chkNames T.nm kd is es && chk T e kd v
    | _ => false
  | .asgW is e => match s with
    | .Assign [.Tuple es _ _] (.Tuple vs k p) _ => (es.length == 2 || es.length == 3) && vs.length == es.length && vs.all plainE && es.all (isLoc kd) && es.all (onLine (lineOf es)) && decide ((es.map nameOf).eraseDups.length = es.length) &&
        !vs.all (foldedForSure 8) && !vs.all (constantsAlone 8) && chkNames T.nm kd is es && chk T e kd (.Tuple vs k p)
    | _ => false
  | .aug i op e => match s with
    | .AugAssign (.Name id _) op' v _ => T.nm[i]? == some id && (kd id == some .local || kd id == some .cell) && id != ("__classdict__" : PySem.Str) && op == op' && chk T e kd v
    | _ => false
  | .setIdx i j e => match s with
    | .Assign [.Subscript (.Name id p) j' _] v _ => T.nm[i]? == some id && kd id == some .local && chk T (.var i) kd (.Name id p) && notComp v && chk T j kd j' && chk T e kd v
    | _ => false
  | .app i e => match s with
    | .Expr (.Call (.Attribute (.Name id p) at' ap) [v] [] pos) _ => T.nm[i]? == some id && kd id == some .local && chk T (.var i) kd (.Name id p) && at' == ("append" : PySem.Str) && ap.endLine == pos.line && plainE v && chk T e kd v
    | _ => false
  | .ite c a b => match s with
    | .If c' a' b' _ => chk T c kd c' && chkSs a kd a' && chkSs b kd b'
    | _ => false
  | .for_ i it body => match s with
    | .For (.Name id _) it' body' [] _ => T.nm[i]? == some id && kd id == some .local && plainE it' && chk T it kd it' && chkSs body kd body'
    | _ => false
  | .forR i xs body => match s with
    | .For (.Name id _) (.Call (.Name rid _) (a :: as) [] _) body' [] _ => T.nm[i]? == some id && kd id == some .local && gname kd "range" rid && chkL T xs kd (a :: as) && chkSs body kd body'
    | _ => false
  | .ret e => match s with
    | .Return (some e') _ => chk T e kd e'
    | _ => false
  | .asrt e => match s with
    | .Assert e' none _ => chk T e kd e'
    | _ => false
  | .bad => true
noncomputable def chkSs (ss : List S) (kd : Kd) (sts : List Stmt) : Bool :=
  match ss with
  | [] => match sts with
    | [] => true
    | _ => false
  | x :: xs => match sts with
    | [] => false
    | e :: es => chkS x kd e && chkSs xs kd es
end
end

/-- what a statement leaves -/
noncomputable def SP (nm : List PySem.Str) (env : Env) (h₀ : Heap) (fz : List (Addr × Obj)) (s : Shared) : R → Flow → Shared → Prop
  | .next σ ow, .next, s' => ∃ h' tk m, s' = { s with heap := h', toks := tk } ∧ FI nm env h₀ fz m σ ow h'
  | .ret v, .ret mv, s' => ∃ h' tk, s' = { s with heap := h', toks := tk } ∧ Rep h'.get? mv v ∧ ∀ b o, h₀.get? b = some o → h'.get? b = some o
  | _, _, _ => False

section
variable (W : Wd) (T : Tb) (cs : Nat → List V → Option V) (k : Nat)
noncomputable def PS (st : S) : Prop := ∀ (kd : Kd) (stm : Stmt) (σ : List V) (ow : Ow) (r : R), chkS T st kd stm = true → ex T.gt T.sh cs st σ ow = some r →
  ∀ (env : Env) (h₀ : Heap) (fz : List (Addr × Obj)) (m : PySem.Str → Option Value) (s : Shared) (A : Around), EnvOK env kd → Room A k → W.OK h₀ → FI T.nm env h₀ fz m σ ow s.heap → wpAny W.M A (exec stm env) (SP T.nm env h₀ fz s r) Fal s
noncomputable def PSs (st : List S) : Prop := ∀ (kd : Kd) (stm : List Stmt) (σ : List V) (ow : Ow) (r : R), chkSs T st kd stm = true → exs T.gt T.sh cs st σ ow = some r →
  ∀ (env : Env) (h₀ : Heap) (fz : List (Addr × Obj)) (m : PySem.Str → Option Value) (s : Shared) (A : Around), EnvOK env kd → Room A k → W.OK h₀ → FI T.nm env h₀ fz m σ ow s.heap → wpAny W.M A (execs stm env) (SP T.nm env h₀ fz s r) Fal s
end

section
variable {W : Wd} {T : Tb} {fad : List Addr} {cs : Nat → List V → Option V} {k : Nat} {env : Env} {h₀ : Heap} {fz : List (Addr × Obj)}

theorem SP.of {nm : List PySem.Str} {s s₁ : Shared} {r : R} {f : Flow} {s' : Shared} (k1 : ∃ h tk, s₁ = { s with heap := h, toks := tk }) (h : SP nm env h₀ fz s₁ r f s') : SP nm env h₀ fz s r f s' := by
  obtain ⟨h1, t1, rfl⟩ := k1
  cases r with
  | next σ ow => cases f with
    | next => obtain ⟨h', tk, m, rfl, x⟩ := h; exact ⟨h', tk, m, rfl, x⟩
    | _ => exact h.elim
  | ret v => cases f with
    | ret mv => obtain ⟨h', tk, rfl, x⟩ := h; exact ⟨h', tk, rfl, x⟩
    | _ => exact h.elim
theorem same_of {s s' : Shared} (k : Keeps s s') : ∃ h tk, s' = { s with heap := h, toks := tk } := by
  obtain ⟨h, tk, rfl, _⟩ := k; exact ⟨h, tk, rfl⟩

theorem ps_bad : PS W T cs k .bad := by
  intro kd stm σ ow r hc hv
  simp only [ex] at hv; cases hv
theorem ps_ret (S : Sys W T fad cs k) {e : X} : PS W T cs k (.ret e) := by
  intro kd stm σ ow r hc hv env h₀ fz m s A hE hR ok fi
  simp only [chkS] at hc
  split at hc <;> first | (cases hc; done) | skip
  simp only [ex, Option.map_eq_some_iff] at hv
  obtain ⟨v, hv, rfl⟩ := hv
  refine wpAny_Return_some (wpF ((pb_all S e).1 kd _ σ v hc hv env m s A hE hR (fi.so ok)) fun mv s' g => ?_)
  obtain ⟨⟨r, h', tk, rfl, hk⟩, _⟩ := g
  exact ⟨h', tk, rfl, r, fun b o e => hk b o (fi.F.keep b o e)⟩
theorem ps_asrt (S : Sys W T fad cs k) {e : X} : PS W T cs k (.asrt e) := by
  intro kd stm σ ow r hc hv env h₀ fz m s A hE hR ok fi
  simp only [chkS] at hc
  split at hc <;> first | (cases hc; done) | skip
  simp only [ex, Option.bind_eq_some_iff] at hv
  obtain ⟨v, hv, t, ht, hv'⟩ := hv
  split at hv' <;> first | (cases hv'; done) | skip
  rename_i htt
  cases hv'
  refine wpAny_Assert hR.handled (wpF ((pb_all S e).2 kd _ σ v t hc hv ht env m s A hE hR (fi.so ok)) fun c s' g => ?_)
  obtain ⟨rfl, h', tk, rfl, hk⟩ := g
  rw [if_pos htt]
  exact ⟨h', tk, m, rfl, fi.keeps hk⟩
theorem ps_ite (S : Sys W T fad cs k) {c : X} {a b : List Mine.S} (ha : PSs W T cs k a) (hb : PSs W T cs k b) : PS W T cs k (.ite c a b) := by
  intro kd stm σ ow r hc hv env h₀ fz m s A hE hR ok fi
  simp only [chkS] at hc
  split at hc <;> first | (cases hc; done) | skip
  simp only [Bool.and_eq_true] at hc
  simp only [ex, Option.bind_eq_some_iff] at hv
  obtain ⟨v, hv, t, ht, hv'⟩ := hv
  refine wpAny_If (wpF ((pb_all S c).2 kd _ σ v t hc.1.1 hv ht env m s A hE hR (fi.so ok)) fun c s' g => ?_)
  obtain ⟨rfl, kk⟩ := g
  cases c
  · rw [if_neg (by simp)] at hv' ⊢
    exact wpF (hb kd _ σ ow r hc.2 hv' env h₀ fz m s' A hE hR ok (fi.keeps (kHeap kk))) fun f s'' h => h.of (same_of kk)
  · rw [if_pos rfl] at hv' ⊢
    exact wpF (ha kd _ σ ow r hc.1.2 hv' env h₀ fz m s' A hE hR ok (fi.keeps (kHeap kk))) fun f s'' h => h.of (same_of kk)
theorem pss_nil : PSs W T cs k [] := by
  intro kd stm σ ow r hc hv env h₀ fz m s A hE hR ok fi
  simp only [chkSs] at hc
  split at hc <;> first | (cases hc; done) | skip
  simp only [exs, Option.some.injEq] at hv; subst hv
  exact wpAny_execs_nil ⟨s.heap, s.toks, m, rfl, fi⟩
theorem pss_cons {x : S} {xs : List S} (hx : PS W T cs k x) (hxs : PSs W T cs k xs) : PSs W T cs k (x :: xs) := by
  intro kd stm σ ow r hc hv env h₀ fz m s A hE hR ok fi
  simp only [chkSs] at hc
  split at hc <;> first | (cases hc; done) | skip
  simp only [Bool.and_eq_true] at hc
  simp only [exs, Option.bind_eq_some_iff] at hv
  obtain ⟨q, hq, hv⟩ := hv
  refine wpAny_execs_cons (wpF (hx kd _ σ ow q hc.1 hq env h₀ fz m s A hE hR ok fi) fun f s' h => ?_)
  cases q with
  | next σ' ow' => cases f with
    | next =>
      obtain ⟨h', tk, m', rfl, fi'⟩ := h
      exact wpF (hxs kd _ σ' ow' r hc.2 hv env h₀ fz m' _ A hE hR ok fi') fun f s'' h => h.of ⟨_, _, rfl⟩
    | _ => exact h.elim
  | ret v => cases f with
    | ret mv => cases hv; exact h
    | _ => exact h.elim

/-- the value is stored under one name -/
theorem ows_of {kd : Kd} {nm : List PySem.Str} {i : Nat} {x : PySem.Str} {fr : Bool} {v : V} {σ σ' : List V} {ow ow' : Ow} {m : PySem.Str → Option Value} {s s' : Shared} {mv : Value} (hE : EnvOK env kd) (fi : FI nm env h₀ fz m σ ow s.heap) (kk : Keeps s s')
    (hr : Rep s'.heap.get? mv v) (hn : fr = true → New s mv s') (hx : nm[i]? = some x) (hk : fr = true → kd x = some .local) (h : asgV i fr v σ ow = .next σ' ow') : σ' = σ.set i v ∧ OwS nm env h₀ fz m σ s'.heap i mv v ow ow' := by
  unfold asgV at h
  split at h
  · rename_i hf
    simp only [Bool.and_eq_true] at hf
    cases h
    refine ⟨rfl, ?_⟩
    obtain ⟨a, o, rfl, h1, h2, h3⟩ := hn hf.1
    cases v with
    | lst vs =>
      cases hr with | lst r1 r2 r3 r4 =>
      rw [h2] at r1; cases r1
      refine .fresh x a o _ _ vs hx ((hE.kdEq x).trans (hk hf.1)) rfl rfl h2 r2 r3 h3 ?_ ?_ (r4.avoid h2 r2 (by simpa [flatList] using hf.2)) (fi.rs.mono fun b o e => ?_)
      · cases e : h₀.get? a with
        | none => rfl
        | some o => rw [fi.F.keep _ _ e] at h1; cases h1
      · rintro p hp rfl
        rw [(fi.N p hp).1] at h1; cases h1
      · unfold minus
        rw [if_neg (by rintro rfl; rw [h1] at e; cases e)]
        exact kHeap kk _ _ e
    | _ => simp [flatList] at hf
  · split at h
    · rename_i hf
      cases h
      refine ⟨rfl, ?_⟩
      unfold owBut
      split
      · split
        · exact .none
        · rename_i hne; exact .other _ _ hne rfl hf
      · exact .none
    · cases h
      exact ⟨rfl, .none⟩
theorem asgV_next (i : Nat) (fr : Bool) (v : V) (σ : List V) (ow : Ow) : ∃ σ' ow', asgV i fr v σ ow = .next σ' ow' := by
  unfold asgV
  split
  · exact ⟨_, _, rfl⟩
  · split <;> exact ⟨_, _, rfl⟩

theorem swaps_plain {v : Expr} {t : Option Expr} {n : Nat} (h : notComp v = true) : swapsWith v t n env = pure false := by
  cases v <;> first | rfl | (cases h; done)

theorem storeV {kd : Kd} {i : Nat} {x : PySem.Str} {fr : Bool} {v : V} {σ : List V} {ow : Ow} {m : PySem.Str → Option Value} {s s' : Shared} {mv : Value} {A : Around} (S : Sys W T fad cs k) (hE : EnvOK env kd) (fi : FI T.nm env h₀ fz m σ ow s.heap) (kk : Keeps s s')
    (hr : Rep s'.heap.get? mv v) (hn : fr = true → New s mv s') (hx : T.nm[i]? = some x) (hk : kd x = some .local ∨ kd x = some .cell ∧ fr = false) :
    wpAny W.M A (storeName env x mv) (fun _ s'' => SP T.nm env h₀ fz s (asgV i fr v σ ow) .next s'') Fal s' := by
  obtain ⟨σ', ow', e⟩ := asgV_next i fr v σ ow
  obtain ⟨rfl, ho⟩ := ows_of hE fi kk hr hn hx (fun hf => by rcases hk with h | h; exact h; rw [h.2] at hf; cases hf) e
  rw [e]
  refine wpF (store_ok S.nd hE (fi.keeps (kHeap kk)) hx (by rcases hk with h | h; exact .inl h; exact .inr h.1) hr ho) fun _ s'' h => ?_
  obtain ⟨h', tk, m', rfl, fi', _⟩ := h
  obtain ⟨h1, t1, rfl, _⟩ := kk
  exact ⟨h', tk, m', rfl, fi'⟩

theorem ps_asg (S : Sys W T fad cs k) {i : Nat} {e : X} : PS W T cs k (.asg i e) := by
  intro kd stm σ ow r hc hv env h₀ fz m s A hE hR ok fi
  simp only [chkS] at hc
  split at hc <;> first | (cases hc; done) | skip
  simp only [Bool.and_eq_true, Bool.or_eq_true, beq_iff_eq, Bool.not_eq_true'] at hc
  obtain ⟨⟨⟨h1, h2⟩, h3⟩, h4⟩ := hc
  simp only [ex, Option.map_eq_some_iff] at hv
  obtain ⟨v, hv, rfl⟩ := hv
  refine wpAny_Assign_Name (wpF ((pb_all S e).1 kd _ σ v h4 hv env m s A hE hR (fi.so ok)) fun mv s' g => ?_) (swaps_plain h3)
  exact wpF (storeV S hE fi g.1.2 g.1.1 g.2 h1 h2) fun _ s'' h => h
theorem ps_aug (S : Sys W T fad cs k) {i : Nat} {op : Operator} {e : X} : PS W T cs k (.aug i op e) := by
  intro kd stm σ ow r hc hv env h₀ fz m s A hE hR ok fi
  simp only [chkS] at hc
  split at hc <;> first | (cases hc; done) | skip
  simp only [Bool.and_eq_true, Bool.or_eq_true, beq_iff_eq, bne_iff_ne] at hc
  obtain ⟨⟨⟨⟨h1, h2⟩, h3⟩, rfl⟩, h4⟩ := hc
  simp only [ex, Option.bind_eq_some_iff, Option.map_eq_some_iff] at hv
  obtain ⟨a, ha, b, hb, v, hv, rfl⟩ := hv
  obtain ⟨hva, hna⟩ := ev_var ha
  refine wpAny_AugAssign_Name (wpF (load_ok (E := Fal) hE (fi.so ok) h1 (by rcases h2 with h | h; exact .inl h; exact .inr (.inl h)) (beq_eq_false_iff_ne.mpr h3) hva hna) fun ma s₁ g₁ => ?_)
  obtain ⟨ra, rfl⟩ := g₁
  refine wpF ((pb_all S e).1 kd _ σ b h4 hb env m s₁ A hE hR (fi.so ok)) fun mb s₂ g₂ => ?_
  refine wpF (ibinop_ok (E := Fal) hv (ra.keeps (kHeap g₂.1.2)) g₂.1.1) fun mv s₃ g₃ => ?_
  exact wpF (storeV (fr := false) S hE fi (kTrans g₂.1.2 g₃.2) g₃.1 (fun h => by cases h) h1 (by rcases h2 with h | h; exact .inl h; exact .inr ⟨h, rfl⟩)) fun _ s'' h => h
end
end Mine

end
section -- M17
open PySem PySem.Calls PySem.W PyProof.Rows
set_option maxRecDepth 10000
namespace Mine

section
variable {nm : List PySem.Str} {env : Env} {h₀ h h' : Heap} {fz : List (Addr × Obj)} {m : PySem.Str → Option Value} {σ : List V} {ow : Ow}

/-- an object that no name looks at has changed -/
theorem FI.upd {I : Addr} (x : FI nm env h₀ fz m σ ow h) (hI : ∀ o, h.get? I = some o → (∀ xs n, o.data ≠ .seq xs n) ∧ ∀ w, o.data ≠ .cell w) (hL : I ≠ env.locals) (h0 : h₀.get? I = none) (hfz : ∀ p ∈ fz, p.1 ≠ I)
    (hk : ∀ b o, b ≠ I → h.get? b = some o → h'.get? b = some o) : FI nm env h₀ fz m σ ow h' where
  F := ⟨x.F.ns.at' fun o e => hk _ o (Ne.symm hL) e, fun b o e => hk b o (by rintro rfl; rw [h0] at e; cases e) (x.F.keep b o e), x.F.above⟩
  N := fun p hp => ⟨hk _ _ (hfz p hp) (x.N p hp).1, (x.N p hp).2⟩
  rs := by
    have up : ∀ b o, h.get? b = some o → (∃ xs n, o.data = .seq xs n) → h'.get? b = some o := fun b o e hs => hk b o (by rintro rfl; obtain ⟨xs, n, hs⟩ := hs; exact (hI o e).1 xs n hs) e
    refine ⟨fun i y v h1 h2 h3 h4 => ?_, fun i y v h1 h2 h3 h4 => ?_⟩
    · obtain ⟨mv, e, q⟩ := x.rs.loc i y v h1 h2 h3 h4; exact ⟨mv, e, q.mono up⟩
    · obtain ⟨c, o, mv, e1, e2, e3, q⟩ := x.rs.cel i y v h1 h2 h3 h4
      exact ⟨c, o, mv, e1, hk c o (by rintro rfl; exact (hI o e2).2 _ e3) e2, e3, q.mono up⟩
  cells := fun n c hc => by
    obtain ⟨⟨v, o, ho, hd⟩, r⟩ := x.cells n c hc
    exact ⟨⟨v, o, hk c o (by rintro rfl; exact (hI o ho).2 _ hd) ho, hd⟩, r⟩
  apart := x.apart
  own := fun i pl e => by
    obtain ⟨y, a, o, items, n, vs, q⟩ := x.own i pl e
    have ha : a ≠ I := by rintro rfl; exact (hI o q.get).1 _ _ q.data
    have hk' : ∀ b o, b ≠ I → minus h.get? a b = some o → minus h'.get? a b = some o := by
      intro b o hb e
      unfold minus at e ⊢
      split at e
      · cases e
      · rename_i hne; rw [if_neg hne]; exact hk b o hb e
    have hI' : ∀ o, minus h.get? a I = some o → (∀ xs n, o.data ≠ .seq xs n) ∧ ∀ w, o.data ≠ .cell w := by
      intro o e
      unfold minus at e
      split at e
      · cases e
      · exact hI o e
    have up : ∀ b o, minus h.get? a b = some o → (∃ xs n, o.data = .seq xs n) → minus h'.get? a b = some o := fun b o e hs => hk' b o (by rintro rfl; obtain ⟨xs, n, hs⟩ := hs; exact (hI' o e).1 xs n hs) e
    refine ⟨y, a, o, items, n, vs, ⟨q.hx, q.kind, q.at', hk a o ha q.get, q.cls, q.data, q.plain, q.new, q.off, q.val, q.rep.mono up, ?_⟩⟩
    refine ⟨fun i y v h1 h2 h3 h4 => ?_, fun i y v h1 h2 h3 h4 => ?_⟩
    · obtain ⟨mv, e, r⟩ := q.rest.loc i y v h1 h2 h3 h4; exact ⟨mv, e, r.mono up⟩
    · obtain ⟨c, o, mv, e1, e2, e3, r⟩ := q.rest.cel i y v h1 h2 h3 h4
      exact ⟨c, o, mv, e1, hk' c o (by rintro rfl; exact (hI' o e2).2 _ e3) e2, e3, r.mono up⟩
  len := x.len

/-- what must stand, more of it -/
theorem FI.freeze {more : List (Addr × Obj)} (x : FI nm env h₀ fz m σ ow h) (hm : ∀ p ∈ more, h.get? p.1 = some p.2 ∧ p.1 ≠ env.locals ∧ h₀.get? p.1 = none ∧ (∀ w, p.2.data ≠ .cell w) ∧ (∀ i pl, ow = some (i, pl) → ∀ xs n, p.2.data ≠ .seq xs n)) :
    FI nm env h₀ (more ++ fz) m σ ow h where
  F := x.F
  N := fun p hp => (List.mem_append.mp hp).elim (fun h => ⟨(hm p h).1, (hm p h).2.1, (hm p h).2.2.1⟩) (x.N p)
  rs := x.rs
  cells := fun n c hc => by
    obtain ⟨⟨v, o, ho, hd⟩, h1, h2⟩ := x.cells n c hc
    refine ⟨⟨v, o, ho, hd⟩, h1, fun p hp => (List.mem_append.mp hp).elim (fun hq => ?_) (h2 p)⟩
    rintro rfl
    rw [(hm p hq).1] at ho; cases ho
    exact (hm p hq).2.2.2.1 _ hd
  apart := x.apart
  own := fun i pl e => by
    obtain ⟨y, a, o, items, n, vs, q⟩ := x.own i pl e
    refine ⟨y, a, o, items, n, vs, ⟨q.hx, q.kind, q.at', q.get, q.cls, q.data, q.plain, q.new, fun p hp => (List.mem_append.mp hp).elim (fun hq => ?_) (q.off p), q.val, q.rep, q.rest⟩⟩
    rintro rfl
    have := (hm p hq).1
    rw [q.get] at this
    exact (hm p hq).2.2.2.2 i pl e _ _ ((Option.some.inj this) ▸ q.data)
  len := x.len

theorem FI.less {fz' : List (Addr × Obj)} (x : FI nm env h₀ fz' m σ ow h) (hs : ∀ p ∈ fz, p ∈ fz') : FI nm env h₀ fz m σ ow h where
  F := x.F
  N := fun p hp => x.N p (hs p hp)
  rs := x.rs
  cells := fun n c hc => let ⟨h1, h2, h3⟩ := x.cells n c hc; ⟨h1, h2, fun p hp => h3 p (hs p hp)⟩
  apart := x.apart
  own := fun i pl e => by
    obtain ⟨y, a, o, items, n, vs, q⟩ := x.own i pl e
    exact ⟨y, a, o, items, n, vs, ⟨q.hx, q.kind, q.at', q.get, q.cls, q.data, q.plain, q.new, fun p hp => q.off p (hs p hp), q.val, q.rep, q.rest⟩⟩
  len := x.len
end

section
variable {W : Wd} {T : Tb} {fad : List Addr} {cs : Nat → List V → Option V} {k : Nat} {env : Env} {h₀ : Heap} {fz : List (Addr × Obj)}

theorem owS_loop {nm : List PySem.Str} {m : PySem.Str → Option Value} {σ : List V} {ow : Ow} {h : Heap} {i : Nat} {mv : Value} {z : V} : OwS nm env h₀ fz m σ h i mv z ow (if flat z = true then owBut ow i else Option.none) := by
  split
  · rename_i hf
    unfold owBut
    split
    · split
      · exact .none
      · rename_i hne; exact .other _ _ hne rfl hf
    · exact .none
  · exact .none

theorem forLoop_ok {body : List Mine.S} {body' : List Stmt} {kd : Kd} {i : Nat} {x : PySem.Str} {px : Pos} {s₁ s₂ : Shared} {it : Value} {lst : Bool} {items : List V} {σ : List V} {ow : Ow} {r₀ : R} {m : PySem.Str → Option Value} {A : Around}
    (S : Sys W T fad cs k) (hbody : PSs W T cs k body) (hcb : chkSs T body kd body' = true) (hE : EnvOK env kd) (hR : Room A k) (ok : W.OK h₀) (hx : T.nm[i]? = some x) (hk : kd x = some .local)
    (hsrc : Src W.prog W.w s₁ lst items it s₂) (fi : FI T.nm env h₀ fz m σ ow s₁.heap)
    (hstat : lst = true → ∀ b o, s₁.heap.get? b = some o → (∃ xs n, o.data = .seq xs n) → (∃ o', h₀.get? b = some o') ∨ (b, o) ∈ fz)
    (hint : lst = false → ∀ z ∈ items, ∃ n, z = V.int n)
    (hv : loop (fun σ ow => exs T.gt T.sh cs body σ ow) i items σ ow = some r₀) :
    codeAny W.M A (.forLoop (.Name x px) it body' [] env) (fun r s' => match r with | .ok f => SP T.nm env h₀ fz s₁ r₀ f s' | .error _ => False) s₂ := by
  obtain ⟨I, fp, P, St, rfl, hW, hst, k12, hI1, hIlt, hfp, hIfp, hIs, hP⟩ := hsrc
  have W' := hW A hR.handled
  have hIL : I ≠ env.locals := by
    rintro rfl
    obtain ⟨o, _, _, ho, _⟩ := fi.F.ns
    rw [hI1] at ho; cases ho
  have hI0 : h₀.get? I = none := by
    cases e : h₀.get? I with
    | none => rfl
    | some o => rw [fi.F.keep _ _ e] at hI1; cases hI1
  have hIfz : ∀ p ∈ fz, p.1 ≠ I := by
    rintro p hp rfl
    rw [(fi.N p hp).1] at hI1; cases hI1
  have hIob : ∀ j h, St j h → ∀ o, h.get? I = some o → (∀ xs n, o.data ≠ .seq xs n) ∧ ∀ w, o.data ≠ .cell w := by
    intro j h st o e
    obtain ⟨o', fs, h1, h2⟩ := hIs j h st
    rw [h1] at e; cases e
    exact ⟨fun xs n hx => by (rw [h2] at hx; cases hx), fun w hx => by (rw [h2] at hx; cases hx)⟩
  have same12 := same_of k12
  refine codeAny_forLoop
    (fun kk s' => ∃ h' tk m' σ' ow' j, s' = { s₂ with heap := h', toks := tk } ∧ St j h' ∧ FI T.nm env h₀ fz m' σ' ow' h' ∧ j ≤ items.length ∧ kk = items.length + 1 - j ∧
      loop (fun σ ow => exs T.gt T.sh cs body σ ow) i (items.drop j) σ' ow' = some r₀) ?_ (items.length + 1)
    ⟨s₂.heap, s₂.toks, m, σ, ow, 0, rfl, hst, fi.keeps (kHeap k12), Nat.zero_le _, rfl, by simpa using hv⟩
  rintro kk s' ⟨H, tk, m', σ', ow', j, rfl, hst', fi', hj, rfl, hv'⟩
  by_cases hlt : j < items.length
  · refine W'.item j _ _ _ hlt hst' fun v h₁ tk₁ hPv hst₁ hk₁ => ?_
    have hk₁' : ∀ b o, b ≠ I → H.get? b = some o → h₁.get? b = some o := fun b o hb e => hk₁ b o (by simpa using hb) e
    have fi₁ := fi'.upd (hIob j H hst') hIL hI0 hIfz hk₁'
    obtain ⟨z, hz, hrz⟩ := hP j v hPv
    have hzm : z ∈ items := List.mem_of_getElem? hz
    have static : ∀ (h : Heap) (m₂ : PySem.Str → Option Value) (σ₂ : List V) (ow₂ : Ow) (fz₂ : List (Addr × Obj)), (∀ p ∈ fz, p ∈ fz₂) → FI T.nm env h₀ fz₂ m₂ σ₂ ow₂ h → lst = true → ∀ b o, s₁.heap.get? b = some o → (∃ xs n, o.data = .seq xs n) → h.get? b = some o := by
      intro h m₂ σ₂ ow₂ fz₂ hsub f hl b o e hseq
      rcases hstat hl b o e hseq with ⟨o', ho'⟩ | hm
      · have := fi.F.keep _ _ ho'
        rw [e] at this; cases this
        exact f.F.keep _ _ ho'
      · exact (f.N _ (hsub _ hm)).1
    have hrz₁ : Rep h₁.get? v z := by
      cases hl : lst with
      | true => exact hrz.mono fun b o e hseq => static h₁ _ _ _ fz (fun _ h => h) fi₁ hl b o e hseq
      | false =>
        obtain ⟨n, rfl⟩ := hint hl z hzm
        obtain ⟨t, rfl⟩ := hrz.isInt
        exact .int _ _
    refine wpAny_assign_Name (wpF (store_ok S.nd hE (s := { s₂ with heap := h₁, toks := tk₁ }) fi₁ hx (.inl hk) hrz₁ owS_loop) fun _ s₃ g₃ => ?_)
    obtain ⟨h₂, tk₂, m₂, rfl, fi₂, hseq₂, _, hoth₂⟩ := g₃
    have hst₂ : St (j + 1) h₂ := W'.frame _ _ _ hst₁ fun b hb o e => by
      rcases hfp b hb with rfl | ⟨hl, o', ho', hs'⟩
      · exact hoth₂ b o e (hIob _ _ hst₁ o e).2 hIL
      · have e1 := static h₁ _ _ _ fz (fun _ h => h) fi₁ hl b o' ho' hs'
        have e1' : h₁.get? b = some o' := e1
        rw [e] at e1'; cases e1'
        exact hseq₂ b o e hs'
    obtain ⟨oI, fs, hoI, hdI⟩ := hIs _ _ hst₂
    have fi₃ : FI T.nm env h₀ ((I, oI) :: fz) m₂ (σ'.set i z) _ h₂ := fi₂.freeze (more := [(I, oI)]) (by
      intro p hp
      rw [List.mem_singleton.mp hp]
      exact ⟨hoI, hIL, hI0, fun w hw => by (dsimp only at hw; rw [hdI] at hw; cases hw), fun _ _ _ xs n hw => by (dsimp only at hw; rw [hdI] at hw; cases hw)⟩)
    have hd : items.drop j = z :: items.drop (j + 1) := by
      rw [List.drop_eq_getElem_cons hlt]
      have : items[j] = z := by rw [List.getElem?_eq_getElem hlt] at hz; exact Option.some.inj hz
      rw [this]
    rw [hd] at hv'
    simp only [loop, Option.bind_eq_some_iff] at hv'
    obtain ⟨q, hq, hv'⟩ := hv'
    refine wpF (hbody kd body' _ _ q hcb hq env h₀ _ m₂ { s₂ with heap := h₂, toks := tk₂ } A hE hR ok fi₃) fun f s₄ g₄ => ?_
    cases q with
    | next σ₃ ow₃ => cases f with
      | next =>
        obtain ⟨h₄, tk₄, m₄, rfl, fi₄⟩ := g₄
        refine ⟨items.length + 1 - (j + 1), by omega, h₄, tk₄, m₄, σ₃, ow₃, j + 1, rfl, ?_, fi₄.less (fun p hp => List.mem_cons_of_mem _ hp), hlt, rfl, hv'⟩
        refine W'.frame _ _ _ hst₂ fun b hb o e => ?_
        rcases hfp b hb with rfl | ⟨hl, o', ho', hs'⟩
        · rw [hoI] at e; cases e
          exact (fi₄.N _ List.mem_cons_self).1
        · have e1 := static h₂ _ _ _ fz (fun _ h => h) fi₂ hl b o' ho' hs'
          rw [e] at e1; cases e1
          exact static h₄ _ _ _ _ (fun p hp => List.mem_cons_of_mem _ hp) fi₄ hl b o ho' hs'
      | _ => exact g₄.elim
    | ret w => cases f with
      | ret mv =>
        cases hv'
        obtain ⟨h₄, tk₄, rfl, hr, hk0⟩ := g₄
        obtain ⟨h1, t1, rfl⟩ := same12
        exact ⟨h₄, tk₄, rfl, hr, hk0⟩
      | _ => exact g₄.elim
  · have hin : j = items.length := by omega
    subst hin
    refine W'.done _ _ _ hst' fun h₁ tk₁ hk₁ => wpAny_execs_nil ?_
    have hk₁' : ∀ b o, b ≠ I → H.get? b = some o → h₁.get? b = some o := fun b o hb e => hk₁ b o (by simpa using hb) e
    rw [List.drop_of_length_le (Nat.le_refl _)] at hv'
    simp only [loop, Option.some.injEq] at hv'
    subst hv'
    obtain ⟨h1, t1, rfl⟩ := same12
    exact ⟨h₁, tk₁, m', rfl, fi'.upd (hIob _ H hst') hIL hI0 hIfz hk₁'⟩
end
end Mine

end
section -- M18
open PySem PySem.Calls PySem.W PyProof.Rows
set_option maxRecDepth 10000
namespace Mine

theorem rangeUp_ints : ∀ (n : Nat) (lo : Int), ∀ z ∈ rangeUp lo n, ∃ i, z = V.int i
  | 0, _, z, h => by cases h
  | n + 1, lo, z, h => by
    rcases List.mem_cons.mp h with rfl | h
    · exact ⟨_, rfl⟩
    · exact rangeUp_ints n _ z h
theorem rangeDown_ints : ∀ (n : Nat) (lo : Int), ∀ z ∈ rangeDown lo n, ∃ i, z = V.int i
  | 0, _, z, h => by cases h
  | n + 1, lo, z, h => by
    rcases List.mem_cons.mp h with rfl | h
    · exact ⟨_, rfl⟩
    · exact rangeDown_ints n _ z h
theorem rangeOf_ints {as items : List V} (h : rangeOf as = some items) : ∀ z ∈ items, ∃ n, z = V.int n := by
  unfold rangeOf at h
  split at h
  · split at h
    · cases h; exact rangeUp_ints _ _
    · cases h
  · split at h
    · cases h; exact rangeUp_ints _ _
    · cases h
  · split at h
    · cases h; exact rangeDown_ints _ _
    · cases h
  · cases h

noncomputable def seqsOf (h₀ h : Heap) : List (Addr × Obj) := (List.range h.objs.size).filterMap fun b => match h.get? b with
  | some o => match o.data with
    | .seq _ _ => if (h₀.get? b).isNone = true then some (b, o) else none
    | _ => none
  | none => none
theorem mem_seqsOf {h₀ h : Heap} {p : Addr × Obj} : p ∈ seqsOf h₀ h ↔ h.get? p.1 = some p.2 ∧ (∃ xs n, p.2.data = .seq xs n) ∧ h₀.get? p.1 = none := by
  obtain ⟨b, o⟩ := p
  unfold seqsOf
  rw [List.mem_filterMap]
  constructor
  · rintro ⟨c, _, hc⟩
    split at hc
    · rename_i o' ho'
      split at hc
      · rename_i xs n hd
        split at hc
        · rename_i hn
          cases hc
          exact ⟨ho', ⟨_, _, hd⟩, by simpa using hn⟩
        · cases hc
      · cases hc
    · cases hc
  · rintro ⟨h1, ⟨xs, n, h2⟩, h3⟩
    dsimp only at h1 h2 h3
    refine ⟨b, List.mem_range.mpr (Heap.lt_size h1), ?_⟩
    simp only [h1, h2, h3, Option.isNone_none, if_true]

section
variable {W : Wd} {T : Tb} {fad : List Addr} {cs : Nat → List V → Option V} {k : Nat} {env : Env} {h₀ : Heap} {fz : List (Addr × Obj)}

theorem SP.less {nm : List PySem.Str} {fz' : List (Addr × Obj)} {s : Shared} {r : R} {f : Flow} {s' : Shared} (hs : ∀ p ∈ fz, p ∈ fz') (h : SP nm env h₀ fz' s r f s') : SP nm env h₀ fz s r f s' := by
  cases r with
  | next σ ow => cases f with
    | next => obtain ⟨h', tk, m, rfl, x⟩ := h; exact ⟨h', tk, m, rfl, x.less hs⟩
    | _ => exact h.elim
  | ret v => cases f with
    | ret mv => exact h
    | _ => exact h.elim

theorem ps_forR (S : Sys W T fad cs k) {i : Nat} {xs : List X} {body : List Mine.S} (hb : PSs W T cs k body) : PS W T cs k (.forR i xs body) := by
  intro kd stm σ ow r hc hv env h₀ fz m s A hE hR ok fi
  simp only [chkS] at hc
  split at hc <;> first | (cases hc; done) | skip
  simp only [Bool.and_eq_true, beq_iff_eq] at hc
  obtain ⟨⟨⟨⟨h1, h2⟩, h3⟩, h4⟩, h5⟩ := hc
  simp only [ex, Option.bind_eq_some_iff] at hv
  obtain ⟨as, has, items, hit, hv⟩ := hv
  refine wpAny_For (wpF (call_range_ok S (pl_all S xs) h3 h4 has hit hE hR (fi.so ok)) fun xv s₁ g₁ => wpF g₁.2 fun it s₂ g₂ => ?_) (fun _ => rfl)
  refine codeAny_mono (forLoop_ok S hb h5 hE hR ok h1 h2 g₂ (fi.keeps (kHeap g₁.1)) (fun h => by cases h) (fun _ => rangeOf_ints hit) hv) fun r' s' hr => ?_
  cases r' with
  | ok f => exact hr.of (same_of g₁.1)
  | error e => exact hr.elim

theorem ps_for (S : Sys W T fad cs k) {i : Nat} {it : X} {body : List Mine.S} (hb : PSs W T cs k body) : PS W T cs k (.for_ i it body) := by
  intro kd stm σ ow r hc hv env h₀ fz m s A hE hR ok fi
  simp only [chkS] at hc
  split at hc <;> first | (cases hc; done) | skip
  simp only [Bool.and_eq_true, beq_iff_eq] at hc
  obtain ⟨⟨⟨⟨h1, h2⟩, h3⟩, h4⟩, h5⟩ := hc
  simp only [ex, Option.bind_eq_some_iff] at hv
  obtain ⟨a, ha, items, hit, hv⟩ := hv
  refine wpAny_For (wpF ((pb_all S it).1 kd _ σ a h4 ha env m s A hE hR (fi.so ok)) fun xv s₁ g₁ => wpF (src_items hit g₁.1.1) fun it s₂ g₂ => ?_) (fold_plain h3)
  have fi₁ := (fi.keeps (kHeap g₁.1.2)).disown
  have fi₂ : FI T.nm env h₀ (seqsOf h₀ s₁.heap ++ fz) m σ Option.none s₁.heap := fi₁.freeze (fun p hp => by
    obtain ⟨q1, ⟨xs, n, q2⟩, q3⟩ := mem_seqsOf.mp hp
    refine ⟨q1, ?_, q3, fun w hw => (by rw [q2] at hw; cases hw), fun _ _ e => by cases e⟩
    intro e
    rw [e] at q1
    exact (ns_data fi₁.F.ns q1).1 _ _ q2)
  refine codeAny_mono (forLoop_ok S hb h5 hE hR ok h1 h2 g₂ fi₂ (fun _ b o e hs => ?_) (fun h => by cases h) hv) fun r' s' hr => ?_
  · cases e0 : h₀.get? b with
    | some o' => exact .inl ⟨o', rfl⟩
    | none => exact .inr (List.mem_append_left _ (mem_seqsOf.mpr ⟨e, hs, e0⟩))
  · cases r' with
    | ok f => exact (hr.less fun p hp => List.mem_append_right _ hp).of (same_of g₁.1.2)
    | error e => exact hr.elim

theorem comp_assign {kd : Kd} {m : PySem.Str → Option Value} {σ : List V} {ow : Ow} {A : Around} {i : Nat} {s : Shared} {elt iter : Expr} {x y : PySem.Str} {px py : Pos} {scope : Scope} {cl : List (PySem.Str × Addr)} {pos spos : Pos} {items outs : List V}
    (S : Sys W T fad cs k) (hE : EnvOK env kd) (fi : FI T.nm env h₀ fz m σ ow s.heap) (hy : T.nm[i]? = some y) (hky : kd y = some .local)
    (hsw : swapsWith (.ListComp elt [⟨.Name x px, iter, [], 0⟩] scope pos) (some (.Name y py)) spos.line env = pure true)
    (hh : A.handled = none) (hlen : outs.length = items.length) (hsz : items.length ≤ sizeLine) (hflat : flats outs = true)
    (hclos : closureFor scope env = pure cl) (hcell : ∀ y ∈ scope.names, y.2 ≠ .cell) (hkind : scope.kind = .function)
    (hnames : ∀ y ∈ scope.names, y.2 = .local → scope.names.lookup y.1 = some .local) (hx : scope.names.lookup x = some .local)
    (hs : ∀ x, foldedSetIterable iter env x = pure x)
    (hsrc : wpAny W.M A (eval iter env) (fun xv s₁ => Keeps s s₁ ∧ wpAny W.M A (pyIter xv) (fun it s₂ => Src W.prog W.w s₁ true items it s₂) Fal s₁) Fal s)
    (helt : ∀ (s₁ : Shared) (C : Addr) (i : Nat) (v : Value) (s₃ : Shared) (m₃ : PySem.Str → Option Value) (y z : V), Keeps s s₁ → items[i]? = some z → outs[i]? = some y → Rep s₁.heap.get? v z → s₁.heap.get? C = none → s₃.heap.Ns C m₃ → m₃ x = some v → (∀ b o, s₁.heap.get? b = some o → s₃.heap.get? b = some o) →
      wpAny W.M A (eval elt (compEnvC scope cl C env)) (Gives s₃ y) Fal s₃) :
    wpAny W.M A (exec (.Assign [.Name y py] (.ListComp elt [⟨.Name x px, iter, [], 0⟩] scope pos) spos) env) (SP T.nm env h₀ fz s (asgV i true (.lst outs) σ ow)) Fal s := by
  rw [exec_Assign_Name_used _ _ _ _ hsw]
  refine wpAny_bind (wpAny_standAt (wpAny_bind ?_))
  show wpAny _ A (do let _ ← comprehension (.ListComp elt [⟨.Name x px, iter, [], 0⟩] scope pos) scope env _ (newList []) false (eval iter env) (some (assign (.Name y py) env))) _ _ s
  refine wpAny_bind (wpAny_mono (wpAny_comprehension_free (use := some (assign (.Name y py) env)) (Q := fun _ s' => SP T.nm env h₀ fz s (asgV i true (.lst outs) σ ow) .next s') rfl hs hclos hkind hnames
    (wpAny_mono hsrc (fun xv s₁ h₁ => wpAny_mono h₁.2 (fun it s₂ h₂ => ?_) fun _ _ e => e) fun _ _ e => e)) (fun _ s' hq => wpAny_pure (wpAny_pure hq)) fun _ _ e => e)
  refine comp_block (RR := fun acc C => compPost W.M A Fal (some (assign (.Name y py) env)) (fun _ s' => SP T.nm env h₀ fz s (asgV i true (.lst outs) σ ow) .next s') acc C) hh h₂ hlen hsz hflat hcell hkind hx (fun C i v s₃ m₃ y z => helt s₁ C i v s₃ m₃ y z h₁.1) ?_
  intro D C h' tk m' ys hD hC hDC hn hpl hr hk
  show wpAny _ A (assign (.Name y py) env (.ref D)) _ _ _
  obtain ⟨I, fp, P, St, rfl, hW, hst, hk12, _⟩ := h₂
  have k1 := h₁.1
  obtain ⟨σ', ow', e⟩ := asgV_next i true (.lst outs) σ ow
  rw [e]
  have kk : Keeps s { s₂ with heap := h', toks := tk } := by
    obtain ⟨h1, tk1, rfl, hk1⟩ := k1
    obtain ⟨h2, tk2, rfl, hk2⟩ := hk12
    exact ⟨h', tk, rfl, fun b o e => hk b o (hk1 b o e)⟩
  have hDs : s.heap.get? D = none := by
    cases e : s.heap.get? D with
    | none => rfl
    | some o => rw [kHeap k1 _ _ e] at hD; cases hD
  have hCs : s.heap.get? C = none := by
    cases e : s.heap.get? C with
    | none => rfl
    | some o => rw [kHeap k1 _ _ e] at hC; cases hC
  have hCL : C ≠ env.locals := by
    rintro rfl
    obtain ⟨o, _, _, ho, _⟩ := fi.F.ns
    rw [hCs] at ho; cases ho
  obtain ⟨rfl, ho⟩ := ows_of hE fi kk (repLst hpl.isList hr) (fun _ => ⟨D, _, rfl, hDs, hpl.choose_spec, rfl, rfl⟩) hy (fun _ => hky) e
  refine wpAny_assign_Name (wpF (store_ok S.nd hE (fi.keeps (kHeap kk)) hy (.inl hky) (repLst hpl.isList hr) ho) fun _ s₃ g₃ => ?_)
  obtain ⟨h₂, tk₂, m₂, rfl, fi₂, _, hns₂, _⟩ := g₃
  have hnC : h₂.Ns C m' := hns₂ C m' hn hCL
  refine ⟨m', hnC, fun h₃ hs₃ => ?_⟩
  have fi₃ := fi₂.upd (I := C) (h' := h₃) (fun o e => ns_data hnC e) hCL (by
      cases e : h₀.get? C with
      | none => rfl
      | some o => rw [fi.F.keep _ _ e] at hCs; cases hCs) (by
      rintro p hp rfl
      rw [(fi.N p hp).1] at hCs; cases hCs) (fun b o hb e => hs₃.extBut b o hb e)
  obtain ⟨h4, t4, e4, _⟩ := kk
  rw [e4]
  exact ⟨h₃, tk₂, m₂, rfl, fi₃⟩

theorem ps_asgC (S : Sys W T fad cs k) {i : Nat} {e : X} : PS W T cs k (.asgC i e) := by
  intro kd stm σ ow r hc hv env h₀ fz m s A hE hR ok fi
  simp only [chkS] at hc
  split at hc <;> first | (cases hc; done) | skip
  rename_i id p elt' gs sc pos spos
  simp only [Bool.and_eq_true, beq_iff_eq] at hc
  obtain ⟨⟨⟨⟨h1, h2⟩, h3⟩, h4⟩, h5⟩ := hc
  simp only [ex, Option.map_eq_some_iff] at hv
  obtain ⟨v, hv, rfl⟩ := hv
  have hsw : swapsWith (.ListComp elt' gs sc pos) (some (.Name id p)) spos.line env = pure true := by
    unfold swapsWith
    show (pure (env.blockKind == .function && env.kindOf id == some .local && p.line == pos.line && !(sc.names.any fun (n, k) => n == id && (k == .local || k == .cell))) : Sem Bool) = pure true
    rw [h4, hE.kdEq, h2, h3]
    have : env.blockKind = .function := by unfold Env.blockKind; rw [hE.kind]; rfl
    rw [this]
    simp
  cases e with
  | comp elt j it =>
    simp only [chk] at h5
    split at h5 <;> first | (cases h5; done) | skip
    simp only [Bool.and_eq_true, beq_iff_eq] at h5
    rename_i heq
    cases heq
    obtain ⟨⟨⟨⟨q1, q2⟩, q3⟩, q4⟩, q5⟩ := h5
    simp only [ev, Option.bind_eq_some_iff] at hv
    obtain ⟨a, ha, items, hitems, outs, houts, hv⟩ := hv
    split at hv <;> first | (cases hv; done) | skip
    rename_i hflat
    cases hv
    have hco := compOk_ok q2
    obtain ⟨hclos, _, _⟩ := envOK_comp hE hco 0
    exact comp_assign S hE fi h1 h2 hsw hR.handled (mapO_get houts).1 (itemsOf_len hitems) hflat hclos hco.cell hco.kind hco.names hco.hx (fold_plain q4)
      (wpF ((pb_all S it).1 kd _ σ a q3 ha env m s A hE hR (fi.so ok)) fun ma s₁ g₁ => ⟨g₁.1.2, src_items hitems g₁.1.1⟩)
      (elt_ok S (pb_all S elt).1 hE hR (fi.so ok) q1 hco q5 houts)
  | compR elt j xs =>
    simp only [chk] at h5
    split at h5 <;> first | (cases h5; done) | skip
    simp only [Bool.and_eq_true, beq_iff_eq] at h5
    rename_i heq
    cases heq
    obtain ⟨⟨⟨⟨q1, q2⟩, q3⟩, q4⟩, q5⟩ := h5
    simp only [ev, Option.bind_eq_some_iff] at hv
    obtain ⟨as, has, items, hitems, outs, houts, hv⟩ := hv
    split at hv <;> first | (cases hv; done) | skip
    rename_i hflat
    cases hv
    have hco := compOk_ok q2
    obtain ⟨hclos, _, _⟩ := envOK_comp hE hco 0
    exact comp_assign S hE fi h1 h2 hsw hR.handled (mapO_get houts).1 (by have := rangeOf_len hitems; rw [sizeLine_eq]; omega) hflat hclos hco.cell hco.kind hco.names hco.hx (fun _ => rfl)
      (wpF (call_range_ok S (pl_all S xs) q3 q4 has hitems hE hR (fi.so ok)) fun _ _ h => ⟨h.1, wpF h.2 fun _ _ g => g.up⟩)
      (elt_ok S (pb_all S elt).1 hE hR (fi.so ok) q1 hco q5 houts)
  | _ => simp [chk] at h5
end
end Mine

end
section -- M19
open PySem PySem.Calls PySem.W PyProof.Rows
set_option maxRecDepth 10000
namespace Mine

theorem kExt {s : Shared} {h' : Heap} {n : Nat} (he : Heap.ExtBut s.heap.objs.size s.heap h') : Keeps s { s with heap := h', toks := n } :=
  ⟨h', n, rfl, fun b o e => he b o (by rintro rfl; exact absurd (Heap.lt_size e) (Nat.lt_irrefl _)) e⟩

section
variable {W : Wd} {T : Tb} {fad : List Addr} {cs : Nat → List V → Option V} {k : Nat} {env : Env} {h₀ : Heap} {fz : List (Addr × Obj)}

/-- a row of stores -/
theorem storeAll {kd : Kd} {A : Around} (S : Sys W T fad cs k) (hE : EnvOK env kd) : ∀ (ts : List (Value → Sem Unit)) (is : List Nat) (mvs : List Value) (vs : List V) (σ : List V) (m : PySem.Str → Option Value) (s : Shared),
    (∀ (j : Nat) (t : Value → Sem Unit), ts[j]? = some t → ∃ i x, is[j]? = some i ∧ T.nm[i]? = some x ∧ (kd x = some .local ∨ kd x = some .cell) ∧ ∀ (mv : Value) (Q : Unit → Shared → Prop) (s : Shared), wpAny W.M A (storeName env x mv) Q Fal s → wpAny W.M A (t mv) Q Fal s) →
    ts.length = is.length → vs.length = is.length → RepL s.heap.get? mvs vs → FI T.nm env h₀ fz m σ Option.none s.heap →
    wpAny W.M A (assignInOrder ts mvs) (fun _ s' => SP T.nm env h₀ fz s (.next (setAll is vs σ) Option.none) .next s') Fal s := by
  intro ts
  induction ts with
  | nil =>
    intro is mvs vs σ m s _ hl _ _ fi
    cases is with
    | nil => exact assignInOrder_nil ⟨s.heap, s.toks, m, rfl, fi⟩
    | cons => cases hl
  | cons t ts ih =>
    intro is mvs vs σ m s hts hl hl' hr fi
    cases is with
    | nil => cases hl
    | cons i is =>
      cases hr with
      | nil => cases hl'
      | cons hr hrs =>
        rename_i mv mvs v vs
        obtain ⟨i', x, hi, hx, hk, ht⟩ := hts 0 t rfl
        simp only [List.getElem?_cons_zero, Option.some.injEq] at hi; subst hi
        refine assignInOrder_cons (ht mv _ s (wpF (store_ok S.nd hE fi hx hk hr .none) fun _ s₁ g => ?_))
        obtain ⟨h', tk, m', rfl, fi', hseq, _, _⟩ := g
        refine wpF (ih is mvs vs (σ.set i v) m' _ (fun j t' h => hts (j + 1) t' (by simpa using h)) (by simpa using hl) (by simpa using hl') (hrs.mono fun b o e hs => hseq b o e hs) fi') fun _ s₂ g₂ => ?_
        exact g₂.of ⟨_, _, rfl⟩

theorem names_ok {nm : List PySem.Str} {kd : Kd} : ∀ {is : List Nat} {es : List Expr}, chkNames nm kd is es = true → is.length = es.length ∧
    (∀ (j : Nat) (e : Expr), es[j]? = some e → ∃ i x p, is[j]? = some i ∧ e = .Name x p ∧ nm[i]? = some x ∧ (kd x = some .local ∨ kd x = some .cell)) ∧ (assignEach es env).length = es.length ∧ (assignEach es env).findIdx? (·.1) = none ∧
    (∀ (j : Nat) (t : Bool × (Value → Sem Unit)), (assignEach es env)[j]? = some t → ∃ e, es[j]? = some e ∧ t.2 = assign e env)
  | [], [], _ => ⟨rfl, fun j e h => by simp at h, rfl, rfl, fun j t h => by simp [assignEach] at h⟩
  | [], _ :: _, h => by simp [chkNames] at h
  | _ :: _, [], h => by simp [chkNames] at h
  | i :: is, e :: es, h => by
    cases e with
    | Name id p =>
      simp only [chkNames, Bool.and_eq_true, Bool.or_eq_true, beq_iff_eq] at h
      obtain ⟨⟨h1, h2⟩, h3⟩ := h
      obtain ⟨q1, q2, q3, q4, q5⟩ := names_ok h3
      have e0 : assignEach (.Name id p :: es) env = (false, assign (.Name id p) env) :: assignEach es env := rfl
      refine ⟨by simp [q1], fun j e hj => ?_, by rw [e0]; simp [q3], by rw [e0, List.findIdx?_cons]; simp [q4], fun j t hj => ?_⟩
      · cases j with
        | zero => simp only [List.getElem?_cons_zero, Option.some.injEq] at hj; subst hj; exact ⟨i, id, p, rfl, rfl, h1, h2⟩
        | succ j => simpa using q2 j e (by simpa using hj)
      · rw [e0] at hj
        cases j with
        | zero => simp only [List.getElem?_cons_zero, Option.some.injEq] at hj; subst hj; exact ⟨_, rfl, rfl⟩
        | succ j => simpa using q5 j t (by simpa using hj)
    | _ => simp [chkNames] at h

theorem tuple_store {kd : Kd} {A : Around} {is : List Nat} {es : List Expr} {kk : Nat} {p : Pos} {mv : Value} {vs : List V} {σ : List V} {ow : Ow} {m : PySem.Str → Option Value} {s s' : Shared} (S : Sys W T fad cs k) (hE : EnvOK env kd) (hR : Room A k) (hn : chkNames T.nm kd is es = true)
    (hl : vs.length = is.length) (fi : FI T.nm env h₀ fz m σ ow s.heap) (k1 : Keeps s s') (hr : Rep s'.heap.get? mv (.tup vs)) :
    wpAny W.M A (assign (.Tuple es kk p) env mv) (fun _ s'' => SP T.nm env h₀ fz s (.next (setAll is vs σ) Option.none) .next s'') Fal s' := by
  obtain ⟨t, items, rfl, ht, hrl⟩ := hr.isTup
  obtain ⟨q1, q2, q3, q4, q5⟩ := names_ok (env := env) hn
  have hsz : items.size = is.length := by have := hrl.length; rw [← hl, ← this]; simp
  refine assign_Tuple_tuple hR.handled ht (by rw [q3, hsz, q1]) q4 fun h' he => ?_
  have k2 : Keeps s' { s' with heap := h' } := kExt he
  refine wpF (storeAll S hE _ is _ vs σ m _ (fun j t' hj => ?_) (by rw [List.length_map, q3, q1]) hl (hrl.keeps (kHeap k2)) ((fi.keeps (kHeap (kTrans k1 k2))).disown)) fun _ s₂ g₂ => g₂.of (same_of (kTrans k1 k2))
  rw [List.getElem?_map, Option.map_eq_some_iff] at hj
  obtain ⟨t'', ht'', rfl⟩ := hj
  obtain ⟨e, he', hte⟩ := q5 j t'' ht''
  obtain ⟨i, x, p', hi, rfl, hx, hk⟩ := q2 j e he'
  exact ⟨i, x, hi, hx, hk, fun mv Q s hw => by rw [hte]; exact wpAny_assign_Name hw⟩

theorem swapped_none {es : List Expr} {kk : Nat} {p : Pos} {v : Expr} (h : notTup v = true) : swappedStores [.Tuple es kk p] v env = pure none := by
  cases v <;> first | rfl | (cases h; done)

theorem swapsSole_plain {t v : Expr} {n : Nat} (h : notComp v = true) : swapsWithSole [t] v n env = pure false := swaps_plain h
theorem ps_asgT (S : Sys W T fad cs k) {is : List Nat} {e : X} : PS W T cs k (.asgT is e) := by
  intro kd stm σ ow r hc hv env h₀ fz m s A hE hR ok fi
  simp only [chkS] at hc
  split at hc <;> first | (cases hc; done) | skip
  simp only [Bool.and_eq_true] at hc
  obtain ⟨⟨⟨h1, h2⟩, h3⟩, h4⟩ := hc
  simp only [ex, Option.bind_eq_some_iff] at hv
  obtain ⟨a, ha, hv⟩ := hv
  split at hv <;> first | (cases hv; done) | skip
  split at hv <;> first | (cases hv; done) | skip
  rename_i hl
  simp only [decide_eq_true_eq] at hl
  cases hv
  refine Assign_Tuple (wpF ((pb_all S e).1 kd _ σ _ h4 ha env m s A hE hR (fi.so ok)) fun mv s₁ g₁ => ?_) (swapsSole_plain h1) (swapped_none h2)
  exact wpF (tuple_store S hE hR h3 hl fi g₁.1.2 g₁.1.1) fun _ s₂ g₂ => g₂

theorem filterMap_lt {α β : Type} {f : α → Option β} : ∀ {l : List α}, (∃ x ∈ l, f x = none) → (l.filterMap f).length < l.length
  | [], h => by obtain ⟨x, hx, _⟩ := h; cases hx
  | a :: r, h => by
    rw [List.filterMap_cons]
    cases e : f a with
    | none => exact Nat.lt_succ_of_le (List.length_filterMap_le _ _)
    | some b =>
      obtain ⟨x, hx, hf⟩ := h
      rcases List.mem_cons.mp hx with rfl | hx
      · rw [e] at hf; cases hf
      · have := filterMap_lt (f := f) ⟨x, hx, hf⟩
        simp only [List.length_cons]; omega

theorem swapped_noneU {kd : Kd} {es : List Expr} {kk : Nat} {p : Pos} {v : Expr} (hE : EnvOK env kd) (h : es.any (fun e => !isLoc kd e) = true) : swappedStores [.Tuple es kk p] v env = pure none := by
  by_cases hv : notTup v = true
  · exact swapped_none hv
  · cases v with
    | Tuple vs k' p' =>
      unfold swappedStores
      simp only []
      split
      · rfl
      · split
        · rfl
        · rw [if_pos]
          obtain ⟨e, he, hl⟩ := List.any_eq_true.mp h
          refine Bool.or_eq_true_iff.mpr (.inl ((bne_iff_ne).mpr (Nat.ne_of_lt (filterMap_lt ⟨e, he, ?_⟩))))
          cases e with
          | Name id pos =>
            simp only [isLoc, Bool.not_eq_true'] at hl
            simp only [hE.kdEq, hl, Bool.false_and, Bool.false_eq_true, if_false]
          | _ => rfl
    | _ => exact absurd rfl hv

theorem ps_asgU (S : Sys W T fad cs k) {is : List Nat} {e : X} : PS W T cs k (.asgU is e) := by
  intro kd stm σ ow r hc hv env h₀ fz m s A hE hR ok fi
  simp only [chkS] at hc
  split at hc <;> first | (cases hc; done) | skip
  simp only [Bool.and_eq_true] at hc
  obtain ⟨⟨⟨h1, h2⟩, h3⟩, h4⟩ := hc
  simp only [ex, Option.bind_eq_some_iff] at hv
  obtain ⟨a, ha, hv⟩ := hv
  split at hv <;> first | (cases hv; done) | skip
  split at hv <;> first | (cases hv; done) | skip
  rename_i hl
  simp only [decide_eq_true_eq] at hl
  cases hv
  refine Assign_Tuple (wpF ((pb_all S e).1 kd _ σ _ h4 ha env m s A hE hR (fi.so ok)) fun mv s₁ g₁ => ?_) (swapsSole_plain h1) (swapped_noneU hE h2)
  exact wpF (tuple_store S hE hR h3 hl fi g₁.1.2 g₁.1.1) fun _ s₂ g₂ => g₂

theorem filterMap_names {kd : Kd} (hE : EnvOK env kd) {n : Nat} {f : Expr → Option PySem.Str} (hf : ∀ id pos, f (.Name id pos) = if (env.kindOf id == some .local && pos.line == n) = true then some id else none) : ∀ {es : List Expr}, es.all (isLoc kd) = true → es.all (onLine n) = true →
    es.filterMap f = es.map nameOf
  | [], _, _ => rfl
  | e :: es, h1, h2 => by
    simp only [List.all_cons, Bool.and_eq_true] at h1 h2
    have ih := filterMap_names hE hf h1.2 h2.2
    cases e with
    | Name id p =>
      simp only [isLoc, onLine] at h1 h2
      have e1 : f (.Name id p) = some id := by rw [hf, hE.kdEq, h1.1, h2.1]; rfl
      rw [List.filterMap_cons, List.map_cons, ih, e1]
      rfl
    | _ => simp [isLoc] at h1

theorem ps_asgW (S : Sys W T fad cs k) {is : List Nat} {e : X} : PS W T cs k (.asgW is e) := by
  intro kd stm σ ow r hc hv env h₀ fz m s A hE hR ok fi
  simp only [chkS] at hc
  split at hc <;> first | (cases hc; done) | skip
  rename_i es kk tp vs' k' p' spos
  simp only [Bool.and_eq_true, decide_eq_true_eq, Bool.not_eq_true'] at hc
  obtain ⟨⟨⟨⟨⟨⟨⟨⟨⟨h1, h2⟩, h3⟩, h4⟩, h5⟩, h6⟩, h7⟩, h8⟩, h9⟩, h10⟩ := hc
  simp only [ex, Option.bind_eq_some_iff] at hv
  obtain ⟨a, ha, hv⟩ := hv
  split at hv <;> first | (cases hv; done) | skip
  rename_i vs
  split at hv <;> first | (cases hv; done) | skip
  rename_i hl
  simp only [decide_eq_true_eq] at hl
  cases hv
  have hline : (es.head?.map (·.pos.line)).getD 0 = lineOf es := by cases es <;> rfl
  have hbk : env.blockKind = .function := by unfold Env.blockKind; rw [hE.kind]; rfl
  have hsw : swappedStores [.Tuple es kk tp] (.Tuple vs' k' p') env = pure (some (es.map nameOf)) := by
    unfold swappedStores
    simp only []
    rw [if_neg (by simp only [h1, h2, hbk, bne]; simp)]
    rw [if_neg]
    · rw [hline, filterMap_names hE (fun _ _ => rfl) h4 h5]
      rw [if_neg (by simp [h6])]
      rw [if_neg (by rw [h7]; simp), if_neg (by rw [h8]; simp)]
    · intro hs
      obtain ⟨y, hy, hst⟩ := List.any_eq_true.mp hs
      have := List.all_eq_true.mp h3 y hy
      cases y <;> first | (cases hst; done) | (cases this; done)
  obtain ⟨q1, q2, q3, q4, q5⟩ := names_ok (env := env) h9
  refine Assign_Tuple_swapped (names := es.map nameOf) (wpF ((pb_all S e).1 kd _ σ _ h10 ha env m s A hE hR (fi.so ok)) fun mv s₁ g₁ => ?_) rfl hsw
  obtain ⟨t, items, rfl, ht, hrl⟩ := g₁.1.1.isTup
  have hsz : items.size = is.length := by have := hrl.length; rw [← hl, ← this]; simp
  have hsz' : (es.map nameOf).length = items.size := by rw [List.length_map, hsz, q1]
  rw [hsz']
  refine unpackItems_tuple hR.handled ht fun h' he => ?_
  have k2 : Keeps s₁ { s₁ with heap := h' } := kExt he
  refine wpF (storeAll S hE _ is.reverse _ vs.reverse σ m _ (fun j t' hj => ?_) (by simp [q1]) (by simp [hl]) ((hrl.keeps (kHeap k2)).reverse) ((fi.keeps (kHeap (kTrans g₁.1.2 k2))).disown)) fun _ s₂ g₂ => g₂.of (same_of (kTrans g₁.1.2 k2))
  rw [List.getElem?_map, Option.map_eq_some_iff] at hj
  obtain ⟨n, hn, rfl⟩ := hj
  rw [← List.map_reverse, List.getElem?_map, Option.map_eq_some_iff] at hn
  obtain ⟨e, he', rfl⟩ := hn
  have hjl : j < es.length := by
    have := (List.getElem?_eq_some_iff.mp he').1
    simpa using this
  rw [List.getElem?_reverse hjl] at he'
  obtain ⟨i, x, p'', hi, rfl, hx, hk⟩ := q2 _ e he'
  refine ⟨i, x, ?_, hx, hk, fun mv Q s hw => wpAny_bindName hw⟩
  rw [List.getElem?_reverse (by rw [q1]; exact hjl), q1]
  exact hi
end
end Mine

end
section -- M20
open PySem PySem.Calls PySem.W PyProof.Rows
set_option maxRecDepth 10000
namespace Mine

section
variable {nm : List PySem.Str} {env : Env} {h₀ h h' : Heap} {fz : List (Addr × Obj)} {m : PySem.Str → Option Value} {σ : List V} {ow : Ow}

theorem FI.mutate {i : Nat} {pl pl' : Bool} {x : PySem.Str} {a : Addr} {o o' : Obj} {items items' : Array Value} {n n' : Nat} {vs vs' : List V} (f : FI nm env h₀ fz m σ (some (i, pl)) h) (q : OwnAt nm env h₀ fz m σ h i pl x a o items n vs)
    (hs : Heap.SameBut a h h') (ho' : h'.get? a = some o') (hc' : o'.cls = .type "list") (hd' : o'.data = .seq items' n') (hp' : pl' = true → o'.dict = none ∧ o'.slots = #[]) (hr : RepL (minus h.get? a) items'.toList vs') :
    FI nm env h₀ fz m (σ.set i (.lst vs')) (some (i, pl')) h' := by
  have hg : ∀ b o, b ≠ a → h.get? b = some o → h'.get? b = some o := fun b o hb e => hs.extBut b o hb e
  have up : ∀ b o, minus h.get? a b = some o → h'.get? b = some o := by
    intro b o e
    unfold minus at e
    split at e
    · cases e
    · rename_i hb; exact hg b o hb e
  have up' : ∀ b o, minus h.get? a b = some o → minus h'.get? a b = some o := by
    intro b o e
    have h1 := up b o e
    unfold minus at e ⊢
    split at e
    · cases e
    · rename_i hb; rw [if_neg hb]; exact h1
  have hne : env.locals ≠ a := by
    rintro rfl
    exact (ns_data f.F.ns q.get).1 _ _ q.data
  have hcell : ∀ c w, h.IsCell c w → c ≠ a := by
    rintro c w ⟨oc, h1, h2⟩ rfl
    rw [q.get] at h1; cases h1
    rw [q.data] at h2; cases h2
  have hlen : i < σ.length := (List.getElem?_eq_some_iff.mp q.val).1
  refine ⟨⟨f.F.ns.sameBut hs hne, fun b o e => hg b o (by rintro rfl; rw [q.new] at e; cases e) (f.F.keep b o e), f.F.above⟩, fun p hp => ⟨hg _ _ (q.off p hp) (f.N p hp).1, (f.N p hp).2⟩, ⟨?_, ?_⟩, fun y c hc => ?_, f.apart, ?_, by rw [List.length_set]; exact f.len⟩
  · intro j y w hj hw hu hl
    by_cases hij : i = j
    · subst hij
      rw [q.hx] at hj; cases hj
      obtain rfl := get_set_self hw
      exact ⟨_, q.at', .lst ho' hc' hd' (hr.mono fun b o e _ => up b o e)⟩
    · rw [List.getElem?_set_ne hij] at hw
      obtain ⟨mw, e, r⟩ := q.rest.loc j y w hj (by rw [List.getElem?_set_ne hij]; exact hw) hu hl
      exact ⟨mw, e, r.mono fun b o e _ => up b o e⟩
  · intro j y w hj hw hu hl
    by_cases hij : i = j
    · subst hij
      rw [q.hx] at hj; cases hj
      rw [q.kind] at hl; rcases hl with e | e <;> cases e
    · rw [List.getElem?_set_ne hij] at hw
      obtain ⟨c, oc, mw, e1, e2, e3, r⟩ := q.rest.cel j y w hj (by rw [List.getElem?_set_ne hij]; exact hw) hu hl
      exact ⟨c, oc, mw, e1, up _ _ e2, e3, r.mono fun b o e _ => up b o e⟩
  · obtain ⟨⟨w, hw⟩, r⟩ := f.cells y c hc
    exact ⟨⟨w, hw.sameBut hs (hcell c w hw)⟩, r⟩
  · intro j pl₂ e
    cases e
    refine ⟨x, a, o', items', n', vs', ⟨q.hx, q.kind, q.at', ho', hc', hd', hp', q.new, q.off, by rw [List.getElem?_set_self hlen], hr.mono fun b o e _ => up' b o e, ?_⟩⟩
    rw [List.set_set]
    exact q.rest.mono up'
end

section
variable {W : Wd} {T : Tb} {fad : List Addr} {cs : Nat → List V → Option V} {k : Nat} {env : Env} {h₀ : Heap} {fz : List (Addr × Obj)}

theorem ps_setIdx (S : Sys W T fad cs k) {i : Nat} {j e : X} : PS W T cs k (.setIdx i j e) := by
  intro kd stm σ ow r hc hv env h₀ fz m s A hE hR ok fi
  simp only [chkS] at hc
  split at hc <;> first | (cases hc; done) | skip
  simp only [Bool.and_eq_true, beq_iff_eq] at hc
  obtain ⟨⟨⟨⟨⟨h1, h2⟩, h3⟩, h4⟩, h5⟩, h6⟩ := hc
  simp only [chk, Bool.and_eq_true, beq_iff_eq, bne_iff_ne] at h3
  simp only [ex, Option.bind_eq_some_iff] at hv
  obtain ⟨v, hv, l, hl, kv, hk, hv'⟩ := hv
  split at hv' <;> first | (cases hv'; done) | skip
  rename_i vs ki
  split at hv' <;> first | (cases hv'; done) | skip
  rename_i how
  simp only [Bool.and_eq_true] at how
  simp only [Option.map_eq_some_iff] at hv'
  obtain ⟨vs', hset, rfl⟩ := hv'
  unfold setItemAt at hset
  split at hset <;> first | (cases hset; done) | skip
  rename_i hrange
  simp only [Bool.and_eq_true, decide_eq_true_eq] at hrange
  cases hset
  unfold owns at how
  split at how
  · rename_i i' pl
    have hii : i' = i := by simpa using how.1
    subst hii
    refine wpAny_Assign_Subscript (wpF ((pb_all S e).1 kd _ σ v h6 hv env m s A hE hR (fi.so ok)) fun mv s₁ g₁ => ?_) (swaps_plain h4)
    have fi₁ := fi.keeps (kHeap g₁.1.2)
    obtain ⟨y₁, a₁, o₁, it₁, n₁, vs₁, q₁⟩ := fi₁.own _ _ rfl
    have hy := Option.some.inj (h1.symm.trans q₁.hx)
    subst hy
    refine wpAny_Name (wpAny_loadName_local hE.kind q₁.kind fi₁.F.ns q₁.at' ?_) (beq_eq_false_iff_ne.mpr h3.1.2)
    refine wpF ((pb_all S j).1 kd _ σ _ h5 hk env m s₁ A hE hR (fi₁.so ok)) fun mk s₂ g₂ => ?_
    have fi₂ := fi₁.keeps (kHeap g₂.1.2)
    obtain ⟨t, rfl⟩ := g₂.1.1.isInt
    obtain ⟨y₂, a₂, o₂, it₂, n₂, vs₂, q⟩ := fi₂.own _ _ rfl
    have hy2 := Option.some.inj (q₁.hx.symm.trans q.hx)
    subst hy2
    have ha2 : a₂ = a₁ := by have := q.at'.symm.trans q₁.at'; cases this; rfl
    subst ha2
    have hvs : vs₂ = vs := by
      have h7 := (ev_var hl).1
      rw [q.val] at h7; cases h7; rfl
    subst hvs
    have hlen : it₂.size = vs₂.length := by have := q.rep.length; simpa using this
    refine wpAny_setItem_list ⟨o₂, q.get, q.cls, n₂, q.data⟩ hrange.1.1 (by omega) (by rw [hlen]; exact hrange.1.2) fun h' hl' hs' => ?_
    obtain ⟨o', ho', hc', n', hd'⟩ := hl'
    have kk := kTrans g₁.1.2 g₂.1.2
    obtain ⟨h9, t9, rfl, _⟩ := kk
    refine ⟨h', _, m, rfl, fi₂.mutate q hs' ho' hc' hd' (fun h => by cases h) ?_⟩
    rw [Array.toList_setIfInBounds]
    exact q.rep.set _ ((g₁.1.1.keeps (kHeap g₂.1.2)).avoid q.get q.cls how.2)
  · exact absurd how.1 (by simp)

theorem ps_app (S : Sys W T fad cs k) {i : Nat} {e : X} : PS W T cs k (.app i e) := by
  intro kd stm σ ow r hc hv env h₀ fz m s A hE hR ok fi
  simp only [chkS] at hc
  split at hc <;> first | (cases hc; done) | skip
  rename_i id p at' ap v' pos spos
  simp only [Bool.and_eq_true, beq_iff_eq] at hc
  obtain ⟨⟨⟨⟨⟨⟨h1, h2⟩, h3⟩, h4⟩, h5⟩, h6⟩, h7⟩ := hc
  subst h4
  simp only [chk, Bool.and_eq_true, beq_iff_eq, bne_iff_ne] at h3
  simp only [ex, Option.bind_eq_some_iff] at hv
  obtain ⟨l, hl, v, hv, hv'⟩ := hv
  split at hv' <;> first | (cases hv'; done) | skip
  rename_i vs
  split at hv' <;> first | (cases hv'; done) | skip
  rename_i how
  simp only [Bool.and_eq_true, decide_eq_true_eq] at how
  obtain ⟨⟨rfl, hflat⟩, hsz⟩ := how
  cases hv'
  obtain ⟨y₁, a₁, o₁, it₁, n₁, vs₁, q₁⟩ := fi.own _ _ rfl
  have hy : y₁ = id := Option.some.inj (q₁.hx.symm.trans h1)
  subst hy
  have hint : interactive env = false := by unfold interactive; rw [hE.kind]; rfl
  refine wpAny_Expr ?_ hint rfl
  have e1 : eval (.Call (.Attribute (.Name y₁ p) (Str.ofString "append") ap) [v'] [] pos) env = (do
      let ov ← eval (.Name y₁ p) env
      standAt ap.atName
      methodCall (.Name y₁ p) (Str.ofString "append") ap pos env ov 1 (backTo pos (starEach [v'] env)) []) := rfl
  rw [e1]
  refine wpAny_bind (wpAny_Name (wpAny_loadName_local hE.kind q₁.kind fi.F.ns q₁.at' (wpAny_bind (wpAny_standAt ?_))) (beq_eq_false_iff_ne.mpr h3.1.2))
  have e2 : methodCallPos true (.Name y₁ p) env ap pos = pure pos := by
    unfold methodCallPos
    rw [if_pos]
    simp [h5]
  have e3 : methodCallForm 1 (backTo pos (starEach [v'] env)) [] = true := by rw [star_plain h6]; rfl
  unfold methodCall
  rw [e3]
  have hpl := q₁.plain rfl
  refine wpAny_bind (wpAny_holding (getMethod_list_append q₁.get q₁.cls hpl.1 ?_))
  refine wpAny_bind (wpAny_of_eq e2 ?_)
  refine callWith_method1 (args1 h6 (wpF ((pb_all S e).1 kd _ σ _ h7 hv env m s A hE hR (fi.so ok)) fun mv s₂ g₂ => ?_)) (star_plain h6 []) rfl
  have fi₂ := fi.keeps (kHeap g₂.1.2)
  obtain ⟨y₂, a₂, o₂, it₂, n₂, vs₂, q⟩ := fi₂.own _ _ rfl
  have hy2 : y₂ = y₁ := Option.some.inj (q.hx.symm.trans q₁.hx)
  subst hy2
  have ha2 : a₂ = a₁ := by have := q.at'.symm.trans q₁.at'; cases this; rfl
  subst ha2
  have hvs : vs₂ = vs := by
    have h8 := (ev_var hl).1
    rw [q.val] at h8; cases h8; rfl
  subst hvs
  have hlen : it₂.size = vs₂.length := by have := q.rep.length; simpa using this
  have hpl2 := q.plain rfl
  have hobj : o₂ = { cls := .type "list", data := .seq it₂ n₂ } := by
    obtain ⟨c, d, dt, sl⟩ := o₂
    have e4 := q.cls; have e5 := q.data
    dsimp only at e4 e5 hpl2
    obtain ⟨e6, e7⟩ := hpl2
    subst e4; subst e5; subst e6; subst e7; rfl
  have hplain : s₂.heap.PlainList a₂ it₂ := ⟨n₂, by rw [q.get, hobj]⟩
  refine wpAny_list_append_plain (hsz := by rw [hlen, sizeLine_eq]; omega) hplain fun h' hp' hs' => ?_
  obtain ⟨n', hn'⟩ := hp'
  obtain ⟨h9, t9, rfl, _⟩ := g₂.1.2
  refine ⟨h', _, m, rfl, fi₂.mutate q hs' hn' rfl rfl (fun _ => ⟨rfl, rfl⟩) ?_⟩
  have e8 : (it₂.push mv).toList = it₂.toList ++ [mv] := by simp
  rw [e8]
  exact q.rep.append (.one (g₂.1.1.avoid q.get q.cls hflat))

theorem ps_all (S : Sys W T fad cs k) : ∀ x, PS W T cs k x := by
  intro x
  refine Mine.S.rec (motive_1 := fun x => PS W T cs k x) (motive_2 := fun xs => PSs W T cs k xs) ?_ ?_ ?_ ?_ ?_ ?_ ?_ ?_ ?_ ?_ ?_ ?_ ?_ ?_ ?_ ?_ x
  · exact fun i e => ps_asg S
  · exact fun i e => ps_asgC S
  · exact fun i e => ps_asgT S
  · exact fun i e => ps_asgU S
  · exact fun i e => ps_asgW S
  · exact fun i op e => ps_aug S
  · exact fun i j e => ps_setIdx S
  · exact fun i e => ps_app S
  · exact fun c a b ha hb => ps_ite S ha hb
  · exact fun i it b hb => ps_for S hb
  · exact fun i xs b hb => ps_forR S hb
  · exact fun e => ps_ret S
  · exact fun e => ps_asrt S
  · exact ps_bad
  · exact pss_nil
  · exact fun x xs hx hxs => pss_cons hx hxs
theorem pss_all (S : Sys W T fad cs k) : ∀ xs, PSs W T cs k xs
  | [] => pss_nil
  | x :: xs => pss_cons (ps_all S x) (pss_all S xs)
end
end Mine

end
section -- M21
open PySem PySem.Calls PySem.W PyProof.Rows
set_option maxRecDepth 10000
namespace Mine

theorem bindL_miss {kindOf : Kd} {x : PySem.Str} : ∀ {names : List PySem.Str} {vals : List Value} {m : PySem.Str → Option Value}, x ∉ names → bindL kindOf (names.zip vals) m x = m x
  | [], _, _, _ => rfl
  | n :: ns, [], _, _ => rfl
  | n :: ns, v :: vs, m, h => by
    simp only [List.mem_cons, not_or] at h
    rw [List.zip_cons_cons, bindL, bindL_miss h.2]
    split
    · exact if_neg h.1
    · rfl
theorem bindL_hit {kindOf : Kd} {x : PySem.Str} {v : Value} (hk : kindOf x = some .local) : ∀ {names : List PySem.Str} {vals : List Value} {m : PySem.Str → Option Value} {i : Nat}, names.Nodup → names[i]? = some x → vals[i]? = some v → bindL kindOf (names.zip vals) m x = some v
  | [], _, _, _, _, h, _ => by simp at h
  | n :: ns, [], _, _, _, _, h => by simp at h
  | n :: ns, w :: vs, m, i, hnd, hx, hv => by
    rw [List.zip_cons_cons, bindL]
    cases i with
    | zero =>
      simp only [List.getElem?_cons_zero, Option.some.injEq] at hx hv
      subst hx; subst hv
      rw [bindL_miss (List.nodup_cons.mp hnd).1, if_pos hk, if_pos rfl]
    | succ i => exact bindL_hit hk (List.nodup_cons.mp hnd).2 (by simpa using hx) (by simpa using hv)
theorem bindC_miss {kindOf : Kd} {x : PySem.Str} : ∀ {names : List PySem.Str} {vals : List Value} {m : PySem.Str → Option Value}, x ∉ names → bindC kindOf (names.zip vals) m x = m x
  | [], _, _, _ => rfl
  | n :: ns, [], _, _ => rfl
  | n :: ns, v :: vs, m, h => by
    simp only [List.mem_cons, not_or] at h
    rw [List.zip_cons_cons, bindC, bindC_miss h.2]
    split
    · rfl
    · exact if_neg h.1
theorem bindC_hit {kindOf : Kd} {x : PySem.Str} {v : Value} (hk : kindOf x ≠ some .local) : ∀ {names : List PySem.Str} {vals : List Value} {m : PySem.Str → Option Value} {i : Nat}, names.Nodup → names[i]? = some x → vals[i]? = some v → bindC kindOf (names.zip vals) m x = some v
  | [], _, _, _, _, h, _ => by simp at h
  | n :: ns, [], _, _, _, _, h => by simp at h
  | n :: ns, w :: vs, m, i, hnd, hx, hv => by
    rw [List.zip_cons_cons, bindC]
    cases i with
    | zero =>
      simp only [List.getElem?_cons_zero, Option.some.injEq] at hx hv
      subst hx; subst hv
      rw [bindC_miss (List.nodup_cons.mp hnd).1, if_neg hk, if_pos rfl]
    | succ i => exact bindC_hit hk (List.nodup_cons.mp hnd).2 (by simpa using hx) (by simpa using hv)

/-- BindsTo, closed -/
structure BT (s : Shared) (F : FuncData) (args : Args) (binds : List (PySem.Str × Value)) : Prop where
  out : BindsTo s F args binds

/-- what is known of a def of the text -/
structure FnFact (K : Frag) (T : Tb) (fd : FD) (a : Addr) (o : Obj) (F : FuncData) (body : List Stmt) : Prop where
  get : K.lookup a = some o
  data : o.data = .func F
  code : codeIn K F.code F.qualname = true
  isBody : F.body = .stmts body
  co : F.scope.isCoroutine = false
  gen : F.scope.isGenerator = false
  kind : F.scope.kind = .function
  closure : F.closure = []
  globals : F.globals = mainGlobals
  builtins : F.builtins = builtinsNs
  noFree : F.scope.names.all (fun y => y.2 != .free) = true
  params : (T.nm.take fd.np).all (fun x => F.scope.names.lookup x == some .local || F.scope.names.lookup x == some .cell) = true
  chk : chkSs T fd.body (fun x => F.scope.names.lookup x) body = true
  len : T.nm.length = fd.nl
  np : fd.np ≤ fd.nl
  binds : ∀ (s : Shared) (vals : List Value), K.In s.heap → vals.length ≤ fd.np → fd.np ≤ vals.length + fd.defs.length →
    ∃ dvs, BT s F ⟨vals, []⟩ ((T.nm.take fd.np).zip (vals ++ dvs)) ∧ RepL s.heap.get? dvs (fd.defs.drop (vals.length + fd.defs.length - fd.np))

theorem binds_peek {K : Frag} {s : Shared} {F : FuncData} {args : Args} {binds : List (PySem.Str × Value)} (X : K.In s.heap) (e : ∀ S : Setting, peek K S (bindArgs F args) = some binds) : BT s F args binds :=
  ⟨fun M A E Q hq => (Looks.of_peek (M := M) X (e _)).here hq⟩
theorem lookup_mem {α : Type} : ∀ {l : List (PySem.Str × α)} {x : PySem.Str} {k : α}, l.lookup x = some k → (x, k) ∈ l := mem_of_lookup

section
variable {W : Wd} {T : Tb} {fad : List Addr} {cs : Nat → List V → Option V} {k : Nat}

theorem fn_ok (S : Sys W T fad cs k) {fd : FD} {f : Nat} {a : Addr} {o : Obj} {F : FuncData} {body : List Stmt} (X : FnFact W.K T fd a o F body) (hf : fad[f]? = some a) {args : List V} {r : V} (hrun : runF T.gt T.sh cs fd args = some r) : FnOk W fad (k + 1) f args r := by
  intro a' hfa A s vals hR ok hr
  rw [hf] at hfa; cases hfa
  unfold runF at hrun
  simp only [Option.bind_eq_some_iff, Option.map_eq_some_iff] at hrun
  obtain ⟨vs, hb, q, hq, hres⟩ := hrun
  unfold bindV at hb
  split at hb <;> first | (cases hb; done) | skip
  rename_i hbnd
  simp only [Bool.and_eq_true, decide_eq_true_eq] at hbnd
  cases hb
  have hlenv : vals.length = args.length := hr.length
  obtain ⟨dvs, ⟨hbind⟩, hdv⟩ := X.binds s vals ok.inK (by omega) (by omega)
  rw [hlenv] at hdv
  have hall : RepL s.heap.get? (vals ++ dvs) (args ++ fd.defs.drop (args.length + fd.defs.length - fd.np)) := hr.append hdv
  have hvl : (vals ++ dvs).length = fd.np := by
    have := hdv.length
    rw [List.length_append, this, List.length_drop]; omega
  have hnpl : fd.np ≤ T.nm.length := by rw [X.len]; exact X.np
  have hkinds : ((T.nm.take fd.np).zip (vals ++ dvs)).all (fun y => F.scope.names.lookup y.1 == some .local || F.scope.names.lookup y.1 == some .cell) = true := by
    rw [List.all_eq_true]
    intro y hy
    exact List.all_eq_true.mp X.params y.1 (List.of_mem_zip hy).1
  refine wpAny_call (codeAny_call_function (by have := hR.depth; omega) (ok.inK _ _ X.get) X.data X.co X.gen X.isBody (codeRec_of ok.inK X.code) (hbind _ _ _ _ ?_))
  rw [X.closure]
  refine wpAny_newFunctionEnv_cells X.kind (kindsX hkinds _) fun env he s' x => ?_
  have eloc : env.locals = s.heap.objs.size := by rw [he]; rfl
  have escope : env.scope = F.scope := by rw [he]; rfl
  have ecells : env.cells = cellsFrom (s.heap.objs.size + 1) F.scope.names [] := by rw [he]; rfl
  have ekind : ∀ y, env.kindOf y = F.scope.names.lookup y := fun y => by unfold Env.kindOf; rw [escope]
  have hE : EnvOK env (fun x => F.scope.names.lookup x) := by
    refine ⟨by rw [escope]; exact X.kind, ekind, by rw [he]; exact X.globals, by rw [he]; exact X.builtins, fun y hy => ?_⟩
    rcases hy with hy | hy
    · have := cellsFrom_some (x := y) F.scope.names (s.heap.objs.size + 1) [] (.inl hy)
      rw [ecells]
      exact Option.isSome_iff_exists.mp this
    · have := List.all_eq_true.mp X.noFree _ (lookup_mem hy)
      simp at this
  obtain ⟨h₁, tk, rfl, _⟩ := x.done
  have hk₁ := x.toInCall.keep
  refine ⟨ok.top.nolimit.keeps hk₁, codeAny_func ?_⟩
  have hσ : ∀ (i : Nat) (v : V), (args ++ fd.defs.drop (args.length + fd.defs.length - fd.np) ++ List.replicate (fd.nl - fd.np) V.undef)[i]? = some v → v ≠ .undef → i < fd.np ∧ (args ++ fd.defs.drop (args.length + fd.defs.length - fd.np))[i]? = some v := by
    intro i v hv hu
    have hl : (args ++ fd.defs.drop (args.length + fd.defs.length - fd.np)).length = fd.np := by rw [← hall.length, hvl]
    by_cases hi : i < fd.np
    · exact ⟨hi, by rwa [List.getElem?_append_left (by omega)] at hv⟩
    · rw [List.getElem?_append_right (by omega)] at hv
      exact absurd (List.eq_of_mem_replicate (List.mem_of_getElem? hv)) hu
  have hndt : (T.nm.take fd.np).Nodup := S.nd.sublist (List.take_sublist _ _)
  have fi : FI T.nm env s.heap [] (bindL env.kindOf ((T.nm.take fd.np).zip (vals ++ dvs)) fun _ => none) (args ++ fd.defs.drop (args.length + fd.defs.length - fd.np) ++ List.replicate (fd.nl - fd.np) V.undef) none h₁ := by
    refine ⟨⟨x.toInCall.ns, hk₁, by rw [eloc]; exact Nat.le_refl _⟩, News.nil, ⟨fun i y v hi hv hu hl => ?_, fun i y v hi hv hu hc => ?_⟩, fun y c hc => ?_, fun y z c hy hz => ?_, fun _ _ e => (by cases e), ?_⟩
    · obtain ⟨hin, hv'⟩ := hσ i v hv hu
      obtain ⟨mv, hmv, hrep⟩ := hall.get hv'
      refine ⟨mv, bindL_hit hl hndt (i := i) ?_ hmv, hrep.keeps hk₁⟩
      rw [List.getElem?_take_of_lt hin]; exact hi
    · obtain ⟨hin, hv'⟩ := hσ i v hv hu
      obtain ⟨mv, hmv, hrep⟩ := hall.get hv'
      have hnl : env.kindOf y ≠ some .local := by rintro e; rw [e] at hc; rcases hc with h | h <;> cases h
      obtain ⟨c, hc'⟩ := hE.cells y (by rw [ekind] at hc; exact hc)
      obtain ⟨oc, h1, h2⟩ := x.cell y c hc'
      refine ⟨c, oc, mv, hc', h1, ?_, hrep.keeps hk₁⟩
      rw [h2, bindC_hit hnl hndt (i := i) (by rw [List.getElem?_take_of_lt hin]; exact hi) hmv]
    · refine ⟨⟨_, x.cell y c hc⟩, ?_, fun p hp => nomatch hp⟩
      have := x.above y c (mem_of_lookup hc)
      rw [eloc] at this
      cases e : s.heap.get? c with
      | none => rfl
      | some o => exact absurd (Nat.lt_trans (Heap.lt_size e) this) (Nat.lt_irrefl _)
    · exact name_of_addr x.apart (mem_of_lookup hy) (mem_of_lookup hz)
    · have hl : (args ++ fd.defs.drop (args.length + fd.defs.length - fd.np)).length = fd.np := by rw [← hall.length, hvl]
      rw [List.length_append, hl, List.length_replicate, X.len]
      have hnp := X.np; omega
  have hR' : Room (A.deeper env) k := ⟨hR.handled, by have := hR.depth; show A.depth + 1 + k < _; omega, by have := hR.units; show A.units + 3 + 4 * k + 100 < _; omega⟩
  refine wpF (pss_all S fd.body _ body _ none q X.chk hq env s.heap [] _ { s with heap := h₁, toks := tk } (A.deeper env) hE hR' ok fi) fun fl s'' hsp => ?_
  cases q with
  | next σ ow => cases fl with
    | next =>
      obtain ⟨h', tk', m', rfl, fi'⟩ := hsp
      dsimp only at hres ⊢
      subst hres
      exact ⟨.none, h', tk', rfl, fi'.F.keep⟩
    | _ => exact hsp.elim
  | ret v => cases fl with
    | ret mv =>
      obtain ⟨h', tk', rfl, hrep, hkp⟩ := hsp
      dsimp only at hres ⊢
      subst hres
      exact ⟨hrep, h', tk', rfl, hkp⟩
    | _ => exact hsp.elim
end
end Mine

end
section -- P1
open PySem PySem.W PyProof.Rows
set_option maxRecDepth 10000
namespace Mine
open Builtin.Int (intBits)

theorem land_pred : ∀ (n : Nat), 0 < n → ∃ t q, n = (2 * q + 1) * 2 ^ t ∧ (n &&& (n - 1)) + 2 ^ t = n := by
  intro n
  induction n using Nat.strongRecOn with
  | ind n ih =>
    intro hn
    have hd : (n &&& (n - 1)) / 2 = n / 2 &&& (n - 1) / 2 := Nat.and_div_two
    have hm : (n &&& (n - 1)) % 2 = 1 ↔ n % 2 = 1 ∧ (n - 1) % 2 = 1 := Nat.and_mod_two_eq_one
    by_cases ho : n % 2 = 1
    · refine ⟨0, n / 2, by omega, ?_⟩
      rw [show (n - 1) / 2 = n / 2 by omega, Nat.and_self] at hd
      omega
    · obtain ⟨t, q, h1, h2⟩ := ih (n / 2) (by omega) (by omega)
      refine ⟨t + 1, q, ?_, ?_⟩
      · rw [Nat.pow_succ, ← Nat.mul_assoc, ← h1]; omega
      · rw [show (n - 1) / 2 = n / 2 - 1 by omega] at hd
        rw [Nat.pow_succ]; omega

theorem tz_int {m : Int} (h : 0 < m) : ∃ (t : Nat) (q : Int), 0 ≤ q ∧ m = (2 * q + 1) * 2 ^ t ∧ Builtin.bitAnd m (-m) = 2 ^ t := by
  obtain ⟨t, q, h1, h2⟩ := land_pred m.toNat (by omega)
  refine ⟨t, (q : Int), by omega, ?_, ?_⟩
  · have : ((m.toNat : Nat) : Int) = m := Int.toNat_of_nonneg (by omega)
    rw [← this, h1, Int.natCast_mul, two_pow_cast]; simp
  · have e : -m = Builtin.bitNot (m - 1) := by unfold Builtin.bitNot; omega
    rw [e, bitAnd_not, bitAnd_pp (by omega) (by omega), show (m - 1).toNat = m.toNat - 1 by omega, two_pow_cast]
    omega

theorem natAbs_two_pow (t : Nat) : ((2 : Int) ^ t).natAbs = 2 ^ t := by rw [two_pow_cast, Int.natAbs_natCast]
theorem pow_pos_int (t : Nat) : (0 : Int) < 2 ^ t := by rw [two_pow_cast]; have := Nat.two_pow_pos t; omega

theorem bits_zero : intBits 0 = 0 := rfl
theorem bits_pos {m : Int} (h : m ≠ 0) : 0 < intBits m := by
  have := @intBits_le_iff 0 m
  rcases Nat.eq_zero_or_pos (intBits m) with h0 | h0
  · have := this.mp (by omega); simp at this; exact absurd this h
  · exact h0
theorem bits_mul_pow {m : Int} (h : m ≠ 0) (t : Nat) : intBits (m * 2 ^ t) = intBits m + t := by
  have hp := bits_pos h
  apply Nat.le_antisymm
  · rw [intBits_le_iff, Int.natAbs_mul, natAbs_two_pow, Nat.pow_add]
    exact Nat.mul_lt_mul_of_pos_right (intBits_le_iff.mp (Nat.le_refl _)) (Nat.two_pow_pos t)
  · rcases Nat.lt_or_ge (intBits (m * 2 ^ t)) (intBits m + t) with hl | hl
    · exfalso
      have : intBits (m * 2 ^ t) ≤ (intBits m - 1) + t := by omega
      rw [intBits_le_iff, Int.natAbs_mul, natAbs_two_pow, Nat.pow_add] at this
      have := intBits_le_iff.mpr (Nat.lt_of_mul_lt_mul_right this)
      omega
    · exact hl
theorem bits_two_pow (t : Nat) : intBits (2 ^ t) = t + 1 := by
  have := bits_mul_pow (m := 1) (by decide) t
  rw [Int.one_mul] at this
  rw [this, show intBits 1 = 1 from by decide]; omega
theorem bits_neg (m : Int) : intBits (-m) = intBits m := by unfold intBits; simp
theorem bits_natAbs (m : Int) : intBits (m.natAbs : Int) = intBits m := by
  rcases Int.natAbs_eq m with h | h
  · rw [← h]
  · have : ((m.natAbs : Nat) : Int) = -m := by omega
    rw [this, bits_neg]

/-- z · 2^e -/
noncomputable def mkD (z e : Int) : Dyadic := Dyadic.ofIntWithPrec z (-e)
theorem mkD_rat (z e : Int) : (mkD z e).toRat = z * 2 ^ e := by rw [mkD, Dyadic.toRat_ofIntWithPrec_eq_mul_two_pow, Int.neg_neg]
theorem two_ne : (2 : Rat) ≠ 0 := by decide
theorem rat_pow_cast (t : Nat) : (((2 : Int) ^ t : Int) : Rat) = 2 ^ (t : Int) := by
  rw [Rat.zpow_natCast]
  induction t with
  | zero => rfl
  | succ t ih => rw [Int.pow_succ, Rat.intCast_mul, ih, Rat.pow_succ]; rfl
theorem mkD_shift (z : Int) (t : Nat) (e : Int) : mkD (z * 2 ^ t) e = mkD z (e + t) := by
  rw [← Dyadic.toRat_inj, mkD_rat, mkD_rat, Rat.intCast_mul, rat_pow_cast, Rat.mul_assoc, ← Rat.zpow_add two_ne, Int.add_comm]
theorem mkD_zero (e : Int) : mkD 0 e = 0 := rfl
theorem mkD_add (z z' e : Int) : mkD z e + mkD z' e = mkD (z + z') e := by
  rw [← Dyadic.toRat_inj, Dyadic.toRat_add, mkD_rat, mkD_rat, mkD_rat, Rat.intCast_add, Rat.add_mul]
theorem mkD_neg (z e : Int) : -mkD z e = mkD (-z) e := by
  rw [← Dyadic.toRat_inj, Dyadic.toRat_neg, mkD_rat, mkD_rat, Rat.intCast_neg, Rat.neg_mul]
theorem mkD_mul (z z' e e' : Int) : mkD z e * mkD z' e' = mkD (z * z') (e + e') := by
  rw [← Dyadic.toRat_inj, Dyadic.toRat_mul, mkD_rat, mkD_rat, mkD_rat, Rat.intCast_mul, Rat.zpow_add two_ne]
  grind
theorem mkD_int (z : Int) : mkD z 0 = (z : Dyadic) := rfl
theorem mkD_pow (z e : Int) (n : Nat) : mkD z e ^ n = mkD (z ^ n) (e * n) := by
  induction n with
  | zero => simp only [Dyadic.pow_zero]; rw [Int.pow_zero, Int.natCast_zero, Int.mul_zero]; rfl
  | succ n ih => rw [Dyadic.pow_succ, ih, mkD_mul, Int.pow_succ]; congr 1; rw [Int.natCast_add, Int.mul_add]; simp
theorem mkD_odd {q : Int} (h : q % 2 = 1) (e : Int) : mkD q e = .ofOdd q (-e) h := (Dyadic.ofOdd_eq_ofIntWithPrec).symm
theorem mkD_eq_zero {z e : Int} (h : mkD z e = 0) : z = 0 := by
  unfold mkD Dyadic.ofIntWithPrec at h
  split at h
  · assumption
  · exact absurd h Dyadic.of_ne_zero

noncomputable def sg (n : Int) : Int := if n < 0 then 1 else 0
noncomputable def rep : Dyadic → V
  | .zero => T4 0 0 0 0
  | .ofOdd n k _ => T4 (sg n) n.natAbs (-k) (intBits n)
theorem rep_zero : rep 0 = T4 0 0 0 0 := rfl
theorem rep_odd {q : Int} (h : q % 2 = 1) (e : Int) : rep (mkD q e) = T4 (sg q) q.natAbs e (intBits q) := by
  rw [mkD_odd h, rep, Int.neg_neg]
/-- a number is zero or odd times a power -/
theorem d_cases (d : Dyadic) : d = 0 ∨ ∃ q e : Int, q % 2 = 1 ∧ d = mkD q e := by
  cases d with
  | zero => exact .inl rfl
  | ofOdd n k hn => exact .inr ⟨n, -k, hn, by rw [mkD_odd hn]; congr; omega⟩
theorem T4_inj {a b c d a' b' c' d' : Int} (h : T4 a b c d = T4 a' b' c' d') : a = a' ∧ b = b' ∧ c = c' ∧ d = d' := by
  unfold T4 at h; simpa using h
theorem rep_inj {x y : Dyadic} (h : rep x = rep y) : x = y := by
  rcases d_cases x with rfl | ⟨q, e, hq, rfl⟩ <;> rcases d_cases y with rfl | ⟨q', e', hq', rfl⟩
  · rfl
  · rw [rep_odd hq', rep_zero] at h; obtain ⟨_, h2, _⟩ := T4_inj h; exfalso; omega
  · rw [rep_odd hq, rep_zero] at h; obtain ⟨_, h2, _⟩ := T4_inj h; exfalso; omega
  · rw [rep_odd hq, rep_odd hq'] at h
    obtain ⟨h1, h2, h3, _⟩ := T4_inj h
    unfold sg at h1
    have : q = q' := by split at h1 <;> split at h1 <;> omega
    subst this; subst h3; rfl
theorem ints_T4 (a b c d : Int) : ints? [.int a, .int b, .int c, .int d] = some [a, b, c, d] := rfl
theorem rep_ints (x : Dyadic) : ∃ vs ns, rep x = .tup vs ∧ ints? vs = some ns ∧ vs = ns.map .int := by
  cases x with
  | zero => exact ⟨_, _, rfl, rfl, rfl⟩
  | ofOdd n k h => exact ⟨_, _, rfl, rfl, rfl⟩
theorem cmp_eq (x y : Dyadic) : cmpop .Eq (rep x) (rep y) = some (decide (x = y)) := by
  obtain ⟨vs, ns, h1, h2, h3⟩ := rep_ints x
  obtain ⟨vs', ns', h1', h2', h3'⟩ := rep_ints y
  rw [h1, h1']
  simp only [cmpop, h2, h2', Option.some.injEq, decide_eq_decide]
  constructor
  · rintro rfl; exact rep_inj (by rw [h1, h1', h3, h3'])
  · rintro rfl; rw [h1] at h1'; cases h1'; rw [h2] at h2'; exact Option.some.inj h2'
theorem cmp_ne (x y : Dyadic) : cmpop .NotEq (rep x) (rep y) = some (!decide (x = y)) := by
  obtain ⟨vs, ns, h1, h2, h3⟩ := rep_ints x
  obtain ⟨vs', ns', h1', h2', h3'⟩ := rep_ints y
  have := cmp_eq x y
  rw [h1, h1'] at this ⊢
  simp only [cmpop, h2, h2', Option.some.injEq] at this ⊢
  rw [this]
theorem flat_rep (x : Dyadic) : flat (rep x) = true := by
  cases x <;> rfl
end Mine

end
section -- P0
open PySem PySem.W PyProof.Rows
set_option maxRecDepth 10000
set_option maxHeartbeats 1000000
set_option linter.unusedSimpArgs false
namespace Mine
open Builtin.Int (intBits)

noncomputable def b1 (f : V → Option V) (o : Option V) : Option V := o.bind f
noncomputable def b2 (f : V → V → Option V) (o p : Option V) : Option V := o.bind fun a => p.bind fun b => f a b
theorem b1_some (f : V → Option V) (a : V) : b1 f (some a) = f a := rfl
theorem b2_some (f : V → V → Option V) (a b : V) : b2 f (some a) (some b) = f a b := rfl
noncomputable def ob {α : Type} (o : Option α) (f : α → Option R) : Option R := o.bind f
theorem ob_some {α : Type} (a : α) (f : α → Option R) : ob (some a) f = f a := rfl
noncomputable def vget : Option V → Option V
  | some .undef => Option.none
  | some v => some v
  | Option.none => Option.none
theorem vget_int (i : Int) : vget (some (.int i)) = some (.int i) := rfl
theorem vget_str (i : PySem.Str) : vget (some (.str i)) = some (.str i) := rfl
theorem vget_bool (i : Bool) : vget (some (.bool i)) = some (.bool i) := rfl
theorem vget_none : vget (some .none) = some .none := rfl
theorem vget_tup (i : List V) : vget (some (.tup i)) = some (.tup i) := rfl
theorem vget_lst (i : List V) : vget (some (.lst i)) = some (.lst i) := rfl
theorem vget_rep (d : Dyadic) : vget (some (rep d)) = some (rep d) := by cases d <;> rfl
noncomputable def vneg : V → Option V
  | .int i => some (.int (-i))
  | _ => Option.none
theorem vneg_int (i : Int) : vneg (.int i) = some (.int (-i)) := rfl
noncomputable def vnot (v : V) : Option V := (truthyV v).map fun b => .bool (!b)
theorem t_int (i : Int) : truthyV (.int i) = some (decide (i ≠ 0)) := by
  show some (i != 0) = _
  congr 1
  by_cases h : i = 0 <;> simp [h]
theorem t_bool (b : Bool) : truthyV (.bool b) = some b := rfl
theorem t_none : truthyV .none = some false := rfl
theorem vnot_int (i : Int) : vnot (.int i) = some (.bool (decide (i = 0))) := by
  unfold vnot; rw [t_int]; show some (V.bool _) = _; congr 2
  by_cases h : i = 0 <;> simp [h]
theorem vnot_bool (b : Bool) : vnot (.bool b) = some (.bool (!b)) := rfl
theorem vnot_none : vnot .none = some (.bool true) := rfl
theorem bo_add (a b : Int) : binop .Add (.int a) (.int b) = some (.int (a + b)) := rfl
theorem bo_sub (a b : Int) : binop .Sub (.int a) (.int b) = some (.int (a - b)) := rfl
theorem bo_mul {a b : Int} (h : mulOk a b = true) : binop .Mult (.int a) (.int b) = some (.int (a * b)) := by
  show (intop .Mult a b).map V.int = _; simp only [intop, h, if_true]; rfl
theorem bo_div {a b : Int} (h : divOk b = true) : binop .FloorDiv (.int a) (.int b) = some (.int (a.fdiv b)) := by
  show (intop .FloorDiv a b).map V.int = _; simp only [intop, h, if_true]; rfl
theorem bo_mod {a b : Int} (h : divOk b = true) : binop .Mod (.int a) (.int b) = some (.int (a.fmod b)) := by
  show (intop .Mod a b).map V.int = _; simp only [intop, h, if_true]; rfl
theorem bo_pow {a b : Int} (h : powOk a b = true) : binop .Pow (.int a) (.int b) = some (.int (a ^ b.toNat)) := by
  show (intop .Pow a b).map V.int = _; simp only [intop, h, if_true]; rfl
theorem bo_shl {a b : Int} (h : shlOk a b = true) : binop .LShift (.int a) (.int b) = some (.int (a * 2 ^ b.toNat)) := by
  show (intop .LShift a b).map V.int = _; simp only [intop, h, if_true]; rfl
theorem bo_shr {a b : Int} (h : 0 ≤ b) : binop .RShift (.int a) (.int b) = some (.int (a.fdiv (2 ^ b.toNat))) := by
  show (intop .RShift a b).map V.int = _; simp only [intop, h, decide_true, if_true]; rfl
theorem bo_and (a b : Int) : binop .BitAnd (.int a) (.int b) = some (.int (Builtin.bitAnd a b)) := rfl
theorem bo_xor (a b : Int) : binop .BitXor (.int a) (.int b) = some (.int (Builtin.bitXor a b)) := rfl
noncomputable def vcmp (op : CmpOp) (a b : V) : Option V := (cmpop op a b).map .bool
theorem vc_eq (a b : Int) : vcmp .Eq (.int a) (.int b) = some (.bool (decide (a = b))) := by
  show some (V.bool (a == b)) = _; congr 2
theorem vc_ne (a b : Int) : vcmp .NotEq (.int a) (.int b) = some (.bool (decide (a ≠ b))) := by
  show some (V.bool (a != b)) = _; congr 2
  by_cases h : a = b <;> simp [h]
theorem vc_lt (a b : Int) : vcmp .Lt (.int a) (.int b) = some (.bool (decide (a < b))) := rfl
theorem vc_le (a b : Int) : vcmp .LtE (.int a) (.int b) = some (.bool (decide (a ≤ b))) := rfl
theorem vc_gt (a b : Int) : vcmp .Gt (.int a) (.int b) = some (.bool (decide (b < a))) := rfl
theorem vc_ge (a b : Int) : vcmp .GtE (.int a) (.int b) = some (.bool (decide (b ≤ a))) := rfl
theorem vc_seq (a b : PySem.Str) : vcmp .Eq (.str a) (.str b) = some (.bool (a == b)) := rfl
theorem vc_req (x y : Dyadic) : vcmp .Eq (rep x) (rep y) = some (.bool (decide (x = y))) := by
  unfold vcmp; rw [cmp_eq]; rfl
theorem vc_rne (x y : Dyadic) : vcmp .NotEq (rep x) (rep y) = some (.bool (!decide (x = y))) := by
  unfold vcmp; rw [cmp_ne]; rfl
noncomputable def c2 (o : Option V) (p : Option (List V)) : Option (List V) := o.bind fun v => p.map (v :: ·)
theorem c2_some (a : V) (b : List V) : c2 (some a) (some b) = some (a :: b) := rfl
noncomputable def kc (cs : Nat → List V → Option V) (f : Nat) (o : Option (List V)) : Option V := o.bind fun vs => cs f vs
theorem kc_some (cs : Nat → List V → Option V) (f : Nat) (a : List V) : kc cs f (some a) = cs f a := rfl
noncomputable def ktup (o : Option (List V)) : Option V := o.map .tup
theorem ktup_some (a : List V) : ktup (some a) = some (.tup a) := rfl
noncomputable def klst (o : Option (List V)) : Option V := o.map .lst
theorem klst_some (a : List V) : klst (some a) = some (.lst a) := rfl
noncomputable def vbits : V → Option V
  | .int i => some (.int (intBits i))
  | _ => Option.none
theorem vbits_int (i : Int) : vbits (.int i) = some (.int (intBits i)) := rfl
noncomputable def vint : V → Option V
  | .int i => some (.int i)
  | .bool b => some (.int (if b then 1 else 0))
  | _ => Option.none
theorem vint_int (i : Int) : vint (.int i) = some (.int i) := rfl
theorem vint_bool (b : Bool) : vint (.bool b) = some (.int (if b then 1 else 0)) := rfl
noncomputable def visint : V → Option V
  | .int _ => some (.bool true)
  | _ => Option.none
theorem visint_int (i : Int) : visint (.int i) = some (.bool true) := rfl
noncomputable def vidx (a k : V) : Option V := match a, k with
  | .tup vs, .int i => itemAt vs i
  | .lst vs, .int i => itemAt vs i
  | _, _ => Option.none
theorem vidx_tup (vs : List V) (i : Int) : vidx (.tup vs) (.int i) = itemAt vs i := rfl
theorem vidx_lst (vs : List V) (i : Int) : vidx (.lst vs) (.int i) = itemAt vs i := rfl
noncomputable def vshift : V → Option V
  | .str s => sh0.lookup s
  | _ => Option.none
theorem vshift_str (s : PySem.Str) : vshift (.str s) = sh0.lookup s := rfl
noncomputable def vdm (a b : V) : Option V := match a, b with
  | .int a, .int b => if divOk b = true then some (.tup [.int (a.fdiv b), .int (a.fmod b)]) else Option.none
  | _, _ => Option.none
theorem vdm_int {a b : Int} (h : divOk b = true) : vdm (.int a) (.int b) = some (.tup [.int (a.fdiv b), .int (a.fmod b)]) := by
  show (if divOk b = true then _ else _) = _; rw [if_pos h]

section
variable (cs : Nat → List V → Option V)
noncomputable def kand (r : X) (σ : List V) (a : V) : Option V := (truthyV a).bind fun b => if b = true then ev gt0 sh0 cs r σ else some a
noncomputable def kor (r : X) (σ : List V) (a : V) : Option V := (truthyV a).bind fun b => if b = true then some a else ev gt0 sh0 cs r σ
noncomputable def kand' (r : X) (σ : List V) (a : V) : Bool → Option V
  | true => ev gt0 sh0 cs r σ
  | false => some a
noncomputable def kor' (r : X) (σ : List V) (a : V) : Bool → Option V
  | true => some a
  | false => ev gt0 sh0 cs r σ
noncomputable def kif' (x y : X) (σ : List V) : Bool → Option V
  | true => ev gt0 sh0 cs x σ
  | false => ev gt0 sh0 cs y σ
noncomputable def kif (x y : X) (σ : List V) (a : V) : Option V := (truthyV a).bind fun b => if b = true then ev gt0 sh0 cs x σ else ev gt0 sh0 cs y σ
noncomputable def kt (a b : List S) (σ : List V) (ow : Ow) : Bool → Option R
  | true => exs gt0 sh0 cs a σ ow
  | false => exs gt0 sh0 cs b σ ow
noncomputable def kite (a b : List S) (σ : List V) (ow : Ow) (v : V) : Option R := (truthyV v).bind fun t => if t = true then exs gt0 sh0 cs a σ ow else exs gt0 sh0 cs b σ ow
noncomputable def kont (r : List S) : R → Option R
  | .next σ ow => exs gt0 sh0 cs r σ ow
  | .ret v => some (.ret v)
end
section
variable {cs : Nat → List V → Option V} {σ : List V} {ow : Ow}
theorem kand_int (r : X) (i : Int) : kand cs r σ (.int i) = kand' cs r σ (.int i) (decide (i ≠ 0)) := by
  unfold kand; rw [t_int]; by_cases h : i = 0 <;> simp [h, kand']
theorem kand_bool (r : X) (b : Bool) : kand cs r σ (.bool b) = kand' cs r σ (.bool b) b := by cases b <;> rfl
theorem kand_t (r : X) (a : V) : kand' cs r σ a true = ev gt0 sh0 cs r σ := rfl
theorem kand_f (r : X) (a : V) : kand' cs r σ a false = some a := rfl
theorem kor_int (r : X) (i : Int) : kor cs r σ (.int i) = kor' cs r σ (.int i) (decide (i ≠ 0)) := by
  unfold kor; rw [t_int]; by_cases h : i = 0 <;> simp [h, kor']
theorem kor_bool (r : X) (b : Bool) : kor cs r σ (.bool b) = kor' cs r σ (.bool b) b := by cases b <;> rfl
theorem kor_none (r : X) : kor cs r σ .none = ev gt0 sh0 cs r σ := rfl
theorem kor_t (r : X) (a : V) : kor' cs r σ a true = some a := rfl
theorem kor_f (r : X) (a : V) : kor' cs r σ a false = ev gt0 sh0 cs r σ := rfl
theorem kif_bool (x y : X) (b : Bool) : kif cs x y σ (.bool b) = kif' cs x y σ b := by cases b <;> rfl
theorem kif_t (x y : X) : kif' cs x y σ true = ev gt0 sh0 cs x σ := rfl
theorem kif_f (x y : X) : kif' cs x y σ false = ev gt0 sh0 cs y σ := rfl
theorem kite_int (a b : List S) (i : Int) : kite cs a b σ ow (.int i) = kt cs a b σ ow (decide (i ≠ 0)) := by
  unfold kite; rw [t_int]; by_cases h : i = 0 <;> simp [h, kt]
theorem kite_bool (a b : List S) (t : Bool) : kite cs a b σ ow (.bool t) = kt cs a b σ ow t := by cases t <;> rfl
theorem kite_none (a b : List S) : kite cs a b σ ow .none = exs gt0 sh0 cs b σ ow := rfl
theorem kt_t (a b : List S) : kt cs a b σ ow true = exs gt0 sh0 cs a σ ow := rfl
theorem kt_f (a b : List S) : kt cs a b σ ow false = exs gt0 sh0 cs b σ ow := rfl
theorem kont_next (r : List S) (σ : List V) (ow : Ow) : kont cs r (.next σ ow) = exs gt0 sh0 cs r σ ow := rfl
theorem kont_ret (r : List S) (v : V) : kont cs r (.ret v) = some (.ret v) := rfl

theorem e_none : ev gt0 sh0 cs .none σ = some .none := by rw [ev]
theorem e_bool (b : Bool) : ev gt0 sh0 cs (.bool b) σ = some (.bool b) := by rw [ev]
theorem e_int (b : Int) : ev gt0 sh0 cs (.int b) σ = some (.int b) := by rw [ev]
theorem e_str (b : PySem.Str) : ev gt0 sh0 cs (.str b) σ = some (.str b) := by rw [ev]
theorem e_var (i : Nat) : ev gt0 sh0 cs (.var i) σ = vget (σ[i]?) := by
  rw [ev]
  cases h : σ[i]? with
  | none => rfl
  | some v => cases v <;> rfl
theorem e_g0 : ev gt0 sh0 cs (.glo 0) σ = some (.int 0) := by rw [ev]; rfl
theorem e_g1 : ev gt0 sh0 cs (.glo 1) σ = some (.int 1) := by rw [ev]; rfl
theorem e_g2 : ev gt0 sh0 cs (.glo 2) σ = some (.str "n") := by rw [ev]; rfl
theorem e_g8 : ev gt0 sh0 cs (.glo 8) σ = some (rep 0) := by rw [ev]; rfl
theorem rep_one : rep 1 = T4 0 1 0 1 := by
  show rep (mkD 1 0) = _
  rw [rep_odd (by decide)]; rfl
theorem e_g9 : ev gt0 sh0 cs (.glo 9) σ = some (rep 1) := by rw [ev, rep_one]; rfl
theorem e_g10 : ev gt0 sh0 cs (.glo 10) σ = some (T4 0 0 (-123) (-1)) := by rw [ev]; rfl
theorem e_g11 : ev gt0 sh0 cs (.glo 11) σ = some (T4 0 0 (-456) (-2)) := by rw [ev]; rfl
theorem e_g12 : ev gt0 sh0 cs (.glo 12) σ = some (T4 1 0 (-789) (-3)) := by rw [ev]; rfl
theorem e_bin (op : Operator) (l r : X) : ev gt0 sh0 cs (.bin op l r) σ = b2 (binop op) (ev gt0 sh0 cs l σ) (ev gt0 sh0 cs r σ) := by rw [ev]; rfl
theorem e_neg (x : X) : ev gt0 sh0 cs (.neg x) σ = b1 vneg (ev gt0 sh0 cs x σ) := by
  rw [ev]; cases ev gt0 sh0 cs x σ with
  | none => rfl
  | some v => cases v <;> rfl
theorem e_not (x : X) : ev gt0 sh0 cs (.not x) σ = b1 vnot (ev gt0 sh0 cs x σ) := by rw [ev]; rfl
theorem e_one (x : X) : ev gt0 sh0 cs (.one x) σ = ev gt0 sh0 cs x σ := by rw [ev]
theorem e_and (l r : X) : ev gt0 sh0 cs (.and l r) σ = b1 (kand cs r σ) (ev gt0 sh0 cs l σ) := by rw [ev]; rfl
theorem e_or (l r : X) : ev gt0 sh0 cs (.or l r) σ = b1 (kor cs r σ) (ev gt0 sh0 cs l σ) := by rw [ev]; rfl
theorem e_cmp (op : CmpOp) (l r : X) : ev gt0 sh0 cs (.cmp op l r) σ = b2 (vcmp op) (ev gt0 sh0 cs l σ) (ev gt0 sh0 cs r σ) := by rw [ev]; rfl
theorem e_ite (c a b : X) : ev gt0 sh0 cs (.ite c a b) σ = b1 (kif cs a b σ) (ev gt0 sh0 cs c σ) := by rw [ev]; rfl
theorem e_tup (xs : List X) : ev gt0 sh0 cs (.tup xs) σ = ktup (evs gt0 sh0 cs xs σ) := by rw [ev]; rfl
theorem e_lst (xs : List X) : ev gt0 sh0 cs (.lst xs) σ = klst (evs gt0 sh0 cs xs σ) := by rw [ev]; rfl
theorem e_idx (x i : X) : ev gt0 sh0 cs (.idx x i) σ = b2 vidx (ev gt0 sh0 cs x σ) (ev gt0 sh0 cs i σ) := by
  rw [ev]; unfold b2; congr 1
theorem e_shift (x : X) : ev gt0 sh0 cs (.shift x) σ = b1 vshift (ev gt0 sh0 cs x σ) := by
  rw [ev]; cases ev gt0 sh0 cs x σ with
  | none => rfl
  | some v => cases v <;> rfl
theorem e_call (f : Nat) (xs : List X) : ev gt0 sh0 cs (.call f xs) σ = kc cs f (evs gt0 sh0 cs xs σ) := by rw [ev]; rfl
theorem e_bits (x : X) : ev gt0 sh0 cs (.bits x) σ = b1 vbits (ev gt0 sh0 cs x σ) := by
  rw [ev]; cases ev gt0 sh0 cs x σ with
  | none => rfl
  | some v => cases v <;> rfl
theorem e_toint (x : X) : ev gt0 sh0 cs (.toint x) σ = b1 vint (ev gt0 sh0 cs x σ) := by
  rw [ev]; cases ev gt0 sh0 cs x σ with
  | none => rfl
  | some v => cases v <;> rfl
theorem e_isint (x : X) : ev gt0 sh0 cs (.isint x) σ = b1 visint (ev gt0 sh0 cs x σ) := by
  rw [ev]; cases ev gt0 sh0 cs x σ with
  | none => rfl
  | some v => cases v <;> rfl
theorem e_dm (x i : X) : ev gt0 sh0 cs (.divmod x i) σ = b2 vdm (ev gt0 sh0 cs x σ) (ev gt0 sh0 cs i σ) := by
  rw [ev]; unfold b2; congr 1
theorem es_nil : evs gt0 sh0 cs [] σ = some [] := by rw [evs]
theorem es_cons (x : X) (r : List X) : evs gt0 sh0 cs (x :: r) σ = c2 (ev gt0 sh0 cs x σ) (evs gt0 sh0 cs r σ) := by rw [evs]; rfl

noncomputable def ka (i : Nat) (fr : Bool) (σ : List V) (ow : Ow) (o : Option V) : Option R := o.map fun v => asgV i fr v σ ow
theorem ka_int (i : Nat) (fr : Bool) (n : Int) : ka i fr σ ow (some (.int n)) = some (.next (σ.set i (.int n)) (owBut ow i)) := by
  unfold ka asgV; cases fr <;> rfl
theorem ka_bool (i : Nat) (fr : Bool) (n : Bool) : ka i fr σ ow (some (.bool n)) = some (.next (σ.set i (.bool n)) (owBut ow i)) := by
  unfold ka asgV; cases fr <;> rfl
theorem ka_none (i : Nat) (fr : Bool) : ka i fr σ ow (some .none) = some (.next (σ.set i .none) (owBut ow i)) := by
  unfold ka asgV; cases fr <;> rfl
theorem ka_rep (i : Nat) (fr : Bool) (d : Dyadic) : ka i fr σ ow (some (rep d)) = some (.next (σ.set i (rep d)) (owBut ow i)) := by
  unfold ka asgV; cases fr <;> cases d <;> rfl
theorem ob_none (i : Nat) : owBut none i = none := rfl
noncomputable def kr (o : Option V) : Option R := o.map .ret
theorem kr_some (v : V) : kr (some v) = some (.ret v) := rfl
noncomputable def kT (is : List Nat) (σ : List V) (v : V) : Option R := match v with
    | .tup vs => if (decide (vs.length = is.length)) = true then some (.next (setAll is vs σ) Option.none) else Option.none
    | _ => Option.none
noncomputable def kW (is : List Nat) (σ : List V) (v : V) : Option R := match v with
    | .tup vs => if (decide (vs.length = is.length)) = true then some (.next (setAll is.reverse vs.reverse σ) Option.none) else Option.none
    | _ => Option.none
theorem kT_2 (a b : Nat) (x y : V) : kT [a, b] σ (.tup [x, y]) = some (.next ((σ.set a x).set b y) none) := rfl
theorem kT_3 (a b c : Nat) (x y z : V) : kT [a, b, c] σ (.tup [x, y, z]) = some (.next (((σ.set a x).set b y).set c z) none) := rfl
theorem kT_4 (a b c d : Nat) (x y z w : V) : kT [a, b, c, d] σ (.tup [x, y, z, w]) = some (.next ((((σ.set a x).set b y).set c z).set d w) none) := rfl
theorem kW_2 (a b : Nat) (x y : V) : kW [a, b] σ (.tup [x, y]) = some (.next ((σ.set b y).set a x) none) := rfl
theorem kW_3 (a b c : Nat) (x y z : V) : kW [a, b, c] σ (.tup [x, y, z]) = some (.next (((σ.set c z).set b y).set a x) none) := rfl
noncomputable def kasrt (σ : List V) (ow : Ow) (v : V) : Option R := (truthyV v).bind fun t => if t = true then some (.next σ ow) else Option.none
theorem kasrt_t : kasrt σ ow (.bool true) = some (.next σ ow) := rfl

theorem s_asg (i : Nat) (e : X) : ex gt0 sh0 cs (.asg i e) σ ow = ka i (fresh e) σ ow (ev gt0 sh0 cs e σ) := by rw [ex]; rfl
theorem s_asgC (i : Nat) (e : X) : ex gt0 sh0 cs (.asgC i e) σ ow = ka i (fresh e) σ ow (ev gt0 sh0 cs e σ) := by rw [ex]; rfl
theorem s_asgT (is : List Nat) (e : X) : ex gt0 sh0 cs (.asgT is e) σ ow = ob (ev gt0 sh0 cs e σ) (kT is σ) := by
  rw [ex]; cases ev gt0 sh0 cs e σ with
  | none => rfl
  | some v => cases v <;> rfl
theorem s_asgU (is : List Nat) (e : X) : ex gt0 sh0 cs (.asgU is e) σ ow = ob (ev gt0 sh0 cs e σ) (kT is σ) := by
  rw [ex]; cases ev gt0 sh0 cs e σ with
  | none => rfl
  | some v => cases v <;> rfl
theorem s_asgW (is : List Nat) (e : X) : ex gt0 sh0 cs (.asgW is e) σ ow = ob (ev gt0 sh0 cs e σ) (kW is σ) := by
  rw [ex]; cases ev gt0 sh0 cs e σ with
  | none => rfl
  | some v => cases v <;> rfl
theorem s_aug (i : Nat) (op : Operator) (e : X) : ex gt0 sh0 cs (.aug i op e) σ ow = ka i false σ ow (b2 (binop op) (ev gt0 sh0 cs (.var i) σ) (ev gt0 sh0 cs e σ)) := by
  rw [ex]
  cases h1 : ev gt0 sh0 cs (.var i) σ with
  | none => rfl
  | some a => cases h2 : ev gt0 sh0 cs e σ with
    | none => rfl
    | some b => rfl
theorem s_ite (c : X) (a b : List S) : ex gt0 sh0 cs (.ite c a b) σ ow = ob (ev gt0 sh0 cs c σ) (kite cs a b σ ow) := by rw [ex]; rfl
theorem s_ret (e : X) : ex gt0 sh0 cs (.ret e) σ ow = kr (ev gt0 sh0 cs e σ) := by rw [ex]; rfl
theorem s_asrt (e : X) : ex gt0 sh0 cs (.asrt e) σ ow = ob (ev gt0 sh0 cs e σ) (kasrt σ ow) := by rw [ex]; rfl
theorem x_nil : exs gt0 sh0 cs [] σ ow = some (.next σ ow) := by rw [exs]
theorem x_cons (s : S) (r : List S) : exs gt0 sh0 cs (s :: r) σ ow = ob (ex gt0 sh0 cs s σ ow) (kont cs r) := by
  rw [exs]
  cases ex gt0 sh0 cs s σ ow with
  | none => rfl
  | some q => cases q <;> rfl
noncomputable def kf (o : Option R) : Option V := o.map fun r => match r with
    | .ret v => v
    | .next _ _ => .none
theorem kf_ret (v : V) : kf (some (.ret v)) = some v := rfl
theorem T4_def (a b c d : Int) : T4 a b c d = .tup [.int a, .int b, .int c, .int d] := rfl
theorem item0 (x y : V) : itemAt [x, y] 0 = some x := rfl
theorem item1 (x y : V) : itemAt [x, y] 1 = some y := rfl
end
theorem cstep {k f : Nat} {fd : FD} {args σ : List V} (h1 : ft[f]? = some fd) (h2 : (bindV fd args).map (fun vs => vs ++ List.replicate (fd.nl - fd.np) .undef) = some σ) : call0 (k + 1) f args = kf (exs gt0 sh0 (call0 k) fd.body σ none) := by
  unfold call0
  rw [cal, h1, Option.bind_some, runF]
  rw [Option.map_eq_some_iff] at h2
  obtain ⟨vs, h2, rfl⟩ := h2
  rw [h2]; rfl
end Mine

end
section -- P2
open PySem PySem.W PyProof.Rows
set_option maxRecDepth 10000
set_option maxHeartbeats 1000000
set_option linter.unusedSimpArgs false
namespace Mine
open Builtin.Int (intBits)

theorem c_trailing (k : Nat) {m : Int} (h : 0 < m) : ∃ (t : Nat) (q : Int), 0 ≤ q ∧ m = (2 * q + 1) * 2 ^ t ∧ call0 (k + 1) 0 [.int m] = some (.int t) := by
  obtain ⟨t, q, h0, h1, h2⟩ := tz_int h
  refine ⟨t, q, h0, h1, ?_⟩
  have hm : m ≠ 0 := by omega
  rw [show call0 (k + 1) 0 [.int m] = kf (exs gt0 sh0 (call0 k) f_trailing.body [.int m] none) from rfl]
  have e : (((t + 1 : Nat) : Int) - 1) = t := by omega
  simp -implicitDefEqProofs only [b1_some, b2_some, ob_some, vget_int, vget_str, vget_bool, vget_none, vget_tup, vget_lst, vget_rep, vneg_int, t_int, t_bool, t_none, vnot_int, vnot_bool, vnot_none, bo_add, bo_sub, bo_mul, bo_div, bo_mod, bo_pow, bo_shl, bo_shr, bo_and, bo_xor, vc_eq, vc_ne, vc_lt, vc_le, vc_gt, vc_ge, vc_seq, vc_req, vc_rne, c2_some, kc_some, ktup_some, klst_some, vbits_int, vint_int, vint_bool, visint_int, vidx_tup, vidx_lst, vshift_str, vdm_int, kand_int, kand_bool, kand_t, kand_f, kor_int, kor_bool, kor_none, kor_t, kor_f, kif_bool, kif_t, kif_f, kite_int, kite_bool, kite_none, kt_t, kt_f, kont_next, kont_ret, e_none, e_bool, e_int, e_str, e_var, e_g0, e_g1, e_g2, e_g8, e_g9, e_g10, e_g11, e_g12, e_bin, e_neg, e_not, e_one, e_and, e_or, e_cmp, e_ite, e_tup, e_lst, e_idx, e_shift, e_call, e_bits, e_toint, e_isint, e_dm, es_nil, es_cons, ka_int, ka_bool, ka_none, ka_rep, ob_none, kr_some, kT_2, kT_3, kT_4, kW_2, kW_3, kasrt_t, s_asg, s_asgC, s_asgT, s_asgU, s_asgW, s_aug, s_ite, s_ret, s_asrt, x_nil, x_cons, kf_ret, T4_def, item0, item1, List.set_cons_zero, List.set_cons_succ, List.getElem?_cons_zero, List.getElem?_cons_succ, decide_true, decide_false, not_true_eq_false, not_false_eq_true, Bool.not_true, Bool.not_false, ne_eq, if_true, if_false, Bool.false_eq_true, show ((0:Int) = 0) = True from eq_self 0, show ((1:Int) = 0) = False from by decide, show ((0:Int) = 1) = False from by decide, show ((1:Int)=1) = True from eq_self 1, f_trailing, hm, h2, bits_two_pow, e]

/-- a rounding mode -/
noncomputable def Rn (rnd : PySem.Str) : Prop := (rnd == ("n" : PySem.Str)) = true ∨ ((rnd == ("n" : PySem.Str)) = false ∧ ∃ a b : Int, sh0.lookup rnd = some (.tup [.int a, .int b]))
theorem rn_d : Rn "d" := .inr ⟨by decide +kernel, 1, 1, rfl⟩
theorem rn_n : Rn "n" := .inl (by decide +kernel)
theorem rn_f : Rn "f" := .inr ⟨by decide +kernel, 1, 0, rfl⟩
theorem rn_c : Rn "c" := .inr ⟨by decide +kernel, 0, 1, rfl⟩
theorem rn_u : Rn "u" := .inr ⟨by decide +kernel, 0, 0, rfl⟩

theorem rep_fin {s q e : Int} (hs : s = 0 ∨ s = 1) (h0 : 0 < q) (h : q % 2 = 1) : rep (mkD ((1 - 2 * s) * q) e) = .tup [.int s, .int q, .int e, .int (intBits q)] := by
  rcases hs with rfl | rfl
  · have : (1 - 2 * 0) * q = q := by omega
    rw [this, rep_odd h, sg, if_neg (by omega), Int.natAbs_of_nonneg (by omega)]; rfl
  · have : (1 - 2 * 1) * q = -q := by omega
    rw [this, rep_odd (by omega), sg, if_pos (by omega), Int.natAbs_neg, Int.natAbs_of_nonneg (by omega), bits_neg]; rfl

theorem fdiv_pow (q : Int) (t : Nat) : (q * 2 ^ t).fdiv (2 ^ t) = q := Int.mul_fdiv_cancel _ (by have := pow_pos_int t; omega)

noncomputable def tailN : List S := f__normalize.body.drop 3
theorem n_tail (k : Nat) {s m e : Int} {p r nn tt : V} (hs : s = 0 ∨ s = 1) (hm : 0 < m) :
    exs gt0 sh0 (call0 (k + 1)) tailN [.int s, .int m, .int e, .int (intBits m), p, r, nn, tt] none = some (.ret (rep (mkD ((1 - 2 * s) * m) e))) := by
  by_cases h : m % 2 = 1
  · rw [rep_fin hs hm h]
    by_cases h1 : m = 1
    · subst h1
      simp -implicitDefEqProofs only [b1_some, b2_some, ob_some, vget_int, vget_str, vget_bool, vget_none, vget_tup, vget_lst, vget_rep, vneg_int, t_int, t_bool, t_none, vnot_int, vnot_bool, vnot_none, bo_add, bo_sub, bo_mul, bo_div, bo_mod, bo_pow, bo_shl, bo_shr, bo_and, bo_xor, vc_eq, vc_ne, vc_lt, vc_le, vc_gt, vc_ge, vc_seq, vc_req, vc_rne, c2_some, kc_some, ktup_some, klst_some, vbits_int, vint_int, vint_bool, visint_int, vidx_tup, vidx_lst, vshift_str, vdm_int, kand_int, kand_bool, kand_t, kand_f, kor_int, kor_bool, kor_none, kor_t, kor_f, kif_bool, kif_t, kif_f, kite_int, kite_bool, kite_none, kt_t, kt_f, kont_next, kont_ret, e_none, e_bool, e_int, e_str, e_var, e_g0, e_g1, e_g2, e_g8, e_g9, e_g10, e_g11, e_g12, e_bin, e_neg, e_not, e_one, e_and, e_or, e_cmp, e_ite, e_tup, e_lst, e_idx, e_shift, e_call, e_bits, e_toint, e_isint, e_dm, es_nil, es_cons, ka_int, ka_bool, ka_none, ka_rep, ob_none, kr_some, kT_2, kT_3, kT_4, kW_2, kW_3, kasrt_t, s_asg, s_asgC, s_asgT, s_asgU, s_asgW, s_aug, s_ite, s_ret, s_asrt, x_nil, x_cons, kf_ret, T4_def, item0, item1, List.set_cons_zero, List.set_cons_succ, List.getElem?_cons_zero, List.getElem?_cons_succ, decide_true, decide_false, not_true_eq_false, not_false_eq_true, Bool.not_true, Bool.not_false, ne_eq, if_true, if_false, Bool.false_eq_true, show ((0:Int) = 0) = True from eq_self 0, show ((1:Int) = 0) = False from by decide, show ((0:Int) = 1) = False from by decide, show ((1:Int)=1) = True from eq_self 1, tailN, f__normalize, List.drop_succ_cons, List.drop_zero, bitAnd_m1, h]
      rfl
    · simp -implicitDefEqProofs only [b1_some, b2_some, ob_some, vget_int, vget_str, vget_bool, vget_none, vget_tup, vget_lst, vget_rep, vneg_int, t_int, t_bool, t_none, vnot_int, vnot_bool, vnot_none, bo_add, bo_sub, bo_mul, bo_div, bo_mod, bo_pow, bo_shl, bo_shr, bo_and, bo_xor, vc_eq, vc_ne, vc_lt, vc_le, vc_gt, vc_ge, vc_seq, vc_req, vc_rne, c2_some, kc_some, ktup_some, klst_some, vbits_int, vint_int, vint_bool, visint_int, vidx_tup, vidx_lst, vshift_str, vdm_int, kand_int, kand_bool, kand_t, kand_f, kor_int, kor_bool, kor_none, kor_t, kor_f, kif_bool, kif_t, kif_f, kite_int, kite_bool, kite_none, kt_t, kt_f, kont_next, kont_ret, e_none, e_bool, e_int, e_str, e_var, e_g0, e_g1, e_g2, e_g8, e_g9, e_g10, e_g11, e_g12, e_bin, e_neg, e_not, e_one, e_and, e_or, e_cmp, e_ite, e_tup, e_lst, e_idx, e_shift, e_call, e_bits, e_toint, e_isint, e_dm, es_nil, es_cons, ka_int, ka_bool, ka_none, ka_rep, ob_none, kr_some, kT_2, kT_3, kT_4, kW_2, kW_3, kasrt_t, s_asg, s_asgC, s_asgT, s_asgU, s_asgW, s_aug, s_ite, s_ret, s_asrt, x_nil, x_cons, kf_ret, T4_def, item0, item1, List.set_cons_zero, List.set_cons_succ, List.getElem?_cons_zero, List.getElem?_cons_succ, decide_true, decide_false, not_true_eq_false, not_false_eq_true, Bool.not_true, Bool.not_false, ne_eq, if_true, if_false, Bool.false_eq_true, show ((0:Int) = 0) = True from eq_self 0, show ((1:Int) = 0) = False from by decide, show ((0:Int) = 1) = False from by decide, show ((1:Int)=1) = True from eq_self 1, tailN, f__normalize, List.drop_succ_cons, List.drop_zero, bitAnd_m1, h, h1]
  · have h0 : m % 2 = 0 := by omega
    obtain ⟨t, q, hq, hmq, hc⟩ := c_trailing k hm
    have hb : intBits m = intBits (2 * q + 1) + t := by rw [hmq, bits_mul_pow (by omega)]
    have hf : m.fdiv (2 ^ t) = 2 * q + 1 := by rw [hmq, fdiv_pow]
    have hz : (1 - 2 * s) * m = (1 - 2 * s) * (2 * q + 1) * 2 ^ t := by rw [hmq, Int.mul_assoc]
    rw [hz, mkD_shift, rep_fin hs (by omega) (by omega)]
    have hbb : ((intBits m : Nat) : Int) - t = intBits (2 * q + 1) := by rw [hb]; omega
    have ht : (0 : Int) ≤ t := by omega
    by_cases h1 : 2 * q + 1 = 1
    · simp -implicitDefEqProofs only [b1_some, b2_some, ob_some, vget_int, vget_str, vget_bool, vget_none, vget_tup, vget_lst, vget_rep, vneg_int, t_int, t_bool, t_none, vnot_int, vnot_bool, vnot_none, bo_add, bo_sub, bo_mul, bo_div, bo_mod, bo_pow, bo_shl, bo_shr, bo_and, bo_xor, vc_eq, vc_ne, vc_lt, vc_le, vc_gt, vc_ge, vc_seq, vc_req, vc_rne, c2_some, kc_some, ktup_some, klst_some, vbits_int, vint_int, vint_bool, visint_int, vidx_tup, vidx_lst, vshift_str, vdm_int, kand_int, kand_bool, kand_t, kand_f, kor_int, kor_bool, kor_none, kor_t, kor_f, kif_bool, kif_t, kif_f, kite_int, kite_bool, kite_none, kt_t, kt_f, kont_next, kont_ret, e_none, e_bool, e_int, e_str, e_var, e_g0, e_g1, e_g2, e_g8, e_g9, e_g10, e_g11, e_g12, e_bin, e_neg, e_not, e_one, e_and, e_or, e_cmp, e_ite, e_tup, e_lst, e_idx, e_shift, e_call, e_bits, e_toint, e_isint, e_dm, es_nil, es_cons, ka_int, ka_bool, ka_none, ka_rep, ob_none, kr_some, kT_2, kT_3, kT_4, kW_2, kW_3, kasrt_t, s_asg, s_asgC, s_asgT, s_asgU, s_asgW, s_aug, s_ite, s_ret, s_asrt, x_nil, x_cons, kf_ret, T4_def, item0, item1, List.set_cons_zero, List.set_cons_succ, List.getElem?_cons_zero, List.getElem?_cons_succ, decide_true, decide_false, not_true_eq_false, not_false_eq_true, Bool.not_true, Bool.not_false, ne_eq, if_true, if_false, Bool.false_eq_true, show ((0:Int) = 0) = True from eq_self 0, show ((1:Int) = 0) = False from by decide, show ((0:Int) = 1) = False from by decide, show ((1:Int)=1) = True from eq_self 1, tailN, f__normalize, List.drop_succ_cons, List.drop_zero, bitAnd_m1, h0, hc, ht, Int.toNat_natCast, hf, h1, hbb]
      rfl
    · simp -implicitDefEqProofs only [b1_some, b2_some, ob_some, vget_int, vget_str, vget_bool, vget_none, vget_tup, vget_lst, vget_rep, vneg_int, t_int, t_bool, t_none, vnot_int, vnot_bool, vnot_none, bo_add, bo_sub, bo_mul, bo_div, bo_mod, bo_pow, bo_shl, bo_shr, bo_and, bo_xor, vc_eq, vc_ne, vc_lt, vc_le, vc_gt, vc_ge, vc_seq, vc_req, vc_rne, c2_some, kc_some, ktup_some, klst_some, vbits_int, vint_int, vint_bool, visint_int, vidx_tup, vidx_lst, vshift_str, vdm_int, kand_int, kand_bool, kand_t, kand_f, kor_int, kor_bool, kor_none, kor_t, kor_f, kif_bool, kif_t, kif_f, kite_int, kite_bool, kite_none, kt_t, kt_f, kont_next, kont_ret, e_none, e_bool, e_int, e_str, e_var, e_g0, e_g1, e_g2, e_g8, e_g9, e_g10, e_g11, e_g12, e_bin, e_neg, e_not, e_one, e_and, e_or, e_cmp, e_ite, e_tup, e_lst, e_idx, e_shift, e_call, e_bits, e_toint, e_isint, e_dm, es_nil, es_cons, ka_int, ka_bool, ka_none, ka_rep, ob_none, kr_some, kT_2, kT_3, kT_4, kW_2, kW_3, kasrt_t, s_asg, s_asgC, s_asgT, s_asgU, s_asgW, s_aug, s_ite, s_ret, s_asrt, x_nil, x_cons, kf_ret, T4_def, item0, item1, List.set_cons_zero, List.set_cons_succ, List.getElem?_cons_zero, List.getElem?_cons_succ, decide_true, decide_false, not_true_eq_false, not_false_eq_true, Bool.not_true, Bool.not_false, ne_eq, if_true, if_false, Bool.false_eq_true, show ((0:Int) = 0) = True from eq_self 0, show ((1:Int) = 0) = False from by decide, show ((0:Int) = 1) = False from by decide, show ((1:Int)=1) = True from eq_self 1, tailN, f__normalize, List.drop_succ_cons, List.drop_zero, bitAnd_m1, h0, hc, ht, Int.toNat_natCast, hf, h1, hbb]

noncomputable def headN (T : List S) : List S := S.ite (.not (.var 1)) [.ret (.glo 8)] [] :: S.asg 6 (.bin .Sub (.var 3) (.var 4)) :: S.ite (.cmp .Gt (.var 6) (.int 0)) [.ite (.cmp .Eq (.var 5) (.glo 2)) [.asg 7 (.bin .RShift (.var 1) (.bin .Sub (.var 6) (.int 1))), .ite (.and (.bin .BitAnd (.var 7) (.int 1)) (.one (.or (.bin .BitAnd (.var 7) (.int 2)) (.one (.bin .BitAnd (.var 1) (.bin .Sub (.bin .LShift (.glo 1) (.bin .Sub (.var 6) (.int 1))) (.int 1))))))) [.asg 1 (.bin .Add (.bin .RShift (.var 7) (.int 1)) (.int 1))] [.asg 1 (.bin .RShift (.var 7) (.int 1))]] [.ite (.idx (.shift (.var 5)) (.var 0)) [.aug 1 .RShift (.var 6)] [.asg 1 (.neg (.bin .RShift (.neg (.var 1)) (.var 6)))]], .aug 2 .Add (.var 6), .asg 3 (.var 4)] [] :: T
theorem c__normalize (k : Nat) {s m e prec : Int} {rnd : PySem.Str} (hs : s = 0 ∨ s = 1) (hm : 0 ≤ m) (hr : Rn rnd) (hd : (intBits m : Int) ≤ prec ∨ ∃ (q : Int) (n : Nat), m = q * 2 ^ (n + 1) ∧ (intBits m : Int) = prec + (n + 1)) :
    call0 (k + 2) 4 [.int s, .int m, .int e, .int (intBits m), .int prec, .str rnd] = some (rep (mkD ((1 - 2 * s) * m) e)) := by
  rw [show call0 (k + 2) 4 [.int s, .int m, .int e, .int (intBits m), .int prec, .str rnd] = kf (exs gt0 sh0 (call0 (k + 1)) (headN tailN) [.int s, .int m, .int e, .int (intBits m), .int prec, .str rnd, .undef, .undef] none) from rfl]
  by_cases h0 : m = 0
  · subst h0
    simp -implicitDefEqProofs only [b1_some, b2_some, ob_some, vget_int, vget_str, vget_bool, vget_none, vget_tup, vget_lst, vget_rep, vneg_int, t_int, t_bool, t_none, vnot_int, vnot_bool, vnot_none, bo_add, bo_sub, bo_mul, bo_div, bo_mod, bo_pow, bo_shl, bo_shr, bo_and, bo_xor, vc_eq, vc_ne, vc_lt, vc_le, vc_gt, vc_ge, vc_seq, vc_req, vc_rne, c2_some, kc_some, ktup_some, klst_some, vbits_int, vint_int, vint_bool, visint_int, vidx_tup, vidx_lst, vshift_str, vdm_int, kand_int, kand_bool, kand_t, kand_f, kor_int, kor_bool, kor_none, kor_t, kor_f, kif_bool, kif_t, kif_f, kite_int, kite_bool, kite_none, kt_t, kt_f, kont_next, kont_ret, e_none, e_bool, e_int, e_str, e_var, e_g0, e_g1, e_g2, e_g8, e_g9, e_g10, e_g11, e_g12, e_bin, e_neg, e_not, e_one, e_and, e_or, e_cmp, e_ite, e_tup, e_lst, e_idx, e_shift, e_call, e_bits, e_toint, e_isint, e_dm, es_nil, es_cons, ka_int, ka_bool, ka_none, ka_rep, ob_none, kr_some, kT_2, kT_3, kT_4, kW_2, kW_3, kasrt_t, s_asg, s_asgC, s_asgT, s_asgU, s_asgW, s_aug, s_ite, s_ret, s_asrt, x_nil, x_cons, kf_ret, T4_def, item0, item1, List.set_cons_zero, List.set_cons_succ, List.getElem?_cons_zero, List.getElem?_cons_succ, decide_true, decide_false, not_true_eq_false, not_false_eq_true, Bool.not_true, Bool.not_false, ne_eq, if_true, if_false, Bool.false_eq_true, show ((0:Int) = 0) = True from eq_self 0, show ((1:Int) = 0) = False from by decide, show ((0:Int) = 1) = False from by decide, show ((1:Int)=1) = True from eq_self 1, headN, mkD_zero, Int.mul_zero]
  · have hp : 0 < m := by omega
    rcases hd with hd | ⟨q, n, hq, hn⟩
    · have hn : ((0 : Int) < (intBits m : Int) - prec) = False := by simp only [eq_iff_iff, iff_false]; omega
      simp -implicitDefEqProofs only [b1_some, b2_some, ob_some, vget_int, vget_str, vget_bool, vget_none, vget_tup, vget_lst, vget_rep, vneg_int, t_int, t_bool, t_none, vnot_int, vnot_bool, vnot_none, bo_add, bo_sub, bo_mul, bo_div, bo_mod, bo_pow, bo_shl, bo_shr, bo_and, bo_xor, vc_eq, vc_ne, vc_lt, vc_le, vc_gt, vc_ge, vc_seq, vc_req, vc_rne, c2_some, kc_some, ktup_some, klst_some, vbits_int, vint_int, vint_bool, visint_int, vidx_tup, vidx_lst, vshift_str, vdm_int, kand_int, kand_bool, kand_t, kand_f, kor_int, kor_bool, kor_none, kor_t, kor_f, kif_bool, kif_t, kif_f, kite_int, kite_bool, kite_none, kt_t, kt_f, kont_next, kont_ret, e_none, e_bool, e_int, e_str, e_var, e_g0, e_g1, e_g2, e_g8, e_g9, e_g10, e_g11, e_g12, e_bin, e_neg, e_not, e_one, e_and, e_or, e_cmp, e_ite, e_tup, e_lst, e_idx, e_shift, e_call, e_bits, e_toint, e_isint, e_dm, es_nil, es_cons, ka_int, ka_bool, ka_none, ka_rep, ob_none, kr_some, kT_2, kT_3, kT_4, kW_2, kW_3, kasrt_t, s_asg, s_asgC, s_asgT, s_asgU, s_asgW, s_aug, s_ite, s_ret, s_asrt, x_nil, x_cons, kf_ret, T4_def, item0, item1, List.set_cons_zero, List.set_cons_succ, List.getElem?_cons_zero, List.getElem?_cons_succ, decide_true, decide_false, not_true_eq_false, not_false_eq_true, Bool.not_true, Bool.not_false, ne_eq, if_true, if_false, Bool.false_eq_true, show ((0:Int) = 0) = True from eq_self 0, show ((1:Int) = 0) = False from by decide, show ((0:Int) = 1) = False from by decide, show ((1:Int)=1) = True from eq_self 1, headN, h0, hn, n_tail k hs hp]
    · have hqp : 0 < q := by
        rcases Int.lt_or_le 0 q with h | h
        · exact h
        · have := Int.mul_nonneg (show 0 ≤ -q by omega) (Int.le_of_lt (pow_pos_int (n + 1)))
          rw [Int.neg_mul] at this; omega
      have hbq : ((intBits q : Nat) : Int) = prec := by
        have : intBits m = intBits q + (n + 1) := by rw [hq, bits_mul_pow (by omega)]
        omega
      subst hbq
      have hn0 : ((0 : Int) < (intBits m : Int) - intBits q) = True := by simp only [eq_iff_iff, iff_true]; omega
      have hn1 : (intBits m : Int) - intBits q = ((n + 1 : Nat) : Int) := by omega
      have hn2 : (intBits m : Int) - intBits q - 1 = (n : Int) := by omega
      have hn3 : ((n + 1 : Nat) : Int) - 1 = (n : Int) := by omega
      have hn4 : ((0 : Int) < ((n + 1 : Nat) : Int)) = True := by simp only [eq_iff_iff, iff_true]; omega
      have hc : (0 : Int) ≤ ((n + 1 : Nat) : Int) := by omega
      have hc' : (0 : Int) ≤ (n : Int) := by omega
      have h01 : (0 : Int) ≤ 1 := by decide
      have hr1 : m.fdiv (2 ^ n) = q * 2 := by rw [hq, Int.pow_succ, ← Int.mul_assoc, Int.mul_right_comm, fdiv_pow]
      have hr2 : (q * 2) % 2 = 0 := by omega
      have hr3 : (q * 2).fdiv (2 ^ Int.toNat 1) = q := fdiv_pow q 1
      have hr4 : m.fdiv (2 ^ (n + 1)) = q := by rw [hq, fdiv_pow]
      have hr5 : (-m).fdiv (2 ^ (n + 1)) = -q := by rw [hq, ← Int.neg_mul, fdiv_pow]
      have hfin : (1 - 2 * s) * m = (1 - 2 * s) * q * 2 ^ (n + 1) := by rw [hq, Int.mul_assoc]
      rw [hfin, mkD_shift]
      have tl := fun (e : Int) (p r nn tt : V) => n_tail k (e := e) (p := p) (r := r) (nn := nn) (tt := tt) hs hqp
      rcases hr with hr | ⟨hr, a, b, hl⟩
      · simp -implicitDefEqProofs only [b1_some, b2_some, ob_some, vget_int, vget_str, vget_bool, vget_none, vget_tup, vget_lst, vget_rep, vneg_int, t_int, t_bool, t_none, vnot_int, vnot_bool, vnot_none, bo_add, bo_sub, bo_mul, bo_div, bo_mod, bo_pow, bo_shl, bo_shr, bo_and, bo_xor, vc_eq, vc_ne, vc_lt, vc_le, vc_gt, vc_ge, vc_seq, vc_req, vc_rne, c2_some, kc_some, ktup_some, klst_some, vbits_int, vint_int, vint_bool, visint_int, vidx_tup, vidx_lst, vshift_str, vdm_int, kand_int, kand_bool, kand_t, kand_f, kor_int, kor_bool, kor_none, kor_t, kor_f, kif_bool, kif_t, kif_f, kite_int, kite_bool, kite_none, kt_t, kt_f, kont_next, kont_ret, e_none, e_bool, e_int, e_str, e_var, e_g0, e_g1, e_g2, e_g8, e_g9, e_g10, e_g11, e_g12, e_bin, e_neg, e_not, e_one, e_and, e_or, e_cmp, e_ite, e_tup, e_lst, e_idx, e_shift, e_call, e_bits, e_toint, e_isint, e_dm, es_nil, es_cons, ka_int, ka_bool, ka_none, ka_rep, ob_none, kr_some, kT_2, kT_3, kT_4, kW_2, kW_3, kasrt_t, s_asg, s_asgC, s_asgT, s_asgU, s_asgW, s_aug, s_ite, s_ret, s_asrt, x_nil, x_cons, kf_ret, T4_def, item0, item1, List.set_cons_zero, List.set_cons_succ, List.getElem?_cons_zero, List.getElem?_cons_succ, decide_true, decide_false, not_true_eq_false, not_false_eq_true, Bool.not_true, Bool.not_false, ne_eq, if_true, if_false, Bool.false_eq_true, show ((0:Int) = 0) = True from eq_self 0, show ((1:Int) = 0) = False from by decide, show ((0:Int) = 1) = False from by decide, show ((1:Int)=1) = True from eq_self 1, headN, h0, hn1, hn3, hn4, hr, hc, hc', h01, Int.toNat_natCast, bitAnd_m1, hr1, hr2, hr3, tl]
      · rcases hs with rfl | rfl
        · by_cases ha : a = 0
          · simp -implicitDefEqProofs only [b1_some, b2_some, ob_some, vget_int, vget_str, vget_bool, vget_none, vget_tup, vget_lst, vget_rep, vneg_int, t_int, t_bool, t_none, vnot_int, vnot_bool, vnot_none, bo_add, bo_sub, bo_mul, bo_div, bo_mod, bo_pow, bo_shl, bo_shr, bo_and, bo_xor, vc_eq, vc_ne, vc_lt, vc_le, vc_gt, vc_ge, vc_seq, vc_req, vc_rne, c2_some, kc_some, ktup_some, klst_some, vbits_int, vint_int, vint_bool, visint_int, vidx_tup, vidx_lst, vshift_str, vdm_int, kand_int, kand_bool, kand_t, kand_f, kor_int, kor_bool, kor_none, kor_t, kor_f, kif_bool, kif_t, kif_f, kite_int, kite_bool, kite_none, kt_t, kt_f, kont_next, kont_ret, e_none, e_bool, e_int, e_str, e_var, e_g0, e_g1, e_g2, e_g8, e_g9, e_g10, e_g11, e_g12, e_bin, e_neg, e_not, e_one, e_and, e_or, e_cmp, e_ite, e_tup, e_lst, e_idx, e_shift, e_call, e_bits, e_toint, e_isint, e_dm, es_nil, es_cons, ka_int, ka_bool, ka_none, ka_rep, ob_none, kr_some, kT_2, kT_3, kT_4, kW_2, kW_3, kasrt_t, s_asg, s_asgC, s_asgT, s_asgU, s_asgW, s_aug, s_ite, s_ret, s_asrt, x_nil, x_cons, kf_ret, T4_def, item0, item1, List.set_cons_zero, List.set_cons_succ, List.getElem?_cons_zero, List.getElem?_cons_succ, decide_true, decide_false, not_true_eq_false, not_false_eq_true, Bool.not_true, Bool.not_false, ne_eq, if_true, if_false, Bool.false_eq_true, show ((0:Int) = 0) = True from eq_self 0, show ((1:Int) = 0) = False from by decide, show ((0:Int) = 1) = False from by decide, show ((1:Int)=1) = True from eq_self 1, headN, h0, hn1, hn3, hn4, hr, hl, hc, hc', h01, Int.toNat_natCast, bitAnd_m1, ha, hr4, hr5, Int.neg_neg, tl]
          · simp -implicitDefEqProofs only [b1_some, b2_some, ob_some, vget_int, vget_str, vget_bool, vget_none, vget_tup, vget_lst, vget_rep, vneg_int, t_int, t_bool, t_none, vnot_int, vnot_bool, vnot_none, bo_add, bo_sub, bo_mul, bo_div, bo_mod, bo_pow, bo_shl, bo_shr, bo_and, bo_xor, vc_eq, vc_ne, vc_lt, vc_le, vc_gt, vc_ge, vc_seq, vc_req, vc_rne, c2_some, kc_some, ktup_some, klst_some, vbits_int, vint_int, vint_bool, visint_int, vidx_tup, vidx_lst, vshift_str, vdm_int, kand_int, kand_bool, kand_t, kand_f, kor_int, kor_bool, kor_none, kor_t, kor_f, kif_bool, kif_t, kif_f, kite_int, kite_bool, kite_none, kt_t, kt_f, kont_next, kont_ret, e_none, e_bool, e_int, e_str, e_var, e_g0, e_g1, e_g2, e_g8, e_g9, e_g10, e_g11, e_g12, e_bin, e_neg, e_not, e_one, e_and, e_or, e_cmp, e_ite, e_tup, e_lst, e_idx, e_shift, e_call, e_bits, e_toint, e_isint, e_dm, es_nil, es_cons, ka_int, ka_bool, ka_none, ka_rep, ob_none, kr_some, kT_2, kT_3, kT_4, kW_2, kW_3, kasrt_t, s_asg, s_asgC, s_asgT, s_asgU, s_asgW, s_aug, s_ite, s_ret, s_asrt, x_nil, x_cons, kf_ret, T4_def, item0, item1, List.set_cons_zero, List.set_cons_succ, List.getElem?_cons_zero, List.getElem?_cons_succ, decide_true, decide_false, not_true_eq_false, not_false_eq_true, Bool.not_true, Bool.not_false, ne_eq, if_true, if_false, Bool.false_eq_true, show ((0:Int) = 0) = True from eq_self 0, show ((1:Int) = 0) = False from by decide, show ((0:Int) = 1) = False from by decide, show ((1:Int)=1) = True from eq_self 1, headN, h0, hn1, hn3, hn4, hr, hl, hc, hc', h01, Int.toNat_natCast, bitAnd_m1, ha, hr4, hr5, Int.neg_neg, tl]
        · by_cases ha : b = 0
          · simp -implicitDefEqProofs only [b1_some, b2_some, ob_some, vget_int, vget_str, vget_bool, vget_none, vget_tup, vget_lst, vget_rep, vneg_int, t_int, t_bool, t_none, vnot_int, vnot_bool, vnot_none, bo_add, bo_sub, bo_mul, bo_div, bo_mod, bo_pow, bo_shl, bo_shr, bo_and, bo_xor, vc_eq, vc_ne, vc_lt, vc_le, vc_gt, vc_ge, vc_seq, vc_req, vc_rne, c2_some, kc_some, ktup_some, klst_some, vbits_int, vint_int, vint_bool, visint_int, vidx_tup, vidx_lst, vshift_str, vdm_int, kand_int, kand_bool, kand_t, kand_f, kor_int, kor_bool, kor_none, kor_t, kor_f, kif_bool, kif_t, kif_f, kite_int, kite_bool, kite_none, kt_t, kt_f, kont_next, kont_ret, e_none, e_bool, e_int, e_str, e_var, e_g0, e_g1, e_g2, e_g8, e_g9, e_g10, e_g11, e_g12, e_bin, e_neg, e_not, e_one, e_and, e_or, e_cmp, e_ite, e_tup, e_lst, e_idx, e_shift, e_call, e_bits, e_toint, e_isint, e_dm, es_nil, es_cons, ka_int, ka_bool, ka_none, ka_rep, ob_none, kr_some, kT_2, kT_3, kT_4, kW_2, kW_3, kasrt_t, s_asg, s_asgC, s_asgT, s_asgU, s_asgW, s_aug, s_ite, s_ret, s_asrt, x_nil, x_cons, kf_ret, T4_def, item0, item1, List.set_cons_zero, List.set_cons_succ, List.getElem?_cons_zero, List.getElem?_cons_succ, decide_true, decide_false, not_true_eq_false, not_false_eq_true, Bool.not_true, Bool.not_false, ne_eq, if_true, if_false, Bool.false_eq_true, show ((0:Int) = 0) = True from eq_self 0, show ((1:Int) = 0) = False from by decide, show ((0:Int) = 1) = False from by decide, show ((1:Int)=1) = True from eq_self 1, headN, h0, hn1, hn3, hn4, hr, hl, hc, hc', h01, Int.toNat_natCast, bitAnd_m1, ha, hr4, hr5, Int.neg_neg, tl]
          · simp -implicitDefEqProofs only [b1_some, b2_some, ob_some, vget_int, vget_str, vget_bool, vget_none, vget_tup, vget_lst, vget_rep, vneg_int, t_int, t_bool, t_none, vnot_int, vnot_bool, vnot_none, bo_add, bo_sub, bo_mul, bo_div, bo_mod, bo_pow, bo_shl, bo_shr, bo_and, bo_xor, vc_eq, vc_ne, vc_lt, vc_le, vc_gt, vc_ge, vc_seq, vc_req, vc_rne, c2_some, kc_some, ktup_some, klst_some, vbits_int, vint_int, vint_bool, visint_int, vidx_tup, vidx_lst, vshift_str, vdm_int, kand_int, kand_bool, kand_t, kand_f, kor_int, kor_bool, kor_none, kor_t, kor_f, kif_bool, kif_t, kif_f, kite_int, kite_bool, kite_none, kt_t, kt_f, kont_next, kont_ret, e_none, e_bool, e_int, e_str, e_var, e_g0, e_g1, e_g2, e_g8, e_g9, e_g10, e_g11, e_g12, e_bin, e_neg, e_not, e_one, e_and, e_or, e_cmp, e_ite, e_tup, e_lst, e_idx, e_shift, e_call, e_bits, e_toint, e_isint, e_dm, es_nil, es_cons, ka_int, ka_bool, ka_none, ka_rep, ob_none, kr_some, kT_2, kT_3, kT_4, kW_2, kW_3, kasrt_t, s_asg, s_asgC, s_asgT, s_asgU, s_asgW, s_aug, s_ite, s_ret, s_asrt, x_nil, x_cons, kf_ret, T4_def, item0, item1, List.set_cons_zero, List.set_cons_succ, List.getElem?_cons_zero, List.getElem?_cons_succ, decide_true, decide_false, not_true_eq_false, not_false_eq_true, Bool.not_true, Bool.not_false, ne_eq, if_true, if_false, Bool.false_eq_true, show ((0:Int) = 0) = True from eq_self 0, show ((1:Int) = 0) = False from by decide, show ((0:Int) = 1) = False from by decide, show ((1:Int)=1) = True from eq_self 1, headN, h0, hn1, hn3, hn4, hr, hl, hc, hc', h01, Int.toNat_natCast, bitAnd_m1, ha, hr4, hr5, Int.neg_neg, tl]

/-- exact -/
theorem c_normalize (k : Nat) {s m e prec : Int} {rnd : PySem.Str} (hs : s = 0 ∨ s = 1) (hm : 0 ≤ m) (hr : Rn rnd) (hd : (intBits m : Int) ≤ prec ∨ ∃ (q : Int) (n : Nat), m = q * 2 ^ (n + 1) ∧ (intBits m : Int) = prec + (n + 1)) :
    call0 (k + 3) 5 [.int s, .int m, .int e, .int (intBits m), .int prec, .str rnd] = some (rep (mkD ((1 - 2 * s) * m) e)) := by
  rw [show call0 (k + 3) 5 [.int s, .int m, .int e, .int (intBits m), .int prec, .str rnd] = kf (exs gt0 sh0 (call0 (k + 2)) f_normalize.body [.int s, .int m, .int e, .int (intBits m), .int prec, .str rnd] none) from rfl]
  have e1 : ((intBits m : Int) = (intBits m : Int)) = True := eq_self _
  simp -implicitDefEqProofs only [b1_some, b2_some, ob_some, vget_int, vget_str, vget_bool, vget_none, vget_tup, vget_lst, vget_rep, vneg_int, t_int, t_bool, t_none, vnot_int, vnot_bool, vnot_none, bo_add, bo_sub, bo_mul, bo_div, bo_mod, bo_pow, bo_shl, bo_shr, bo_and, bo_xor, vc_eq, vc_ne, vc_lt, vc_le, vc_gt, vc_ge, vc_seq, vc_req, vc_rne, c2_some, kc_some, ktup_some, klst_some, vbits_int, vint_int, vint_bool, visint_int, vidx_tup, vidx_lst, vshift_str, vdm_int, kand_int, kand_bool, kand_t, kand_f, kor_int, kor_bool, kor_none, kor_t, kor_f, kif_bool, kif_t, kif_f, kite_int, kite_bool, kite_none, kt_t, kt_f, kont_next, kont_ret, e_none, e_bool, e_int, e_str, e_var, e_g0, e_g1, e_g2, e_g8, e_g9, e_g10, e_g11, e_g12, e_bin, e_neg, e_not, e_one, e_and, e_or, e_cmp, e_ite, e_tup, e_lst, e_idx, e_shift, e_call, e_bits, e_toint, e_isint, e_dm, es_nil, es_cons, ka_int, ka_bool, ka_none, ka_rep, ob_none, kr_some, kT_2, kT_3, kT_4, kW_2, kW_3, kasrt_t, s_asg, s_asgC, s_asgT, s_asgU, s_asgW, s_aug, s_ite, s_ret, s_asrt, x_nil, x_cons, kf_ret, T4_def, item0, item1, List.set_cons_zero, List.set_cons_succ, List.getElem?_cons_zero, List.getElem?_cons_succ, decide_true, decide_false, not_true_eq_false, not_false_eq_true, Bool.not_true, Bool.not_false, ne_eq, if_true, if_false, Bool.false_eq_true, show ((0:Int) = 0) = True from eq_self 0, show ((1:Int) = 0) = False from by decide, show ((0:Int) = 1) = False from by decide, show ((1:Int)=1) = True from eq_self 1, f_normalize, e1, hm, c__normalize k hs hm hr hd]
theorem c_norm0 (k : Nat) {s m e prec : Int} {rnd : PySem.Str} (hs : s = 0 ∨ s = 1) (hm : 0 ≤ m) (hr : Rn rnd) (hd : (intBits m : Int) ≤ prec) :
    call0 (k + 3) 5 [.int s, .int m, .int e, .int (intBits m), .int prec, .str rnd] = some (rep (mkD ((1 - 2 * s) * m) e)) := c_normalize k hs hm hr (.inl hd)
end Mine

end
section -- P3
open PySem PySem.W PyProof.Rows
set_option maxRecDepth 10000
set_option maxHeartbeats 1000000
set_option linter.unusedSimpArgs false
namespace Mine
open Builtin.Int (intBits)

theorem d_cases' (d : Dyadic) : d = 0 ∨ ∃ s m e : Int, (s = 0 ∨ s = 1) ∧ 0 < m ∧ m % 2 = 1 ∧ d = mkD ((1 - 2 * s) * m) e := by
  rcases d_cases d with h | ⟨q, e, hq, h⟩
  · exact .inl h
  · rcases Int.lt_or_le q 0 with hn | hn
    · exact .inr ⟨1, -q, e, .inr rfl, by omega, by omega, by rw [h]; congr 1; omega⟩
    · exact .inr ⟨0, q, e, .inl rfl, by omega, hq, by rw [h]; congr 1; omega⟩
theorem rep0 : rep 0 = .tup [.int 0, .int 0, .int 0, .int 0] := rfl

theorem c_from_man_exp (k : Nat) (z e : Int) (rnd : PySem.Str) : call0 (k + 2) 6 [.int z, .int e, .int 0, .str rnd] = some (rep (mkD z e)) := by
  rw [show call0 (k + 2) 6 [.int z, .int e, .int 0, .str rnd] = kf (exs gt0 sh0 (call0 (k + 1)) f_from_man_exp.body [.int z, .int e, .int 0, .str rnd, .undef, .undef, .undef] none) from rfl]
  by_cases h0 : z = 0
  · subst h0
    simp -implicitDefEqProofs only [b1_some, b2_some, ob_some, vget_int, vget_str, vget_bool, vget_none, vget_tup, vget_lst, vget_rep, vneg_int, t_int, t_bool, t_none, vnot_int, vnot_bool, vnot_none, bo_add, bo_sub, bo_mul, bo_div, bo_mod, bo_pow, bo_shl, bo_shr, bo_and, bo_xor, vc_eq, vc_ne, vc_lt, vc_le, vc_gt, vc_ge, vc_seq, vc_req, vc_rne, c2_some, kc_some, ktup_some, klst_some, vbits_int, vint_int, vint_bool, visint_int, vidx_tup, vidx_lst, vshift_str, vdm_int, kand_int, kand_bool, kand_t, kand_f, kor_int, kor_bool, kor_none, kor_t, kor_f, kif_bool, kif_t, kif_f, kite_int, kite_bool, kite_none, kt_t, kt_f, kont_next, kont_ret, e_none, e_bool, e_int, e_str, e_var, e_g0, e_g1, e_g2, e_g8, e_g9, e_g10, e_g11, e_g12, e_bin, e_neg, e_not, e_one, e_and, e_or, e_cmp, e_ite, e_tup, e_lst, e_idx, e_shift, e_call, e_bits, e_toint, e_isint, e_dm, es_nil, es_cons, ka_int, ka_bool, ka_none, ka_rep, ob_none, kr_some, kT_2, kT_3, kT_4, kW_2, kW_3, kasrt_t, s_asg, s_asgC, s_asgT, s_asgU, s_asgW, s_aug, s_ite, s_ret, s_asrt, x_nil, x_cons, kf_ret, T4_def, item0, item1, List.set_cons_zero, List.set_cons_succ, List.getElem?_cons_zero, List.getElem?_cons_succ, decide_true, decide_false, not_true_eq_false, not_false_eq_true, Bool.not_true, Bool.not_false, ne_eq, if_true, if_false, Bool.false_eq_true, show ((0:Int) = 0) = True from eq_self 0, show ((1:Int) = 0) = False from by decide, show ((0:Int) = 1) = False from by decide, show ((1:Int)=1) = True from eq_self 1, f_from_man_exp, mkD_zero, Int.lt_irrefl]
  · obtain ⟨s, m, hs, hm, hz, hlt⟩ : ∃ s m : Int, (s = 0 ∨ s = 1) ∧ 0 < m ∧ z = (1 - 2 * s) * m ∧ ((z < 0 ∧ s = 1 ∧ m = -z) ∨ (¬ z < 0 ∧ s = 0 ∧ m = z)) := by
      rcases Int.lt_or_le z 0 with hn | hn
      · exact ⟨1, -z, .inr rfl, by omega, by omega, .inl ⟨hn, rfl, rfl⟩⟩
      · exact ⟨0, z, .inl rfl, by omega, by omega, .inr ⟨by omega, rfl, rfl⟩⟩
    have hm0 : m ≠ 0 := by omega
    have hb2 : Builtin.bitAnd m 2 = (m / 2 % 2) * 2 := kbt_bit m 1
    have h01 : (0 : Int) ≤ 1 := by decide
    have hm1 : m % 2 = 1 ∨ m % 2 = 0 := by omega
    have hres : kf (exs gt0 sh0 (call0 (k + 1)) (f_from_man_exp.body.drop 3) [.int m, .int e, .int 0, .str rnd, .int s, .undef, .undef] none) = some (rep (mkD z e)) := by
      rw [hz]
      rcases hm1 with h1 | h1
      · rw [rep_fin hs hm h1]
        simp -implicitDefEqProofs only [b1_some, b2_some, ob_some, vget_int, vget_str, vget_bool, vget_none, vget_tup, vget_lst, vget_rep, vneg_int, t_int, t_bool, t_none, vnot_int, vnot_bool, vnot_none, bo_add, bo_sub, bo_mul, bo_div, bo_mod, bo_pow, bo_shl, bo_shr, bo_and, bo_xor, vc_eq, vc_ne, vc_lt, vc_le, vc_gt, vc_ge, vc_seq, vc_req, vc_rne, c2_some, kc_some, ktup_some, klst_some, vbits_int, vint_int, vint_bool, visint_int, vidx_tup, vidx_lst, vshift_str, vdm_int, kand_int, kand_bool, kand_t, kand_f, kor_int, kor_bool, kor_none, kor_t, kor_f, kif_bool, kif_t, kif_f, kite_int, kite_bool, kite_none, kt_t, kt_f, kont_next, kont_ret, e_none, e_bool, e_int, e_str, e_var, e_g0, e_g1, e_g2, e_g8, e_g9, e_g10, e_g11, e_g12, e_bin, e_neg, e_not, e_one, e_and, e_or, e_cmp, e_ite, e_tup, e_lst, e_idx, e_shift, e_call, e_bits, e_toint, e_isint, e_dm, es_nil, es_cons, ka_int, ka_bool, ka_none, ka_rep, ob_none, kr_some, kT_2, kT_3, kT_4, kW_2, kW_3, kasrt_t, s_asg, s_asgC, s_asgT, s_asgU, s_asgW, s_aug, s_ite, s_ret, s_asrt, x_nil, x_cons, kf_ret, T4_def, item0, item1, List.set_cons_zero, List.set_cons_succ, List.getElem?_cons_zero, List.getElem?_cons_succ, decide_true, decide_false, not_true_eq_false, not_false_eq_true, Bool.not_true, Bool.not_false, ne_eq, if_true, if_false, Bool.false_eq_true, show ((0:Int) = 0) = True from eq_self 0, show ((1:Int) = 0) = False from by decide, show ((0:Int) = 1) = False from by decide, show ((1:Int)=1) = True from eq_self 1, f_from_man_exp, List.drop_succ_cons, List.drop_zero, hm0, bitAnd_m1, h1]
      · by_cases h2 : m / 2 % 2 = 1
        · have hq : m = (m / 2) * 2 ^ 1 := by omega
          have hr1 : m.fdiv (2 ^ Int.toNat 1) = m / 2 := by
            show m.fdiv (2 ^ 1) = _
            rw [show m.fdiv (2 ^ 1) = ((m / 2) * 2 ^ 1).fdiv (2 ^ 1) by rw [← hq], fdiv_pow]
          have hbb : ((intBits m : Nat) : Int) - 1 = intBits (m / 2) := by
            have : intBits m = intBits (m / 2) + 1 := by
              have := bits_mul_pow (m := m / 2) (by omega) 1
              rwa [← hq] at this
            omega
          have hne : ((m / 2 % 2) * 2 = 0) = False := by rw [h2]; decide
          have hval : (1 - 2 * s) * m = (1 - 2 * s) * (m / 2) * 2 ^ 1 := by rw [Int.mul_assoc, ← hq]
          rw [hval, mkD_shift, rep_fin hs (by omega) h2]
          simp -implicitDefEqProofs only [b1_some, b2_some, ob_some, vget_int, vget_str, vget_bool, vget_none, vget_tup, vget_lst, vget_rep, vneg_int, t_int, t_bool, t_none, vnot_int, vnot_bool, vnot_none, bo_add, bo_sub, bo_mul, bo_div, bo_mod, bo_pow, bo_shl, bo_shr, bo_and, bo_xor, vc_eq, vc_ne, vc_lt, vc_le, vc_gt, vc_ge, vc_seq, vc_req, vc_rne, c2_some, kc_some, ktup_some, klst_some, vbits_int, vint_int, vint_bool, visint_int, vidx_tup, vidx_lst, vshift_str, vdm_int, kand_int, kand_bool, kand_t, kand_f, kor_int, kor_bool, kor_none, kor_t, kor_f, kif_bool, kif_t, kif_f, kite_int, kite_bool, kite_none, kt_t, kt_f, kont_next, kont_ret, e_none, e_bool, e_int, e_str, e_var, e_g0, e_g1, e_g2, e_g8, e_g9, e_g10, e_g11, e_g12, e_bin, e_neg, e_not, e_one, e_and, e_or, e_cmp, e_ite, e_tup, e_lst, e_idx, e_shift, e_call, e_bits, e_toint, e_isint, e_dm, es_nil, es_cons, ka_int, ka_bool, ka_none, ka_rep, ob_none, kr_some, kT_2, kT_3, kT_4, kW_2, kW_3, kasrt_t, s_asg, s_asgC, s_asgT, s_asgU, s_asgW, s_aug, s_ite, s_ret, s_asrt, x_nil, x_cons, kf_ret, T4_def, item0, item1, List.set_cons_zero, List.set_cons_succ, List.getElem?_cons_zero, List.getElem?_cons_succ, decide_true, decide_false, not_true_eq_false, not_false_eq_true, Bool.not_true, Bool.not_false, ne_eq, if_true, if_false, Bool.false_eq_true, show ((0:Int) = 0) = True from eq_self 0, show ((1:Int) = 0) = False from by decide, show ((0:Int) = 1) = False from by decide, show ((1:Int)=1) = True from eq_self 1, f_from_man_exp, List.drop_succ_cons, List.drop_zero, hm0, bitAnd_m1, h1, hb2, hne, h01, hr1, hbb]
          rfl
        · obtain ⟨t, q, hq, hmq, hc⟩ := c_trailing k hm
          have hb : intBits m = intBits (2 * q + 1) + t := by rw [hmq, bits_mul_pow (by omega)]
          have hf : m.fdiv (2 ^ t) = 2 * q + 1 := by rw [hmq, fdiv_pow]
          have hval : (1 - 2 * s) * m = (1 - 2 * s) * (2 * q + 1) * 2 ^ t := by rw [hmq, Int.mul_assoc]
          have hbb : ((intBits m : Nat) : Int) - t = intBits (2 * q + 1) := by rw [hb]; omega
          have ht : (0 : Int) ≤ t := by omega
          have hne : ((m / 2 % 2) * 2 = 0) = True := by simp only [eq_iff_iff, iff_true]; omega
          rw [hval, mkD_shift, rep_fin hs (by omega) (by omega)]
          simp -implicitDefEqProofs only [b1_some, b2_some, ob_some, vget_int, vget_str, vget_bool, vget_none, vget_tup, vget_lst, vget_rep, vneg_int, t_int, t_bool, t_none, vnot_int, vnot_bool, vnot_none, bo_add, bo_sub, bo_mul, bo_div, bo_mod, bo_pow, bo_shl, bo_shr, bo_and, bo_xor, vc_eq, vc_ne, vc_lt, vc_le, vc_gt, vc_ge, vc_seq, vc_req, vc_rne, c2_some, kc_some, ktup_some, klst_some, vbits_int, vint_int, vint_bool, visint_int, vidx_tup, vidx_lst, vshift_str, vdm_int, kand_int, kand_bool, kand_t, kand_f, kor_int, kor_bool, kor_none, kor_t, kor_f, kif_bool, kif_t, kif_f, kite_int, kite_bool, kite_none, kt_t, kt_f, kont_next, kont_ret, e_none, e_bool, e_int, e_str, e_var, e_g0, e_g1, e_g2, e_g8, e_g9, e_g10, e_g11, e_g12, e_bin, e_neg, e_not, e_one, e_and, e_or, e_cmp, e_ite, e_tup, e_lst, e_idx, e_shift, e_call, e_bits, e_toint, e_isint, e_dm, es_nil, es_cons, ka_int, ka_bool, ka_none, ka_rep, ob_none, kr_some, kT_2, kT_3, kT_4, kW_2, kW_3, kasrt_t, s_asg, s_asgC, s_asgT, s_asgU, s_asgW, s_aug, s_ite, s_ret, s_asrt, x_nil, x_cons, kf_ret, T4_def, item0, item1, List.set_cons_zero, List.set_cons_succ, List.getElem?_cons_zero, List.getElem?_cons_succ, decide_true, decide_false, not_true_eq_false, not_false_eq_true, Bool.not_true, Bool.not_false, ne_eq, if_true, if_false, Bool.false_eq_true, show ((0:Int) = 0) = True from eq_self 0, show ((1:Int) = 0) = False from by decide, show ((0:Int) = 1) = False from by decide, show ((1:Int)=1) = True from eq_self 1, f_from_man_exp, List.drop_succ_cons, List.drop_zero, hm0, bitAnd_m1, h1, hb2, hne, hc, ht, Int.toNat_natCast, hf, hbb]
    rcases hlt with ⟨hl, rfl, rfl⟩ | ⟨hl, rfl, rfl⟩
    · rw [← hres]
      simp -implicitDefEqProofs only [b1_some, b2_some, ob_some, vget_int, vget_str, vget_bool, vget_none, vget_tup, vget_lst, vget_rep, vneg_int, t_int, t_bool, t_none, vnot_int, vnot_bool, vnot_none, bo_add, bo_sub, bo_mul, bo_div, bo_mod, bo_pow, bo_shl, bo_shr, bo_and, bo_xor, vc_eq, vc_ne, vc_lt, vc_le, vc_gt, vc_ge, vc_seq, vc_req, vc_rne, c2_some, kc_some, ktup_some, klst_some, vbits_int, vint_int, vint_bool, visint_int, vidx_tup, vidx_lst, vshift_str, vdm_int, kand_int, kand_bool, kand_t, kand_f, kor_int, kor_bool, kor_none, kor_t, kor_f, kif_bool, kif_t, kif_f, kite_int, kite_bool, kite_none, kt_t, kt_f, kont_next, kont_ret, e_none, e_bool, e_int, e_str, e_var, e_g0, e_g1, e_g2, e_g8, e_g9, e_g10, e_g11, e_g12, e_bin, e_neg, e_not, e_one, e_and, e_or, e_cmp, e_ite, e_tup, e_lst, e_idx, e_shift, e_call, e_bits, e_toint, e_isint, e_dm, es_nil, es_cons, ka_int, ka_bool, ka_none, ka_rep, ob_none, kr_some, kT_2, kT_3, kT_4, kW_2, kW_3, kasrt_t, s_asg, s_asgC, s_asgT, s_asgU, s_asgW, s_aug, s_ite, s_ret, s_asrt, x_nil, x_cons, kf_ret, T4_def, item0, item1, List.set_cons_zero, List.set_cons_succ, List.getElem?_cons_zero, List.getElem?_cons_succ, decide_true, decide_false, not_true_eq_false, not_false_eq_true, Bool.not_true, Bool.not_false, ne_eq, if_true, if_false, Bool.false_eq_true, show ((0:Int) = 0) = True from eq_self 0, show ((1:Int) = 0) = False from by decide, show ((0:Int) = 1) = False from by decide, show ((1:Int)=1) = True from eq_self 1, f_from_man_exp, List.drop_succ_cons, List.drop_zero, hl]
    · rw [← hres]
      simp -implicitDefEqProofs only [b1_some, b2_some, ob_some, vget_int, vget_str, vget_bool, vget_none, vget_tup, vget_lst, vget_rep, vneg_int, t_int, t_bool, t_none, vnot_int, vnot_bool, vnot_none, bo_add, bo_sub, bo_mul, bo_div, bo_mod, bo_pow, bo_shl, bo_shr, bo_and, bo_xor, vc_eq, vc_ne, vc_lt, vc_le, vc_gt, vc_ge, vc_seq, vc_req, vc_rne, c2_some, kc_some, ktup_some, klst_some, vbits_int, vint_int, vint_bool, visint_int, vidx_tup, vidx_lst, vshift_str, vdm_int, kand_int, kand_bool, kand_t, kand_f, kor_int, kor_bool, kor_none, kor_t, kor_f, kif_bool, kif_t, kif_f, kite_int, kite_bool, kite_none, kt_t, kt_f, kont_next, kont_ret, e_none, e_bool, e_int, e_str, e_var, e_g0, e_g1, e_g2, e_g8, e_g9, e_g10, e_g11, e_g12, e_bin, e_neg, e_not, e_one, e_and, e_or, e_cmp, e_ite, e_tup, e_lst, e_idx, e_shift, e_call, e_bits, e_toint, e_isint, e_dm, es_nil, es_cons, ka_int, ka_bool, ka_none, ka_rep, ob_none, kr_some, kT_2, kT_3, kT_4, kW_2, kW_3, kasrt_t, s_asg, s_asgC, s_asgT, s_asgU, s_asgW, s_aug, s_ite, s_ret, s_asrt, x_nil, x_cons, kf_ret, T4_def, item0, item1, List.set_cons_zero, List.set_cons_succ, List.getElem?_cons_zero, List.getElem?_cons_succ, decide_true, decide_false, not_true_eq_false, not_false_eq_true, Bool.not_true, Bool.not_false, ne_eq, if_true, if_false, Bool.false_eq_true, show ((0:Int) = 0) = True from eq_self 0, show ((1:Int) = 0) = False from by decide, show ((0:Int) = 1) = False from by decide, show ((1:Int)=1) = True from eq_self 1, f_from_man_exp, List.drop_succ_cons, List.drop_zero, hl]

theorem c_from_int (k : Nat) (n : Int) : call0 (k + 3) 7 [.int n] = some (rep (n : Dyadic)) := by
  rw [show call0 (k + 3) 7 [.int n] = kf (exs gt0 sh0 (call0 (k + 2)) f_from_int.body [.int n, .int 0, .str "d"] none) from rfl]
  simp -implicitDefEqProofs only [b1_some, b2_some, ob_some, vget_int, vget_str, vget_bool, vget_none, vget_tup, vget_lst, vget_rep, vneg_int, t_int, t_bool, t_none, vnot_int, vnot_bool, vnot_none, bo_add, bo_sub, bo_mul, bo_div, bo_mod, bo_pow, bo_shl, bo_shr, bo_and, bo_xor, vc_eq, vc_ne, vc_lt, vc_le, vc_gt, vc_ge, vc_seq, vc_req, vc_rne, c2_some, kc_some, ktup_some, klst_some, vbits_int, vint_int, vint_bool, visint_int, vidx_tup, vidx_lst, vshift_str, vdm_int, kand_int, kand_bool, kand_t, kand_f, kor_int, kor_bool, kor_none, kor_t, kor_f, kif_bool, kif_t, kif_f, kite_int, kite_bool, kite_none, kt_t, kt_f, kont_next, kont_ret, e_none, e_bool, e_int, e_str, e_var, e_g0, e_g1, e_g2, e_g8, e_g9, e_g10, e_g11, e_g12, e_bin, e_neg, e_not, e_one, e_and, e_or, e_cmp, e_ite, e_tup, e_lst, e_idx, e_shift, e_call, e_bits, e_toint, e_isint, e_dm, es_nil, es_cons, ka_int, ka_bool, ka_none, ka_rep, ob_none, kr_some, kT_2, kT_3, kT_4, kW_2, kW_3, kasrt_t, s_asg, s_asgC, s_asgT, s_asgU, s_asgW, s_aug, s_ite, s_ret, s_asrt, x_nil, x_cons, kf_ret, T4_def, item0, item1, List.set_cons_zero, List.set_cons_succ, List.getElem?_cons_zero, List.getElem?_cons_succ, decide_true, decide_false, not_true_eq_false, not_false_eq_true, Bool.not_true, Bool.not_false, ne_eq, if_true, if_false, Bool.false_eq_true, show ((0:Int) = 0) = True from eq_self 0, show ((1:Int) = 0) = False from by decide, show ((0:Int) = 1) = False from by decide, show ((1:Int)=1) = True from eq_self 1, f_from_int, c_from_man_exp, mkD_int]

theorem neg1 {s m : Int} (hs : s = 0 ∨ s = 1) : (1 - 2 * (1 - s)) * m = -((1 - 2 * s) * m) := by
  rcases hs with rfl | rfl <;> omega
theorem c_neg (k : Nat) (d : Dyadic) : call0 (k + 1) 9 [rep d] = some (rep (-d)) := by
  rcases d_cases' d with rfl | ⟨s, m, e, hs, hm, h1, rfl⟩
  · rw [rep0, show call0 (k + 1) 9 [.tup [.int 0, .int 0, .int 0, .int 0]] = kf (exs gt0 sh0 (call0 k) f_mpf_neg.body [.tup [.int 0, .int 0, .int 0, .int 0], .int 0, .str "d", .undef, .undef, .undef, .undef] none) from rfl]
    simp -implicitDefEqProofs only [b1_some, b2_some, ob_some, vget_int, vget_str, vget_bool, vget_none, vget_tup, vget_lst, vget_rep, vneg_int, t_int, t_bool, t_none, vnot_int, vnot_bool, vnot_none, bo_add, bo_sub, bo_mul, bo_div, bo_mod, bo_pow, bo_shl, bo_shr, bo_and, bo_xor, vc_eq, vc_ne, vc_lt, vc_le, vc_gt, vc_ge, vc_seq, vc_req, vc_rne, c2_some, kc_some, ktup_some, klst_some, vbits_int, vint_int, vint_bool, visint_int, vidx_tup, vidx_lst, vshift_str, vdm_int, kand_int, kand_bool, kand_t, kand_f, kor_int, kor_bool, kor_none, kor_t, kor_f, kif_bool, kif_t, kif_f, kite_int, kite_bool, kite_none, kt_t, kt_f, kont_next, kont_ret, e_none, e_bool, e_int, e_str, e_var, e_g0, e_g1, e_g2, e_g8, e_g9, e_g10, e_g11, e_g12, e_bin, e_neg, e_not, e_one, e_and, e_or, e_cmp, e_ite, e_tup, e_lst, e_idx, e_shift, e_call, e_bits, e_toint, e_isint, e_dm, es_nil, es_cons, ka_int, ka_bool, ka_none, ka_rep, ob_none, kr_some, kT_2, kT_3, kT_4, kW_2, kW_3, kasrt_t, s_asg, s_asgC, s_asgT, s_asgU, s_asgW, s_aug, s_ite, s_ret, s_asrt, x_nil, x_cons, kf_ret, T4_def, item0, item1, List.set_cons_zero, List.set_cons_succ, List.getElem?_cons_zero, List.getElem?_cons_succ, decide_true, decide_false, not_true_eq_false, not_false_eq_true, Bool.not_true, Bool.not_false, ne_eq, if_true, if_false, Bool.false_eq_true, show ((0:Int) = 0) = True from eq_self 0, show ((1:Int) = 0) = False from by decide, show ((0:Int) = 1) = False from by decide, show ((1:Int)=1) = True from eq_self 1, f_mpf_neg, T4_def]
    rfl
  · have hm0 : m ≠ 0 := by omega
    rw [mkD_neg, ← neg1 hs, rep_fin hs hm h1, rep_fin (by omega) hm h1]
    rw [show ∀ a b c d : Int, call0 (k + 1) 9 [.tup [.int a, .int b, .int c, .int d]] = kf (exs gt0 sh0 (call0 k) f_mpf_neg.body [.tup [.int a, .int b, .int c, .int d], .int 0, .str "d", .undef, .undef, .undef, .undef] none) from fun _ _ _ _ => rfl]
    simp -implicitDefEqProofs only [b1_some, b2_some, ob_some, vget_int, vget_str, vget_bool, vget_none, vget_tup, vget_lst, vget_rep, vneg_int, t_int, t_bool, t_none, vnot_int, vnot_bool, vnot_none, bo_add, bo_sub, bo_mul, bo_div, bo_mod, bo_pow, bo_shl, bo_shr, bo_and, bo_xor, vc_eq, vc_ne, vc_lt, vc_le, vc_gt, vc_ge, vc_seq, vc_req, vc_rne, c2_some, kc_some, ktup_some, klst_some, vbits_int, vint_int, vint_bool, visint_int, vidx_tup, vidx_lst, vshift_str, vdm_int, kand_int, kand_bool, kand_t, kand_f, kor_int, kor_bool, kor_none, kor_t, kor_f, kif_bool, kif_t, kif_f, kite_int, kite_bool, kite_none, kt_t, kt_f, kont_next, kont_ret, e_none, e_bool, e_int, e_str, e_var, e_g0, e_g1, e_g2, e_g8, e_g9, e_g10, e_g11, e_g12, e_bin, e_neg, e_not, e_one, e_and, e_or, e_cmp, e_ite, e_tup, e_lst, e_idx, e_shift, e_call, e_bits, e_toint, e_isint, e_dm, es_nil, es_cons, ka_int, ka_bool, ka_none, ka_rep, ob_none, kr_some, kT_2, kT_3, kT_4, kW_2, kW_3, kasrt_t, s_asg, s_asgC, s_asgT, s_asgU, s_asgW, s_aug, s_ite, s_ret, s_asrt, x_nil, x_cons, kf_ret, T4_def, item0, item1, List.set_cons_zero, List.set_cons_succ, List.getElem?_cons_zero, List.getElem?_cons_succ, decide_true, decide_false, not_true_eq_false, not_false_eq_true, Bool.not_true, Bool.not_false, ne_eq, if_true, if_false, Bool.false_eq_true, show ((0:Int) = 0) = True from eq_self 0, show ((1:Int) = 0) = False from by decide, show ((0:Int) = 1) = False from by decide, show ((1:Int)=1) = True from eq_self 1, f_mpf_neg, hm0]

/-- so many bits -/
noncomputable def bitsD : Dyadic → Nat
  | .zero => 0
  | .ofOdd n _ _ => intBits n
theorem bitsD_mk {s m e : Int} (hs : s = 0 ∨ s = 1) (h1 : m % 2 = 1) : bitsD (mkD ((1 - 2 * s) * m) e) = intBits m := by
  rcases hs with rfl | rfl
  · have : (1 - 2 * 0) * m = m := by omega
    rw [this, mkD_odd h1]; rfl
  · have : (1 - 2 * 1) * m = -m := by omega
    rw [this, mkD_odd (by omega)]; exact bits_neg m
theorem c_pos (k : Nat) (d : Dyadic) {prec : Int} {rnd : PySem.Str} (hp : 0 < prec) (hr : Rn rnd) (hb : (bitsD d : Int) ≤ prec) : call0 (k + 4) 8 [rep d, .int prec, .str rnd] = some (rep d) := by
  have hp0 : prec ≠ 0 := by omega
  rcases d_cases' d with rfl | ⟨s, m, e, hs, hm, h1, rfl⟩
  · rw [rep0, show call0 (k + 4) 8 [.tup [.int 0, .int 0, .int 0, .int 0], .int prec, .str rnd] = kf (exs gt0 sh0 (call0 (k + 3)) f_mpf_pos.body [.tup [.int 0, .int 0, .int 0, .int 0], .int prec, .str rnd, .undef, .undef, .undef, .undef] none) from rfl]
    have := c_norm0 k (s := 0) (m := 0) (e := 0) (prec := prec) (rnd := rnd) (.inl rfl) (by decide) hr (by rw [bits_zero]; omega)
    rw [bits_zero] at this
    simp -implicitDefEqProofs only [b1_some, b2_some, ob_some, vget_int, vget_str, vget_bool, vget_none, vget_tup, vget_lst, vget_rep, vneg_int, t_int, t_bool, t_none, vnot_int, vnot_bool, vnot_none, bo_add, bo_sub, bo_mul, bo_div, bo_mod, bo_pow, bo_shl, bo_shr, bo_and, bo_xor, vc_eq, vc_ne, vc_lt, vc_le, vc_gt, vc_ge, vc_seq, vc_req, vc_rne, c2_some, kc_some, ktup_some, klst_some, vbits_int, vint_int, vint_bool, visint_int, vidx_tup, vidx_lst, vshift_str, vdm_int, kand_int, kand_bool, kand_t, kand_f, kor_int, kor_bool, kor_none, kor_t, kor_f, kif_bool, kif_t, kif_f, kite_int, kite_bool, kite_none, kt_t, kt_f, kont_next, kont_ret, e_none, e_bool, e_int, e_str, e_var, e_g0, e_g1, e_g2, e_g8, e_g9, e_g10, e_g11, e_g12, e_bin, e_neg, e_not, e_one, e_and, e_or, e_cmp, e_ite, e_tup, e_lst, e_idx, e_shift, e_call, e_bits, e_toint, e_isint, e_dm, es_nil, es_cons, ka_int, ka_bool, ka_none, ka_rep, ob_none, kr_some, kT_2, kT_3, kT_4, kW_2, kW_3, kasrt_t, s_asg, s_asgC, s_asgT, s_asgU, s_asgW, s_aug, s_ite, s_ret, s_asrt, x_nil, x_cons, kf_ret, T4_def, item0, item1, List.set_cons_zero, List.set_cons_succ, List.getElem?_cons_zero, List.getElem?_cons_succ, decide_true, decide_false, not_true_eq_false, not_false_eq_true, Bool.not_true, Bool.not_false, ne_eq, if_true, if_false, Bool.false_eq_true, show ((0:Int) = 0) = True from eq_self 0, show ((1:Int) = 0) = False from by decide, show ((0:Int) = 1) = False from by decide, show ((1:Int)=1) = True from eq_self 1, f_mpf_pos, hp0]
    exact congrArg (fun o => kf (kr o)) this
  · have hm0 : m ≠ 0 := by omega
    rw [bitsD_mk hs h1] at hb
    have := c_norm0 k (s := s) (m := m) (e := e) (prec := prec) (rnd := rnd) hs (by omega) hr hb
    rw [rep_fin hs hm h1] at this ⊢
    rw [show ∀ a b c d : Int, call0 (k + 4) 8 [.tup [.int a, .int b, .int c, .int d], .int prec, .str rnd] = kf (exs gt0 sh0 (call0 (k + 3)) f_mpf_pos.body [.tup [.int a, .int b, .int c, .int d], .int prec, .str rnd, .undef, .undef, .undef, .undef] none) from fun _ _ _ _ => rfl]
    simp -implicitDefEqProofs only [b1_some, b2_some, ob_some, vget_int, vget_str, vget_bool, vget_none, vget_tup, vget_lst, vget_rep, vneg_int, t_int, t_bool, t_none, vnot_int, vnot_bool, vnot_none, bo_add, bo_sub, bo_mul, bo_div, bo_mod, bo_pow, bo_shl, bo_shr, bo_and, bo_xor, vc_eq, vc_ne, vc_lt, vc_le, vc_gt, vc_ge, vc_seq, vc_req, vc_rne, c2_some, kc_some, ktup_some, klst_some, vbits_int, vint_int, vint_bool, visint_int, vidx_tup, vidx_lst, vshift_str, vdm_int, kand_int, kand_bool, kand_t, kand_f, kor_int, kor_bool, kor_none, kor_t, kor_f, kif_bool, kif_t, kif_f, kite_int, kite_bool, kite_none, kt_t, kt_f, kont_next, kont_ret, e_none, e_bool, e_int, e_str, e_var, e_g0, e_g1, e_g2, e_g8, e_g9, e_g10, e_g11, e_g12, e_bin, e_neg, e_not, e_one, e_and, e_or, e_cmp, e_ite, e_tup, e_lst, e_idx, e_shift, e_call, e_bits, e_toint, e_isint, e_dm, es_nil, es_cons, ka_int, ka_bool, ka_none, ka_rep, ob_none, kr_some, kT_2, kT_3, kT_4, kW_2, kW_3, kasrt_t, s_asg, s_asgC, s_asgT, s_asgU, s_asgW, s_aug, s_ite, s_ret, s_asrt, x_nil, x_cons, kf_ret, T4_def, item0, item1, List.set_cons_zero, List.set_cons_succ, List.getElem?_cons_zero, List.getElem?_cons_succ, decide_true, decide_false, not_true_eq_false, not_false_eq_true, Bool.not_true, Bool.not_false, ne_eq, if_true, if_false, Bool.false_eq_true, show ((0:Int) = 0) = True from eq_self 0, show ((1:Int) = 0) = False from by decide, show ((0:Int) = 1) = False from by decide, show ((1:Int)=1) = True from eq_self 1, f_mpf_pos, hm0, hp0, this]

theorem xor00 : Builtin.bitXor 0 0 = 0 := by decide
theorem xor01 : Builtin.bitXor 0 1 = 1 := by decide
theorem xor10 : Builtin.bitXor 1 0 = 1 := by decide
theorem xor11 : Builtin.bitXor 1 1 = 0 := by decide
theorem xor_sg {s t : Int} (hs : s = 0 ∨ s = 1) (ht : t = 0 ∨ t = 1) : (Builtin.bitXor s t = 0 ∨ Builtin.bitXor s t = 1) ∧ (1 - 2 * Builtin.bitXor s t) = (1 - 2 * s) * (1 - 2 * t) := by
  rcases hs with rfl | rfl <;> rcases ht with rfl | rfl <;> simp [xor00, xor01, xor10, xor11]
theorem mulOk_of {a b : Int} (ha : intBits a ≤ 2 ^ 20) (hb : intBits b ≤ 2 ^ 20) : mulOk a b = true := by
  unfold mulOk; simp [ha, hb]
theorem mul_odd {a b : Int} (ha : a % 2 = 1) (hb : b % 2 = 1) : (a * b) % 2 = 1 := by rw [Int.mul_emod, ha, hb]; rfl

theorem c_mul (k : Nat) {x y : Dyadic} (hx : bitsD x ≤ 2 ^ 20) (hy : bitsD y ≤ 2 ^ 20) : call0 (k + 1) 15 [rep x, rep y] = some (rep (x * y)) := by
  have go : ∀ a b c d a' b' c' d' : Int, call0 (k + 1) 15 [.tup [.int a, .int b, .int c, .int d], .tup [.int a', .int b', .int c', .int d']] = kf (exs gt0 sh0 (call0 k) f_mpf_mul.body [.tup [.int a, .int b, .int c, .int d], .tup [.int a', .int b', .int c', .int d'], .int 0, .str "d", .undef, .undef, .undef, .undef, .undef, .undef, .undef, .undef, .undef, .undef, .undef, .undef, .undef] none) := fun _ _ _ _ _ _ _ _ => cstep (fd := f_mpf_mul) rfl rfl
  have m0 : ∀ b : Int, mulOk 0 b = true := fun b => by unfold mulOk; simp [bits_zero]
  have m0' : ∀ b : Int, mulOk b 0 = true := fun b => by unfold mulOk; simp [bits_zero]
  rcases d_cases' x with rfl | ⟨s, m, e, hs, hm, h1, rfl⟩ <;> rcases d_cases' y with rfl | ⟨s', m', e', hs', hm', h1', rfl⟩
  · rw [rep0, go]
    simp -implicitDefEqProofs only [b1_some, b2_some, ob_some, vget_int, vget_str, vget_bool, vget_none, vget_tup, vget_lst, vget_rep, vneg_int, t_int, t_bool, t_none, vnot_int, vnot_bool, vnot_none, bo_add, bo_sub, bo_mul, bo_div, bo_mod, bo_pow, bo_shl, bo_shr, bo_and, bo_xor, vc_eq, vc_ne, vc_lt, vc_le, vc_gt, vc_ge, vc_seq, vc_req, vc_rne, c2_some, kc_some, ktup_some, klst_some, vbits_int, vint_int, vint_bool, visint_int, vidx_tup, vidx_lst, vshift_str, vdm_int, kand_int, kand_bool, kand_t, kand_f, kor_int, kor_bool, kor_none, kor_t, kor_f, kif_bool, kif_t, kif_f, kite_int, kite_bool, kite_none, kt_t, kt_f, kont_next, kont_ret, e_none, e_bool, e_int, e_str, e_var, e_g0, e_g1, e_g2, e_g8, e_g9, e_g10, e_g11, e_g12, e_bin, e_neg, e_not, e_one, e_and, e_or, e_cmp, e_ite, e_tup, e_lst, e_idx, e_shift, e_call, e_bits, e_toint, e_isint, e_dm, es_nil, es_cons, ka_int, ka_bool, ka_none, ka_rep, ob_none, kr_some, kT_2, kT_3, kT_4, kW_2, kW_3, kasrt_t, s_asg, s_asgC, s_asgT, s_asgU, s_asgW, s_aug, s_ite, s_ret, s_asrt, x_nil, x_cons, kf_ret, T4_def, item0, item1, List.set_cons_zero, List.set_cons_succ, List.getElem?_cons_zero, List.getElem?_cons_succ, decide_true, decide_false, not_true_eq_false, not_false_eq_true, Bool.not_true, Bool.not_false, ne_eq, if_true, if_false, Bool.false_eq_true, show ((0:Int) = 0) = True from eq_self 0, show ((1:Int) = 0) = False from by decide, show ((0:Int) = 1) = False from by decide, show ((1:Int)=1) = True from eq_self 1, f_mpf_mul, m0, Int.zero_mul, Dyadic.zero_mul]
  · have hm0' : m' ≠ 0 := by omega
    rw [rep0, rep_fin hs' hm' h1', go]
    simp -implicitDefEqProofs only [b1_some, b2_some, ob_some, vget_int, vget_str, vget_bool, vget_none, vget_tup, vget_lst, vget_rep, vneg_int, t_int, t_bool, t_none, vnot_int, vnot_bool, vnot_none, bo_add, bo_sub, bo_mul, bo_div, bo_mod, bo_pow, bo_shl, bo_shr, bo_and, bo_xor, vc_eq, vc_ne, vc_lt, vc_le, vc_gt, vc_ge, vc_seq, vc_req, vc_rne, c2_some, kc_some, ktup_some, klst_some, vbits_int, vint_int, vint_bool, visint_int, vidx_tup, vidx_lst, vshift_str, vdm_int, kand_int, kand_bool, kand_t, kand_f, kor_int, kor_bool, kor_none, kor_t, kor_f, kif_bool, kif_t, kif_f, kite_int, kite_bool, kite_none, kt_t, kt_f, kont_next, kont_ret, e_none, e_bool, e_int, e_str, e_var, e_g0, e_g1, e_g2, e_g8, e_g9, e_g10, e_g11, e_g12, e_bin, e_neg, e_not, e_one, e_and, e_or, e_cmp, e_ite, e_tup, e_lst, e_idx, e_shift, e_call, e_bits, e_toint, e_isint, e_dm, es_nil, es_cons, ka_int, ka_bool, ka_none, ka_rep, ob_none, kr_some, kT_2, kT_3, kT_4, kW_2, kW_3, kasrt_t, s_asg, s_asgC, s_asgT, s_asgU, s_asgW, s_aug, s_ite, s_ret, s_asrt, x_nil, x_cons, kf_ret, T4_def, item0, item1, List.set_cons_zero, List.set_cons_succ, List.getElem?_cons_zero, List.getElem?_cons_succ, decide_true, decide_false, not_true_eq_false, not_false_eq_true, Bool.not_true, Bool.not_false, ne_eq, if_true, if_false, Bool.false_eq_true, show ((0:Int) = 0) = True from eq_self 0, show ((1:Int) = 0) = False from by decide, show ((0:Int) = 1) = False from by decide, show ((1:Int)=1) = True from eq_self 1, f_mpf_mul, m0, Int.zero_mul, hm0', Dyadic.zero_mul]
  · have hm0 : m ≠ 0 := by omega
    rw [rep0, rep_fin hs hm h1, go]
    simp -implicitDefEqProofs only [b1_some, b2_some, ob_some, vget_int, vget_str, vget_bool, vget_none, vget_tup, vget_lst, vget_rep, vneg_int, t_int, t_bool, t_none, vnot_int, vnot_bool, vnot_none, bo_add, bo_sub, bo_mul, bo_div, bo_mod, bo_pow, bo_shl, bo_shr, bo_and, bo_xor, vc_eq, vc_ne, vc_lt, vc_le, vc_gt, vc_ge, vc_seq, vc_req, vc_rne, c2_some, kc_some, ktup_some, klst_some, vbits_int, vint_int, vint_bool, visint_int, vidx_tup, vidx_lst, vshift_str, vdm_int, kand_int, kand_bool, kand_t, kand_f, kor_int, kor_bool, kor_none, kor_t, kor_f, kif_bool, kif_t, kif_f, kite_int, kite_bool, kite_none, kt_t, kt_f, kont_next, kont_ret, e_none, e_bool, e_int, e_str, e_var, e_g0, e_g1, e_g2, e_g8, e_g9, e_g10, e_g11, e_g12, e_bin, e_neg, e_not, e_one, e_and, e_or, e_cmp, e_ite, e_tup, e_lst, e_idx, e_shift, e_call, e_bits, e_toint, e_isint, e_dm, es_nil, es_cons, ka_int, ka_bool, ka_none, ka_rep, ob_none, kr_some, kT_2, kT_3, kT_4, kW_2, kW_3, kasrt_t, s_asg, s_asgC, s_asgT, s_asgU, s_asgW, s_aug, s_ite, s_ret, s_asrt, x_nil, x_cons, kf_ret, T4_def, item0, item1, List.set_cons_zero, List.set_cons_succ, List.getElem?_cons_zero, List.getElem?_cons_succ, decide_true, decide_false, not_true_eq_false, not_false_eq_true, Bool.not_true, Bool.not_false, ne_eq, if_true, if_false, Bool.false_eq_true, show ((0:Int) = 0) = True from eq_self 0, show ((1:Int) = 0) = False from by decide, show ((0:Int) = 1) = False from by decide, show ((1:Int)=1) = True from eq_self 1, f_mpf_mul, m0', Int.mul_zero, hm0, Dyadic.mul_zero]
  · rw [bitsD_mk hs h1] at hx
    rw [bitsD_mk hs' h1'] at hy
    obtain ⟨hq, hx'⟩ := xor_sg hs hs'
    have hmm : 0 < m * m' := Int.mul_pos hm hm'
    have hne : m * m' ≠ 0 := by omega
    rw [mkD_mul, show (1 - 2 * s) * m * ((1 - 2 * s') * m') = (1 - 2 * Builtin.bitXor s s') * (m * m') by rw [hx']; grind]
    rw [rep_fin hq hmm (mul_odd h1 h1'), rep_fin hs hm h1, rep_fin hs' hm' h1', go]
    simp -implicitDefEqProofs only [b1_some, b2_some, ob_some, vget_int, vget_str, vget_bool, vget_none, vget_tup, vget_lst, vget_rep, vneg_int, t_int, t_bool, t_none, vnot_int, vnot_bool, vnot_none, bo_add, bo_sub, bo_mul, bo_div, bo_mod, bo_pow, bo_shl, bo_shr, bo_and, bo_xor, vc_eq, vc_ne, vc_lt, vc_le, vc_gt, vc_ge, vc_seq, vc_req, vc_rne, c2_some, kc_some, ktup_some, klst_some, vbits_int, vint_int, vint_bool, visint_int, vidx_tup, vidx_lst, vshift_str, vdm_int, kand_int, kand_bool, kand_t, kand_f, kor_int, kor_bool, kor_none, kor_t, kor_f, kif_bool, kif_t, kif_f, kite_int, kite_bool, kite_none, kt_t, kt_f, kont_next, kont_ret, e_none, e_bool, e_int, e_str, e_var, e_g0, e_g1, e_g2, e_g8, e_g9, e_g10, e_g11, e_g12, e_bin, e_neg, e_not, e_one, e_and, e_or, e_cmp, e_ite, e_tup, e_lst, e_idx, e_shift, e_call, e_bits, e_toint, e_isint, e_dm, es_nil, es_cons, ka_int, ka_bool, ka_none, ka_rep, ob_none, kr_some, kT_2, kT_3, kT_4, kW_2, kW_3, kasrt_t, s_asg, s_asgC, s_asgT, s_asgU, s_asgW, s_aug, s_ite, s_ret, s_asrt, x_nil, x_cons, kf_ret, T4_def, item0, item1, List.set_cons_zero, List.set_cons_succ, List.getElem?_cons_zero, List.getElem?_cons_succ, decide_true, decide_false, not_true_eq_false, not_false_eq_true, Bool.not_true, Bool.not_false, ne_eq, if_true, if_false, Bool.false_eq_true, show ((0:Int) = 0) = True from eq_self 0, show ((1:Int) = 0) = False from by decide, show ((0:Int) = 1) = False from by decide, show ((1:Int)=1) = True from eq_self 1, f_mpf_mul, mulOk_of hx hy, hne]
end Mine

end
section -- P4
open PySem PySem.W PyProof.Rows
set_option maxRecDepth 10000
set_option maxHeartbeats 1000000
set_option linter.unusedSimpArgs false
namespace Mine
open Builtin.Int (intBits)

/-- bounds that the machine's shifts need -/
noncomputable def Bd (d : Dyadic) : Prop := ∀ s m e : Int, (s = 0 ∨ s = 1) → m % 2 = 1 → d = mkD ((1 - 2 * s) * m) e → intBits m ≤ 2 ^ 20 ∧ -(2 ^ 20) ≤ e ∧ e ≤ 2 ^ 20
noncomputable def sgnD (b : Int) (y : Dyadic) : Dyadic := if b = 0 then y else -y
theorem sgnD_mk {b t m e : Int} (hb : b = 0 ∨ b = 1) (ht : t = 0 ∨ t = 1) : sgnD b (mkD ((1 - 2 * t) * m) e) = mkD ((1 - 2 * Builtin.bitXor t b) * m) e := by
  rcases hb with rfl | rfl <;> rcases ht with rfl | rfl <;> simp [sgnD, mkD_neg, xor00, xor01, xor10, xor11]
theorem shlOk_of {a n : Int} (ha : intBits a ≤ 2 ^ 20) (h0 : 0 ≤ n) (h1 : n ≤ 2 ^ 21) : shlOk a n = true := by
  unfold shlOk
  simp only [h0, decide_true, Bool.true_and, decide_eq_true_eq]
  have : (intBits a : Int) ≤ 2 ^ 20 := by omega
  omega

theorem c_add (k : Nat) {x y : Dyadic} {b : Int} (hb : b = 0 ∨ b = 1) (hx : Bd x) (hy : Bd y) : call0 (k + 4) 12 [rep x, rep y, .int 0, .str "d", .int b] = some (rep (x + sgnD b y)) := by
  have go : ∀ a b c d a' b' c' d' u : Int, call0 (k + 4) 12 [.tup [.int a, .int b, .int c, .int d], .tup [.int a', .int b', .int c', .int d'], .int 0, .str "d", .int u] = kf (exs gt0 sh0 (call0 (k + 3)) f_mpf_add.body [.tup [.int a, .int b, .int c, .int d], .tup [.int a', .int b', .int c', .int d'], .int 0, .str "d", .int u, .undef, .undef, .undef, .undef, .undef, .undef, .undef, .undef, .undef, .undef, .undef, .undef] none) := fun _ _ _ _ _ _ _ _ _ => cstep (fd := f_mpf_add) rfl rfl
  have nr0 : ∀ m e : Int, 0 ≤ m → call0 (k + 3) 5 [.int 0, .int m, .int e, .int (intBits m), .int (intBits m), .str "d"] = some (rep (mkD m e)) := fun m e h => by
    have := c_norm0 k (s := 0) (m := m) (e := e) (rnd := "d") (.inl rfl) h rn_d (Int.le_refl _)
    rwa [show (1 - 2 * 0) * m = m by omega] at this
  have nr1 : ∀ m e : Int, 0 ≤ m → call0 (k + 3) 5 [.int 1, .int m, .int e, .int (intBits m), .int (intBits m), .str "d"] = some (rep (mkD (-m) e)) := fun m e h => by
    have := c_norm0 k (s := 1) (m := m) (e := e) (rnd := "d") (.inr rfl) h rn_d (Int.le_refl _)
    rwa [show (1 - 2 * 1) * m = -m by omega] at this
  have b1 : ∀ {m : Int}, 0 < m → ((intBits m : Int) = 0) = False := fun {m} h => by
    have := bits_pos (m := m) (by omega)
    simp only [eq_iff_iff, iff_false]; omega
  have neg0 : call0 (k + 3) 9 [.tup [.int 0, .int 0, .int 0, .int 0]] = some (rep 0) := c_neg (k + 2) 0
  rcases d_cases' x with rfl | ⟨s, m, e, hs, hm, h1, hxe⟩ <;> rcases d_cases' y with rfl | ⟨t, m', e', ht, hm', h1', hye⟩
  · have e0 : (0 : Dyadic) + sgnD b 0 = 0 := by unfold sgnD; split <;> rfl
    rw [e0, rep0, go]
    rcases hb with rfl | rfl
    · simp -implicitDefEqProofs only [b1_some, b2_some, ob_some, vget_int, vget_str, vget_bool, vget_none, vget_tup, vget_lst, vget_rep, vneg_int, t_int, t_bool, t_none, vnot_int, vnot_bool, vnot_none, bo_add, bo_sub, bo_mul, bo_div, bo_mod, bo_pow, bo_shl, bo_shr, bo_and, bo_xor, vc_eq, vc_ne, vc_lt, vc_le, vc_gt, vc_ge, vc_seq, vc_req, vc_rne, c2_some, kc_some, ktup_some, klst_some, vbits_int, vint_int, vint_bool, visint_int, vidx_tup, vidx_lst, vshift_str, vdm_int, kand_int, kand_bool, kand_t, kand_f, kor_int, kor_bool, kor_none, kor_t, kor_f, kif_bool, kif_t, kif_f, kite_int, kite_bool, kite_none, kt_t, kt_f, kont_next, kont_ret, e_none, e_bool, e_int, e_str, e_var, e_g0, e_g1, e_g2, e_g8, e_g9, e_g10, e_g11, e_g12, e_bin, e_neg, e_not, e_one, e_and, e_or, e_cmp, e_ite, e_tup, e_lst, e_idx, e_shift, e_call, e_bits, e_toint, e_isint, e_dm, es_nil, es_cons, ka_int, ka_bool, ka_none, ka_rep, ob_none, kr_some, kT_2, kT_3, kT_4, kW_2, kW_3, kasrt_t, s_asg, s_asgC, s_asgT, s_asgU, s_asgW, s_aug, s_ite, s_ret, s_asrt, x_nil, x_cons, kf_ret, T4_def, item0, item1, List.set_cons_zero, List.set_cons_succ, List.getElem?_cons_zero, List.getElem?_cons_succ, decide_true, decide_false, not_true_eq_false, not_false_eq_true, Bool.not_true, Bool.not_false, ne_eq, if_true, if_false, Bool.false_eq_true, show ((0:Int) = 0) = True from eq_self 0, show ((1:Int) = 0) = False from by decide, show ((0:Int) = 1) = False from by decide, show ((1:Int)=1) = True from eq_self 1, f_mpf_add, xor00, rep0]
    · simp -implicitDefEqProofs only [b1_some, b2_some, ob_some, vget_int, vget_str, vget_bool, vget_none, vget_tup, vget_lst, vget_rep, vneg_int, t_int, t_bool, t_none, vnot_int, vnot_bool, vnot_none, bo_add, bo_sub, bo_mul, bo_div, bo_mod, bo_pow, bo_shl, bo_shr, bo_and, bo_xor, vc_eq, vc_ne, vc_lt, vc_le, vc_gt, vc_ge, vc_seq, vc_req, vc_rne, c2_some, kc_some, ktup_some, klst_some, vbits_int, vint_int, vint_bool, visint_int, vidx_tup, vidx_lst, vshift_str, vdm_int, kand_int, kand_bool, kand_t, kand_f, kor_int, kor_bool, kor_none, kor_t, kor_f, kif_bool, kif_t, kif_f, kite_int, kite_bool, kite_none, kt_t, kt_f, kont_next, kont_ret, e_none, e_bool, e_int, e_str, e_var, e_g0, e_g1, e_g2, e_g8, e_g9, e_g10, e_g11, e_g12, e_bin, e_neg, e_not, e_one, e_and, e_or, e_cmp, e_ite, e_tup, e_lst, e_idx, e_shift, e_call, e_bits, e_toint, e_isint, e_dm, es_nil, es_cons, ka_int, ka_bool, ka_none, ka_rep, ob_none, kr_some, kT_2, kT_3, kT_4, kW_2, kW_3, kasrt_t, s_asg, s_asgC, s_asgT, s_asgU, s_asgW, s_aug, s_ite, s_ret, s_asrt, x_nil, x_cons, kf_ret, T4_def, item0, item1, List.set_cons_zero, List.set_cons_succ, List.getElem?_cons_zero, List.getElem?_cons_succ, decide_true, decide_false, not_true_eq_false, not_false_eq_true, Bool.not_true, Bool.not_false, ne_eq, if_true, if_false, Bool.false_eq_true, show ((0:Int) = 0) = True from eq_self 0, show ((1:Int) = 0) = False from by decide, show ((0:Int) = 1) = False from by decide, show ((1:Int)=1) = True from eq_self 1, f_mpf_add, xor01, neg0]
      rfl
  · have hng := c_neg (k + 2) y
    have hm0 : m' ≠ 0 := by omega
    have hts := (xor_sg ht hb).1
    have nn := c_norm0 k (s := Builtin.bitXor t b) (m := m') (e := e') (rnd := "d") hts (by omega) rn_d (Int.le_refl _)
    subst hye
    rw [Dyadic.zero_add, sgnD_mk hb ht, rep0]
    rw [rep_fin ht hm' h1'] at hng ⊢
    rw [go]
    rcases hb with rfl | rfl
    · simp -implicitDefEqProofs only [b1_some, b2_some, ob_some, vget_int, vget_str, vget_bool, vget_none, vget_tup, vget_lst, vget_rep, vneg_int, t_int, t_bool, t_none, vnot_int, vnot_bool, vnot_none, bo_add, bo_sub, bo_mul, bo_div, bo_mod, bo_pow, bo_shl, bo_shr, bo_and, bo_xor, vc_eq, vc_ne, vc_lt, vc_le, vc_gt, vc_ge, vc_seq, vc_req, vc_rne, c2_some, kc_some, ktup_some, klst_some, vbits_int, vint_int, vint_bool, visint_int, vidx_tup, vidx_lst, vshift_str, vdm_int, kand_int, kand_bool, kand_t, kand_f, kor_int, kor_bool, kor_none, kor_t, kor_f, kif_bool, kif_t, kif_f, kite_int, kite_bool, kite_none, kt_t, kt_f, kont_next, kont_ret, e_none, e_bool, e_int, e_str, e_var, e_g0, e_g1, e_g2, e_g8, e_g9, e_g10, e_g11, e_g12, e_bin, e_neg, e_not, e_one, e_and, e_or, e_cmp, e_ite, e_tup, e_lst, e_idx, e_shift, e_call, e_bits, e_toint, e_isint, e_dm, es_nil, es_cons, ka_int, ka_bool, ka_none, ka_rep, ob_none, kr_some, kT_2, kT_3, kT_4, kW_2, kW_3, kasrt_t, s_asg, s_asgC, s_asgT, s_asgU, s_asgW, s_aug, s_ite, s_ret, s_asrt, x_nil, x_cons, kf_ret, T4_def, item0, item1, List.set_cons_zero, List.set_cons_succ, List.getElem?_cons_zero, List.getElem?_cons_succ, decide_true, decide_false, not_true_eq_false, not_false_eq_true, Bool.not_true, Bool.not_false, ne_eq, if_true, if_false, Bool.false_eq_true, show ((0:Int) = 0) = True from eq_self 0, show ((1:Int) = 0) = False from by decide, show ((0:Int) = 1) = False from by decide, show ((1:Int)=1) = True from eq_self 1, f_mpf_add, hm0, b1 hm', nn]
    · simp -implicitDefEqProofs only [b1_some, b2_some, ob_some, vget_int, vget_str, vget_bool, vget_none, vget_tup, vget_lst, vget_rep, vneg_int, t_int, t_bool, t_none, vnot_int, vnot_bool, vnot_none, bo_add, bo_sub, bo_mul, bo_div, bo_mod, bo_pow, bo_shl, bo_shr, bo_and, bo_xor, vc_eq, vc_ne, vc_lt, vc_le, vc_gt, vc_ge, vc_seq, vc_req, vc_rne, c2_some, kc_some, ktup_some, klst_some, vbits_int, vint_int, vint_bool, visint_int, vidx_tup, vidx_lst, vshift_str, vdm_int, kand_int, kand_bool, kand_t, kand_f, kor_int, kor_bool, kor_none, kor_t, kor_f, kif_bool, kif_t, kif_f, kite_int, kite_bool, kite_none, kt_t, kt_f, kont_next, kont_ret, e_none, e_bool, e_int, e_str, e_var, e_g0, e_g1, e_g2, e_g8, e_g9, e_g10, e_g11, e_g12, e_bin, e_neg, e_not, e_one, e_and, e_or, e_cmp, e_ite, e_tup, e_lst, e_idx, e_shift, e_call, e_bits, e_toint, e_isint, e_dm, es_nil, es_cons, ka_int, ka_bool, ka_none, ka_rep, ob_none, kr_some, kT_2, kT_3, kT_4, kW_2, kW_3, kasrt_t, s_asg, s_asgC, s_asgT, s_asgU, s_asgW, s_aug, s_ite, s_ret, s_asrt, x_nil, x_cons, kf_ret, T4_def, item0, item1, List.set_cons_zero, List.set_cons_succ, List.getElem?_cons_zero, List.getElem?_cons_succ, decide_true, decide_false, not_true_eq_false, not_false_eq_true, Bool.not_true, Bool.not_false, ne_eq, if_true, if_false, Bool.false_eq_true, show ((0:Int) = 0) = True from eq_self 0, show ((1:Int) = 0) = False from by decide, show ((0:Int) = 1) = False from by decide, show ((1:Int)=1) = True from eq_self 1, f_mpf_add, hm0, b1 hm', nn, hng]
  · have hm0 : m ≠ 0 := by omega
    have nn := c_norm0 k (s := s) (m := m) (e := e) (rnd := "d") hs (by omega) rn_d (Int.le_refl _)
    subst hxe
    have e0 : sgnD b 0 = 0 := by unfold sgnD; split <;> rfl
    rw [e0, Dyadic.add_zero]
    rw [show rep 0 = .tup [.int 0, .int 0, .int 0, .int 0] from rfl, rep_fin hs hm h1, go]
    rw [rep_fin hs hm h1] at nn
    rcases hb with rfl | rfl
    · simp -implicitDefEqProofs only [b1_some, b2_some, ob_some, vget_int, vget_str, vget_bool, vget_none, vget_tup, vget_lst, vget_rep, vneg_int, t_int, t_bool, t_none, vnot_int, vnot_bool, vnot_none, bo_add, bo_sub, bo_mul, bo_div, bo_mod, bo_pow, bo_shl, bo_shr, bo_and, bo_xor, vc_eq, vc_ne, vc_lt, vc_le, vc_gt, vc_ge, vc_seq, vc_req, vc_rne, c2_some, kc_some, ktup_some, klst_some, vbits_int, vint_int, vint_bool, visint_int, vidx_tup, vidx_lst, vshift_str, vdm_int, kand_int, kand_bool, kand_t, kand_f, kor_int, kor_bool, kor_none, kor_t, kor_f, kif_bool, kif_t, kif_f, kite_int, kite_bool, kite_none, kt_t, kt_f, kont_next, kont_ret, e_none, e_bool, e_int, e_str, e_var, e_g0, e_g1, e_g2, e_g8, e_g9, e_g10, e_g11, e_g12, e_bin, e_neg, e_not, e_one, e_and, e_or, e_cmp, e_ite, e_tup, e_lst, e_idx, e_shift, e_call, e_bits, e_toint, e_isint, e_dm, es_nil, es_cons, ka_int, ka_bool, ka_none, ka_rep, ob_none, kr_some, kT_2, kT_3, kT_4, kW_2, kW_3, kasrt_t, s_asg, s_asgC, s_asgT, s_asgU, s_asgW, s_aug, s_ite, s_ret, s_asrt, x_nil, x_cons, kf_ret, T4_def, item0, item1, List.set_cons_zero, List.set_cons_succ, List.getElem?_cons_zero, List.getElem?_cons_succ, decide_true, decide_false, not_true_eq_false, not_false_eq_true, Bool.not_true, Bool.not_false, ne_eq, if_true, if_false, Bool.false_eq_true, show ((0:Int) = 0) = True from eq_self 0, show ((1:Int) = 0) = False from by decide, show ((0:Int) = 1) = False from by decide, show ((1:Int)=1) = True from eq_self 1, f_mpf_add, hm0, b1 hm, nn]
    · simp -implicitDefEqProofs only [b1_some, b2_some, ob_some, vget_int, vget_str, vget_bool, vget_none, vget_tup, vget_lst, vget_rep, vneg_int, t_int, t_bool, t_none, vnot_int, vnot_bool, vnot_none, bo_add, bo_sub, bo_mul, bo_div, bo_mod, bo_pow, bo_shl, bo_shr, bo_and, bo_xor, vc_eq, vc_ne, vc_lt, vc_le, vc_gt, vc_ge, vc_seq, vc_req, vc_rne, c2_some, kc_some, ktup_some, klst_some, vbits_int, vint_int, vint_bool, visint_int, vidx_tup, vidx_lst, vshift_str, vdm_int, kand_int, kand_bool, kand_t, kand_f, kor_int, kor_bool, kor_none, kor_t, kor_f, kif_bool, kif_t, kif_f, kite_int, kite_bool, kite_none, kt_t, kt_f, kont_next, kont_ret, e_none, e_bool, e_int, e_str, e_var, e_g0, e_g1, e_g2, e_g8, e_g9, e_g10, e_g11, e_g12, e_bin, e_neg, e_not, e_one, e_and, e_or, e_cmp, e_ite, e_tup, e_lst, e_idx, e_shift, e_call, e_bits, e_toint, e_isint, e_dm, es_nil, es_cons, ka_int, ka_bool, ka_none, ka_rep, ob_none, kr_some, kT_2, kT_3, kT_4, kW_2, kW_3, kasrt_t, s_asg, s_asgC, s_asgT, s_asgU, s_asgW, s_aug, s_ite, s_ret, s_asrt, x_nil, x_cons, kf_ret, T4_def, item0, item1, List.set_cons_zero, List.set_cons_succ, List.getElem?_cons_zero, List.getElem?_cons_succ, decide_true, decide_false, not_true_eq_false, not_false_eq_true, Bool.not_true, Bool.not_false, ne_eq, if_true, if_false, Bool.false_eq_true, show ((0:Int) = 0) = True from eq_self 0, show ((1:Int) = 0) = False from by decide, show ((0:Int) = 1) = False from by decide, show ((1:Int)=1) = True from eq_self 1, f_mpf_add, hm0, b1 hm, nn, neg0]
  · obtain ⟨bm, be1, be2⟩ := hx s m e hs h1 hxe
    obtain ⟨bm', be1', be2'⟩ := hy t m' e' ht h1' hye
    have hm0 : m ≠ 0 := by omega
    have hm0' : m' ≠ 0 := by omega
    subst hxe; subst hye
    have hts := (xor_sg ht hb).1
    rw [sgnD_mk hb ht, rep_fin hs hm h1, rep_fin ht hm' h1', go]
    generalize hX : Builtin.bitXor t b = u at hts
    rcases Int.lt_trichotomy e e' with hlt | heq | hgt
    · obtain ⟨n, hn⟩ : ∃ n : Nat, e' = e + n := ⟨(e' - e).toNat, by omega⟩
      subst hn
      have o1 : e - (e + n) ≠ 0 := by omega
      have o2 : ((0 : Int) < e - (e + n)) = False := by simp only [eq_iff_iff, iff_false]; omega
      have o3 : (e - (e + n) < 0) = True := by simp only [eq_iff_iff, iff_true]; omega
      have o4 : -(e - (e + (n : Int))) = n := by omega
      have o5 : (0 : Int) ≤ n := by omega
      have sh : shlOk m' (n : Int) = true := shlOk_of bm' (by omega) (by omega)
      have hp : 0 < m' * 2 ^ n := Int.mul_pos hm' (pow_pos_int n)
      have p1 : (1 - 2 * u) * m' * 2 ^ n = (1 - 2 * u) * (m' * 2 ^ n) := by rw [Int.mul_assoc]
      rw [← mkD_shift, p1, mkD_add]
      rcases hs with rfl | rfl <;> rcases hts with rfl | rfl
      · skip
        have v : (1 - 2 * 0) * m + (1 - 2 * 0) * (m' * 2 ^ n) = m + (m' * 2 ^ n) := by omega
        have hman : 0 ≤ m + (m' * 2 ^ n) := by omega
        rw [v]
        by_cases h100 : (e - (e + (n : Int)) < -100)
        · simp -implicitDefEqProofs only [b1_some, b2_some, ob_some, vget_int, vget_str, vget_bool, vget_none, vget_tup, vget_lst, vget_rep, vneg_int, t_int, t_bool, t_none, vnot_int, vnot_bool, vnot_none, bo_add, bo_sub, bo_mul, bo_div, bo_mod, bo_pow, bo_shl, bo_shr, bo_and, bo_xor, vc_eq, vc_ne, vc_lt, vc_le, vc_gt, vc_ge, vc_seq, vc_req, vc_rne, c2_some, kc_some, ktup_some, klst_some, vbits_int, vint_int, vint_bool, visint_int, vidx_tup, vidx_lst, vshift_str, vdm_int, kand_int, kand_bool, kand_t, kand_f, kor_int, kor_bool, kor_none, kor_t, kor_f, kif_bool, kif_t, kif_f, kite_int, kite_bool, kite_none, kt_t, kt_f, kont_next, kont_ret, e_none, e_bool, e_int, e_str, e_var, e_g0, e_g1, e_g2, e_g8, e_g9, e_g10, e_g11, e_g12, e_bin, e_neg, e_not, e_one, e_and, e_or, e_cmp, e_ite, e_tup, e_lst, e_idx, e_shift, e_call, e_bits, e_toint, e_isint, e_dm, es_nil, es_cons, ka_int, ka_bool, ka_none, ka_rep, ob_none, kr_some, kT_2, kT_3, kT_4, kW_2, kW_3, kasrt_t, s_asg, s_asgC, s_asgT, s_asgU, s_asgW, s_aug, s_ite, s_ret, s_asrt, x_nil, x_cons, kf_ret, T4_def, item0, item1, List.set_cons_zero, List.set_cons_succ, List.getElem?_cons_zero, List.getElem?_cons_succ, decide_true, decide_false, not_true_eq_false, not_false_eq_true, Bool.not_true, Bool.not_false, ne_eq, if_true, if_false, Bool.false_eq_true, show ((0:Int) = 0) = True from eq_self 0, show ((1:Int) = 0) = False from by decide, show ((0:Int) = 1) = False from by decide, show ((1:Int)=1) = True from eq_self 1, f_mpf_add, hm0, hm0', hX, o1, o2, o3, o4, o5, sh, Int.toNat_natCast, h100, hman, nr0]
        · simp -implicitDefEqProofs only [b1_some, b2_some, ob_some, vget_int, vget_str, vget_bool, vget_none, vget_tup, vget_lst, vget_rep, vneg_int, t_int, t_bool, t_none, vnot_int, vnot_bool, vnot_none, bo_add, bo_sub, bo_mul, bo_div, bo_mod, bo_pow, bo_shl, bo_shr, bo_and, bo_xor, vc_eq, vc_ne, vc_lt, vc_le, vc_gt, vc_ge, vc_seq, vc_req, vc_rne, c2_some, kc_some, ktup_some, klst_some, vbits_int, vint_int, vint_bool, visint_int, vidx_tup, vidx_lst, vshift_str, vdm_int, kand_int, kand_bool, kand_t, kand_f, kor_int, kor_bool, kor_none, kor_t, kor_f, kif_bool, kif_t, kif_f, kite_int, kite_bool, kite_none, kt_t, kt_f, kont_next, kont_ret, e_none, e_bool, e_int, e_str, e_var, e_g0, e_g1, e_g2, e_g8, e_g9, e_g10, e_g11, e_g12, e_bin, e_neg, e_not, e_one, e_and, e_or, e_cmp, e_ite, e_tup, e_lst, e_idx, e_shift, e_call, e_bits, e_toint, e_isint, e_dm, es_nil, es_cons, ka_int, ka_bool, ka_none, ka_rep, ob_none, kr_some, kT_2, kT_3, kT_4, kW_2, kW_3, kasrt_t, s_asg, s_asgC, s_asgT, s_asgU, s_asgW, s_aug, s_ite, s_ret, s_asrt, x_nil, x_cons, kf_ret, T4_def, item0, item1, List.set_cons_zero, List.set_cons_succ, List.getElem?_cons_zero, List.getElem?_cons_succ, decide_true, decide_false, not_true_eq_false, not_false_eq_true, Bool.not_true, Bool.not_false, ne_eq, if_true, if_false, Bool.false_eq_true, show ((0:Int) = 0) = True from eq_self 0, show ((1:Int) = 0) = False from by decide, show ((0:Int) = 1) = False from by decide, show ((1:Int)=1) = True from eq_self 1, f_mpf_add, hm0, hm0', hX, o1, o2, o3, o4, o5, sh, Int.toNat_natCast, h100, hman, nr0]
      · skip
        have v : (1 - 2 * 0) * m + (1 - 2 * 1) * (m' * 2 ^ n) = m - (m' * 2 ^ n) := by omega
        rw [v]
        by_cases hD : 0 ≤ m - (m' * 2 ^ n)
        · skip
          by_cases h100 : (e - (e + (n : Int)) < -100)
          · simp -implicitDefEqProofs only [b1_some, b2_some, ob_some, vget_int, vget_str, vget_bool, vget_none, vget_tup, vget_lst, vget_rep, vneg_int, t_int, t_bool, t_none, vnot_int, vnot_bool, vnot_none, bo_add, bo_sub, bo_mul, bo_div, bo_mod, bo_pow, bo_shl, bo_shr, bo_and, bo_xor, vc_eq, vc_ne, vc_lt, vc_le, vc_gt, vc_ge, vc_seq, vc_req, vc_rne, c2_some, kc_some, ktup_some, klst_some, vbits_int, vint_int, vint_bool, visint_int, vidx_tup, vidx_lst, vshift_str, vdm_int, kand_int, kand_bool, kand_t, kand_f, kor_int, kor_bool, kor_none, kor_t, kor_f, kif_bool, kif_t, kif_f, kite_int, kite_bool, kite_none, kt_t, kt_f, kont_next, kont_ret, e_none, e_bool, e_int, e_str, e_var, e_g0, e_g1, e_g2, e_g8, e_g9, e_g10, e_g11, e_g12, e_bin, e_neg, e_not, e_one, e_and, e_or, e_cmp, e_ite, e_tup, e_lst, e_idx, e_shift, e_call, e_bits, e_toint, e_isint, e_dm, es_nil, es_cons, ka_int, ka_bool, ka_none, ka_rep, ob_none, kr_some, kT_2, kT_3, kT_4, kW_2, kW_3, kasrt_t, s_asg, s_asgC, s_asgT, s_asgU, s_asgW, s_aug, s_ite, s_ret, s_asrt, x_nil, x_cons, kf_ret, T4_def, item0, item1, List.set_cons_zero, List.set_cons_succ, List.getElem?_cons_zero, List.getElem?_cons_succ, decide_true, decide_false, not_true_eq_false, not_false_eq_true, Bool.not_true, Bool.not_false, ne_eq, if_true, if_false, Bool.false_eq_true, show ((0:Int) = 0) = True from eq_self 0, show ((1:Int) = 0) = False from by decide, show ((0:Int) = 1) = False from by decide, show ((1:Int)=1) = True from eq_self 1, f_mpf_add, hm0, hm0', hX, o1, o2, o3, o4, o5, sh, Int.toNat_natCast, h100, hD, nr0]
          · simp -implicitDefEqProofs only [b1_some, b2_some, ob_some, vget_int, vget_str, vget_bool, vget_none, vget_tup, vget_lst, vget_rep, vneg_int, t_int, t_bool, t_none, vnot_int, vnot_bool, vnot_none, bo_add, bo_sub, bo_mul, bo_div, bo_mod, bo_pow, bo_shl, bo_shr, bo_and, bo_xor, vc_eq, vc_ne, vc_lt, vc_le, vc_gt, vc_ge, vc_seq, vc_req, vc_rne, c2_some, kc_some, ktup_some, klst_some, vbits_int, vint_int, vint_bool, visint_int, vidx_tup, vidx_lst, vshift_str, vdm_int, kand_int, kand_bool, kand_t, kand_f, kor_int, kor_bool, kor_none, kor_t, kor_f, kif_bool, kif_t, kif_f, kite_int, kite_bool, kite_none, kt_t, kt_f, kont_next, kont_ret, e_none, e_bool, e_int, e_str, e_var, e_g0, e_g1, e_g2, e_g8, e_g9, e_g10, e_g11, e_g12, e_bin, e_neg, e_not, e_one, e_and, e_or, e_cmp, e_ite, e_tup, e_lst, e_idx, e_shift, e_call, e_bits, e_toint, e_isint, e_dm, es_nil, es_cons, ka_int, ka_bool, ka_none, ka_rep, ob_none, kr_some, kT_2, kT_3, kT_4, kW_2, kW_3, kasrt_t, s_asg, s_asgC, s_asgT, s_asgU, s_asgW, s_aug, s_ite, s_ret, s_asrt, x_nil, x_cons, kf_ret, T4_def, item0, item1, List.set_cons_zero, List.set_cons_succ, List.getElem?_cons_zero, List.getElem?_cons_succ, decide_true, decide_false, not_true_eq_false, not_false_eq_true, Bool.not_true, Bool.not_false, ne_eq, if_true, if_false, Bool.false_eq_true, show ((0:Int) = 0) = True from eq_self 0, show ((1:Int) = 0) = False from by decide, show ((0:Int) = 1) = False from by decide, show ((1:Int)=1) = True from eq_self 1, f_mpf_add, hm0, hm0', hX, o1, o2, o3, o4, o5, sh, Int.toNat_natCast, h100, hD, nr0]
        · skip
          have hD' : 0 ≤ -(m - (m' * 2 ^ n)) := by omega
          by_cases h100 : (e - (e + (n : Int)) < -100)
          · simp -implicitDefEqProofs only [b1_some, b2_some, ob_some, vget_int, vget_str, vget_bool, vget_none, vget_tup, vget_lst, vget_rep, vneg_int, t_int, t_bool, t_none, vnot_int, vnot_bool, vnot_none, bo_add, bo_sub, bo_mul, bo_div, bo_mod, bo_pow, bo_shl, bo_shr, bo_and, bo_xor, vc_eq, vc_ne, vc_lt, vc_le, vc_gt, vc_ge, vc_seq, vc_req, vc_rne, c2_some, kc_some, ktup_some, klst_some, vbits_int, vint_int, vint_bool, visint_int, vidx_tup, vidx_lst, vshift_str, vdm_int, kand_int, kand_bool, kand_t, kand_f, kor_int, kor_bool, kor_none, kor_t, kor_f, kif_bool, kif_t, kif_f, kite_int, kite_bool, kite_none, kt_t, kt_f, kont_next, kont_ret, e_none, e_bool, e_int, e_str, e_var, e_g0, e_g1, e_g2, e_g8, e_g9, e_g10, e_g11, e_g12, e_bin, e_neg, e_not, e_one, e_and, e_or, e_cmp, e_ite, e_tup, e_lst, e_idx, e_shift, e_call, e_bits, e_toint, e_isint, e_dm, es_nil, es_cons, ka_int, ka_bool, ka_none, ka_rep, ob_none, kr_some, kT_2, kT_3, kT_4, kW_2, kW_3, kasrt_t, s_asg, s_asgC, s_asgT, s_asgU, s_asgW, s_aug, s_ite, s_ret, s_asrt, x_nil, x_cons, kf_ret, T4_def, item0, item1, List.set_cons_zero, List.set_cons_succ, List.getElem?_cons_zero, List.getElem?_cons_succ, decide_true, decide_false, not_true_eq_false, not_false_eq_true, Bool.not_true, Bool.not_false, ne_eq, if_true, if_false, Bool.false_eq_true, show ((0:Int) = 0) = True from eq_self 0, show ((1:Int) = 0) = False from by decide, show ((0:Int) = 1) = False from by decide, show ((1:Int)=1) = True from eq_self 1, f_mpf_add, hm0, hm0', hX, o1, o2, o3, o4, o5, sh, Int.toNat_natCast, h100, hD, hD', nr1, Int.neg_neg]
          · simp -implicitDefEqProofs only [b1_some, b2_some, ob_some, vget_int, vget_str, vget_bool, vget_none, vget_tup, vget_lst, vget_rep, vneg_int, t_int, t_bool, t_none, vnot_int, vnot_bool, vnot_none, bo_add, bo_sub, bo_mul, bo_div, bo_mod, bo_pow, bo_shl, bo_shr, bo_and, bo_xor, vc_eq, vc_ne, vc_lt, vc_le, vc_gt, vc_ge, vc_seq, vc_req, vc_rne, c2_some, kc_some, ktup_some, klst_some, vbits_int, vint_int, vint_bool, visint_int, vidx_tup, vidx_lst, vshift_str, vdm_int, kand_int, kand_bool, kand_t, kand_f, kor_int, kor_bool, kor_none, kor_t, kor_f, kif_bool, kif_t, kif_f, kite_int, kite_bool, kite_none, kt_t, kt_f, kont_next, kont_ret, e_none, e_bool, e_int, e_str, e_var, e_g0, e_g1, e_g2, e_g8, e_g9, e_g10, e_g11, e_g12, e_bin, e_neg, e_not, e_one, e_and, e_or, e_cmp, e_ite, e_tup, e_lst, e_idx, e_shift, e_call, e_bits, e_toint, e_isint, e_dm, es_nil, es_cons, ka_int, ka_bool, ka_none, ka_rep, ob_none, kr_some, kT_2, kT_3, kT_4, kW_2, kW_3, kasrt_t, s_asg, s_asgC, s_asgT, s_asgU, s_asgW, s_aug, s_ite, s_ret, s_asrt, x_nil, x_cons, kf_ret, T4_def, item0, item1, List.set_cons_zero, List.set_cons_succ, List.getElem?_cons_zero, List.getElem?_cons_succ, decide_true, decide_false, not_true_eq_false, not_false_eq_true, Bool.not_true, Bool.not_false, ne_eq, if_true, if_false, Bool.false_eq_true, show ((0:Int) = 0) = True from eq_self 0, show ((1:Int) = 0) = False from by decide, show ((0:Int) = 1) = False from by decide, show ((1:Int)=1) = True from eq_self 1, f_mpf_add, hm0, hm0', hX, o1, o2, o3, o4, o5, sh, Int.toNat_natCast, h100, hD, hD', nr1, Int.neg_neg]
      · skip
        have v : (1 - 2 * 1) * m + (1 - 2 * 0) * (m' * 2 ^ n) = (m' * 2 ^ n) - m := by omega
        rw [v]
        by_cases hD : 0 ≤ (m' * 2 ^ n) - m
        · skip
          by_cases h100 : (e - (e + (n : Int)) < -100)
          · simp -implicitDefEqProofs only [b1_some, b2_some, ob_some, vget_int, vget_str, vget_bool, vget_none, vget_tup, vget_lst, vget_rep, vneg_int, t_int, t_bool, t_none, vnot_int, vnot_bool, vnot_none, bo_add, bo_sub, bo_mul, bo_div, bo_mod, bo_pow, bo_shl, bo_shr, bo_and, bo_xor, vc_eq, vc_ne, vc_lt, vc_le, vc_gt, vc_ge, vc_seq, vc_req, vc_rne, c2_some, kc_some, ktup_some, klst_some, vbits_int, vint_int, vint_bool, visint_int, vidx_tup, vidx_lst, vshift_str, vdm_int, kand_int, kand_bool, kand_t, kand_f, kor_int, kor_bool, kor_none, kor_t, kor_f, kif_bool, kif_t, kif_f, kite_int, kite_bool, kite_none, kt_t, kt_f, kont_next, kont_ret, e_none, e_bool, e_int, e_str, e_var, e_g0, e_g1, e_g2, e_g8, e_g9, e_g10, e_g11, e_g12, e_bin, e_neg, e_not, e_one, e_and, e_or, e_cmp, e_ite, e_tup, e_lst, e_idx, e_shift, e_call, e_bits, e_toint, e_isint, e_dm, es_nil, es_cons, ka_int, ka_bool, ka_none, ka_rep, ob_none, kr_some, kT_2, kT_3, kT_4, kW_2, kW_3, kasrt_t, s_asg, s_asgC, s_asgT, s_asgU, s_asgW, s_aug, s_ite, s_ret, s_asrt, x_nil, x_cons, kf_ret, T4_def, item0, item1, List.set_cons_zero, List.set_cons_succ, List.getElem?_cons_zero, List.getElem?_cons_succ, decide_true, decide_false, not_true_eq_false, not_false_eq_true, Bool.not_true, Bool.not_false, ne_eq, if_true, if_false, Bool.false_eq_true, show ((0:Int) = 0) = True from eq_self 0, show ((1:Int) = 0) = False from by decide, show ((0:Int) = 1) = False from by decide, show ((1:Int)=1) = True from eq_self 1, f_mpf_add, hm0, hm0', hX, o1, o2, o3, o4, o5, sh, Int.toNat_natCast, h100, hD, nr0]
          · simp -implicitDefEqProofs only [b1_some, b2_some, ob_some, vget_int, vget_str, vget_bool, vget_none, vget_tup, vget_lst, vget_rep, vneg_int, t_int, t_bool, t_none, vnot_int, vnot_bool, vnot_none, bo_add, bo_sub, bo_mul, bo_div, bo_mod, bo_pow, bo_shl, bo_shr, bo_and, bo_xor, vc_eq, vc_ne, vc_lt, vc_le, vc_gt, vc_ge, vc_seq, vc_req, vc_rne, c2_some, kc_some, ktup_some, klst_some, vbits_int, vint_int, vint_bool, visint_int, vidx_tup, vidx_lst, vshift_str, vdm_int, kand_int, kand_bool, kand_t, kand_f, kor_int, kor_bool, kor_none, kor_t, kor_f, kif_bool, kif_t, kif_f, kite_int, kite_bool, kite_none, kt_t, kt_f, kont_next, kont_ret, e_none, e_bool, e_int, e_str, e_var, e_g0, e_g1, e_g2, e_g8, e_g9, e_g10, e_g11, e_g12, e_bin, e_neg, e_not, e_one, e_and, e_or, e_cmp, e_ite, e_tup, e_lst, e_idx, e_shift, e_call, e_bits, e_toint, e_isint, e_dm, es_nil, es_cons, ka_int, ka_bool, ka_none, ka_rep, ob_none, kr_some, kT_2, kT_3, kT_4, kW_2, kW_3, kasrt_t, s_asg, s_asgC, s_asgT, s_asgU, s_asgW, s_aug, s_ite, s_ret, s_asrt, x_nil, x_cons, kf_ret, T4_def, item0, item1, List.set_cons_zero, List.set_cons_succ, List.getElem?_cons_zero, List.getElem?_cons_succ, decide_true, decide_false, not_true_eq_false, not_false_eq_true, Bool.not_true, Bool.not_false, ne_eq, if_true, if_false, Bool.false_eq_true, show ((0:Int) = 0) = True from eq_self 0, show ((1:Int) = 0) = False from by decide, show ((0:Int) = 1) = False from by decide, show ((1:Int)=1) = True from eq_self 1, f_mpf_add, hm0, hm0', hX, o1, o2, o3, o4, o5, sh, Int.toNat_natCast, h100, hD, nr0]
        · skip
          have hD' : 0 ≤ -((m' * 2 ^ n) - m) := by omega
          by_cases h100 : (e - (e + (n : Int)) < -100)
          · simp -implicitDefEqProofs only [b1_some, b2_some, ob_some, vget_int, vget_str, vget_bool, vget_none, vget_tup, vget_lst, vget_rep, vneg_int, t_int, t_bool, t_none, vnot_int, vnot_bool, vnot_none, bo_add, bo_sub, bo_mul, bo_div, bo_mod, bo_pow, bo_shl, bo_shr, bo_and, bo_xor, vc_eq, vc_ne, vc_lt, vc_le, vc_gt, vc_ge, vc_seq, vc_req, vc_rne, c2_some, kc_some, ktup_some, klst_some, vbits_int, vint_int, vint_bool, visint_int, vidx_tup, vidx_lst, vshift_str, vdm_int, kand_int, kand_bool, kand_t, kand_f, kor_int, kor_bool, kor_none, kor_t, kor_f, kif_bool, kif_t, kif_f, kite_int, kite_bool, kite_none, kt_t, kt_f, kont_next, kont_ret, e_none, e_bool, e_int, e_str, e_var, e_g0, e_g1, e_g2, e_g8, e_g9, e_g10, e_g11, e_g12, e_bin, e_neg, e_not, e_one, e_and, e_or, e_cmp, e_ite, e_tup, e_lst, e_idx, e_shift, e_call, e_bits, e_toint, e_isint, e_dm, es_nil, es_cons, ka_int, ka_bool, ka_none, ka_rep, ob_none, kr_some, kT_2, kT_3, kT_4, kW_2, kW_3, kasrt_t, s_asg, s_asgC, s_asgT, s_asgU, s_asgW, s_aug, s_ite, s_ret, s_asrt, x_nil, x_cons, kf_ret, T4_def, item0, item1, List.set_cons_zero, List.set_cons_succ, List.getElem?_cons_zero, List.getElem?_cons_succ, decide_true, decide_false, not_true_eq_false, not_false_eq_true, Bool.not_true, Bool.not_false, ne_eq, if_true, if_false, Bool.false_eq_true, show ((0:Int) = 0) = True from eq_self 0, show ((1:Int) = 0) = False from by decide, show ((0:Int) = 1) = False from by decide, show ((1:Int)=1) = True from eq_self 1, f_mpf_add, hm0, hm0', hX, o1, o2, o3, o4, o5, sh, Int.toNat_natCast, h100, hD, hD', nr1, Int.neg_neg]
          · simp -implicitDefEqProofs only [b1_some, b2_some, ob_some, vget_int, vget_str, vget_bool, vget_none, vget_tup, vget_lst, vget_rep, vneg_int, t_int, t_bool, t_none, vnot_int, vnot_bool, vnot_none, bo_add, bo_sub, bo_mul, bo_div, bo_mod, bo_pow, bo_shl, bo_shr, bo_and, bo_xor, vc_eq, vc_ne, vc_lt, vc_le, vc_gt, vc_ge, vc_seq, vc_req, vc_rne, c2_some, kc_some, ktup_some, klst_some, vbits_int, vint_int, vint_bool, visint_int, vidx_tup, vidx_lst, vshift_str, vdm_int, kand_int, kand_bool, kand_t, kand_f, kor_int, kor_bool, kor_none, kor_t, kor_f, kif_bool, kif_t, kif_f, kite_int, kite_bool, kite_none, kt_t, kt_f, kont_next, kont_ret, e_none, e_bool, e_int, e_str, e_var, e_g0, e_g1, e_g2, e_g8, e_g9, e_g10, e_g11, e_g12, e_bin, e_neg, e_not, e_one, e_and, e_or, e_cmp, e_ite, e_tup, e_lst, e_idx, e_shift, e_call, e_bits, e_toint, e_isint, e_dm, es_nil, es_cons, ka_int, ka_bool, ka_none, ka_rep, ob_none, kr_some, kT_2, kT_3, kT_4, kW_2, kW_3, kasrt_t, s_asg, s_asgC, s_asgT, s_asgU, s_asgW, s_aug, s_ite, s_ret, s_asrt, x_nil, x_cons, kf_ret, T4_def, item0, item1, List.set_cons_zero, List.set_cons_succ, List.getElem?_cons_zero, List.getElem?_cons_succ, decide_true, decide_false, not_true_eq_false, not_false_eq_true, Bool.not_true, Bool.not_false, ne_eq, if_true, if_false, Bool.false_eq_true, show ((0:Int) = 0) = True from eq_self 0, show ((1:Int) = 0) = False from by decide, show ((0:Int) = 1) = False from by decide, show ((1:Int)=1) = True from eq_self 1, f_mpf_add, hm0, hm0', hX, o1, o2, o3, o4, o5, sh, Int.toNat_natCast, h100, hD, hD', nr1, Int.neg_neg]
      · skip
        have v : (1 - 2 * 1) * m + (1 - 2 * 1) * (m' * 2 ^ n) = -(m + (m' * 2 ^ n)) := by omega
        have hman : 0 ≤ m + (m' * 2 ^ n) := by omega
        rw [v]
        by_cases h100 : (e - (e + (n : Int)) < -100)
        · simp -implicitDefEqProofs only [b1_some, b2_some, ob_some, vget_int, vget_str, vget_bool, vget_none, vget_tup, vget_lst, vget_rep, vneg_int, t_int, t_bool, t_none, vnot_int, vnot_bool, vnot_none, bo_add, bo_sub, bo_mul, bo_div, bo_mod, bo_pow, bo_shl, bo_shr, bo_and, bo_xor, vc_eq, vc_ne, vc_lt, vc_le, vc_gt, vc_ge, vc_seq, vc_req, vc_rne, c2_some, kc_some, ktup_some, klst_some, vbits_int, vint_int, vint_bool, visint_int, vidx_tup, vidx_lst, vshift_str, vdm_int, kand_int, kand_bool, kand_t, kand_f, kor_int, kor_bool, kor_none, kor_t, kor_f, kif_bool, kif_t, kif_f, kite_int, kite_bool, kite_none, kt_t, kt_f, kont_next, kont_ret, e_none, e_bool, e_int, e_str, e_var, e_g0, e_g1, e_g2, e_g8, e_g9, e_g10, e_g11, e_g12, e_bin, e_neg, e_not, e_one, e_and, e_or, e_cmp, e_ite, e_tup, e_lst, e_idx, e_shift, e_call, e_bits, e_toint, e_isint, e_dm, es_nil, es_cons, ka_int, ka_bool, ka_none, ka_rep, ob_none, kr_some, kT_2, kT_3, kT_4, kW_2, kW_3, kasrt_t, s_asg, s_asgC, s_asgT, s_asgU, s_asgW, s_aug, s_ite, s_ret, s_asrt, x_nil, x_cons, kf_ret, T4_def, item0, item1, List.set_cons_zero, List.set_cons_succ, List.getElem?_cons_zero, List.getElem?_cons_succ, decide_true, decide_false, not_true_eq_false, not_false_eq_true, Bool.not_true, Bool.not_false, ne_eq, if_true, if_false, Bool.false_eq_true, show ((0:Int) = 0) = True from eq_self 0, show ((1:Int) = 0) = False from by decide, show ((0:Int) = 1) = False from by decide, show ((1:Int)=1) = True from eq_self 1, f_mpf_add, hm0, hm0', hX, o1, o2, o3, o4, o5, sh, Int.toNat_natCast, h100, hman, nr1]
        · simp -implicitDefEqProofs only [b1_some, b2_some, ob_some, vget_int, vget_str, vget_bool, vget_none, vget_tup, vget_lst, vget_rep, vneg_int, t_int, t_bool, t_none, vnot_int, vnot_bool, vnot_none, bo_add, bo_sub, bo_mul, bo_div, bo_mod, bo_pow, bo_shl, bo_shr, bo_and, bo_xor, vc_eq, vc_ne, vc_lt, vc_le, vc_gt, vc_ge, vc_seq, vc_req, vc_rne, c2_some, kc_some, ktup_some, klst_some, vbits_int, vint_int, vint_bool, visint_int, vidx_tup, vidx_lst, vshift_str, vdm_int, kand_int, kand_bool, kand_t, kand_f, kor_int, kor_bool, kor_none, kor_t, kor_f, kif_bool, kif_t, kif_f, kite_int, kite_bool, kite_none, kt_t, kt_f, kont_next, kont_ret, e_none, e_bool, e_int, e_str, e_var, e_g0, e_g1, e_g2, e_g8, e_g9, e_g10, e_g11, e_g12, e_bin, e_neg, e_not, e_one, e_and, e_or, e_cmp, e_ite, e_tup, e_lst, e_idx, e_shift, e_call, e_bits, e_toint, e_isint, e_dm, es_nil, es_cons, ka_int, ka_bool, ka_none, ka_rep, ob_none, kr_some, kT_2, kT_3, kT_4, kW_2, kW_3, kasrt_t, s_asg, s_asgC, s_asgT, s_asgU, s_asgW, s_aug, s_ite, s_ret, s_asrt, x_nil, x_cons, kf_ret, T4_def, item0, item1, List.set_cons_zero, List.set_cons_succ, List.getElem?_cons_zero, List.getElem?_cons_succ, decide_true, decide_false, not_true_eq_false, not_false_eq_true, Bool.not_true, Bool.not_false, ne_eq, if_true, if_false, Bool.false_eq_true, show ((0:Int) = 0) = True from eq_self 0, show ((1:Int) = 0) = False from by decide, show ((0:Int) = 1) = False from by decide, show ((1:Int)=1) = True from eq_self 1, f_mpf_add, hm0, hm0', hX, o1, o2, o3, o4, o5, sh, Int.toNat_natCast, h100, hman, nr1]
    · subst heq
      have o1 : e - e = 0 := by omega
      rw [mkD_add]
      rcases hs with rfl | rfl <;> rcases hts with rfl | rfl
      · skip
        have v : (1 - 2 * 0) * m + (1 - 2 * 0) * m' = m' + m := by omega
        have hman : 0 ≤ m' + m := by omega
        rw [v]
        simp -implicitDefEqProofs only [b1_some, b2_some, ob_some, vget_int, vget_str, vget_bool, vget_none, vget_tup, vget_lst, vget_rep, vneg_int, t_int, t_bool, t_none, vnot_int, vnot_bool, vnot_none, bo_add, bo_sub, bo_mul, bo_div, bo_mod, bo_pow, bo_shl, bo_shr, bo_and, bo_xor, vc_eq, vc_ne, vc_lt, vc_le, vc_gt, vc_ge, vc_seq, vc_req, vc_rne, c2_some, kc_some, ktup_some, klst_some, vbits_int, vint_int, vint_bool, visint_int, vidx_tup, vidx_lst, vshift_str, vdm_int, kand_int, kand_bool, kand_t, kand_f, kor_int, kor_bool, kor_none, kor_t, kor_f, kif_bool, kif_t, kif_f, kite_int, kite_bool, kite_none, kt_t, kt_f, kont_next, kont_ret, e_none, e_bool, e_int, e_str, e_var, e_g0, e_g1, e_g2, e_g8, e_g9, e_g10, e_g11, e_g12, e_bin, e_neg, e_not, e_one, e_and, e_or, e_cmp, e_ite, e_tup, e_lst, e_idx, e_shift, e_call, e_bits, e_toint, e_isint, e_dm, es_nil, es_cons, ka_int, ka_bool, ka_none, ka_rep, ob_none, kr_some, kT_2, kT_3, kT_4, kW_2, kW_3, kasrt_t, s_asg, s_asgC, s_asgT, s_asgU, s_asgW, s_aug, s_ite, s_ret, s_asrt, x_nil, x_cons, kf_ret, T4_def, item0, item1, List.set_cons_zero, List.set_cons_succ, List.getElem?_cons_zero, List.getElem?_cons_succ, decide_true, decide_false, not_true_eq_false, not_false_eq_true, Bool.not_true, Bool.not_false, ne_eq, if_true, if_false, Bool.false_eq_true, show ((0:Int) = 0) = True from eq_self 0, show ((1:Int) = 0) = False from by decide, show ((0:Int) = 1) = False from by decide, show ((1:Int)=1) = True from eq_self 1, f_mpf_add, hm0, hm0', hX, o1, hman, nr0]
      · skip
        have v : (1 - 2 * 0) * m + (1 - 2 * 1) * m' = m - m' := by omega
        rw [v]
        by_cases hD : 0 ≤ m - m'
        · skip
          simp -implicitDefEqProofs only [b1_some, b2_some, ob_some, vget_int, vget_str, vget_bool, vget_none, vget_tup, vget_lst, vget_rep, vneg_int, t_int, t_bool, t_none, vnot_int, vnot_bool, vnot_none, bo_add, bo_sub, bo_mul, bo_div, bo_mod, bo_pow, bo_shl, bo_shr, bo_and, bo_xor, vc_eq, vc_ne, vc_lt, vc_le, vc_gt, vc_ge, vc_seq, vc_req, vc_rne, c2_some, kc_some, ktup_some, klst_some, vbits_int, vint_int, vint_bool, visint_int, vidx_tup, vidx_lst, vshift_str, vdm_int, kand_int, kand_bool, kand_t, kand_f, kor_int, kor_bool, kor_none, kor_t, kor_f, kif_bool, kif_t, kif_f, kite_int, kite_bool, kite_none, kt_t, kt_f, kont_next, kont_ret, e_none, e_bool, e_int, e_str, e_var, e_g0, e_g1, e_g2, e_g8, e_g9, e_g10, e_g11, e_g12, e_bin, e_neg, e_not, e_one, e_and, e_or, e_cmp, e_ite, e_tup, e_lst, e_idx, e_shift, e_call, e_bits, e_toint, e_isint, e_dm, es_nil, es_cons, ka_int, ka_bool, ka_none, ka_rep, ob_none, kr_some, kT_2, kT_3, kT_4, kW_2, kW_3, kasrt_t, s_asg, s_asgC, s_asgT, s_asgU, s_asgW, s_aug, s_ite, s_ret, s_asrt, x_nil, x_cons, kf_ret, T4_def, item0, item1, List.set_cons_zero, List.set_cons_succ, List.getElem?_cons_zero, List.getElem?_cons_succ, decide_true, decide_false, not_true_eq_false, not_false_eq_true, Bool.not_true, Bool.not_false, ne_eq, if_true, if_false, Bool.false_eq_true, show ((0:Int) = 0) = True from eq_self 0, show ((1:Int) = 0) = False from by decide, show ((0:Int) = 1) = False from by decide, show ((1:Int)=1) = True from eq_self 1, f_mpf_add, hm0, hm0', hX, o1, hD, nr0]
        · skip
          have hD' : 0 ≤ -(m - m') := by omega
          simp -implicitDefEqProofs only [b1_some, b2_some, ob_some, vget_int, vget_str, vget_bool, vget_none, vget_tup, vget_lst, vget_rep, vneg_int, t_int, t_bool, t_none, vnot_int, vnot_bool, vnot_none, bo_add, bo_sub, bo_mul, bo_div, bo_mod, bo_pow, bo_shl, bo_shr, bo_and, bo_xor, vc_eq, vc_ne, vc_lt, vc_le, vc_gt, vc_ge, vc_seq, vc_req, vc_rne, c2_some, kc_some, ktup_some, klst_some, vbits_int, vint_int, vint_bool, visint_int, vidx_tup, vidx_lst, vshift_str, vdm_int, kand_int, kand_bool, kand_t, kand_f, kor_int, kor_bool, kor_none, kor_t, kor_f, kif_bool, kif_t, kif_f, kite_int, kite_bool, kite_none, kt_t, kt_f, kont_next, kont_ret, e_none, e_bool, e_int, e_str, e_var, e_g0, e_g1, e_g2, e_g8, e_g9, e_g10, e_g11, e_g12, e_bin, e_neg, e_not, e_one, e_and, e_or, e_cmp, e_ite, e_tup, e_lst, e_idx, e_shift, e_call, e_bits, e_toint, e_isint, e_dm, es_nil, es_cons, ka_int, ka_bool, ka_none, ka_rep, ob_none, kr_some, kT_2, kT_3, kT_4, kW_2, kW_3, kasrt_t, s_asg, s_asgC, s_asgT, s_asgU, s_asgW, s_aug, s_ite, s_ret, s_asrt, x_nil, x_cons, kf_ret, T4_def, item0, item1, List.set_cons_zero, List.set_cons_succ, List.getElem?_cons_zero, List.getElem?_cons_succ, decide_true, decide_false, not_true_eq_false, not_false_eq_true, Bool.not_true, Bool.not_false, ne_eq, if_true, if_false, Bool.false_eq_true, show ((0:Int) = 0) = True from eq_self 0, show ((1:Int) = 0) = False from by decide, show ((0:Int) = 1) = False from by decide, show ((1:Int)=1) = True from eq_self 1, f_mpf_add, hm0, hm0', hX, o1, hD, hD', nr1, Int.neg_neg]
      · skip
        have v : (1 - 2 * 1) * m + (1 - 2 * 0) * m' = m' - m := by omega
        rw [v]
        by_cases hD : 0 ≤ m' - m
        · skip
          simp -implicitDefEqProofs only [b1_some, b2_some, ob_some, vget_int, vget_str, vget_bool, vget_none, vget_tup, vget_lst, vget_rep, vneg_int, t_int, t_bool, t_none, vnot_int, vnot_bool, vnot_none, bo_add, bo_sub, bo_mul, bo_div, bo_mod, bo_pow, bo_shl, bo_shr, bo_and, bo_xor, vc_eq, vc_ne, vc_lt, vc_le, vc_gt, vc_ge, vc_seq, vc_req, vc_rne, c2_some, kc_some, ktup_some, klst_some, vbits_int, vint_int, vint_bool, visint_int, vidx_tup, vidx_lst, vshift_str, vdm_int, kand_int, kand_bool, kand_t, kand_f, kor_int, kor_bool, kor_none, kor_t, kor_f, kif_bool, kif_t, kif_f, kite_int, kite_bool, kite_none, kt_t, kt_f, kont_next, kont_ret, e_none, e_bool, e_int, e_str, e_var, e_g0, e_g1, e_g2, e_g8, e_g9, e_g10, e_g11, e_g12, e_bin, e_neg, e_not, e_one, e_and, e_or, e_cmp, e_ite, e_tup, e_lst, e_idx, e_shift, e_call, e_bits, e_toint, e_isint, e_dm, es_nil, es_cons, ka_int, ka_bool, ka_none, ka_rep, ob_none, kr_some, kT_2, kT_3, kT_4, kW_2, kW_3, kasrt_t, s_asg, s_asgC, s_asgT, s_asgU, s_asgW, s_aug, s_ite, s_ret, s_asrt, x_nil, x_cons, kf_ret, T4_def, item0, item1, List.set_cons_zero, List.set_cons_succ, List.getElem?_cons_zero, List.getElem?_cons_succ, decide_true, decide_false, not_true_eq_false, not_false_eq_true, Bool.not_true, Bool.not_false, ne_eq, if_true, if_false, Bool.false_eq_true, show ((0:Int) = 0) = True from eq_self 0, show ((1:Int) = 0) = False from by decide, show ((0:Int) = 1) = False from by decide, show ((1:Int)=1) = True from eq_self 1, f_mpf_add, hm0, hm0', hX, o1, hD, nr0]
        · skip
          have hD' : 0 ≤ -(m' - m) := by omega
          simp -implicitDefEqProofs only [b1_some, b2_some, ob_some, vget_int, vget_str, vget_bool, vget_none, vget_tup, vget_lst, vget_rep, vneg_int, t_int, t_bool, t_none, vnot_int, vnot_bool, vnot_none, bo_add, bo_sub, bo_mul, bo_div, bo_mod, bo_pow, bo_shl, bo_shr, bo_and, bo_xor, vc_eq, vc_ne, vc_lt, vc_le, vc_gt, vc_ge, vc_seq, vc_req, vc_rne, c2_some, kc_some, ktup_some, klst_some, vbits_int, vint_int, vint_bool, visint_int, vidx_tup, vidx_lst, vshift_str, vdm_int, kand_int, kand_bool, kand_t, kand_f, kor_int, kor_bool, kor_none, kor_t, kor_f, kif_bool, kif_t, kif_f, kite_int, kite_bool, kite_none, kt_t, kt_f, kont_next, kont_ret, e_none, e_bool, e_int, e_str, e_var, e_g0, e_g1, e_g2, e_g8, e_g9, e_g10, e_g11, e_g12, e_bin, e_neg, e_not, e_one, e_and, e_or, e_cmp, e_ite, e_tup, e_lst, e_idx, e_shift, e_call, e_bits, e_toint, e_isint, e_dm, es_nil, es_cons, ka_int, ka_bool, ka_none, ka_rep, ob_none, kr_some, kT_2, kT_3, kT_4, kW_2, kW_3, kasrt_t, s_asg, s_asgC, s_asgT, s_asgU, s_asgW, s_aug, s_ite, s_ret, s_asrt, x_nil, x_cons, kf_ret, T4_def, item0, item1, List.set_cons_zero, List.set_cons_succ, List.getElem?_cons_zero, List.getElem?_cons_succ, decide_true, decide_false, not_true_eq_false, not_false_eq_true, Bool.not_true, Bool.not_false, ne_eq, if_true, if_false, Bool.false_eq_true, show ((0:Int) = 0) = True from eq_self 0, show ((1:Int) = 0) = False from by decide, show ((0:Int) = 1) = False from by decide, show ((1:Int)=1) = True from eq_self 1, f_mpf_add, hm0, hm0', hX, o1, hD, hD', nr1, Int.neg_neg]
      · skip
        have v : (1 - 2 * 1) * m + (1 - 2 * 1) * m' = -(m' + m) := by omega
        have hman : 0 ≤ m' + m := by omega
        rw [v]
        simp -implicitDefEqProofs only [b1_some, b2_some, ob_some, vget_int, vget_str, vget_bool, vget_none, vget_tup, vget_lst, vget_rep, vneg_int, t_int, t_bool, t_none, vnot_int, vnot_bool, vnot_none, bo_add, bo_sub, bo_mul, bo_div, bo_mod, bo_pow, bo_shl, bo_shr, bo_and, bo_xor, vc_eq, vc_ne, vc_lt, vc_le, vc_gt, vc_ge, vc_seq, vc_req, vc_rne, c2_some, kc_some, ktup_some, klst_some, vbits_int, vint_int, vint_bool, visint_int, vidx_tup, vidx_lst, vshift_str, vdm_int, kand_int, kand_bool, kand_t, kand_f, kor_int, kor_bool, kor_none, kor_t, kor_f, kif_bool, kif_t, kif_f, kite_int, kite_bool, kite_none, kt_t, kt_f, kont_next, kont_ret, e_none, e_bool, e_int, e_str, e_var, e_g0, e_g1, e_g2, e_g8, e_g9, e_g10, e_g11, e_g12, e_bin, e_neg, e_not, e_one, e_and, e_or, e_cmp, e_ite, e_tup, e_lst, e_idx, e_shift, e_call, e_bits, e_toint, e_isint, e_dm, es_nil, es_cons, ka_int, ka_bool, ka_none, ka_rep, ob_none, kr_some, kT_2, kT_3, kT_4, kW_2, kW_3, kasrt_t, s_asg, s_asgC, s_asgT, s_asgU, s_asgW, s_aug, s_ite, s_ret, s_asrt, x_nil, x_cons, kf_ret, T4_def, item0, item1, List.set_cons_zero, List.set_cons_succ, List.getElem?_cons_zero, List.getElem?_cons_succ, decide_true, decide_false, not_true_eq_false, not_false_eq_true, Bool.not_true, Bool.not_false, ne_eq, if_true, if_false, Bool.false_eq_true, show ((0:Int) = 0) = True from eq_self 0, show ((1:Int) = 0) = False from by decide, show ((0:Int) = 1) = False from by decide, show ((1:Int)=1) = True from eq_self 1, f_mpf_add, hm0, hm0', hX, o1, hman, nr1]
    · obtain ⟨n, hn⟩ : ∃ n : Nat, e = e' + n := ⟨(e - e').toNat, by omega⟩
      subst hn
      have o1 : e' + (n : Int) - e' = n := by omega
      have o2 : (n : Int) ≠ 0 := by omega
      have o3 : ((0 : Int) < n) = True := by simp only [eq_iff_iff, iff_true]; omega
      have sh : shlOk m (n : Int) = true := shlOk_of bm (by omega) (by omega)
      have hp : 0 < m * 2 ^ n := Int.mul_pos hm (pow_pos_int n)
      have p1 : (1 - 2 * s) * m * 2 ^ n = (1 - 2 * s) * (m * 2 ^ n) := by rw [Int.mul_assoc]
      rw [← mkD_shift, p1, mkD_add]
      rcases hs with rfl | rfl <;> rcases hts with rfl | rfl
      · skip
        have v : (1 - 2 * 0) * (m * 2 ^ n) + (1 - 2 * 0) * m' = m' + (m * 2 ^ n) := by omega
        have hman : 0 ≤ m' + (m * 2 ^ n) := by omega
        rw [v]
        by_cases h100 : ((100 : Int) < (n : Int))
        · simp -implicitDefEqProofs only [b1_some, b2_some, ob_some, vget_int, vget_str, vget_bool, vget_none, vget_tup, vget_lst, vget_rep, vneg_int, t_int, t_bool, t_none, vnot_int, vnot_bool, vnot_none, bo_add, bo_sub, bo_mul, bo_div, bo_mod, bo_pow, bo_shl, bo_shr, bo_and, bo_xor, vc_eq, vc_ne, vc_lt, vc_le, vc_gt, vc_ge, vc_seq, vc_req, vc_rne, c2_some, kc_some, ktup_some, klst_some, vbits_int, vint_int, vint_bool, visint_int, vidx_tup, vidx_lst, vshift_str, vdm_int, kand_int, kand_bool, kand_t, kand_f, kor_int, kor_bool, kor_none, kor_t, kor_f, kif_bool, kif_t, kif_f, kite_int, kite_bool, kite_none, kt_t, kt_f, kont_next, kont_ret, e_none, e_bool, e_int, e_str, e_var, e_g0, e_g1, e_g2, e_g8, e_g9, e_g10, e_g11, e_g12, e_bin, e_neg, e_not, e_one, e_and, e_or, e_cmp, e_ite, e_tup, e_lst, e_idx, e_shift, e_call, e_bits, e_toint, e_isint, e_dm, es_nil, es_cons, ka_int, ka_bool, ka_none, ka_rep, ob_none, kr_some, kT_2, kT_3, kT_4, kW_2, kW_3, kasrt_t, s_asg, s_asgC, s_asgT, s_asgU, s_asgW, s_aug, s_ite, s_ret, s_asrt, x_nil, x_cons, kf_ret, T4_def, item0, item1, List.set_cons_zero, List.set_cons_succ, List.getElem?_cons_zero, List.getElem?_cons_succ, decide_true, decide_false, not_true_eq_false, not_false_eq_true, Bool.not_true, Bool.not_false, ne_eq, if_true, if_false, Bool.false_eq_true, show ((0:Int) = 0) = True from eq_self 0, show ((1:Int) = 0) = False from by decide, show ((0:Int) = 1) = False from by decide, show ((1:Int)=1) = True from eq_self 1, f_mpf_add, hm0, hm0', hX, o1, o2, o3, sh, Int.toNat_natCast, h100, hman, nr0]
        · simp -implicitDefEqProofs only [b1_some, b2_some, ob_some, vget_int, vget_str, vget_bool, vget_none, vget_tup, vget_lst, vget_rep, vneg_int, t_int, t_bool, t_none, vnot_int, vnot_bool, vnot_none, bo_add, bo_sub, bo_mul, bo_div, bo_mod, bo_pow, bo_shl, bo_shr, bo_and, bo_xor, vc_eq, vc_ne, vc_lt, vc_le, vc_gt, vc_ge, vc_seq, vc_req, vc_rne, c2_some, kc_some, ktup_some, klst_some, vbits_int, vint_int, vint_bool, visint_int, vidx_tup, vidx_lst, vshift_str, vdm_int, kand_int, kand_bool, kand_t, kand_f, kor_int, kor_bool, kor_none, kor_t, kor_f, kif_bool, kif_t, kif_f, kite_int, kite_bool, kite_none, kt_t, kt_f, kont_next, kont_ret, e_none, e_bool, e_int, e_str, e_var, e_g0, e_g1, e_g2, e_g8, e_g9, e_g10, e_g11, e_g12, e_bin, e_neg, e_not, e_one, e_and, e_or, e_cmp, e_ite, e_tup, e_lst, e_idx, e_shift, e_call, e_bits, e_toint, e_isint, e_dm, es_nil, es_cons, ka_int, ka_bool, ka_none, ka_rep, ob_none, kr_some, kT_2, kT_3, kT_4, kW_2, kW_3, kasrt_t, s_asg, s_asgC, s_asgT, s_asgU, s_asgW, s_aug, s_ite, s_ret, s_asrt, x_nil, x_cons, kf_ret, T4_def, item0, item1, List.set_cons_zero, List.set_cons_succ, List.getElem?_cons_zero, List.getElem?_cons_succ, decide_true, decide_false, not_true_eq_false, not_false_eq_true, Bool.not_true, Bool.not_false, ne_eq, if_true, if_false, Bool.false_eq_true, show ((0:Int) = 0) = True from eq_self 0, show ((1:Int) = 0) = False from by decide, show ((0:Int) = 1) = False from by decide, show ((1:Int)=1) = True from eq_self 1, f_mpf_add, hm0, hm0', hX, o1, o2, o3, sh, Int.toNat_natCast, h100, hman, nr0]
      · skip
        have v : (1 - 2 * 0) * (m * 2 ^ n) + (1 - 2 * 1) * m' = (m * 2 ^ n) - m' := by omega
        rw [v]
        by_cases hD : 0 ≤ (m * 2 ^ n) - m'
        · skip
          by_cases h100 : ((100 : Int) < (n : Int))
          · simp -implicitDefEqProofs only [b1_some, b2_some, ob_some, vget_int, vget_str, vget_bool, vget_none, vget_tup, vget_lst, vget_rep, vneg_int, t_int, t_bool, t_none, vnot_int, vnot_bool, vnot_none, bo_add, bo_sub, bo_mul, bo_div, bo_mod, bo_pow, bo_shl, bo_shr, bo_and, bo_xor, vc_eq, vc_ne, vc_lt, vc_le, vc_gt, vc_ge, vc_seq, vc_req, vc_rne, c2_some, kc_some, ktup_some, klst_some, vbits_int, vint_int, vint_bool, visint_int, vidx_tup, vidx_lst, vshift_str, vdm_int, kand_int, kand_bool, kand_t, kand_f, kor_int, kor_bool, kor_none, kor_t, kor_f, kif_bool, kif_t, kif_f, kite_int, kite_bool, kite_none, kt_t, kt_f, kont_next, kont_ret, e_none, e_bool, e_int, e_str, e_var, e_g0, e_g1, e_g2, e_g8, e_g9, e_g10, e_g11, e_g12, e_bin, e_neg, e_not, e_one, e_and, e_or, e_cmp, e_ite, e_tup, e_lst, e_idx, e_shift, e_call, e_bits, e_toint, e_isint, e_dm, es_nil, es_cons, ka_int, ka_bool, ka_none, ka_rep, ob_none, kr_some, kT_2, kT_3, kT_4, kW_2, kW_3, kasrt_t, s_asg, s_asgC, s_asgT, s_asgU, s_asgW, s_aug, s_ite, s_ret, s_asrt, x_nil, x_cons, kf_ret, T4_def, item0, item1, List.set_cons_zero, List.set_cons_succ, List.getElem?_cons_zero, List.getElem?_cons_succ, decide_true, decide_false, not_true_eq_false, not_false_eq_true, Bool.not_true, Bool.not_false, ne_eq, if_true, if_false, Bool.false_eq_true, show ((0:Int) = 0) = True from eq_self 0, show ((1:Int) = 0) = False from by decide, show ((0:Int) = 1) = False from by decide, show ((1:Int)=1) = True from eq_self 1, f_mpf_add, hm0, hm0', hX, o1, o2, o3, sh, Int.toNat_natCast, h100, hD, nr0]
          · simp -implicitDefEqProofs only [b1_some, b2_some, ob_some, vget_int, vget_str, vget_bool, vget_none, vget_tup, vget_lst, vget_rep, vneg_int, t_int, t_bool, t_none, vnot_int, vnot_bool, vnot_none, bo_add, bo_sub, bo_mul, bo_div, bo_mod, bo_pow, bo_shl, bo_shr, bo_and, bo_xor, vc_eq, vc_ne, vc_lt, vc_le, vc_gt, vc_ge, vc_seq, vc_req, vc_rne, c2_some, kc_some, ktup_some, klst_some, vbits_int, vint_int, vint_bool, visint_int, vidx_tup, vidx_lst, vshift_str, vdm_int, kand_int, kand_bool, kand_t, kand_f, kor_int, kor_bool, kor_none, kor_t, kor_f, kif_bool, kif_t, kif_f, kite_int, kite_bool, kite_none, kt_t, kt_f, kont_next, kont_ret, e_none, e_bool, e_int, e_str, e_var, e_g0, e_g1, e_g2, e_g8, e_g9, e_g10, e_g11, e_g12, e_bin, e_neg, e_not, e_one, e_and, e_or, e_cmp, e_ite, e_tup, e_lst, e_idx, e_shift, e_call, e_bits, e_toint, e_isint, e_dm, es_nil, es_cons, ka_int, ka_bool, ka_none, ka_rep, ob_none, kr_some, kT_2, kT_3, kT_4, kW_2, kW_3, kasrt_t, s_asg, s_asgC, s_asgT, s_asgU, s_asgW, s_aug, s_ite, s_ret, s_asrt, x_nil, x_cons, kf_ret, T4_def, item0, item1, List.set_cons_zero, List.set_cons_succ, List.getElem?_cons_zero, List.getElem?_cons_succ, decide_true, decide_false, not_true_eq_false, not_false_eq_true, Bool.not_true, Bool.not_false, ne_eq, if_true, if_false, Bool.false_eq_true, show ((0:Int) = 0) = True from eq_self 0, show ((1:Int) = 0) = False from by decide, show ((0:Int) = 1) = False from by decide, show ((1:Int)=1) = True from eq_self 1, f_mpf_add, hm0, hm0', hX, o1, o2, o3, sh, Int.toNat_natCast, h100, hD, nr0]
        · skip
          have hD' : 0 ≤ -((m * 2 ^ n) - m') := by omega
          by_cases h100 : ((100 : Int) < (n : Int))
          · simp -implicitDefEqProofs only [b1_some, b2_some, ob_some, vget_int, vget_str, vget_bool, vget_none, vget_tup, vget_lst, vget_rep, vneg_int, t_int, t_bool, t_none, vnot_int, vnot_bool, vnot_none, bo_add, bo_sub, bo_mul, bo_div, bo_mod, bo_pow, bo_shl, bo_shr, bo_and, bo_xor, vc_eq, vc_ne, vc_lt, vc_le, vc_gt, vc_ge, vc_seq, vc_req, vc_rne, c2_some, kc_some, ktup_some, klst_some, vbits_int, vint_int, vint_bool, visint_int, vidx_tup, vidx_lst, vshift_str, vdm_int, kand_int, kand_bool, kand_t, kand_f, kor_int, kor_bool, kor_none, kor_t, kor_f, kif_bool, kif_t, kif_f, kite_int, kite_bool, kite_none, kt_t, kt_f, kont_next, kont_ret, e_none, e_bool, e_int, e_str, e_var, e_g0, e_g1, e_g2, e_g8, e_g9, e_g10, e_g11, e_g12, e_bin, e_neg, e_not, e_one, e_and, e_or, e_cmp, e_ite, e_tup, e_lst, e_idx, e_shift, e_call, e_bits, e_toint, e_isint, e_dm, es_nil, es_cons, ka_int, ka_bool, ka_none, ka_rep, ob_none, kr_some, kT_2, kT_3, kT_4, kW_2, kW_3, kasrt_t, s_asg, s_asgC, s_asgT, s_asgU, s_asgW, s_aug, s_ite, s_ret, s_asrt, x_nil, x_cons, kf_ret, T4_def, item0, item1, List.set_cons_zero, List.set_cons_succ, List.getElem?_cons_zero, List.getElem?_cons_succ, decide_true, decide_false, not_true_eq_false, not_false_eq_true, Bool.not_true, Bool.not_false, ne_eq, if_true, if_false, Bool.false_eq_true, show ((0:Int) = 0) = True from eq_self 0, show ((1:Int) = 0) = False from by decide, show ((0:Int) = 1) = False from by decide, show ((1:Int)=1) = True from eq_self 1, f_mpf_add, hm0, hm0', hX, o1, o2, o3, sh, Int.toNat_natCast, h100, hD, hD', nr1, Int.neg_neg]
          · simp -implicitDefEqProofs only [b1_some, b2_some, ob_some, vget_int, vget_str, vget_bool, vget_none, vget_tup, vget_lst, vget_rep, vneg_int, t_int, t_bool, t_none, vnot_int, vnot_bool, vnot_none, bo_add, bo_sub, bo_mul, bo_div, bo_mod, bo_pow, bo_shl, bo_shr, bo_and, bo_xor, vc_eq, vc_ne, vc_lt, vc_le, vc_gt, vc_ge, vc_seq, vc_req, vc_rne, c2_some, kc_some, ktup_some, klst_some, vbits_int, vint_int, vint_bool, visint_int, vidx_tup, vidx_lst, vshift_str, vdm_int, kand_int, kand_bool, kand_t, kand_f, kor_int, kor_bool, kor_none, kor_t, kor_f, kif_bool, kif_t, kif_f, kite_int, kite_bool, kite_none, kt_t, kt_f, kont_next, kont_ret, e_none, e_bool, e_int, e_str, e_var, e_g0, e_g1, e_g2, e_g8, e_g9, e_g10, e_g11, e_g12, e_bin, e_neg, e_not, e_one, e_and, e_or, e_cmp, e_ite, e_tup, e_lst, e_idx, e_shift, e_call, e_bits, e_toint, e_isint, e_dm, es_nil, es_cons, ka_int, ka_bool, ka_none, ka_rep, ob_none, kr_some, kT_2, kT_3, kT_4, kW_2, kW_3, kasrt_t, s_asg, s_asgC, s_asgT, s_asgU, s_asgW, s_aug, s_ite, s_ret, s_asrt, x_nil, x_cons, kf_ret, T4_def, item0, item1, List.set_cons_zero, List.set_cons_succ, List.getElem?_cons_zero, List.getElem?_cons_succ, decide_true, decide_false, not_true_eq_false, not_false_eq_true, Bool.not_true, Bool.not_false, ne_eq, if_true, if_false, Bool.false_eq_true, show ((0:Int) = 0) = True from eq_self 0, show ((1:Int) = 0) = False from by decide, show ((0:Int) = 1) = False from by decide, show ((1:Int)=1) = True from eq_self 1, f_mpf_add, hm0, hm0', hX, o1, o2, o3, sh, Int.toNat_natCast, h100, hD, hD', nr1, Int.neg_neg]
      · skip
        have v : (1 - 2 * 1) * (m * 2 ^ n) + (1 - 2 * 0) * m' = m' - (m * 2 ^ n) := by omega
        rw [v]
        by_cases hD : 0 ≤ m' - (m * 2 ^ n)
        · skip
          by_cases h100 : ((100 : Int) < (n : Int))
          · simp -implicitDefEqProofs only [b1_some, b2_some, ob_some, vget_int, vget_str, vget_bool, vget_none, vget_tup, vget_lst, vget_rep, vneg_int, t_int, t_bool, t_none, vnot_int, vnot_bool, vnot_none, bo_add, bo_sub, bo_mul, bo_div, bo_mod, bo_pow, bo_shl, bo_shr, bo_and, bo_xor, vc_eq, vc_ne, vc_lt, vc_le, vc_gt, vc_ge, vc_seq, vc_req, vc_rne, c2_some, kc_some, ktup_some, klst_some, vbits_int, vint_int, vint_bool, visint_int, vidx_tup, vidx_lst, vshift_str, vdm_int, kand_int, kand_bool, kand_t, kand_f, kor_int, kor_bool, kor_none, kor_t, kor_f, kif_bool, kif_t, kif_f, kite_int, kite_bool, kite_none, kt_t, kt_f, kont_next, kont_ret, e_none, e_bool, e_int, e_str, e_var, e_g0, e_g1, e_g2, e_g8, e_g9, e_g10, e_g11, e_g12, e_bin, e_neg, e_not, e_one, e_and, e_or, e_cmp, e_ite, e_tup, e_lst, e_idx, e_shift, e_call, e_bits, e_toint, e_isint, e_dm, es_nil, es_cons, ka_int, ka_bool, ka_none, ka_rep, ob_none, kr_some, kT_2, kT_3, kT_4, kW_2, kW_3, kasrt_t, s_asg, s_asgC, s_asgT, s_asgU, s_asgW, s_aug, s_ite, s_ret, s_asrt, x_nil, x_cons, kf_ret, T4_def, item0, item1, List.set_cons_zero, List.set_cons_succ, List.getElem?_cons_zero, List.getElem?_cons_succ, decide_true, decide_false, not_true_eq_false, not_false_eq_true, Bool.not_true, Bool.not_false, ne_eq, if_true, if_false, Bool.false_eq_true, show ((0:Int) = 0) = True from eq_self 0, show ((1:Int) = 0) = False from by decide, show ((0:Int) = 1) = False from by decide, show ((1:Int)=1) = True from eq_self 1, f_mpf_add, hm0, hm0', hX, o1, o2, o3, sh, Int.toNat_natCast, h100, hD, nr0]
          · simp -implicitDefEqProofs only [b1_some, b2_some, ob_some, vget_int, vget_str, vget_bool, vget_none, vget_tup, vget_lst, vget_rep, vneg_int, t_int, t_bool, t_none, vnot_int, vnot_bool, vnot_none, bo_add, bo_sub, bo_mul, bo_div, bo_mod, bo_pow, bo_shl, bo_shr, bo_and, bo_xor, vc_eq, vc_ne, vc_lt, vc_le, vc_gt, vc_ge, vc_seq, vc_req, vc_rne, c2_some, kc_some, ktup_some, klst_some, vbits_int, vint_int, vint_bool, visint_int, vidx_tup, vidx_lst, vshift_str, vdm_int, kand_int, kand_bool, kand_t, kand_f, kor_int, kor_bool, kor_none, kor_t, kor_f, kif_bool, kif_t, kif_f, kite_int, kite_bool, kite_none, kt_t, kt_f, kont_next, kont_ret, e_none, e_bool, e_int, e_str, e_var, e_g0, e_g1, e_g2, e_g8, e_g9, e_g10, e_g11, e_g12, e_bin, e_neg, e_not, e_one, e_and, e_or, e_cmp, e_ite, e_tup, e_lst, e_idx, e_shift, e_call, e_bits, e_toint, e_isint, e_dm, es_nil, es_cons, ka_int, ka_bool, ka_none, ka_rep, ob_none, kr_some, kT_2, kT_3, kT_4, kW_2, kW_3, kasrt_t, s_asg, s_asgC, s_asgT, s_asgU, s_asgW, s_aug, s_ite, s_ret, s_asrt, x_nil, x_cons, kf_ret, T4_def, item0, item1, List.set_cons_zero, List.set_cons_succ, List.getElem?_cons_zero, List.getElem?_cons_succ, decide_true, decide_false, not_true_eq_false, not_false_eq_true, Bool.not_true, Bool.not_false, ne_eq, if_true, if_false, Bool.false_eq_true, show ((0:Int) = 0) = True from eq_self 0, show ((1:Int) = 0) = False from by decide, show ((0:Int) = 1) = False from by decide, show ((1:Int)=1) = True from eq_self 1, f_mpf_add, hm0, hm0', hX, o1, o2, o3, sh, Int.toNat_natCast, h100, hD, nr0]
        · skip
          have hD' : 0 ≤ -(m' - (m * 2 ^ n)) := by omega
          by_cases h100 : ((100 : Int) < (n : Int))
          · simp -implicitDefEqProofs only [b1_some, b2_some, ob_some, vget_int, vget_str, vget_bool, vget_none, vget_tup, vget_lst, vget_rep, vneg_int, t_int, t_bool, t_none, vnot_int, vnot_bool, vnot_none, bo_add, bo_sub, bo_mul, bo_div, bo_mod, bo_pow, bo_shl, bo_shr, bo_and, bo_xor, vc_eq, vc_ne, vc_lt, vc_le, vc_gt, vc_ge, vc_seq, vc_req, vc_rne, c2_some, kc_some, ktup_some, klst_some, vbits_int, vint_int, vint_bool, visint_int, vidx_tup, vidx_lst, vshift_str, vdm_int, kand_int, kand_bool, kand_t, kand_f, kor_int, kor_bool, kor_none, kor_t, kor_f, kif_bool, kif_t, kif_f, kite_int, kite_bool, kite_none, kt_t, kt_f, kont_next, kont_ret, e_none, e_bool, e_int, e_str, e_var, e_g0, e_g1, e_g2, e_g8, e_g9, e_g10, e_g11, e_g12, e_bin, e_neg, e_not, e_one, e_and, e_or, e_cmp, e_ite, e_tup, e_lst, e_idx, e_shift, e_call, e_bits, e_toint, e_isint, e_dm, es_nil, es_cons, ka_int, ka_bool, ka_none, ka_rep, ob_none, kr_some, kT_2, kT_3, kT_4, kW_2, kW_3, kasrt_t, s_asg, s_asgC, s_asgT, s_asgU, s_asgW, s_aug, s_ite, s_ret, s_asrt, x_nil, x_cons, kf_ret, T4_def, item0, item1, List.set_cons_zero, List.set_cons_succ, List.getElem?_cons_zero, List.getElem?_cons_succ, decide_true, decide_false, not_true_eq_false, not_false_eq_true, Bool.not_true, Bool.not_false, ne_eq, if_true, if_false, Bool.false_eq_true, show ((0:Int) = 0) = True from eq_self 0, show ((1:Int) = 0) = False from by decide, show ((0:Int) = 1) = False from by decide, show ((1:Int)=1) = True from eq_self 1, f_mpf_add, hm0, hm0', hX, o1, o2, o3, sh, Int.toNat_natCast, h100, hD, hD', nr1, Int.neg_neg]
          · simp -implicitDefEqProofs only [b1_some, b2_some, ob_some, vget_int, vget_str, vget_bool, vget_none, vget_tup, vget_lst, vget_rep, vneg_int, t_int, t_bool, t_none, vnot_int, vnot_bool, vnot_none, bo_add, bo_sub, bo_mul, bo_div, bo_mod, bo_pow, bo_shl, bo_shr, bo_and, bo_xor, vc_eq, vc_ne, vc_lt, vc_le, vc_gt, vc_ge, vc_seq, vc_req, vc_rne, c2_some, kc_some, ktup_some, klst_some, vbits_int, vint_int, vint_bool, visint_int, vidx_tup, vidx_lst, vshift_str, vdm_int, kand_int, kand_bool, kand_t, kand_f, kor_int, kor_bool, kor_none, kor_t, kor_f, kif_bool, kif_t, kif_f, kite_int, kite_bool, kite_none, kt_t, kt_f, kont_next, kont_ret, e_none, e_bool, e_int, e_str, e_var, e_g0, e_g1, e_g2, e_g8, e_g9, e_g10, e_g11, e_g12, e_bin, e_neg, e_not, e_one, e_and, e_or, e_cmp, e_ite, e_tup, e_lst, e_idx, e_shift, e_call, e_bits, e_toint, e_isint, e_dm, es_nil, es_cons, ka_int, ka_bool, ka_none, ka_rep, ob_none, kr_some, kT_2, kT_3, kT_4, kW_2, kW_3, kasrt_t, s_asg, s_asgC, s_asgT, s_asgU, s_asgW, s_aug, s_ite, s_ret, s_asrt, x_nil, x_cons, kf_ret, T4_def, item0, item1, List.set_cons_zero, List.set_cons_succ, List.getElem?_cons_zero, List.getElem?_cons_succ, decide_true, decide_false, not_true_eq_false, not_false_eq_true, Bool.not_true, Bool.not_false, ne_eq, if_true, if_false, Bool.false_eq_true, show ((0:Int) = 0) = True from eq_self 0, show ((1:Int) = 0) = False from by decide, show ((0:Int) = 1) = False from by decide, show ((1:Int)=1) = True from eq_self 1, f_mpf_add, hm0, hm0', hX, o1, o2, o3, sh, Int.toNat_natCast, h100, hD, hD', nr1, Int.neg_neg]
      · skip
        have v : (1 - 2 * 1) * (m * 2 ^ n) + (1 - 2 * 1) * m' = -(m' + (m * 2 ^ n)) := by omega
        have hman : 0 ≤ m' + (m * 2 ^ n) := by omega
        rw [v]
        by_cases h100 : ((100 : Int) < (n : Int))
        · simp -implicitDefEqProofs only [b1_some, b2_some, ob_some, vget_int, vget_str, vget_bool, vget_none, vget_tup, vget_lst, vget_rep, vneg_int, t_int, t_bool, t_none, vnot_int, vnot_bool, vnot_none, bo_add, bo_sub, bo_mul, bo_div, bo_mod, bo_pow, bo_shl, bo_shr, bo_and, bo_xor, vc_eq, vc_ne, vc_lt, vc_le, vc_gt, vc_ge, vc_seq, vc_req, vc_rne, c2_some, kc_some, ktup_some, klst_some, vbits_int, vint_int, vint_bool, visint_int, vidx_tup, vidx_lst, vshift_str, vdm_int, kand_int, kand_bool, kand_t, kand_f, kor_int, kor_bool, kor_none, kor_t, kor_f, kif_bool, kif_t, kif_f, kite_int, kite_bool, kite_none, kt_t, kt_f, kont_next, kont_ret, e_none, e_bool, e_int, e_str, e_var, e_g0, e_g1, e_g2, e_g8, e_g9, e_g10, e_g11, e_g12, e_bin, e_neg, e_not, e_one, e_and, e_or, e_cmp, e_ite, e_tup, e_lst, e_idx, e_shift, e_call, e_bits, e_toint, e_isint, e_dm, es_nil, es_cons, ka_int, ka_bool, ka_none, ka_rep, ob_none, kr_some, kT_2, kT_3, kT_4, kW_2, kW_3, kasrt_t, s_asg, s_asgC, s_asgT, s_asgU, s_asgW, s_aug, s_ite, s_ret, s_asrt, x_nil, x_cons, kf_ret, T4_def, item0, item1, List.set_cons_zero, List.set_cons_succ, List.getElem?_cons_zero, List.getElem?_cons_succ, decide_true, decide_false, not_true_eq_false, not_false_eq_true, Bool.not_true, Bool.not_false, ne_eq, if_true, if_false, Bool.false_eq_true, show ((0:Int) = 0) = True from eq_self 0, show ((1:Int) = 0) = False from by decide, show ((0:Int) = 1) = False from by decide, show ((1:Int)=1) = True from eq_self 1, f_mpf_add, hm0, hm0', hX, o1, o2, o3, sh, Int.toNat_natCast, h100, hman, nr1]
        · simp -implicitDefEqProofs only [b1_some, b2_some, ob_some, vget_int, vget_str, vget_bool, vget_none, vget_tup, vget_lst, vget_rep, vneg_int, t_int, t_bool, t_none, vnot_int, vnot_bool, vnot_none, bo_add, bo_sub, bo_mul, bo_div, bo_mod, bo_pow, bo_shl, bo_shr, bo_and, bo_xor, vc_eq, vc_ne, vc_lt, vc_le, vc_gt, vc_ge, vc_seq, vc_req, vc_rne, c2_some, kc_some, ktup_some, klst_some, vbits_int, vint_int, vint_bool, visint_int, vidx_tup, vidx_lst, vshift_str, vdm_int, kand_int, kand_bool, kand_t, kand_f, kor_int, kor_bool, kor_none, kor_t, kor_f, kif_bool, kif_t, kif_f, kite_int, kite_bool, kite_none, kt_t, kt_f, kont_next, kont_ret, e_none, e_bool, e_int, e_str, e_var, e_g0, e_g1, e_g2, e_g8, e_g9, e_g10, e_g11, e_g12, e_bin, e_neg, e_not, e_one, e_and, e_or, e_cmp, e_ite, e_tup, e_lst, e_idx, e_shift, e_call, e_bits, e_toint, e_isint, e_dm, es_nil, es_cons, ka_int, ka_bool, ka_none, ka_rep, ob_none, kr_some, kT_2, kT_3, kT_4, kW_2, kW_3, kasrt_t, s_asg, s_asgC, s_asgT, s_asgU, s_asgW, s_aug, s_ite, s_ret, s_asrt, x_nil, x_cons, kf_ret, T4_def, item0, item1, List.set_cons_zero, List.set_cons_succ, List.getElem?_cons_zero, List.getElem?_cons_succ, decide_true, decide_false, not_true_eq_false, not_false_eq_true, Bool.not_true, Bool.not_false, ne_eq, if_true, if_false, Bool.false_eq_true, show ((0:Int) = 0) = True from eq_self 0, show ((1:Int) = 0) = False from by decide, show ((0:Int) = 1) = False from by decide, show ((1:Int)=1) = True from eq_self 1, f_mpf_add, hm0, hm0', hX, o1, o2, o3, sh, Int.toNat_natCast, h100, hman, nr1]
end Mine

end
section -- P5
open PySem PySem.W PyProof.Rows
set_option maxRecDepth 10000
set_option maxHeartbeats 1000000
set_option linter.unusedSimpArgs false
namespace Mine
open Builtin.Int (intBits)

theorem c_add2 (k : Nat) {x y : Dyadic} (hx : Bd x) (hy : Bd y) : call0 (k + 4) 12 [rep x, rep y] = some (rep (x + y)) := c_add k (b := 0) (.inl rfl) hx hy
theorem c_sub (k : Nat) {x y : Dyadic} (hx : Bd x) (hy : Bd y) : call0 (k + 5) 13 [rep x, rep y] = some (rep (x - y)) := by
  rw [show call0 (k + 5) 13 [rep x, rep y] = kf (exs gt0 sh0 (call0 (k + 4)) f_mpf_sub.body [rep x, rep y, .int 0, .str "d"] none) from rfl]
  have := c_add k (b := 1) (.inr rfl) hx hy
  have e : x + sgnD 1 y = x - y := rfl
  rw [e] at this
  simp -implicitDefEqProofs only [b1_some, b2_some, ob_some, vget_int, vget_str, vget_bool, vget_none, vget_tup, vget_lst, vget_rep, vneg_int, t_int, t_bool, t_none, vnot_int, vnot_bool, vnot_none, bo_add, bo_sub, bo_mul, bo_div, bo_mod, bo_pow, bo_shl, bo_shr, bo_and, bo_xor, vc_eq, vc_ne, vc_lt, vc_le, vc_gt, vc_ge, vc_seq, vc_req, vc_rne, c2_some, kc_some, ktup_some, klst_some, vbits_int, vint_int, vint_bool, visint_int, vidx_tup, vidx_lst, vshift_str, vdm_int, kand_int, kand_bool, kand_t, kand_f, kor_int, kor_bool, kor_none, kor_t, kor_f, kif_bool, kif_t, kif_f, kite_int, kite_bool, kite_none, kt_t, kt_f, kont_next, kont_ret, e_none, e_bool, e_int, e_str, e_var, e_g0, e_g1, e_g2, e_g8, e_g9, e_g10, e_g11, e_g12, e_bin, e_neg, e_not, e_one, e_and, e_or, e_cmp, e_ite, e_tup, e_lst, e_idx, e_shift, e_call, e_bits, e_toint, e_isint, e_dm, es_nil, es_cons, ka_int, ka_bool, ka_none, ka_rep, ob_none, kr_some, kT_2, kT_3, kT_4, kW_2, kW_3, kasrt_t, s_asg, s_asgC, s_asgT, s_asgU, s_asgW, s_aug, s_ite, s_ret, s_asrt, x_nil, x_cons, kf_ret, T4_def, item0, item1, List.set_cons_zero, List.set_cons_succ, List.getElem?_cons_zero, List.getElem?_cons_succ, decide_true, decide_false, not_true_eq_false, not_false_eq_true, Bool.not_true, Bool.not_false, ne_eq, if_true, if_false, Bool.false_eq_true, show ((0:Int) = 0) = True from eq_self 0, show ((1:Int) = 0) = False from by decide, show ((0:Int) = 1) = False from by decide, show ((1:Int)=1) = True from eq_self 1, f_mpf_sub, this]

theorem bits_shr {M : Int} (h : 0 ≤ M) (j : Nat) : intBits (M.fdiv (2 ^ j)) = intBits M - j := by
  have key : ∀ i, intBits (M.fdiv (2 ^ j)) ≤ i ↔ intBits M ≤ i + j := by
    intro i
    have hn : (M.fdiv (2 ^ j)).natAbs = M.natAbs / 2 ^ j := by
      rw [Int.fdiv_eq_ediv_of_nonneg _ (Int.le_of_lt (pow_pos_int j)), two_pow_cast]
      conv => lhs; rw [show M = (M.natAbs : Int) by omega]
      rw [← Int.natCast_ediv, Int.natAbs_natCast]
    rw [intBits_le_iff, intBits_le_iff, hn, Nat.div_lt_iff_lt_mul (Nat.two_pow_pos j), Nat.pow_add]
  have h1 := (key (intBits M - j)).mpr (by omega)
  have h2 := (key (intBits (M.fdiv (2 ^ j)))).mp (Nat.le_refl _)
  omega
theorem bits_ge {a : Int} {n : Nat} : n < intBits a ↔ 2 ^ n ≤ a.natAbs := by
  exact ⟨fun h => Nat.le_of_not_lt fun h' => absurd (intBits_le_iff.mpr h') (by omega), fun h => Nat.lt_of_not_le fun h' => absurd (intBits_le_iff.mp h') (Nat.not_lt.mpr h)⟩
theorem bits_mul_lo {a b : Int} (ha : a ≠ 0) (hb : b ≠ 0) : intBits a + intBits b ≤ intBits (a * b) + 1 := by
  have pa := bits_pos ha
  have pb := bits_pos hb
  have h1 := (bits_ge (a := a) (n := intBits a - 1)).mp (by omega)
  have h2 := (bits_ge (a := b) (n := intBits b - 1)).mp (by omega)
  have : intBits a - 1 + (intBits b - 1) < intBits (a * b) := by
    rw [bits_ge, Int.natAbs_mul, Nat.pow_add]
    exact Nat.mul_le_mul h1 h2
  omega
theorem bits_mul_hi (a b : Int) : intBits (a * b) ≤ intBits a + intBits b := intBits_mul_le (Nat.le_refl _) (Nat.le_refl _)
theorem bits_one {M : Int} (h : 0 ≤ M) (hb : intBits M = 1) : M = 1 := by
  have h1 := (bits_ge (a := M) (n := 0)).mp (by omega)
  have h2 := (intBits_le_iff (x := M) (m := 1)).mp (by omega)
  omega
theorem bits_nil {M : Int} (hb : intBits M = 0) : M = 0 := by
  have h2 := (intBits_le_iff (x := M) (m := 0)).mp (by omega)
  omega
/-- the count of bits as the text counts them -/
theorem bits_step {a b : Int} (ha : 0 < a) (hb : 0 < b) : ((intBits a : Int) + (intBits b - 1)) + (a * b).fdiv (2 ^ ((intBits a : Int) + (intBits b - 1)).toNat) = intBits (a * b) := by
  have pa := bits_pos (m := a) (by omega)
  have pb := bits_pos (m := b) (by omega)
  have lo := bits_mul_lo (a := a) (b := b) (by omega) (by omega)
  have hi := bits_mul_hi a b
  have hp : 0 ≤ a * b := Int.le_of_lt (Int.mul_pos ha hb)
  have hc : ((intBits a : Int) + (intBits b - 1)).toNat = intBits a + intBits b - 1 := by omega
  rw [hc]
  have sh := bits_shr hp (intBits a + intBits b - 1)
  have hnn : 0 ≤ (a * b).fdiv (2 ^ (intBits a + intBits b - 1)) := Int.fdiv_nonneg hp (Int.le_of_lt (pow_pos_int _))
  rcases Nat.lt_or_ge (intBits (a * b)) (intBits a + intBits b) with h | h
  · have z : (a * b).fdiv (2 ^ (intBits a + intBits b - 1)) = 0 := bits_nil (by rw [sh]; omega)
    rw [z]; omega
  · have z : (a * b).fdiv (2 ^ (intBits a + intBits b - 1)) = 1 := bits_one hnn (by rw [sh]; omega)
    rw [z]; omega

theorem c_mul4z (k : Nat) (y : Dyadic) (p : Int) (r : PySem.Str) : call0 (k + 1) 15 [rep 0, rep y, .int p, .str r] = some (rep 0) := by
  have go : ∀ a b c d a' b' c' d' : Int, call0 (k + 1) 15 [.tup [.int a, .int b, .int c, .int d], .tup [.int a', .int b', .int c', .int d'], .int p, .str r] = kf (exs gt0 sh0 (call0 k) f_mpf_mul.body [.tup [.int a, .int b, .int c, .int d], .tup [.int a', .int b', .int c', .int d'], .int p, .str r, .undef, .undef, .undef, .undef, .undef, .undef, .undef, .undef, .undef, .undef, .undef, .undef, .undef] none) := fun _ _ _ _ _ _ _ _ => cstep (fd := f_mpf_mul) rfl rfl
  have m0 : ∀ b : Int, mulOk 0 b = true := fun b => by unfold mulOk; simp [bits_zero]
  rcases d_cases' y with rfl | ⟨s', m', e', hs', hm', h1', rfl⟩
  · rw [rep0, go]
    simp -implicitDefEqProofs only [b1_some, b2_some, ob_some, vget_int, vget_str, vget_bool, vget_none, vget_tup, vget_lst, vget_rep, vneg_int, t_int, t_bool, t_none, vnot_int, vnot_bool, vnot_none, bo_add, bo_sub, bo_mul, bo_div, bo_mod, bo_pow, bo_shl, bo_shr, bo_and, bo_xor, vc_eq, vc_ne, vc_lt, vc_le, vc_gt, vc_ge, vc_seq, vc_req, vc_rne, c2_some, kc_some, ktup_some, klst_some, vbits_int, vint_int, vint_bool, visint_int, vidx_tup, vidx_lst, vshift_str, vdm_int, kand_int, kand_bool, kand_t, kand_f, kor_int, kor_bool, kor_none, kor_t, kor_f, kif_bool, kif_t, kif_f, kite_int, kite_bool, kite_none, kt_t, kt_f, kont_next, kont_ret, e_none, e_bool, e_int, e_str, e_var, e_g0, e_g1, e_g2, e_g8, e_g9, e_g10, e_g11, e_g12, e_bin, e_neg, e_not, e_one, e_and, e_or, e_cmp, e_ite, e_tup, e_lst, e_idx, e_shift, e_call, e_bits, e_toint, e_isint, e_dm, es_nil, es_cons, ka_int, ka_bool, ka_none, ka_rep, ob_none, kr_some, kT_2, kT_3, kT_4, kW_2, kW_3, kasrt_t, s_asg, s_asgC, s_asgT, s_asgU, s_asgW, s_aug, s_ite, s_ret, s_asrt, x_nil, x_cons, kf_ret, T4_def, item0, item1, List.set_cons_zero, List.set_cons_succ, List.getElem?_cons_zero, List.getElem?_cons_succ, decide_true, decide_false, not_true_eq_false, not_false_eq_true, Bool.not_true, Bool.not_false, ne_eq, if_true, if_false, Bool.false_eq_true, show ((0:Int) = 0) = True from eq_self 0, show ((1:Int) = 0) = False from by decide, show ((0:Int) = 1) = False from by decide, show ((1:Int)=1) = True from eq_self 1, f_mpf_mul, m0, Int.zero_mul]
    rfl
  · have hm0' : m' ≠ 0 := by omega
    rw [rep_fin hs' hm' h1', show rep 0 = .tup [.int 0, .int 0, .int 0, .int 0] from rfl, go]
    simp -implicitDefEqProofs only [b1_some, b2_some, ob_some, vget_int, vget_str, vget_bool, vget_none, vget_tup, vget_lst, vget_rep, vneg_int, t_int, t_bool, t_none, vnot_int, vnot_bool, vnot_none, bo_add, bo_sub, bo_mul, bo_div, bo_mod, bo_pow, bo_shl, bo_shr, bo_and, bo_xor, vc_eq, vc_ne, vc_lt, vc_le, vc_gt, vc_ge, vc_seq, vc_req, vc_rne, c2_some, kc_some, ktup_some, klst_some, vbits_int, vint_int, vint_bool, visint_int, vidx_tup, vidx_lst, vshift_str, vdm_int, kand_int, kand_bool, kand_t, kand_f, kor_int, kor_bool, kor_none, kor_t, kor_f, kif_bool, kif_t, kif_f, kite_int, kite_bool, kite_none, kt_t, kt_f, kont_next, kont_ret, e_none, e_bool, e_int, e_str, e_var, e_g0, e_g1, e_g2, e_g8, e_g9, e_g10, e_g11, e_g12, e_bin, e_neg, e_not, e_one, e_and, e_or, e_cmp, e_ite, e_tup, e_lst, e_idx, e_shift, e_call, e_bits, e_toint, e_isint, e_dm, es_nil, es_cons, ka_int, ka_bool, ka_none, ka_rep, ob_none, kr_some, kT_2, kT_3, kT_4, kW_2, kW_3, kasrt_t, s_asg, s_asgC, s_asgT, s_asgU, s_asgW, s_aug, s_ite, s_ret, s_asrt, x_nil, x_cons, kf_ret, T4_def, item0, item1, List.set_cons_zero, List.set_cons_succ, List.getElem?_cons_zero, List.getElem?_cons_succ, decide_true, decide_false, not_true_eq_false, not_false_eq_true, Bool.not_true, Bool.not_false, ne_eq, if_true, if_false, Bool.false_eq_true, show ((0:Int) = 0) = True from eq_self 0, show ((1:Int) = 0) = False from by decide, show ((0:Int) = 1) = False from by decide, show ((1:Int)=1) = True from eq_self 1, f_mpf_mul, m0, Int.zero_mul, hm0']
    rfl

theorem c_mul_int (k : Nat) {d : Dyadic} {n prec : Int} (hd : bitsD d ≤ 2 ^ 19) (hn : intBits n ≤ 2 ^ 19) (hp : (bitsD d + intBits n : Int) ≤ prec) : call0 (k + 4) 16 [rep d, .int n, .int prec] = some (rep (d * (n : Dyadic))) := by
  rcases d_cases' d with rfl | ⟨s, m, e, hs, hm, h1, rfl⟩
  · rw [show call0 (k + 4) 16 [rep 0, .int n, .int prec] = kf (exs gt0 sh0 (call0 (k + 3)) f_mpf_mul_int.body [rep 0, .int n, .int prec, .str "d", .undef, .undef, .undef, .undef] none) from rfl]
    have kT0 : ∀ (a b c d : Nat) (σ : List V), kT [a, b, c, d] σ (rep 0) = some (.next ((((σ.set a (.int 0)).set b (.int 0)).set c (.int 0)).set d (.int 0)) none) := fun _ _ _ _ _ => rfl
    have h7 := c_from_int k n
    have h15 := c_mul4z (k + 2) (n : Dyadic) prec "d"
    simp -implicitDefEqProofs only [b1_some, b2_some, ob_some, vget_int, vget_str, vget_bool, vget_none, vget_tup, vget_lst, vget_rep, vneg_int, t_int, t_bool, t_none, vnot_int, vnot_bool, vnot_none, bo_add, bo_sub, bo_mul, bo_div, bo_mod, bo_pow, bo_shl, bo_shr, bo_and, bo_xor, vc_eq, vc_ne, vc_lt, vc_le, vc_gt, vc_ge, vc_seq, vc_req, vc_rne, c2_some, kc_some, ktup_some, klst_some, vbits_int, vint_int, vint_bool, visint_int, vidx_tup, vidx_lst, vshift_str, vdm_int, kand_int, kand_bool, kand_t, kand_f, kor_int, kor_bool, kor_none, kor_t, kor_f, kif_bool, kif_t, kif_f, kite_int, kite_bool, kite_none, kt_t, kt_f, kont_next, kont_ret, e_none, e_bool, e_int, e_str, e_var, e_g0, e_g1, e_g2, e_g8, e_g9, e_g10, e_g11, e_g12, e_bin, e_neg, e_not, e_one, e_and, e_or, e_cmp, e_ite, e_tup, e_lst, e_idx, e_shift, e_call, e_bits, e_toint, e_isint, e_dm, es_nil, es_cons, ka_int, ka_bool, ka_none, ka_rep, ob_none, kr_some, kT_2, kT_3, kT_4, kW_2, kW_3, kasrt_t, s_asg, s_asgC, s_asgT, s_asgU, s_asgW, s_aug, s_ite, s_ret, s_asrt, x_nil, x_cons, kf_ret, T4_def, item0, item1, List.set_cons_zero, List.set_cons_succ, List.getElem?_cons_zero, List.getElem?_cons_succ, decide_true, decide_false, not_true_eq_false, not_false_eq_true, Bool.not_true, Bool.not_false, ne_eq, if_true, if_false, Bool.false_eq_true, show ((0:Int) = 0) = True from eq_self 0, show ((1:Int) = 0) = False from by decide, show ((0:Int) = 1) = False from by decide, show ((1:Int)=1) = True from eq_self 1, f_mpf_mul_int, kT0, h7, h15, Dyadic.zero_mul]
  · rw [bitsD_mk hs h1] at hd hp
    have hm0 : m ≠ 0 := by omega
    rw [← mkD_int, mkD_mul, Int.add_zero, Int.mul_assoc]
    rw [rep_fin hs hm h1]
    rw [show ∀ a b c d : Int, call0 (k + 4) 16 [.tup [.int a, .int b, .int c, .int d], .int n, .int prec] = kf (exs gt0 sh0 (call0 (k + 3)) f_mpf_mul_int.body [.tup [.int a, .int b, .int c, .int d], .int n, .int prec, .str "d", .undef, .undef, .undef, .undef] none) from fun _ _ _ _ => rfl]
    rcases Int.lt_trichotomy n 0 with hlt | rfl | hgt
    · have hn0 : n ≠ 0 := by omega
      have hx := xor_sg hs (t := 1) (.inr rfl)
      have hnb : intBits (-n) = intBits n := bits_neg n
      have ok : mulOk m (-n) = true := mulOk_of (by omega) (by omega)
      have hc : 0 ≤ (intBits m : Int) + (intBits (-n) - 1) := by have := bits_pos hm0; omega
      have nn := c_norm0 k (s := Builtin.bitXor s 1) (m := m * -n) (e := e) (prec := prec) (rnd := "d") hx.1 (Int.le_of_lt (Int.mul_pos hm (by omega))) rn_d (by have := bits_mul_hi m (-n); omega)
      rw [show (1 - 2 * s) * (m * n) = (1 - 2 * Builtin.bitXor s 1) * (m * -n) by rw [hx.2]; grind]
      simp -implicitDefEqProofs only [b1_some, b2_some, ob_some, vget_int, vget_str, vget_bool, vget_none, vget_tup, vget_lst, vget_rep, vneg_int, t_int, t_bool, t_none, vnot_int, vnot_bool, vnot_none, bo_add, bo_sub, bo_mul, bo_div, bo_mod, bo_pow, bo_shl, bo_shr, bo_and, bo_xor, vc_eq, vc_ne, vc_lt, vc_le, vc_gt, vc_ge, vc_seq, vc_req, vc_rne, c2_some, kc_some, ktup_some, klst_some, vbits_int, vint_int, vint_bool, visint_int, vidx_tup, vidx_lst, vshift_str, vdm_int, kand_int, kand_bool, kand_t, kand_f, kor_int, kor_bool, kor_none, kor_t, kor_f, kif_bool, kif_t, kif_f, kite_int, kite_bool, kite_none, kt_t, kt_f, kont_next, kont_ret, e_none, e_bool, e_int, e_str, e_var, e_g0, e_g1, e_g2, e_g8, e_g9, e_g10, e_g11, e_g12, e_bin, e_neg, e_not, e_one, e_and, e_or, e_cmp, e_ite, e_tup, e_lst, e_idx, e_shift, e_call, e_bits, e_toint, e_isint, e_dm, es_nil, es_cons, ka_int, ka_bool, ka_none, ka_rep, ob_none, kr_some, kT_2, kT_3, kT_4, kW_2, kW_3, kasrt_t, s_asg, s_asgC, s_asgT, s_asgU, s_asgW, s_aug, s_ite, s_ret, s_asrt, x_nil, x_cons, kf_ret, T4_def, item0, item1, List.set_cons_zero, List.set_cons_succ, List.getElem?_cons_zero, List.getElem?_cons_succ, decide_true, decide_false, not_true_eq_false, not_false_eq_true, Bool.not_true, Bool.not_false, ne_eq, if_true, if_false, Bool.false_eq_true, show ((0:Int) = 0) = True from eq_self 0, show ((1:Int) = 0) = False from by decide, show ((0:Int) = 1) = False from by decide, show ((1:Int)=1) = True from eq_self 1, f_mpf_mul_int, hm0, hn0, hlt, ok, hc, bits_step hm (show 0 < -n by omega), nn]
    · have z : mkD ((1 - 2 * s) * (m * 0)) e = 0 := by rw [Int.mul_zero, Int.mul_zero, mkD_zero]
      simp -implicitDefEqProofs only [b1_some, b2_some, ob_some, vget_int, vget_str, vget_bool, vget_none, vget_tup, vget_lst, vget_rep, vneg_int, t_int, t_bool, t_none, vnot_int, vnot_bool, vnot_none, bo_add, bo_sub, bo_mul, bo_div, bo_mod, bo_pow, bo_shl, bo_shr, bo_and, bo_xor, vc_eq, vc_ne, vc_lt, vc_le, vc_gt, vc_ge, vc_seq, vc_req, vc_rne, c2_some, kc_some, ktup_some, klst_some, vbits_int, vint_int, vint_bool, visint_int, vidx_tup, vidx_lst, vshift_str, vdm_int, kand_int, kand_bool, kand_t, kand_f, kor_int, kor_bool, kor_none, kor_t, kor_f, kif_bool, kif_t, kif_f, kite_int, kite_bool, kite_none, kt_t, kt_f, kont_next, kont_ret, e_none, e_bool, e_int, e_str, e_var, e_g0, e_g1, e_g2, e_g8, e_g9, e_g10, e_g11, e_g12, e_bin, e_neg, e_not, e_one, e_and, e_or, e_cmp, e_ite, e_tup, e_lst, e_idx, e_shift, e_call, e_bits, e_toint, e_isint, e_dm, es_nil, es_cons, ka_int, ka_bool, ka_none, ka_rep, ob_none, kr_some, kT_2, kT_3, kT_4, kW_2, kW_3, kasrt_t, s_asg, s_asgC, s_asgT, s_asgU, s_asgW, s_aug, s_ite, s_ret, s_asrt, x_nil, x_cons, kf_ret, T4_def, item0, item1, List.set_cons_zero, List.set_cons_succ, List.getElem?_cons_zero, List.getElem?_cons_succ, decide_true, decide_false, not_true_eq_false, not_false_eq_true, Bool.not_true, Bool.not_false, ne_eq, if_true, if_false, Bool.false_eq_true, show ((0:Int) = 0) = True from eq_self 0, show ((1:Int) = 0) = False from by decide, show ((0:Int) = 1) = False from by decide, show ((1:Int)=1) = True from eq_self 1, f_mpf_mul_int, hm0, z]
    · have hn0 : n ≠ 0 := by omega
      have hlt : ¬ n < 0 := by omega
      have ok : mulOk m n = true := mulOk_of (by omega) (by omega)
      have hc : 0 ≤ (intBits m : Int) + (intBits n - 1) := by have := bits_pos hm0; omega
      have nn := c_norm0 k (s := s) (m := m * n) (e := e) (prec := prec) (rnd := "d") hs (Int.le_of_lt (Int.mul_pos hm (by omega))) rn_d (by have := bits_mul_hi m n; omega)
      simp -implicitDefEqProofs only [b1_some, b2_some, ob_some, vget_int, vget_str, vget_bool, vget_none, vget_tup, vget_lst, vget_rep, vneg_int, t_int, t_bool, t_none, vnot_int, vnot_bool, vnot_none, bo_add, bo_sub, bo_mul, bo_div, bo_mod, bo_pow, bo_shl, bo_shr, bo_and, bo_xor, vc_eq, vc_ne, vc_lt, vc_le, vc_gt, vc_ge, vc_seq, vc_req, vc_rne, c2_some, kc_some, ktup_some, klst_some, vbits_int, vint_int, vint_bool, visint_int, vidx_tup, vidx_lst, vshift_str, vdm_int, kand_int, kand_bool, kand_t, kand_f, kor_int, kor_bool, kor_none, kor_t, kor_f, kif_bool, kif_t, kif_f, kite_int, kite_bool, kite_none, kt_t, kt_f, kont_next, kont_ret, e_none, e_bool, e_int, e_str, e_var, e_g0, e_g1, e_g2, e_g8, e_g9, e_g10, e_g11, e_g12, e_bin, e_neg, e_not, e_one, e_and, e_or, e_cmp, e_ite, e_tup, e_lst, e_idx, e_shift, e_call, e_bits, e_toint, e_isint, e_dm, es_nil, es_cons, ka_int, ka_bool, ka_none, ka_rep, ob_none, kr_some, kT_2, kT_3, kT_4, kW_2, kW_3, kasrt_t, s_asg, s_asgC, s_asgT, s_asgU, s_asgW, s_aug, s_ite, s_ret, s_asrt, x_nil, x_cons, kf_ret, T4_def, item0, item1, List.set_cons_zero, List.set_cons_succ, List.getElem?_cons_zero, List.getElem?_cons_succ, decide_true, decide_false, not_true_eq_false, not_false_eq_true, Bool.not_true, Bool.not_false, ne_eq, if_true, if_false, Bool.false_eq_true, show ((0:Int) = 0) = True from eq_self 0, show ((1:Int) = 0) = False from by decide, show ((0:Int) = 1) = False from by decide, show ((1:Int)=1) = True from eq_self 1, f_mpf_mul_int, hm0, hn0, hlt, ok, hc, bits_step hm hgt, nn]
end Mine

end
section -- P6
open PySem PySem.W PyProof.Rows
set_option maxRecDepth 10000
set_option maxHeartbeats 400000
set_option linter.unusedSimpArgs false
namespace Mine
open Builtin.Int (intBits)

theorem neg_pow (m : Int) (n : Nat) : (-m) ^ n = (1 - 2 * ((n : Int) % 2)) * m ^ n := by
  induction n with
  | zero => simp
  | succ n ih =>
    rw [Int.pow_succ, Int.pow_succ, ih]
    have : (1 - 2 * (((n + 1 : Nat) : Int) % 2)) = -(1 - 2 * ((n : Int) % 2)) := by omega
    rw [this]; grind
theorem rs_pow {s : Int} (hs : s = 0 ∨ s = 1) (m : Int) (n : Nat) : (Builtin.bitAnd s n = 0 ∨ Builtin.bitAnd s n = 1) ∧ ((1 - 2 * s) * m) ^ n = (1 - 2 * Builtin.bitAnd s n) * m ^ n := by
  rcases hs with rfl | rfl
  · have : Builtin.bitAnd 0 (n : Int) = 0 := by rw [bitAnd_comm, bitAnd_zero]
    rw [this, show (1 - 2 * 0) * m = m by omega]
    exact ⟨.inl rfl, by omega⟩
  · rw [bitAnd_m1', show (1 - 2 * 1) * m = -m by omega]
    exact ⟨by omega, neg_pow m n⟩
theorem pow_odd {m : Int} (h : m % 2 = 1) (n : Nat) : m ^ n % 2 = 1 := by
  induction n with
  | zero => rw [Int.pow_zero]; decide
  | succ n ih => rw [Int.pow_succ]; exact mul_odd ih h
theorem pow_pos' {m : Int} (h : 0 < m) (n : Nat) : 0 < m ^ n := by
  induction n with
  | zero => rw [Int.pow_zero]; decide
  | succ n ih => rw [Int.pow_succ]; exact Int.mul_pos ih h

theorem bits_sq {m : Int} (h : 0 < m) : ((intBits m : Int) + intBits m - 2) + intBits ((m * m).fdiv (2 ^ ((intBits m : Int) + intBits m - 2).toNat)) = intBits (m * m) := by
  have p := bits_pos (m := m) (by omega)
  have lo := bits_mul_lo (a := m) (b := m) (by omega) (by omega)
  rw [show ((intBits m : Int) + intBits m - 2).toNat = 2 * intBits m - 2 by omega, bits_shr (Int.le_of_lt (Int.mul_pos h h))]
  omega
theorem bits_pow (m : Int) (n : Nat) : intBits (m ^ n) ≤ intBits m * n + 1 := intBits_pow_le (Nat.le_refl _) n

theorem kT0 : ∀ (a b c d : Nat) (σ : List V), kT [a, b, c, d] σ (rep 0) = some (.next ((((σ.set a (.int 0)).set b (.int 0)).set c (.int 0)).set d (.int 0)) none) := fun _ _ _ _ _ => rfl
theorem goP0 (k : Nat) (u : Int) : call0 (k + 5) 18 [rep 0, .int u, .int 4000] = kf (exs gt0 sh0 (call0 (k + 4)) f_mpf_pow_int.body [rep 0, .int u, .int 4000, .str "d", .undef, .undef, .undef, .undef, .undef, .undef, .undef, .undef, .undef, .undef, .undef, .undef] none) := rfl
theorem goP (k : Nat) (a b c d u : Int) : call0 (k + 5) 18 [.tup [.int a, .int b, .int c, .int d], .int u, .int 4000] = kf (exs gt0 sh0 (call0 (k + 4)) f_mpf_pow_int.body [.tup [.int a, .int b, .int c, .int d], .int u, .int 4000, .str "d", .undef, .undef, .undef, .undef, .undef, .undef, .undef, .undef, .undef, .undef, .undef, .undef] none) := rfl
theorem p10 : ((1 : Int) = 0) = False := by decide
theorem p20 : ((2 : Int) = 0) = False := by decide
theorem p21 : ((2 : Int) = 1) = False := by decide
theorem p22 : ((2 : Int) = 2) = True := by decide

theorem c_pow0 (k : Nat) (d : Dyadic) : call0 (k + 5) 18 [rep d, .int 0, .int 4000] = some (rep 1) := by
  rcases d_cases' d with rfl | ⟨s, m, e, hs, hm, h1, rfl⟩
  · rw [goP0]
    simp -implicitDefEqProofs only [b1_some, b2_some, ob_some, vget_int, vget_str, vget_bool, vget_none, vget_tup, vget_lst, vget_rep, vneg_int, t_int, t_bool, t_none, vnot_int, vnot_bool, vnot_none, bo_add, bo_sub, bo_mul, bo_div, bo_mod, bo_pow, bo_shl, bo_shr, bo_and, bo_xor, vc_eq, vc_ne, vc_lt, vc_le, vc_gt, vc_ge, vc_seq, vc_req, vc_rne, c2_some, kc_some, ktup_some, klst_some, vbits_int, vint_int, vint_bool, visint_int, vidx_tup, vidx_lst, vshift_str, vdm_int, kand_int, kand_bool, kand_t, kand_f, kor_int, kor_bool, kor_none, kor_t, kor_f, kif_bool, kif_t, kif_f, kite_int, kite_bool, kite_none, kt_t, kt_f, kont_next, kont_ret, e_none, e_bool, e_int, e_str, e_var, e_g0, e_g1, e_g2, e_g8, e_g9, e_g10, e_g11, e_g12, e_bin, e_neg, e_not, e_one, e_and, e_or, e_cmp, e_ite, e_tup, e_lst, e_idx, e_shift, e_call, e_bits, e_toint, e_isint, e_dm, es_nil, es_cons, ka_int, ka_bool, ka_none, ka_rep, ob_none, kr_some, kT_2, kT_3, kT_4, kW_2, kW_3, kasrt_t, s_asg, s_asgC, s_asgT, s_asgU, s_asgW, s_aug, s_ite, s_ret, s_asrt, x_nil, x_cons, kf_ret, T4_def, item0, item1, List.set_cons_zero, List.set_cons_succ, List.getElem?_cons_zero, List.getElem?_cons_succ, decide_true, decide_false, not_true_eq_false, not_false_eq_true, Bool.not_true, Bool.not_false, ne_eq, if_true, if_false, Bool.false_eq_true, show ((0:Int) = 0) = True from eq_self 0, show ((1:Int) = 0) = False from by decide, show ((0:Int) = 1) = False from by decide, show ((1:Int)=1) = True from eq_self 1, f_mpf_pow_int, kT0]
  · have hm0 : m ≠ 0 := by omega
    rw [rep_fin hs hm h1, goP]
    simp -implicitDefEqProofs only [b1_some, b2_some, ob_some, vget_int, vget_str, vget_bool, vget_none, vget_tup, vget_lst, vget_rep, vneg_int, t_int, t_bool, t_none, vnot_int, vnot_bool, vnot_none, bo_add, bo_sub, bo_mul, bo_div, bo_mod, bo_pow, bo_shl, bo_shr, bo_and, bo_xor, vc_eq, vc_ne, vc_lt, vc_le, vc_gt, vc_ge, vc_seq, vc_req, vc_rne, c2_some, kc_some, ktup_some, klst_some, vbits_int, vint_int, vint_bool, visint_int, vidx_tup, vidx_lst, vshift_str, vdm_int, kand_int, kand_bool, kand_t, kand_f, kor_int, kor_bool, kor_none, kor_t, kor_f, kif_bool, kif_t, kif_f, kite_int, kite_bool, kite_none, kt_t, kt_f, kont_next, kont_ret, e_none, e_bool, e_int, e_str, e_var, e_g0, e_g1, e_g2, e_g8, e_g9, e_g10, e_g11, e_g12, e_bin, e_neg, e_not, e_one, e_and, e_or, e_cmp, e_ite, e_tup, e_lst, e_idx, e_shift, e_call, e_bits, e_toint, e_isint, e_dm, es_nil, es_cons, ka_int, ka_bool, ka_none, ka_rep, ob_none, kr_some, kT_2, kT_3, kT_4, kW_2, kW_3, kasrt_t, s_asg, s_asgC, s_asgT, s_asgU, s_asgW, s_aug, s_ite, s_ret, s_asrt, x_nil, x_cons, kf_ret, T4_def, item0, item1, List.set_cons_zero, List.set_cons_succ, List.getElem?_cons_zero, List.getElem?_cons_succ, decide_true, decide_false, not_true_eq_false, not_false_eq_true, Bool.not_true, Bool.not_false, ne_eq, if_true, if_false, Bool.false_eq_true, show ((0:Int) = 0) = True from eq_self 0, show ((1:Int) = 0) = False from by decide, show ((0:Int) = 1) = False from by decide, show ((1:Int)=1) = True from eq_self 1, f_mpf_pow_int, hm0]
theorem c_pow1 (k : Nat) {d : Dyadic} (hd : bitsD d < 1000) : call0 (k + 5) 18 [rep d, .int 1, .int 4000] = some (rep d) := by
  have pos := c_pos k d (prec := 4000) (rnd := "d") (by decide) rn_d (by omega)
  rcases d_cases' d with rfl | ⟨s, m, e, hs, hm, h1, rfl⟩
  · rw [goP0]
    simp -implicitDefEqProofs only [b1_some, b2_some, ob_some, vget_int, vget_str, vget_bool, vget_none, vget_tup, vget_lst, vget_rep, vneg_int, t_int, t_bool, t_none, vnot_int, vnot_bool, vnot_none, bo_add, bo_sub, bo_mul, bo_div, bo_mod, bo_pow, bo_shl, bo_shr, bo_and, bo_xor, vc_eq, vc_ne, vc_lt, vc_le, vc_gt, vc_ge, vc_seq, vc_req, vc_rne, c2_some, kc_some, ktup_some, klst_some, vbits_int, vint_int, vint_bool, visint_int, vidx_tup, vidx_lst, vshift_str, vdm_int, kand_int, kand_bool, kand_t, kand_f, kor_int, kor_bool, kor_none, kor_t, kor_f, kif_bool, kif_t, kif_f, kite_int, kite_bool, kite_none, kt_t, kt_f, kont_next, kont_ret, e_none, e_bool, e_int, e_str, e_var, e_g0, e_g1, e_g2, e_g8, e_g9, e_g10, e_g11, e_g12, e_bin, e_neg, e_not, e_one, e_and, e_or, e_cmp, e_ite, e_tup, e_lst, e_idx, e_shift, e_call, e_bits, e_toint, e_isint, e_dm, es_nil, es_cons, ka_int, ka_bool, ka_none, ka_rep, ob_none, kr_some, kT_2, kT_3, kT_4, kW_2, kW_3, kasrt_t, s_asg, s_asgC, s_asgT, s_asgU, s_asgW, s_aug, s_ite, s_ret, s_asrt, x_nil, x_cons, kf_ret, T4_def, item0, item1, List.set_cons_zero, List.set_cons_succ, List.getElem?_cons_zero, List.getElem?_cons_succ, decide_true, decide_false, not_true_eq_false, not_false_eq_true, Bool.not_true, Bool.not_false, ne_eq, if_true, if_false, Bool.false_eq_true, show ((0:Int) = 0) = True from eq_self 0, show ((1:Int) = 0) = False from by decide, show ((0:Int) = 1) = False from by decide, show ((1:Int)=1) = True from eq_self 1, f_mpf_pow_int, kT0, pos]
  · have hm0 : m ≠ 0 := by omega
    rw [rep_fin hs hm h1] at pos ⊢
    rw [goP]
    simp -implicitDefEqProofs only [b1_some, b2_some, ob_some, vget_int, vget_str, vget_bool, vget_none, vget_tup, vget_lst, vget_rep, vneg_int, t_int, t_bool, t_none, vnot_int, vnot_bool, vnot_none, bo_add, bo_sub, bo_mul, bo_div, bo_mod, bo_pow, bo_shl, bo_shr, bo_and, bo_xor, vc_eq, vc_ne, vc_lt, vc_le, vc_gt, vc_ge, vc_seq, vc_req, vc_rne, c2_some, kc_some, ktup_some, klst_some, vbits_int, vint_int, vint_bool, visint_int, vidx_tup, vidx_lst, vshift_str, vdm_int, kand_int, kand_bool, kand_t, kand_f, kor_int, kor_bool, kor_none, kor_t, kor_f, kif_bool, kif_t, kif_f, kite_int, kite_bool, kite_none, kt_t, kt_f, kont_next, kont_ret, e_none, e_bool, e_int, e_str, e_var, e_g0, e_g1, e_g2, e_g8, e_g9, e_g10, e_g11, e_g12, e_bin, e_neg, e_not, e_one, e_and, e_or, e_cmp, e_ite, e_tup, e_lst, e_idx, e_shift, e_call, e_bits, e_toint, e_isint, e_dm, es_nil, es_cons, ka_int, ka_bool, ka_none, ka_rep, ob_none, kr_some, kT_2, kT_3, kT_4, kW_2, kW_3, kasrt_t, s_asg, s_asgC, s_asgT, s_asgU, s_asgW, s_aug, s_ite, s_ret, s_asrt, x_nil, x_cons, kf_ret, T4_def, item0, item1, List.set_cons_zero, List.set_cons_succ, List.getElem?_cons_zero, List.getElem?_cons_succ, decide_true, decide_false, not_true_eq_false, not_false_eq_true, Bool.not_true, Bool.not_false, ne_eq, if_true, if_false, Bool.false_eq_true, show ((0:Int) = 0) = True from eq_self 0, show ((1:Int) = 0) = False from by decide, show ((0:Int) = 1) = False from by decide, show ((1:Int)=1) = True from eq_self 1, f_mpf_pow_int, hm0, pos]
theorem c_pow2 (k : Nat) {d : Dyadic} (hd : bitsD d < 1000) : call0 (k + 5) 18 [rep d, .int 2, .int 4000] = some (rep (d * d)) := by
  rcases d_cases' d with rfl | ⟨s, m, e, hs, hm, h1, rfl⟩
  · rw [goP0]
    simp -implicitDefEqProofs only [b1_some, b2_some, ob_some, vget_int, vget_str, vget_bool, vget_none, vget_tup, vget_lst, vget_rep, vneg_int, t_int, t_bool, t_none, vnot_int, vnot_bool, vnot_none, bo_add, bo_sub, bo_mul, bo_div, bo_mod, bo_pow, bo_shl, bo_shr, bo_and, bo_xor, vc_eq, vc_ne, vc_lt, vc_le, vc_gt, vc_ge, vc_seq, vc_req, vc_rne, c2_some, kc_some, ktup_some, klst_some, vbits_int, vint_int, vint_bool, visint_int, vidx_tup, vidx_lst, vshift_str, vdm_int, kand_int, kand_bool, kand_t, kand_f, kor_int, kor_bool, kor_none, kor_t, kor_f, kif_bool, kif_t, kif_f, kite_int, kite_bool, kite_none, kt_t, kt_f, kont_next, kont_ret, e_none, e_bool, e_int, e_str, e_var, e_g0, e_g1, e_g2, e_g8, e_g9, e_g10, e_g11, e_g12, e_bin, e_neg, e_not, e_one, e_and, e_or, e_cmp, e_ite, e_tup, e_lst, e_idx, e_shift, e_call, e_bits, e_toint, e_isint, e_dm, es_nil, es_cons, ka_int, ka_bool, ka_none, ka_rep, ob_none, kr_some, kT_2, kT_3, kT_4, kW_2, kW_3, kasrt_t, s_asg, s_asgC, s_asgT, s_asgU, s_asgW, s_aug, s_ite, s_ret, s_asrt, x_nil, x_cons, kf_ret, T4_def, item0, item1, List.set_cons_zero, List.set_cons_succ, List.getElem?_cons_zero, List.getElem?_cons_succ, decide_true, decide_false, not_true_eq_false, not_false_eq_true, Bool.not_true, Bool.not_false, ne_eq, if_true, if_false, Bool.false_eq_true, show ((0:Int) = 0) = True from eq_self 0, show ((1:Int) = 0) = False from by decide, show ((0:Int) = 1) = False from by decide, show ((1:Int)=1) = True from eq_self 1, f_mpf_pow_int, kT0, p20, p21, p22, Dyadic.mul_zero]
  · have hm0 : m ≠ 0 := by omega
    rw [bitsD_mk hs h1] at hd
    have ok : mulOk m m = true := mulOk_of (by omega) (by omega)
    have e2 : mkD ((1 - 2 * s) * m) e * mkD ((1 - 2 * s) * m) e = mkD ((1 - 2 * 0) * (m * m)) (e + e) := by
      rw [mkD_mul]; congr 1; rcases hs with rfl | rfl <;> grind
    rw [e2]
    by_cases hmm : m * m = 1
    · rw [rep_fin hs hm h1, goP, rep_fin (.inl rfl) (by omega) (by omega), hmm]
      simp -implicitDefEqProofs only [b1_some, b2_some, ob_some, vget_int, vget_str, vget_bool, vget_none, vget_tup, vget_lst, vget_rep, vneg_int, t_int, t_bool, t_none, vnot_int, vnot_bool, vnot_none, bo_add, bo_sub, bo_mul, bo_div, bo_mod, bo_pow, bo_shl, bo_shr, bo_and, bo_xor, vc_eq, vc_ne, vc_lt, vc_le, vc_gt, vc_ge, vc_seq, vc_req, vc_rne, c2_some, kc_some, ktup_some, klst_some, vbits_int, vint_int, vint_bool, visint_int, vidx_tup, vidx_lst, vshift_str, vdm_int, kand_int, kand_bool, kand_t, kand_f, kor_int, kor_bool, kor_none, kor_t, kor_f, kif_bool, kif_t, kif_f, kite_int, kite_bool, kite_none, kt_t, kt_f, kont_next, kont_ret, e_none, e_bool, e_int, e_str, e_var, e_g0, e_g1, e_g2, e_g8, e_g9, e_g10, e_g11, e_g12, e_bin, e_neg, e_not, e_one, e_and, e_or, e_cmp, e_ite, e_tup, e_lst, e_idx, e_shift, e_call, e_bits, e_toint, e_isint, e_dm, es_nil, es_cons, ka_int, ka_bool, ka_none, ka_rep, ob_none, kr_some, kT_2, kT_3, kT_4, kW_2, kW_3, kasrt_t, s_asg, s_asgC, s_asgT, s_asgU, s_asgW, s_aug, s_ite, s_ret, s_asrt, x_nil, x_cons, kf_ret, T4_def, item0, item1, List.set_cons_zero, List.set_cons_succ, List.getElem?_cons_zero, List.getElem?_cons_succ, decide_true, decide_false, not_true_eq_false, not_false_eq_true, Bool.not_true, Bool.not_false, ne_eq, if_true, if_false, Bool.false_eq_true, show ((0:Int) = 0) = True from eq_self 0, show ((1:Int) = 0) = False from by decide, show ((0:Int) = 1) = False from by decide, show ((1:Int)=1) = True from eq_self 1, f_mpf_pow_int, hm0, p20, p21, p22, ok, hmm]
      rfl
    · have hc : 0 ≤ (intBits m : Int) + intBits m - 2 := by have := bits_pos hm0; omega
      have nn := c_norm0 (k + 1) (s := 0) (m := m * m) (e := e + e) (prec := 4000) (rnd := "d") (.inl rfl) (Int.le_of_lt (Int.mul_pos hm hm)) rn_d (by have := bits_mul_hi m m; omega)
      rw [rep_fin hs hm h1, goP]
      simp -implicitDefEqProofs only [b1_some, b2_some, ob_some, vget_int, vget_str, vget_bool, vget_none, vget_tup, vget_lst, vget_rep, vneg_int, t_int, t_bool, t_none, vnot_int, vnot_bool, vnot_none, bo_add, bo_sub, bo_mul, bo_div, bo_mod, bo_pow, bo_shl, bo_shr, bo_and, bo_xor, vc_eq, vc_ne, vc_lt, vc_le, vc_gt, vc_ge, vc_seq, vc_req, vc_rne, c2_some, kc_some, ktup_some, klst_some, vbits_int, vint_int, vint_bool, visint_int, vidx_tup, vidx_lst, vshift_str, vdm_int, kand_int, kand_bool, kand_t, kand_f, kor_int, kor_bool, kor_none, kor_t, kor_f, kif_bool, kif_t, kif_f, kite_int, kite_bool, kite_none, kt_t, kt_f, kont_next, kont_ret, e_none, e_bool, e_int, e_str, e_var, e_g0, e_g1, e_g2, e_g8, e_g9, e_g10, e_g11, e_g12, e_bin, e_neg, e_not, e_one, e_and, e_or, e_cmp, e_ite, e_tup, e_lst, e_idx, e_shift, e_call, e_bits, e_toint, e_isint, e_dm, es_nil, es_cons, ka_int, ka_bool, ka_none, ka_rep, ob_none, kr_some, kT_2, kT_3, kT_4, kW_2, kW_3, kasrt_t, s_asg, s_asgC, s_asgT, s_asgU, s_asgW, s_aug, s_ite, s_ret, s_asrt, x_nil, x_cons, kf_ret, T4_def, item0, item1, List.set_cons_zero, List.set_cons_succ, List.getElem?_cons_zero, List.getElem?_cons_succ, decide_true, decide_false, not_true_eq_false, not_false_eq_true, Bool.not_true, Bool.not_false, ne_eq, if_true, if_false, Bool.false_eq_true, show ((0:Int) = 0) = True from eq_self 0, show ((1:Int) = 0) = False from by decide, show ((0:Int) = 1) = False from by decide, show ((1:Int)=1) = True from eq_self 1, f_mpf_pow_int, hm0, p20, p21, p22, ok, hmm, hc, bits_sq hm, nn]
theorem c_pow3 (k : Nat) {d : Dyadic} {n : Nat} (hb : bitsD d * (n + 3) < 1000) (hn : n < 1000) : call0 (k + 5) 18 [rep d, .int ((n + 3 : Nat) : Int), .int 4000] = some (rep (d ^ (n + 3))) := by
  have l0 : (((n + 3 : Nat) : Int) = 0) = False := by simp only [eq_iff_iff, iff_false]; omega
  have l1 : (((n + 3 : Nat) : Int) = 1) = False := by simp only [eq_iff_iff, iff_false]; omega
  have l2 : (((n + 3 : Nat) : Int) = 2) = False := by simp only [eq_iff_iff, iff_false]; omega
  have l3 : (((n + 3 : Nat) : Int) = -1) = False := by simp only [eq_iff_iff, iff_false]; omega
  have l4 : (((n + 3 : Nat) : Int) < 0) = False := by simp only [eq_iff_iff, iff_false]; omega
  have ln : (0 : Int) ≤ ((n + 3 : Nat) : Int) := by omega
  rcases d_cases' d with rfl | ⟨s, m, e, hs, hm, h1, rfl⟩
  · have z0 : Builtin.bitAnd 0 ((n + 3 : Nat) : Int) = 0 := by rw [bitAnd_comm, bitAnd_zero]
    have m0 : mulOk 0 ((n + 3 : Nat) : Int) = true := by unfold mulOk; rw [bits_zero]; simp
    have h01 : ((0 : Int) < 1000) = True := by decide
    have pw : powOk 0 ((n + 3 : Nat) : Int) = true := by unfold powOk; rw [bits_zero]; simp only [ln, decide_true, Bool.true_and, Int.natCast_zero, Int.zero_mul]; decide
    have pz : (0 : Int) ^ (n + 3) = 0 := by rw [Int.pow_succ, Int.mul_zero]
    have nn := c_norm0 (k + 1) (s := 0) (m := 0) (e := 0) (prec := 4000) (rnd := "d") (.inl rfl) (by decide) rn_d (by rw [bits_zero]; decide)
    rw [Int.mul_zero, mkD_zero] at nn
    rw [goP0, show (0 : Dyadic) ^ (n + 3) = 0 by rw [Dyadic.pow_succ, Dyadic.mul_zero]]
    simp -implicitDefEqProofs only [b1_some, b2_some, ob_some, vget_int, vget_str, vget_bool, vget_none, vget_tup, vget_lst, vget_rep, vneg_int, t_int, t_bool, t_none, vnot_int, vnot_bool, vnot_none, bo_add, bo_sub, bo_mul, bo_div, bo_mod, bo_pow, bo_shl, bo_shr, bo_and, bo_xor, vc_eq, vc_ne, vc_lt, vc_le, vc_gt, vc_ge, vc_seq, vc_req, vc_rne, c2_some, kc_some, ktup_some, klst_some, vbits_int, vint_int, vint_bool, visint_int, vidx_tup, vidx_lst, vshift_str, vdm_int, kand_int, kand_bool, kand_t, kand_f, kor_int, kor_bool, kor_none, kor_t, kor_f, kif_bool, kif_t, kif_f, kite_int, kite_bool, kite_none, kt_t, kt_f, kont_next, kont_ret, e_none, e_bool, e_int, e_str, e_var, e_g0, e_g1, e_g2, e_g8, e_g9, e_g10, e_g11, e_g12, e_bin, e_neg, e_not, e_one, e_and, e_or, e_cmp, e_ite, e_tup, e_lst, e_idx, e_shift, e_call, e_bits, e_toint, e_isint, e_dm, es_nil, es_cons, ka_int, ka_bool, ka_none, ka_rep, ob_none, kr_some, kT_2, kT_3, kT_4, kW_2, kW_3, kasrt_t, s_asg, s_asgC, s_asgT, s_asgU, s_asgW, s_aug, s_ite, s_ret, s_asrt, x_nil, x_cons, kf_ret, T4_def, item0, item1, List.set_cons_zero, List.set_cons_succ, List.getElem?_cons_zero, List.getElem?_cons_succ, decide_true, decide_false, not_true_eq_false, not_false_eq_true, Bool.not_true, Bool.not_false, ne_eq, if_true, if_false, Bool.false_eq_true, show ((0:Int) = 0) = True from eq_self 0, show ((1:Int) = 0) = False from by decide, show ((0:Int) = 1) = False from by decide, show ((1:Int)=1) = True from eq_self 1, f_mpf_pow_int, kT0, l0, l1, l2, l3, l4, z0, m0, Int.zero_mul, h01, pw, Int.toNat_natCast, pz, nn]
  · have hm0 : m ≠ 0 := by omega
    rw [bitsD_mk hs h1] at hb
    have hbm : intBits m < 1000 := Nat.lt_of_le_of_lt (Nat.le_mul_of_pos_right _ (by omega)) hb
    have key : mkD ((1 - 2 * s) * m) e ^ (n + 3) = mkD ((1 - 2 * Builtin.bitAnd s ((n + 3 : Nat) : Int)) * m ^ (n + 3)) (e * ((n + 3 : Nat) : Int)) := by rw [mkD_pow, (rs_pow hs m (n + 3)).2]
    have hrs := (rs_pow hs m (n + 3)).1
    have h1000 : (intBits m : Int) * ((n + 3 : Nat) : Int) < 1000 := by
      rw [← Int.natCast_mul]; omega
    have ln64 : intBits ((n + 3 : Nat) : Int) ≤ 64 := intBits_le_64 (by omega) (by omega)
    have ok : ∀ b : Int, mulOk b ((n + 3 : Nat) : Int) = true := fun b => by unfold mulOk; simp only [ln64, decide_true, Bool.or_true, Bool.true_or]
    rw [key]
    by_cases hm1 : m = 1
    · subst hm1
      rw [show (1 : Int) ^ (n + 3) = 1 from Int.one_pow, rep_fin hrs (by decide) (by decide), rep_fin hs hm h1, goP]
      simp -implicitDefEqProofs only [b1_some, b2_some, ob_some, vget_int, vget_str, vget_bool, vget_none, vget_tup, vget_lst, vget_rep, vneg_int, t_int, t_bool, t_none, vnot_int, vnot_bool, vnot_none, bo_add, bo_sub, bo_mul, bo_div, bo_mod, bo_pow, bo_shl, bo_shr, bo_and, bo_xor, vc_eq, vc_ne, vc_lt, vc_le, vc_gt, vc_ge, vc_seq, vc_req, vc_rne, c2_some, kc_some, ktup_some, klst_some, vbits_int, vint_int, vint_bool, visint_int, vidx_tup, vidx_lst, vshift_str, vdm_int, kand_int, kand_bool, kand_t, kand_f, kor_int, kor_bool, kor_none, kor_t, kor_f, kif_bool, kif_t, kif_f, kite_int, kite_bool, kite_none, kt_t, kt_f, kont_next, kont_ret, e_none, e_bool, e_int, e_str, e_var, e_g0, e_g1, e_g2, e_g8, e_g9, e_g10, e_g11, e_g12, e_bin, e_neg, e_not, e_one, e_and, e_or, e_cmp, e_ite, e_tup, e_lst, e_idx, e_shift, e_call, e_bits, e_toint, e_isint, e_dm, es_nil, es_cons, ka_int, ka_bool, ka_none, ka_rep, ob_none, kr_some, kT_2, kT_3, kT_4, kW_2, kW_3, kasrt_t, s_asg, s_asgC, s_asgT, s_asgU, s_asgW, s_aug, s_ite, s_ret, s_asrt, x_nil, x_cons, kf_ret, T4_def, item0, item1, List.set_cons_zero, List.set_cons_succ, List.getElem?_cons_zero, List.getElem?_cons_succ, decide_true, decide_false, not_true_eq_false, not_false_eq_true, Bool.not_true, Bool.not_false, ne_eq, if_true, if_false, Bool.false_eq_true, show ((0:Int) = 0) = True from eq_self 0, show ((1:Int) = 0) = False from by decide, show ((0:Int) = 1) = False from by decide, show ((1:Int)=1) = True from eq_self 1, f_mpf_pow_int, l0, l1, l2, l3, l4, ok]
      rfl
    · have pw : powOk m ((n + 3 : Nat) : Int) = true := by unfold powOk; simp only [ln, decide_true, Bool.true_and, decide_eq_true_eq]; omega
      have nn := c_norm0 (k + 1) (s := Builtin.bitAnd s ((n + 3 : Nat) : Int)) (m := m ^ (n + 3)) (e := e * ((n + 3 : Nat) : Int)) (prec := 4000) (rnd := "d") hrs (Int.le_of_lt (pow_pos' hm _)) rn_d (by have := bits_pow m (n + 3); omega)
      rw [rep_fin hs hm h1, goP]
      simp -implicitDefEqProofs only [b1_some, b2_some, ob_some, vget_int, vget_str, vget_bool, vget_none, vget_tup, vget_lst, vget_rep, vneg_int, t_int, t_bool, t_none, vnot_int, vnot_bool, vnot_none, bo_add, bo_sub, bo_mul, bo_div, bo_mod, bo_pow, bo_shl, bo_shr, bo_and, bo_xor, vc_eq, vc_ne, vc_lt, vc_le, vc_gt, vc_ge, vc_seq, vc_req, vc_rne, c2_some, kc_some, ktup_some, klst_some, vbits_int, vint_int, vint_bool, visint_int, vidx_tup, vidx_lst, vshift_str, vdm_int, kand_int, kand_bool, kand_t, kand_f, kor_int, kor_bool, kor_none, kor_t, kor_f, kif_bool, kif_t, kif_f, kite_int, kite_bool, kite_none, kt_t, kt_f, kont_next, kont_ret, e_none, e_bool, e_int, e_str, e_var, e_g0, e_g1, e_g2, e_g8, e_g9, e_g10, e_g11, e_g12, e_bin, e_neg, e_not, e_one, e_and, e_or, e_cmp, e_ite, e_tup, e_lst, e_idx, e_shift, e_call, e_bits, e_toint, e_isint, e_dm, es_nil, es_cons, ka_int, ka_bool, ka_none, ka_rep, ob_none, kr_some, kT_2, kT_3, kT_4, kW_2, kW_3, kasrt_t, s_asg, s_asgC, s_asgT, s_asgU, s_asgW, s_aug, s_ite, s_ret, s_asrt, x_nil, x_cons, kf_ret, T4_def, item0, item1, List.set_cons_zero, List.set_cons_succ, List.getElem?_cons_zero, List.getElem?_cons_succ, decide_true, decide_false, not_true_eq_false, not_false_eq_true, Bool.not_true, Bool.not_false, ne_eq, if_true, if_false, Bool.false_eq_true, show ((0:Int) = 0) = True from eq_self 0, show ((1:Int) = 0) = False from by decide, show ((0:Int) = 1) = False from by decide, show ((1:Int)=1) = True from eq_self 1, f_mpf_pow_int, hm0, l0, l1, l2, l3, l4, hm1, ok, h1000, pw, Int.toNat_natCast, nn]
theorem c_pow (k : Nat) {d : Dyadic} {n : Nat} (hb : bitsD d * n < 1000) (hd : bitsD d < 1000) (hn : n < 1000) : call0 (k + 5) 18 [rep d, .int n, .int 4000] = some (rep (d ^ n)) := by
  match n, hb, hn with
  | 0, _, _ => rw [Dyadic.pow_zero]; exact c_pow0 k d
  | 1, _, _ => rw [Dyadic.pow_succ, Dyadic.pow_zero, Dyadic.one_mul]; exact c_pow1 k hd
  | 2, _, _ => rw [Dyadic.pow_succ, Dyadic.pow_succ, Dyadic.pow_zero, Dyadic.one_mul]; exact c_pow2 k hd
  | n + 3, hb, hn => exact c_pow3 k hb (by omega)
end Mine

end
section -- P7
open PySem PySem.W PyProof.Rows
set_option maxRecDepth 10000
set_option maxHeartbeats 400000
set_option linter.unusedSimpArgs false
namespace Mine
open Builtin.Int (intBits)

theorem goDt (k : Nat) (a b c d a' b' c' d' : Int) (r : PySem.Str) : call0 (k + 4) 17 [.tup [.int a, .int b, .int c, .int d], .tup [.int a', .int b', .int c', .int d'], .int 4000, .str r] = kf (exs gt0 sh0 (call0 (k + 3)) f_mpf_div.body [.tup [.int a, .int b, .int c, .int d], .tup [.int a', .int b', .int c', .int d'], .int 4000, .str r, .undef, .undef, .undef, .undef, .undef, .undef, .undef, .undef, .undef, .undef, .undef, .undef, .undef, .undef, .undef] none) := rfl
theorem goD0 (k : Nat) (y : Dyadic) (r : PySem.Str) : call0 (k + 4) 17 [rep 0, rep y, .int 4000, .str r] = kf (exs gt0 sh0 (call0 (k + 3)) f_mpf_div.body [rep 0, rep y, .int 4000, .str r, .undef, .undef, .undef, .undef, .undef, .undef, .undef, .undef, .undef, .undef, .undef, .undef, .undef, .undef, .undef] none) := rfl

theorem divOk_of {b : Int} (h : b ≠ 0) (hb : intBits b ≤ 8000) : divOk b = true := by
  unfold divOk
  have h3 : intBits b = b.natAbs.log2 + 1 := by unfold intBits; simp [h]
  have h4 : (b != 0) = true := by simpa using h
  rw [h4, Bool.true_and, decide_eq_true_eq]; omega

theorem nan_ne {t m' e' b : Int} (h : 0 < m') : vcmp .Eq (.tup [.int t, .int m', .int e', .int b]) (.tup [.int 0, .int 0, .int (-123), .int (-1)]) = some (.bool false) := by
  have : ¬ ([t, m', e', b] = [0, 0, -123, -1]) := by intro h'; injection h' with _ h'; injection h' with h' _; omega
  show some (V.bool (decide ([t, m', e', b] = [0, 0, -123, -1]))) = _
  rw [decide_eq_false this]

/-- an exact quotient -/
theorem c_div (k : Nat) {x y z : Dyadic} {rnd : PySem.Str} (hr : Rn rnd) (hy : y ≠ 0) (hxy : x = y * z) (bx : bitsD x ≤ 3000) (by_ : bitsD y ≤ 3000) (hz : bitsD z ≤ 3000) : call0 (k + 4) 17 [rep x, rep y, .int 4000, .str rnd] = some (rep z) := by
  rcases d_cases' y with rfl | ⟨t, m', e', ht, hm', h1', hye⟩
  · exact absurd rfl hy
  rcases d_cases' z with rfl | ⟨s, m, e, hs, hm, h1, hze⟩
  · have hx : x = 0 := by rw [hxy, Dyadic.mul_zero]
    subst hx
    have hry : rep y = .tup [.int t, .int m', .int e', .int (intBits m')] := by rw [hye, rep_fin ht hm' h1']
    have kTy : ∀ (a b c d : Nat) (σ : List V), kT [a, b, c, d] σ (rep y) = some (.next ((((σ.set a (.int t)).set b (.int m')).set c (.int e')).set d (.int (intBits m'))) none) := fun _ _ _ _ _ => by rw [hry]; rfl
    have nn : vcmp .Eq (rep y) (.tup [.int 0, .int 0, .int (-123), .int (-1)]) = some (.bool false) := by rw [hry]; exact nan_ne hm'
    have y0 : (y = 0) = False := by simp only [hy]
    have e00 : ((0 : Dyadic) = 0) = True := eq_self _
    have hm0' : m' ≠ 0 := by omega
    rw [goD0]
    simp -implicitDefEqProofs only [b1_some, b2_some, ob_some, vget_int, vget_str, vget_bool, vget_none, vget_tup, vget_lst, vget_rep, vneg_int, t_int, t_bool, t_none, vnot_int, vnot_bool, vnot_none, bo_add, bo_sub, bo_mul, bo_div, bo_mod, bo_pow, bo_shl, bo_shr, bo_and, bo_xor, vc_eq, vc_ne, vc_lt, vc_le, vc_gt, vc_ge, vc_seq, vc_req, vc_rne, c2_some, kc_some, ktup_some, klst_some, vbits_int, vint_int, vint_bool, visint_int, vidx_tup, vidx_lst, vshift_str, vdm_int, kand_int, kand_bool, kand_t, kand_f, kor_int, kor_bool, kor_none, kor_t, kor_f, kif_bool, kif_t, kif_f, kite_int, kite_bool, kite_none, kt_t, kt_f, kont_next, kont_ret, e_none, e_bool, e_int, e_str, e_var, e_g0, e_g1, e_g2, e_g8, e_g9, e_g10, e_g11, e_g12, e_bin, e_neg, e_not, e_one, e_and, e_or, e_cmp, e_ite, e_tup, e_lst, e_idx, e_shift, e_call, e_bits, e_toint, e_isint, e_dm, es_nil, es_cons, ka_int, ka_bool, ka_none, ka_rep, ob_none, kr_some, kT_2, kT_3, kT_4, kW_2, kW_3, kasrt_t, s_asg, s_asgC, s_asgT, s_asgU, s_asgW, s_aug, s_ite, s_ret, s_asrt, x_nil, x_cons, kf_ret, T4_def, item0, item1, List.set_cons_zero, List.set_cons_succ, List.getElem?_cons_zero, List.getElem?_cons_succ, decide_true, decide_false, not_true_eq_false, not_false_eq_true, Bool.not_true, Bool.not_false, ne_eq, if_true, if_false, Bool.false_eq_true, show ((0:Int) = 0) = True from eq_self 0, show ((1:Int) = 0) = False from by decide, show ((0:Int) = 1) = False from by decide, show ((1:Int)=1) = True from eq_self 1, f_mpf_div, kT0, kTy, nn, y0, e00, hm0']
  · obtain ⟨hsu, hsv⟩ := xor_sg ht hs
    have hmul : (0 : Int) < m' * m := Int.mul_pos hm' hm
    have hxe : x = mkD ((1 - 2 * Builtin.bitXor t s) * (m' * m)) (e' + e) := by
      rw [hxy, hye, hze, mkD_mul, hsv]; congr 1; grind
    have hxm : (m' * m) % 2 = 1 := mul_odd h1' h1
    have hne : m' * m ≠ 0 := by omega
    have hm0 : m ≠ 0 := by omega
    have hm0' : m' ≠ 0 := by omega
    have bx' : intBits (m' * m) ≤ 3000 := by rw [hxe, bitsD_mk hsu hxm] at bx; exact bx
    have by' : intBits m' ≤ 3000 := by rw [hye, bitsD_mk ht h1'] at by_; exact by_
    have bz' : intBits m ≤ 3000 := by rw [hze, bitsD_mk hs h1] at hz; exact hz
    have lo := bits_mul_lo hm0' hm0
    have hi := bits_mul_hi m' m
    have hsx : Builtin.bitXor (Builtin.bitXor t s) t = s := by
      rcases ht with rfl | rfl <;> rcases hs with rfl | rfl <;> decide
    have ee : e' + e - e' = e := by omega
    rw [hxe, hye, rep_fin hsu hmul hxm, rep_fin ht hm' h1', goDt, hze]
    by_cases hm1 : m' = 1
    · subst hm1
      rw [Int.one_mul] at *
      have nn := c_norm0 k (s := s) (m := m) (e := e) (prec := 4000) (rnd := rnd) hs (by omega) hr (by omega)
      simp -implicitDefEqProofs only [b1_some, b2_some, ob_some, vget_int, vget_str, vget_bool, vget_none, vget_tup, vget_lst, vget_rep, vneg_int, t_int, t_bool, t_none, vnot_int, vnot_bool, vnot_none, bo_add, bo_sub, bo_mul, bo_div, bo_mod, bo_pow, bo_shl, bo_shr, bo_and, bo_xor, vc_eq, vc_ne, vc_lt, vc_le, vc_gt, vc_ge, vc_seq, vc_req, vc_rne, c2_some, kc_some, ktup_some, klst_some, vbits_int, vint_int, vint_bool, visint_int, vidx_tup, vidx_lst, vshift_str, vdm_int, kand_int, kand_bool, kand_t, kand_f, kor_int, kor_bool, kor_none, kor_t, kor_f, kif_bool, kif_t, kif_f, kite_int, kite_bool, kite_none, kt_t, kt_f, kont_next, kont_ret, e_none, e_bool, e_int, e_str, e_var, e_g0, e_g1, e_g2, e_g8, e_g9, e_g10, e_g11, e_g12, e_bin, e_neg, e_not, e_one, e_and, e_or, e_cmp, e_ite, e_tup, e_lst, e_idx, e_shift, e_call, e_bits, e_toint, e_isint, e_dm, es_nil, es_cons, ka_int, ka_bool, ka_none, ka_rep, ob_none, kr_some, kT_2, kT_3, kT_4, kW_2, kW_3, kasrt_t, s_asg, s_asgC, s_asgT, s_asgU, s_asgW, s_aug, s_ite, s_ret, s_asrt, x_nil, x_cons, kf_ret, T4_def, item0, item1, List.set_cons_zero, List.set_cons_succ, List.getElem?_cons_zero, List.getElem?_cons_succ, decide_true, decide_false, not_true_eq_false, not_false_eq_true, Bool.not_true, Bool.not_false, ne_eq, if_true, if_false, Bool.false_eq_true, show ((0:Int) = 0) = True from eq_self 0, show ((1:Int) = 0) = False from by decide, show ((0:Int) = 1) = False from by decide, show ((1:Int)=1) = True from eq_self 1, f_mpf_div, hm0, hsx, ee, nn]
    · obtain ⟨E, hE⟩ : ∃ E : Nat, (4000 : Int) - (intBits (m' * m) : Int) + (intBits m' : Int) + 5 = E := ⟨((4000 : Int) - (intBits (m' * m) : Int) + (intBits m' : Int) + 5).toNat, by omega⟩
      have hE5 : ((E : Int) < 5) = False := by simp only [eq_iff_iff, iff_false]; omega
      have p40 : ((4000 : Int) = 0) = False := by decide
      have ok1 : shlOk (m' * m) (E : Int) = true := shlOk_of (by omega) (by omega) (by omega)
      have ok2 : divOk m' = true := divOk_of hm0' (by omega)
      have hq : (m' * m * 2 ^ E).fdiv m' = m * 2 ^ E := by rw [Int.mul_assoc, Int.mul_comm, Int.mul_fdiv_cancel _ hm0']
      have hrm : (m' * m * 2 ^ E).fmod m' = 0 := by rw [Int.mul_assoc, Int.mul_fmod_right]
      have hbq : intBits (m * 2 ^ E) = intBits m + E := bits_mul_pow hm0 E
      obtain ⟨n, hn⟩ : ∃ n : Nat, (intBits (m * 2 ^ E) : Int) = 4000 + (n + 1) := ⟨intBits (m * 2 ^ E) - 4001, by omega⟩
      have hdiv : m * 2 ^ E = (m * 2 ^ (E - (n + 1))) * 2 ^ (n + 1) := by
        rw [Int.mul_assoc, ← Int.pow_add]; congr 2; omega
      have nn := c_normalize k (s := s) (m := m * 2 ^ E) (e := e - E) (prec := 4000) (rnd := rnd) hs (Int.le_of_lt (Int.mul_pos hm (pow_pos_int E))) hr (.inr ⟨m * 2 ^ (E - (n + 1)), n, hdiv, hn⟩)
      rw [← Int.mul_assoc, mkD_shift, show e - (E : Int) + E = e by omega] at nn
      simp -implicitDefEqProofs only [b1_some, b2_some, ob_some, vget_int, vget_str, vget_bool, vget_none, vget_tup, vget_lst, vget_rep, vneg_int, t_int, t_bool, t_none, vnot_int, vnot_bool, vnot_none, bo_add, bo_sub, bo_mul, bo_div, bo_mod, bo_pow, bo_shl, bo_shr, bo_and, bo_xor, vc_eq, vc_ne, vc_lt, vc_le, vc_gt, vc_ge, vc_seq, vc_req, vc_rne, c2_some, kc_some, ktup_some, klst_some, vbits_int, vint_int, vint_bool, visint_int, vidx_tup, vidx_lst, vshift_str, vdm_int, kand_int, kand_bool, kand_t, kand_f, kor_int, kor_bool, kor_none, kor_t, kor_f, kif_bool, kif_t, kif_f, kite_int, kite_bool, kite_none, kt_t, kt_f, kont_next, kont_ret, e_none, e_bool, e_int, e_str, e_var, e_g0, e_g1, e_g2, e_g8, e_g9, e_g10, e_g11, e_g12, e_bin, e_neg, e_not, e_one, e_and, e_or, e_cmp, e_ite, e_tup, e_lst, e_idx, e_shift, e_call, e_bits, e_toint, e_isint, e_dm, es_nil, es_cons, ka_int, ka_bool, ka_none, ka_rep, ob_none, kr_some, kT_2, kT_3, kT_4, kW_2, kW_3, kasrt_t, s_asg, s_asgC, s_asgT, s_asgU, s_asgW, s_aug, s_ite, s_ret, s_asrt, x_nil, x_cons, kf_ret, T4_def, item0, item1, List.set_cons_zero, List.set_cons_succ, List.getElem?_cons_zero, List.getElem?_cons_succ, decide_true, decide_false, not_true_eq_false, not_false_eq_true, Bool.not_true, Bool.not_false, ne_eq, if_true, if_false, Bool.false_eq_true, show ((0:Int) = 0) = True from eq_self 0, show ((1:Int) = 0) = False from by decide, show ((0:Int) = 1) = False from by decide, show ((1:Int)=1) = True from eq_self 1, f_mpf_div, hne, hm0', hsx, ee, hm1, p40, hE, hE5, ok1, ok2, Int.toNat_natCast, hq, hrm, nn]
end Mine

end
section -- P8
open PySem PySem.W PyProof.Rows
set_option maxRecDepth 10000
set_option maxHeartbeats 400000
set_option linter.unusedSimpArgs false
namespace Mine
open Builtin.Int (intBits)

theorem mkD_inj {z z' e : Int} (h : mkD z e = mkD z' e) : z = z' := by
  have h2 : mkD (z + -z') e = 0 := by rw [← mkD_add, ← mkD_neg, h]; grind
  have := mkD_eq_zero h2
  omega
/-- a multiple of 2^-a, of no more than c bits there -/
noncomputable def Sz (a c : Nat) (d : Dyadic) : Prop := ∃ z : Int, d = mkD z (-a) ∧ intBits z ≤ c
theorem Sz.mono {a c a' c' : Nat} {d : Dyadic} (h : Sz a c d) (ha : a ≤ a') (hc : c + (a' - a) ≤ c') : Sz a' c' d := by
  obtain ⟨z, h1, h2⟩ := h
  refine ⟨z * 2 ^ (a' - a), ?_, ?_⟩
  · rw [mkD_shift, h1]; congr 1; omega
  · by_cases hz : z = 0
    · subst hz; rw [Int.zero_mul, bits_zero]; omega
    · rw [bits_mul_pow hz]; omega
theorem Sz.add {a c : Nat} {x y : Dyadic} (h : Sz a c x) (h' : Sz a c y) : Sz a (c + 1) (x + y) := by
  obtain ⟨z, h1, h2⟩ := h
  obtain ⟨z', h1', h2'⟩ := h'
  exact ⟨z + z', by rw [h1, h1', mkD_add], by have := intBits_add_le h2 h2'; omega⟩
theorem Sz.neg {a c : Nat} {x : Dyadic} (h : Sz a c x) : Sz a c (-x) := by
  obtain ⟨z, h1, h2⟩ := h
  exact ⟨-z, by rw [h1, mkD_neg], by rw [bits_neg]; exact h2⟩
theorem Sz.sub {a c : Nat} {x y : Dyadic} (h : Sz a c x) (h' : Sz a c y) : Sz a (c + 1) (x - y) := by
  have := h.add h'.neg
  rwa [show x + -y = x - y by grind] at this
theorem Sz.mul {a c a' c' : Nat} {x y : Dyadic} (h : Sz a c x) (h' : Sz a' c' y) : Sz (a + a') (c + c') (x * y) := by
  obtain ⟨z, h1, h2⟩ := h
  obtain ⟨z', h1', h2'⟩ := h'
  refine ⟨z * z', ?_, intBits_mul_le h2 h2'⟩
  rw [h1, h1', mkD_mul]; congr 1; omega
theorem Sz.pow {a c : Nat} {x : Dyadic} (h : Sz a c x) (n : Nat) : Sz (a * n) (c * n + 1) (x ^ n) := by
  obtain ⟨z, h1, h2⟩ := h
  refine ⟨z ^ n, ?_, intBits_pow_le h2 n⟩
  rw [h1, mkD_pow]; congr 1; rw [Int.natCast_mul, Int.neg_mul]
theorem Sz.int {n : Int} {c : Nat} (h : intBits n ≤ c) : Sz 0 c (n : Dyadic) := ⟨n, rfl, h⟩
/-- what the size says of an odd form -/
theorem Sz.odd {a c : Nat} {q e : Int} (h : Sz a c (mkD q e)) (hq : q % 2 = 1) : (intBits q : Int) + (e + a) ≤ c ∧ -(a : Int) ≤ e := by
  obtain ⟨z, h1, h2⟩ := h
  have hz0 : z ≠ 0 := by
    rintro rfl
    rw [mkD_zero] at h1
    have := mkD_eq_zero h1; omega
  have : ∃ (t : Nat) (r : Int), r % 2 = 1 ∧ z = r * 2 ^ t := by
    rcases Int.lt_or_le z 0 with hn | hn
    · obtain ⟨t, r, _, h3, _⟩ := tz_int (m := -z) (by omega)
      exact ⟨t, -(2 * r + 1), by omega, by rw [Int.neg_mul, ← h3]; omega⟩
    · obtain ⟨t, r, _, h3, _⟩ := tz_int (m := z) (by omega)
      exact ⟨t, 2 * r + 1, by omega, h3⟩
  obtain ⟨t, r, hr, hz⟩ := this
  have hr0 : r ≠ 0 := by omega
  rw [hz, mkD_shift, mkD_odd hq, mkD_odd hr] at h1
  injection h1 with h3 h4
  subst h3
  rw [hz, bits_mul_pow hr0] at h2
  omega
theorem Sz.bits {a c : Nat} {d : Dyadic} (h : Sz a c d) : bitsD d ≤ c := by
  rcases d_cases' d with rfl | ⟨s, m, e, hs, hm, h1, rfl⟩
  · exact Nat.zero_le _
  · have hq : ((1 - 2 * s) * m) % 2 = 1 := by rcases hs with rfl | rfl <;> omega
    have hb : intBits ((1 - 2 * s) * m) = intBits m := by
      rcases hs with rfl | rfl
      · congr 1; omega
      · rw [show (1 - 2 * 1) * m = -m by omega, bits_neg]
    have := h.odd hq
    rw [hb] at this
    rw [bitsD_mk hs h1]; omega
theorem Sz.bd {a c : Nat} {d : Dyadic} (h : Sz a c d) (ha : a ≤ 10000) (hc : c ≤ 10000) : Bd d := by
  intro s m e hs h1 hd
  subst hd
  have hq : ((1 - 2 * s) * m) % 2 = 1 := by rcases hs with rfl | rfl <;> omega
  have hb : intBits ((1 - 2 * s) * m) = intBits m := by
    rcases hs with rfl | rfl
    · congr 1; omega
    · rw [show (1 - 2 * 1) * m = -m by omega, bits_neg]
  have := h.odd hq
  rw [hb] at this
  omega

noncomputable def dsum : List Dyadic → Dyadic
  | [] => 0
  | d :: r => d + dsum r

theorem loop_run {f : List V → Ow → Option R} {i : Nat} (Inv : List V → List V → Prop)
    (step : ∀ x xs σ, Inv (x :: xs) σ → ∃ σ', f (σ.set i x) none = some (.next σ' none) ∧ Inv xs σ') : ∀ xs σ, Inv xs σ → ∃ σ', loop f i xs σ none = some (.next σ' none) ∧ Inv [] σ'
  | [], σ, h => ⟨σ, rfl, h⟩
  | x :: xs, σ, h => by
    obtain ⟨σ', h1, h2⟩ := step x xs σ h
    obtain ⟨σ'', h3, h4⟩ := loop_run Inv step xs σ' h2
    refine ⟨σ'', ?_, h4⟩
    rw [loop]
    have : (if flat x = true then owBut none i else none) = none := by split <;> rfl
    rw [this, h1]
    exact h3

noncomputable def sumBody : List S := [.asgT [9, 10, 11, 12] (.var 8), .ite (.var 10) [.ite (.and (.var 9) (.one (.not (.var 3)))) [.asg 10 (.neg (.var 10))] [], .asg 13 (.bin .Sub (.var 11) (.var 5)), .ite (.cmp .GtE (.var 11) (.var 5)) [.ite (.and (.cmp .Gt (.var 13) (.var 6)) (.one (.or (.not (.var 4)) (.one (.cmp .Gt (.bin .Sub (.var 13) (.bits (.var 4))) (.var 6)))))) [.asg 4 (.var 10), .asg 5 (.var 11)] [.aug 4 .Add (.bin .LShift (.var 10) (.var 13))]] [.asg 13 (.neg (.var 13)), .ite (.cmp .Gt (.bin .Sub (.var 13) (.var 12)) (.var 6)) [.ite (.not (.var 4)) [.asgW [4, 5] (.tup [(.var 10), (.var 11)])] []] [.asg 4 (.bin .Add (.bin .LShift (.var 4) (.var 13)) (.var 10)), .asg 5 (.var 11)]]] [.ite (.var 11) [.ite (.var 3) [.asg 8 (.call 10 [(.var 8)])] [], .asg 7 (.call 12 [(.or (.var 7) (.one (.glo 8))), (.var 8), (.int 1)])] []]]
theorem goS (k : Nat) (vs : List V) : call0 (k + 3) 14 [.lst vs] = kf (exs gt0 sh0 (call0 (k + 2)) f_mpf_sum.body [.lst vs, .int 0, .str "d", .bool false, .undef, .undef, .undef, .undef, .undef, .undef, .undef, .undef, .undef, .undef] none) := rfl

noncomputable def SumInv (total : Dyadic) (l0 : V) (vs σ : List V) : Prop :=
  ∃ (ds : List Dyadic) (man exp z : Int) (j : Nat) (u8 u9 u10 u11 u12 u13 : V), vs = ds.map rep ∧ σ = [l0, .int 0, .str "d", .bool false, .int man, .int exp, .int 1000000, .none, u8, u9, u10, u11, u12, u13] ∧
    mkD man exp + dsum ds = total ∧ (∀ d ∈ ds, Sz 1000 3000 d) ∧ -1000 ≤ exp ∧ exp ≤ 0 ∧ mkD man exp = mkD z (-1000) ∧ intBits z ≤ 3000 + j ∧ j + ds.length ≤ 100

theorem sum_step (k : Nat) {total : Dyadic} {l0 x : V} {xs σ : List V} (h : SumInv total l0 (x :: xs) σ) : ∃ σ', exs gt0 sh0 (call0 (k + 2)) sumBody (σ.set 8 x) none = some (.next σ' none) ∧ SumInv total l0 xs σ' := by
  obtain ⟨ds, man, exp, z, j, u8, u9, u10, u11, u12, u13, hv, rfl, htot, hsz, he1, he2, hz, hzb, hj⟩ := h
  cases ds with
  | nil => cases hv
  | cons d ds =>
    rw [List.map_cons, List.cons.injEq] at hv
    obtain ⟨rfl, rfl⟩ := hv
    have hd := hsz d (List.mem_cons_self ..)
    have hds : ∀ d ∈ ds, Sz 1000 3000 d := fun e he => hsz e (List.mem_cons_of_mem _ he)
    rw [List.length_cons] at hj
    rw [dsum] at htot
    rcases d_cases' d with rfl | ⟨s, m, e, hs, hm, h1, hde⟩
    · rw [Dyadic.zero_add] at htot
      refine ⟨_, ?_, ds, man, exp, z, j, rep 0, .int 0, .int 0, .int 0, .int 0, u13, rfl, rfl, htot, hds, he1, he2, hz, hzb, by omega⟩
      simp -implicitDefEqProofs only [b1_some, b2_some, ob_some, vget_int, vget_str, vget_bool, vget_none, vget_tup, vget_lst, vget_rep, vneg_int, t_int, t_bool, t_none, vnot_int, vnot_bool, vnot_none, bo_add, bo_sub, bo_mul, bo_div, bo_mod, bo_pow, bo_shl, bo_shr, bo_and, bo_xor, vc_eq, vc_ne, vc_lt, vc_le, vc_gt, vc_ge, vc_seq, vc_req, vc_rne, c2_some, kc_some, ktup_some, klst_some, vbits_int, vint_int, vint_bool, visint_int, vidx_tup, vidx_lst, vshift_str, vdm_int, kand_int, kand_bool, kand_t, kand_f, kor_int, kor_bool, kor_none, kor_t, kor_f, kif_bool, kif_t, kif_f, kite_int, kite_bool, kite_none, kt_t, kt_f, kont_next, kont_ret, e_none, e_bool, e_int, e_str, e_var, e_g0, e_g1, e_g2, e_g8, e_g9, e_g10, e_g11, e_g12, e_bin, e_neg, e_not, e_one, e_and, e_or, e_cmp, e_ite, e_tup, e_lst, e_idx, e_shift, e_call, e_bits, e_toint, e_isint, e_dm, es_nil, es_cons, ka_int, ka_bool, ka_none, ka_rep, ob_none, kr_some, kT_2, kT_3, kT_4, kW_2, kW_3, kasrt_t, s_asg, s_asgC, s_asgT, s_asgU, s_asgW, s_aug, s_ite, s_ret, s_asrt, x_nil, x_cons, kf_ret, T4_def, item0, item1, List.set_cons_zero, List.set_cons_succ, List.getElem?_cons_zero, List.getElem?_cons_succ, decide_true, decide_false, not_true_eq_false, not_false_eq_true, Bool.not_true, Bool.not_false, ne_eq, if_true, if_false, Bool.false_eq_true, show ((0:Int) = 0) = True from eq_self 0, show ((1:Int) = 0) = False from by decide, show ((0:Int) = 1) = False from by decide, show ((1:Int)=1) = True from eq_self 1, sumBody, kT0]
    · have kTd : ∀ (a b c d' : Nat) (σ : List V), kT [a, b, c, d'] σ (rep d) = some (.next ((((σ.set a (.int s)).set b (.int m)).set c (.int e)).set d' (.int (intBits m))) none) := fun _ _ _ _ _ => by rw [hde, rep_fin hs hm h1]; rfl
      have hm0 : m ≠ 0 := by omega
      obtain ⟨xz, hx1, hx2⟩ := hd
      have hbm : bitsD d ≤ 3000 := Sz.bits ⟨xz, hx1, hx2⟩
      rw [hde, bitsD_mk hs h1] at hbm
      have hq : ((1 - 2 * s) * m) % 2 = 1 := by rcases hs with rfl | rfl <;> omega
      have hb : intBits ((1 - 2 * s) * m) = intBits m := by
        rcases hs with rfl | rfl
        · congr 1; omega
        · rw [show (1 - 2 * 1) * m = -m by omega, bits_neg]
      have hod := Sz.odd (q := (1 - 2 * s) * m) (e := e) ⟨xz, by rw [← hde]; exact hx1, hx2⟩ hq
      rw [hb] at hod
      generalize hM : (1 - 2 * s) * m = M at *
      have hMb : intBits M ≤ 3000 := by omega
      have hnew : intBits (z + xz) ≤ 3000 + (j + 1) := by have := intBits_add_le hzb (show intBits xz ≤ 3000 + j by omega); omega
      have hval : mkD man exp + d = mkD (z + xz) (-1000) := by rw [hz, hx1]; exact mkD_add _ _ _
      have htot' : (mkD man exp + d) + dsum ds = total := by rw [← htot]; grind
      have hmanb : intBits man ≤ 3000 + j := by
        have h3 : mkD (man * 2 ^ (exp + 1000).toNat) (-1000) = mkD z (-1000) := by
          rw [mkD_shift, ← hz]; congr 1; omega
        have h4 := mkD_inj h3
        by_cases hmz : man = 0
        · rw [hmz, bits_zero]; omega
        · rw [← h4, bits_mul_pow hmz] at hzb; omega
      have hneg : ∀ (Q : V → Prop), (s = 0 → Q (.int m)) → (s = 1 → Q (.int (-m))) → Q (.int M) := by
        intro Q q0 q1
        rcases hs with rfl | rfl
        · rw [← hM, show (1 - 2 * 0) * m = m by omega]; exact q0 rfl
        · rw [← hM, show (1 - 2 * 1) * m = -m by omega]; exact q1 rfl
      have l13 : ((1000000 : Int) < 0) = False := by decide
      by_cases hge : exp ≤ e
      · obtain ⟨n, hn⟩ : ∃ n : Nat, e = exp + n := ⟨(e - exp).toNat, by omega⟩
        have o1 : e - exp = n := by omega
        have o2 : ((1000000 : Int) < (n : Int)) = False := by simp only [eq_iff_iff, iff_false]; omega
        have sh : shlOk M (n : Int) = true := shlOk_of (by omega) (by omega) (by omega)
        have hv2 : mkD man exp + d = mkD (man + M * 2 ^ n) exp := by rw [hde, hn, ← mkD_shift, mkD_add]
        refine ⟨[l0, .int 0, .str "d", .bool false, .int (man + M * 2 ^ n), .int exp, .int 1000000, .none, rep d, .int s, .int M, .int e, .int (intBits m), .int n], ?_, ds, man + M * 2 ^ n, exp, z + xz, j + 1, _, _, _, _, _, _, rfl, rfl, by rw [← hv2]; exact htot', hds, he1, he2, by rw [← hv2]; exact hval, hnew, by omega⟩
        rcases hs with rfl | rfl
        · have hM' : M = m := by omega
          subst hM'
          simp -implicitDefEqProofs only [b1_some, b2_some, ob_some, vget_int, vget_str, vget_bool, vget_none, vget_tup, vget_lst, vget_rep, vneg_int, t_int, t_bool, t_none, vnot_int, vnot_bool, vnot_none, bo_add, bo_sub, bo_mul, bo_div, bo_mod, bo_pow, bo_shl, bo_shr, bo_and, bo_xor, vc_eq, vc_ne, vc_lt, vc_le, vc_gt, vc_ge, vc_seq, vc_req, vc_rne, c2_some, kc_some, ktup_some, klst_some, vbits_int, vint_int, vint_bool, visint_int, vidx_tup, vidx_lst, vshift_str, vdm_int, kand_int, kand_bool, kand_t, kand_f, kor_int, kor_bool, kor_none, kor_t, kor_f, kif_bool, kif_t, kif_f, kite_int, kite_bool, kite_none, kt_t, kt_f, kont_next, kont_ret, e_none, e_bool, e_int, e_str, e_var, e_g0, e_g1, e_g2, e_g8, e_g9, e_g10, e_g11, e_g12, e_bin, e_neg, e_not, e_one, e_and, e_or, e_cmp, e_ite, e_tup, e_lst, e_idx, e_shift, e_call, e_bits, e_toint, e_isint, e_dm, es_nil, es_cons, ka_int, ka_bool, ka_none, ka_rep, ob_none, kr_some, kT_2, kT_3, kT_4, kW_2, kW_3, kasrt_t, s_asg, s_asgC, s_asgT, s_asgU, s_asgW, s_aug, s_ite, s_ret, s_asrt, x_nil, x_cons, kf_ret, T4_def, item0, item1, List.set_cons_zero, List.set_cons_succ, List.getElem?_cons_zero, List.getElem?_cons_succ, decide_true, decide_false, not_true_eq_false, not_false_eq_true, Bool.not_true, Bool.not_false, ne_eq, if_true, if_false, Bool.false_eq_true, show ((0:Int) = 0) = True from eq_self 0, show ((1:Int) = 0) = False from by decide, show ((0:Int) = 1) = False from by decide, show ((1:Int)=1) = True from eq_self 1, sumBody, kTd, hm0, hge, o1, o2, sh, Int.toNat_natCast]
        · have hM' : -m = M := by omega
          simp -implicitDefEqProofs only [b1_some, b2_some, ob_some, vget_int, vget_str, vget_bool, vget_none, vget_tup, vget_lst, vget_rep, vneg_int, t_int, t_bool, t_none, vnot_int, vnot_bool, vnot_none, bo_add, bo_sub, bo_mul, bo_div, bo_mod, bo_pow, bo_shl, bo_shr, bo_and, bo_xor, vc_eq, vc_ne, vc_lt, vc_le, vc_gt, vc_ge, vc_seq, vc_req, vc_rne, c2_some, kc_some, ktup_some, klst_some, vbits_int, vint_int, vint_bool, visint_int, vidx_tup, vidx_lst, vshift_str, vdm_int, kand_int, kand_bool, kand_t, kand_f, kor_int, kor_bool, kor_none, kor_t, kor_f, kif_bool, kif_t, kif_f, kite_int, kite_bool, kite_none, kt_t, kt_f, kont_next, kont_ret, e_none, e_bool, e_int, e_str, e_var, e_g0, e_g1, e_g2, e_g8, e_g9, e_g10, e_g11, e_g12, e_bin, e_neg, e_not, e_one, e_and, e_or, e_cmp, e_ite, e_tup, e_lst, e_idx, e_shift, e_call, e_bits, e_toint, e_isint, e_dm, es_nil, es_cons, ka_int, ka_bool, ka_none, ka_rep, ob_none, kr_some, kT_2, kT_3, kT_4, kW_2, kW_3, kasrt_t, s_asg, s_asgC, s_asgT, s_asgU, s_asgW, s_aug, s_ite, s_ret, s_asrt, x_nil, x_cons, kf_ret, T4_def, item0, item1, List.set_cons_zero, List.set_cons_succ, List.getElem?_cons_zero, List.getElem?_cons_succ, decide_true, decide_false, not_true_eq_false, not_false_eq_true, Bool.not_true, Bool.not_false, ne_eq, if_true, if_false, Bool.false_eq_true, show ((0:Int) = 0) = True from eq_self 0, show ((1:Int) = 0) = False from by decide, show ((0:Int) = 1) = False from by decide, show ((1:Int)=1) = True from eq_self 1, sumBody, kTd, hm0, hge, o1, o2, hM', sh, Int.toNat_natCast]
      · obtain ⟨n, hn⟩ : ∃ n : Nat, exp = e + n := ⟨(exp - e).toNat, by omega⟩
        have o1 : -(e - exp) = n := by omega
        have o2 : ((1000000 : Int) < (n : Int) - (intBits m : Int)) = False := by simp only [eq_iff_iff, iff_false]; omega
        have sh : shlOk man (n : Int) = true := shlOk_of (by omega) (by omega) (by omega)
        have hv2 : mkD man exp + d = mkD (man * 2 ^ n + M) e := by rw [hde, hn, ← mkD_shift, mkD_add]
        refine ⟨[l0, .int 0, .str "d", .bool false, .int (man * 2 ^ n + M), .int e, .int 1000000, .none, rep d, .int s, .int M, .int e, .int (intBits m), .int n], ?_, ds, man * 2 ^ n + M, e, z + xz, j + 1, _, _, _, _, _, _, rfl, rfl, by rw [← hv2]; exact htot', hds, by omega, by omega, by rw [← hv2]; exact hval, hnew, by omega⟩
        rcases hs with rfl | rfl
        · have hM' : M = m := by omega
          subst hM'
          simp -implicitDefEqProofs only [b1_some, b2_some, ob_some, vget_int, vget_str, vget_bool, vget_none, vget_tup, vget_lst, vget_rep, vneg_int, t_int, t_bool, t_none, vnot_int, vnot_bool, vnot_none, bo_add, bo_sub, bo_mul, bo_div, bo_mod, bo_pow, bo_shl, bo_shr, bo_and, bo_xor, vc_eq, vc_ne, vc_lt, vc_le, vc_gt, vc_ge, vc_seq, vc_req, vc_rne, c2_some, kc_some, ktup_some, klst_some, vbits_int, vint_int, vint_bool, visint_int, vidx_tup, vidx_lst, vshift_str, vdm_int, kand_int, kand_bool, kand_t, kand_f, kor_int, kor_bool, kor_none, kor_t, kor_f, kif_bool, kif_t, kif_f, kite_int, kite_bool, kite_none, kt_t, kt_f, kont_next, kont_ret, e_none, e_bool, e_int, e_str, e_var, e_g0, e_g1, e_g2, e_g8, e_g9, e_g10, e_g11, e_g12, e_bin, e_neg, e_not, e_one, e_and, e_or, e_cmp, e_ite, e_tup, e_lst, e_idx, e_shift, e_call, e_bits, e_toint, e_isint, e_dm, es_nil, es_cons, ka_int, ka_bool, ka_none, ka_rep, ob_none, kr_some, kT_2, kT_3, kT_4, kW_2, kW_3, kasrt_t, s_asg, s_asgC, s_asgT, s_asgU, s_asgW, s_aug, s_ite, s_ret, s_asrt, x_nil, x_cons, kf_ret, T4_def, item0, item1, List.set_cons_zero, List.set_cons_succ, List.getElem?_cons_zero, List.getElem?_cons_succ, decide_true, decide_false, not_true_eq_false, not_false_eq_true, Bool.not_true, Bool.not_false, ne_eq, if_true, if_false, Bool.false_eq_true, show ((0:Int) = 0) = True from eq_self 0, show ((1:Int) = 0) = False from by decide, show ((0:Int) = 1) = False from by decide, show ((1:Int)=1) = True from eq_self 1, sumBody, kTd, hm0, hge, o1, o2, sh, Int.toNat_natCast]
        · have hM' : -m = M := by omega
          simp -implicitDefEqProofs only [b1_some, b2_some, ob_some, vget_int, vget_str, vget_bool, vget_none, vget_tup, vget_lst, vget_rep, vneg_int, t_int, t_bool, t_none, vnot_int, vnot_bool, vnot_none, bo_add, bo_sub, bo_mul, bo_div, bo_mod, bo_pow, bo_shl, bo_shr, bo_and, bo_xor, vc_eq, vc_ne, vc_lt, vc_le, vc_gt, vc_ge, vc_seq, vc_req, vc_rne, c2_some, kc_some, ktup_some, klst_some, vbits_int, vint_int, vint_bool, visint_int, vidx_tup, vidx_lst, vshift_str, vdm_int, kand_int, kand_bool, kand_t, kand_f, kor_int, kor_bool, kor_none, kor_t, kor_f, kif_bool, kif_t, kif_f, kite_int, kite_bool, kite_none, kt_t, kt_f, kont_next, kont_ret, e_none, e_bool, e_int, e_str, e_var, e_g0, e_g1, e_g2, e_g8, e_g9, e_g10, e_g11, e_g12, e_bin, e_neg, e_not, e_one, e_and, e_or, e_cmp, e_ite, e_tup, e_lst, e_idx, e_shift, e_call, e_bits, e_toint, e_isint, e_dm, es_nil, es_cons, ka_int, ka_bool, ka_none, ka_rep, ob_none, kr_some, kT_2, kT_3, kT_4, kW_2, kW_3, kasrt_t, s_asg, s_asgC, s_asgT, s_asgU, s_asgW, s_aug, s_ite, s_ret, s_asrt, x_nil, x_cons, kf_ret, T4_def, item0, item1, List.set_cons_zero, List.set_cons_succ, List.getElem?_cons_zero, List.getElem?_cons_succ, decide_true, decide_false, not_true_eq_false, not_false_eq_true, Bool.not_true, Bool.not_false, ne_eq, if_true, if_false, Bool.false_eq_true, show ((0:Int) = 0) = True from eq_self 0, show ((1:Int) = 0) = False from by decide, show ((0:Int) = 1) = False from by decide, show ((1:Int)=1) = True from eq_self 1, sumBody, kTd, hm0, hge, o1, o2, hM', sh, Int.toNat_natCast]
end Mine

end
section -- P9
open PySem PySem.W PyProof.Rows
set_option maxRecDepth 10000
set_option maxHeartbeats 400000
set_option linter.unusedSimpArgs false
namespace Mine
open Builtin.Int (intBits)

section
variable {cs : Nat → List V → Option V} {σ : List V} {ow : Ow}
theorem s_for {i : Nat} {it : X} {body : List S} {vs : List V} (h : ev gt0 sh0 cs it σ = some (.lst vs)) (hl : vs.length ≤ 2 ^ 22) : ex gt0 sh0 cs (.for_ i it body) σ ow = loop (fun σ ow => exs gt0 sh0 cs body σ ow) i vs σ none := by
  rw [ex, h]
  show ((itemsOf (.lst vs)).bind _) = _
  rw [itemsOf, if_pos (by simpa using hl)]; rfl
theorem s_forR {i : Nat} {xs : List X} {body : List S} {as vs : List V} (h : evs gt0 sh0 cs xs σ = some as) (hr : rangeOf as = some vs) : ex gt0 sh0 cs (.forR i xs body) σ ow = loop (fun σ ow => exs gt0 sh0 cs body σ ow) i vs σ ow := by
  rw [ex, h]
  show ((rangeOf as).bind _) = _
  rw [hr]; rfl
theorem range_n {n : Nat} (h : n ≤ 1000000) : rangeOf [.int n] = some (rangeUp 0 n) := by
  show (if smallR 0 (n : Int) = true then some (rangeUp 0 (n : Int).toNat) else none) = _
  rw [if_pos]
  · simp
  · unfold smallR; simp only [Bool.and_eq_true, decide_eq_true_eq]; omega
theorem e_len {x : X} {vs : List V} (h : ev gt0 sh0 cs x σ = some (.lst vs)) (hl : vs.length ≤ 2 ^ 40) : ev gt0 sh0 cs (.len x) σ = some (.int vs.length) := by
  rw [ev, h]
  show (if decide (vs.length ≤ 2 ^ 40) = true then _ else _) = _
  rw [if_pos (by simpa using hl)]
theorem e_upto {x n : X} {vs : List V} {j : Nat} (h : ev gt0 sh0 cs x σ = some (.lst vs)) (hn : ev gt0 sh0 cs n σ = some (.int j)) (hj : j ≤ 1000000) (hl : vs.length ≤ 2 ^ 22) : ev gt0 sh0 cs (.upto x n) σ = some (.lst (vs.take j)) := by
  rw [ev, h, hn]
  show (if (decide ((0 : Int) ≤ j) && decide ((j : Int) ≤ 1000000) && decide (vs.length ≤ 2 ^ 22)) = true then _ else _) = _
  rw [if_pos]
  · rfl
  · simp only [Bool.and_eq_true, decide_eq_true_eq]; omega
theorem e_compR {elt : X} {i : Nat} {xs : List X} {as vs outs : List V} (h : evs gt0 sh0 cs xs σ = some as) (hr : rangeOf as = some vs) (ho : mapO (fun v => ev gt0 sh0 cs elt (σ.set i v)) vs = some outs) (hf : flats outs = true) : ev gt0 sh0 cs (.compR elt i xs) σ = some (.lst outs) := by
  rw [ev, h]
  show ((rangeOf as).bind _) = _
  rw [hr]
  show ((mapO _ vs).bind _) = _
  rw [ho]
  show (if flats outs = true then _ else _) = _
  rw [if_pos hf]
theorem s_app {i : Nat} {e : X} {vs : List V} {v : V} (h : ev gt0 sh0 cs (.var i) σ = some (.lst vs)) (he : ev gt0 sh0 cs e σ = some v) (hf : flat v = true) (hl : vs.length ≤ 2 ^ 20) : ex gt0 sh0 cs (.app i e) σ (some (i, true)) = some (.next (σ.set i (.lst (vs ++ [v]))) (some (i, true))) := by
  rw [ex, h, he]
  show (if (decide ((some (i, true) : Ow) = some (i, true)) && flat v && decide (vs.length ≤ 2 ^ 20)) = true then _ else _) = _
  rw [if_pos]
  simp only [hf, decide_true, Bool.true_and, decide_eq_true_eq]; exact hl
theorem vidx_get {vs : List V} {j : Nat} {v : V} (h : vs[j]? = some v) (hj : j < 1000000) : vidx (.lst vs) (.int j) = some v := by
  show itemAt vs j = _
  unfold itemAt
  have a1 : (0 : Int) ≤ j := by omega
  have a2 : (j : Int) < 2 ^ 62 := by omega
  simp only [a1, a2, decide_true, if_true, Int.toNat_natCast]
  exact h
end
theorem flats_map (ds : List Dyadic) : flats (ds.map rep) = true := by
  induction ds with
  | nil => rfl
  | cons d ds ih => rw [List.map_cons, flats, flat_rep, ih]; rfl
theorem mapO_up {f : V → Option V} {g : Nat → V} : ∀ (n j : Nat), (∀ i, i < j + n → f (.int i) = some (g i)) → mapO f (rangeUp j n) = some ((List.range' j n).map g)
  | 0, _, _ => rfl
  | n + 1, j, h => by
    rw [rangeUp, mapO, h j (by omega)]
    have := mapO_up n (j + 1) (fun i hi => h i (by omega))
    rw [Int.natCast_add] at this
    rw [show ((j : Int) + ((1 : Nat) : Int)) = (j : Int) + 1 from rfl] at this
    rw [Option.bind_some, this]; rfl
theorem loop_up {f : List V → Ow → Option R} {i : Nat} {ow : Ow} (ho : owBut ow i = ow) (Inv : Nat → List V → Prop) {N : Nat}
    (step : ∀ j σ, j < N → Inv j σ → ∃ σ', f (σ.set i (.int j)) ow = some (.next σ' ow) ∧ Inv (j + 1) σ') : ∀ (n j : Nat) σ, j + n = N → Inv j σ → ∃ σ', loop f i (rangeUp j n) σ ow = some (.next σ' ow) ∧ Inv N σ'
  | 0, j, σ, hn, h => ⟨σ, rfl, by rw [← hn]; exact h⟩
  | n + 1, j, σ, hn, h => by
    obtain ⟨σ', h1, h2⟩ := step j σ (by omega) h
    obtain ⟨σ'', h3, h4⟩ := loop_up ho Inv step n (j + 1) σ' (by omega) h2
    refine ⟨σ'', ?_, h4⟩
    rw [rangeUp, loop]
    have : (if flat (.int (j : Int)) = true then owBut ow i else none) = ow := ho
    rw [this, h1]
    rw [Int.natCast_add] at h3
    exact h3
theorem loop_0 {f : List V → Ow → Option R} {i : Nat} {ow : Ow} (ho : owBut ow i = ow) (Inv : Nat → List V → Prop) {N : Nat} {σ : List V} (h : Inv 0 σ)
    (step : ∀ j σ, j < N → Inv j σ → ∃ σ', f (σ.set i (.int j)) ow = some (.next σ' ow) ∧ Inv (j + 1) σ') : ∃ σ', loop f i (rangeUp 0 N) σ ow = some (.next σ' ow) ∧ Inv N σ' :=
  loop_up ho Inv step N 0 σ (by omega) h

noncomputable def sumEnd : List S := [S.ite (.var 7) [.ret (.var 7)] [], S.ret (.call 6 [(.var 4), (.var 5), (.var 1), (.var 2)])]
noncomputable def sumHead (T : List S) : List S := S.asg 4 (.toint (.int 0)) :: S.asg 5 (.int 0) :: S.asg 6 (.or (.bin .Mult (.var 1) (.int 2)) (.one (.int 1000000))) :: S.asg 7 .none :: T
theorem c_sum (k : Nat) {ds : List Dyadic} (hs : ∀ d ∈ ds, Sz 1000 3000 d) (hl : ds.length ≤ 100) : call0 (k + 3) 14 [.lst (ds.map rep)] = some (rep (dsum ds)) := by
  rw [goS]
  have m0 : mulOk 0 2 = true := by decide +kernel
  have inv0 : SumInv (dsum ds) (.lst (ds.map rep)) (ds.map rep) [.lst (ds.map rep), .int 0, .str "d", .bool false, .int 0, .int 0, .int 1000000, .none, .undef, .undef, .undef, .undef, .undef, .undef] :=
    ⟨ds, 0, 0, 0, 0, _, _, _, _, _, _, rfl, rfl, Dyadic.zero_add _, hs, by decide, by decide, rfl, by decide, by omega⟩
  obtain ⟨σ', h1, h2⟩ := loop_run (SumInv (dsum ds) (.lst (ds.map rep))) (fun x xs σ h => sum_step k h) _ _ inv0
  obtain ⟨ds', man, exp, z, j, u8, u9, u10, u11, u12, u13, hv, rfl, htot, _⟩ := h2
  have hd : ds' = [] := by simpa using hv.symm
  subst hd
  have htot' : mkD man exp = dsum ds := by rw [← htot, dsum, Dyadic.add_zero]
  have hfor : ex gt0 sh0 (call0 (k + 2)) (.for_ 8 (.var 0) sumBody) [.lst (ds.map rep), .int 0, .str "d", .bool false, .int 0, .int 0, .int 1000000, .none, .undef, .undef, .undef, .undef, .undef, .undef] none = _ := (s_for (vs := ds.map rep) (by rw [e_var]; rfl) (by rw [List.length_map]; omega)).trans h1
  rw [show f_mpf_sum.body = sumHead (.for_ 8 (.var 0) sumBody :: sumEnd) from rfl]
  have hme := c_from_man_exp k man exp "d"
  simp -implicitDefEqProofs only [b1_some, b2_some, ob_some, vget_int, vget_str, vget_bool, vget_none, vget_tup, vget_lst, vget_rep, vneg_int, t_int, t_bool, t_none, vnot_int, vnot_bool, vnot_none, bo_add, bo_sub, bo_mul, bo_div, bo_mod, bo_pow, bo_shl, bo_shr, bo_and, bo_xor, vc_eq, vc_ne, vc_lt, vc_le, vc_gt, vc_ge, vc_seq, vc_req, vc_rne, c2_some, kc_some, ktup_some, klst_some, vbits_int, vint_int, vint_bool, visint_int, vidx_tup, vidx_lst, vshift_str, vdm_int, kand_int, kand_bool, kand_t, kand_f, kor_int, kor_bool, kor_none, kor_t, kor_f, kif_bool, kif_t, kif_f, kite_int, kite_bool, kite_none, kt_t, kt_f, kont_next, kont_ret, e_none, e_bool, e_int, e_str, e_var, e_g0, e_g1, e_g2, e_g8, e_g9, e_g10, e_g11, e_g12, e_bin, e_neg, e_not, e_one, e_and, e_or, e_cmp, e_ite, e_tup, e_lst, e_idx, e_shift, e_call, e_bits, e_toint, e_isint, e_dm, es_nil, es_cons, ka_int, ka_bool, ka_none, ka_rep, ob_none, kr_some, kT_2, kT_3, kT_4, kW_2, kW_3, kasrt_t, s_asg, s_asgC, s_asgT, s_asgU, s_asgW, s_aug, s_ite, s_ret, s_asrt, x_nil, x_cons, kf_ret, T4_def, item0, item1, List.set_cons_zero, List.set_cons_succ, List.getElem?_cons_zero, List.getElem?_cons_succ, decide_true, decide_false, not_true_eq_false, not_false_eq_true, Bool.not_true, Bool.not_false, ne_eq, if_true, if_false, Bool.false_eq_true, show ((0:Int) = 0) = True from eq_self 0, show ((1:Int) = 0) = False from by decide, show ((0:Int) = 1) = False from by decide, show ((1:Int)=1) = True from eq_self 1, sumHead, sumEnd, m0, Int.zero_mul, hfor, hme, htot']
end Mine

end
section -- P10
open PySem PySem.W PyProof.Rows
set_option maxRecDepth 10000
set_option maxHeartbeats 400000
set_option linter.unusedSimpArgs false
namespace Mine
open Builtin.Int (intBits)

theorem c_mixed (k : Nat) (ns : List Int) (j : Nat) (hl : ns.length ≤ 63) (hj : j ≤ 1000) : ∃ v : Int, call0 (k + 1) 19 [.lst (ns.map .int), .int j] = some (.int v) := by
  have go : call0 (k + 1) 19 [.lst (ns.map .int), .int j] = kf (exs gt0 sh0 (call0 k) f__law_mixed.body [.lst (ns.map .int), .int j, .undef] none) := rfl
  have hlen := e_len (cs := call0 k) (x := .var 0) (σ := [.lst (ns.map .int), .int j, .undef]) (vs := ns.map .int) (by rw [e_var]; rfl) (by rw [List.length_map]; omega)
  have hp : powOk 2 64 = true := by decide +kernel
  have hp' : powOk 2 190 = true := by decide +kernel
  have hd : divOk ((2 : Int) ^ Int.toNat 190) = true := by decide +kernel
  have m1 : ∀ a : Int, mulOk a 6364136223846793005 = true := fun a => by
    unfold mulOk; rw [show decide (intBits 6364136223846793005 ≤ 64) = true by decide +kernel]; simp
  have m2 : ∀ a : Int, mulOk a 1442695040888963407 = true := fun a => by
    unfold mulOk; rw [show decide (intBits 1442695040888963407 ≤ 64) = true by decide +kernel]; simp
  have key : ∀ n0 : Int, ∃ v : Int, kf (exs gt0 sh0 (call0 k) (f__law_mixed.body.drop 1) [.lst (ns.map .int), .int j, .int n0] none) = some (.int v) := by
    intro n0
    by_cases h : (2 : Int) ^ Int.toNat 64 ≤ n0
    · refine ⟨n0, ?_⟩
      simp -implicitDefEqProofs only [b1_some, b2_some, ob_some, vget_int, vget_str, vget_bool, vget_none, vget_tup, vget_lst, vget_rep, vneg_int, t_int, t_bool, t_none, vnot_int, vnot_bool, vnot_none, bo_add, bo_sub, bo_mul, bo_div, bo_mod, bo_pow, bo_shl, bo_shr, bo_and, bo_xor, vc_eq, vc_ne, vc_lt, vc_le, vc_gt, vc_ge, vc_seq, vc_req, vc_rne, c2_some, kc_some, ktup_some, klst_some, vbits_int, vint_int, vint_bool, visint_int, vidx_tup, vidx_lst, vshift_str, vdm_int, kand_int, kand_bool, kand_t, kand_f, kor_int, kor_bool, kor_none, kor_t, kor_f, kif_bool, kif_t, kif_f, kite_int, kite_bool, kite_none, kt_t, kt_f, kont_next, kont_ret, e_none, e_bool, e_int, e_str, e_var, e_g0, e_g1, e_g2, e_g8, e_g9, e_g10, e_g11, e_g12, e_bin, e_neg, e_not, e_one, e_and, e_or, e_cmp, e_ite, e_tup, e_lst, e_idx, e_shift, e_call, e_bits, e_toint, e_isint, e_dm, es_nil, es_cons, ka_int, ka_bool, ka_none, ka_rep, ob_none, kr_some, kT_2, kT_3, kT_4, kW_2, kW_3, kasrt_t, s_asg, s_asgC, s_asgT, s_asgU, s_asgW, s_aug, s_ite, s_ret, s_asrt, x_nil, x_cons, kf_ret, T4_def, item0, item1, List.set_cons_zero, List.set_cons_succ, List.getElem?_cons_zero, List.getElem?_cons_succ, decide_true, decide_false, not_true_eq_false, not_false_eq_true, Bool.not_true, Bool.not_false, ne_eq, if_true, if_false, Bool.false_eq_true, show ((0:Int) = 0) = True from eq_self 0, show ((1:Int) = 0) = False from by decide, show ((0:Int) = 1) = False from by decide, show ((1:Int)=1) = True from eq_self 1, f__law_mixed, List.drop_succ_cons, List.drop_zero, hp, h]
    · refine ⟨(n0 * 6364136223846793005 + ((j : Int) + 1) * 1442695040888963407).fmod (2 ^ Int.toNat 190), ?_⟩
      simp -implicitDefEqProofs only [b1_some, b2_some, ob_some, vget_int, vget_str, vget_bool, vget_none, vget_tup, vget_lst, vget_rep, vneg_int, t_int, t_bool, t_none, vnot_int, vnot_bool, vnot_none, bo_add, bo_sub, bo_mul, bo_div, bo_mod, bo_pow, bo_shl, bo_shr, bo_and, bo_xor, vc_eq, vc_ne, vc_lt, vc_le, vc_gt, vc_ge, vc_seq, vc_req, vc_rne, c2_some, kc_some, ktup_some, klst_some, vbits_int, vint_int, vint_bool, visint_int, vidx_tup, vidx_lst, vshift_str, vdm_int, kand_int, kand_bool, kand_t, kand_f, kor_int, kor_bool, kor_none, kor_t, kor_f, kif_bool, kif_t, kif_f, kite_int, kite_bool, kite_none, kt_t, kt_f, kont_next, kont_ret, e_none, e_bool, e_int, e_str, e_var, e_g0, e_g1, e_g2, e_g8, e_g9, e_g10, e_g11, e_g12, e_bin, e_neg, e_not, e_one, e_and, e_or, e_cmp, e_ite, e_tup, e_lst, e_idx, e_shift, e_call, e_bits, e_toint, e_isint, e_dm, es_nil, es_cons, ka_int, ka_bool, ka_none, ka_rep, ob_none, kr_some, kT_2, kT_3, kT_4, kW_2, kW_3, kasrt_t, s_asg, s_asgC, s_asgT, s_asgU, s_asgW, s_aug, s_ite, s_ret, s_asrt, x_nil, x_cons, kf_ret, T4_def, item0, item1, List.set_cons_zero, List.set_cons_succ, List.getElem?_cons_zero, List.getElem?_cons_succ, decide_true, decide_false, not_true_eq_false, not_false_eq_true, Bool.not_true, Bool.not_false, ne_eq, if_true, if_false, Bool.false_eq_true, show ((0:Int) = 0) = True from eq_self 0, show ((1:Int) = 0) = False from by decide, show ((0:Int) = 1) = False from by decide, show ((1:Int)=1) = True from eq_self 1, f__law_mixed, List.drop_succ_cons, List.drop_zero, hp, hp', hd, m1, m2, h]
  rw [go]
  by_cases hj : j < ns.length
  · obtain ⟨v, hv⟩ := key ns[j]
    refine ⟨v, ?_⟩
    rw [← hv]
    have hlt : ((j : Int) < ((ns.map V.int).length : Int)) = True := by rw [List.length_map]; simp only [eq_iff_iff, iff_true]; omega
    have hidx : vidx (.lst (ns.map .int)) (.int j) = some (.int ns[j]) := vidx_get (by rw [List.getElem?_map, List.getElem?_eq_getElem hj]; rfl) (by omega)
    simp -implicitDefEqProofs only [b1_some, b2_some, ob_some, vget_int, vget_str, vget_bool, vget_none, vget_tup, vget_lst, vget_rep, vneg_int, t_int, t_bool, t_none, vnot_int, vnot_bool, vnot_none, bo_add, bo_sub, bo_mul, bo_div, bo_mod, bo_pow, bo_shl, bo_shr, bo_and, bo_xor, vc_eq, vc_ne, vc_lt, vc_le, vc_gt, vc_ge, vc_seq, vc_req, vc_rne, c2_some, kc_some, ktup_some, klst_some, vbits_int, vint_int, vint_bool, visint_int, vidx_tup, vidx_lst, vshift_str, vdm_int, kand_int, kand_bool, kand_t, kand_f, kor_int, kor_bool, kor_none, kor_t, kor_f, kif_bool, kif_t, kif_f, kite_int, kite_bool, kite_none, kt_t, kt_f, kont_next, kont_ret, e_none, e_bool, e_int, e_str, e_var, e_g0, e_g1, e_g2, e_g8, e_g9, e_g10, e_g11, e_g12, e_bin, e_neg, e_not, e_one, e_and, e_or, e_cmp, e_ite, e_tup, e_lst, e_idx, e_shift, e_call, e_bits, e_toint, e_isint, e_dm, es_nil, es_cons, ka_int, ka_bool, ka_none, ka_rep, ob_none, kr_some, kT_2, kT_3, kT_4, kW_2, kW_3, kasrt_t, s_asg, s_asgC, s_asgT, s_asgU, s_asgW, s_aug, s_ite, s_ret, s_asrt, x_nil, x_cons, kf_ret, T4_def, item0, item1, List.set_cons_zero, List.set_cons_succ, List.getElem?_cons_zero, List.getElem?_cons_succ, decide_true, decide_false, not_true_eq_false, not_false_eq_true, Bool.not_true, Bool.not_false, ne_eq, if_true, if_false, Bool.false_eq_true, show ((0:Int) = 0) = True from eq_self 0, show ((1:Int) = 0) = False from by decide, show ((0:Int) = 1) = False from by decide, show ((1:Int)=1) = True from eq_self 1, f__law_mixed, List.drop_succ_cons, List.drop_zero, hlen, hlt, hidx]
  · obtain ⟨v, hv⟩ := key 0
    refine ⟨v, ?_⟩
    rw [← hv]
    have hlt : ((j : Int) < ((ns.map V.int).length : Int)) = False := by rw [List.length_map]; simp only [eq_iff_iff, iff_false]; omega
    simp -implicitDefEqProofs only [b1_some, b2_some, ob_some, vget_int, vget_str, vget_bool, vget_none, vget_tup, vget_lst, vget_rep, vneg_int, t_int, t_bool, t_none, vnot_int, vnot_bool, vnot_none, bo_add, bo_sub, bo_mul, bo_div, bo_mod, bo_pow, bo_shl, bo_shr, bo_and, bo_xor, vc_eq, vc_ne, vc_lt, vc_le, vc_gt, vc_ge, vc_seq, vc_req, vc_rne, c2_some, kc_some, ktup_some, klst_some, vbits_int, vint_int, vint_bool, visint_int, vidx_tup, vidx_lst, vshift_str, vdm_int, kand_int, kand_bool, kand_t, kand_f, kor_int, kor_bool, kor_none, kor_t, kor_f, kif_bool, kif_t, kif_f, kite_int, kite_bool, kite_none, kt_t, kt_f, kont_next, kont_ret, e_none, e_bool, e_int, e_str, e_var, e_g0, e_g1, e_g2, e_g8, e_g9, e_g10, e_g11, e_g12, e_bin, e_neg, e_not, e_one, e_and, e_or, e_cmp, e_ite, e_tup, e_lst, e_idx, e_shift, e_call, e_bits, e_toint, e_isint, e_dm, es_nil, es_cons, ka_int, ka_bool, ka_none, ka_rep, ob_none, kr_some, kT_2, kT_3, kT_4, kW_2, kW_3, kasrt_t, s_asg, s_asgC, s_asgT, s_asgU, s_asgW, s_aug, s_ite, s_ret, s_asrt, x_nil, x_cons, kf_ret, T4_def, item0, item1, List.set_cons_zero, List.set_cons_succ, List.getElem?_cons_zero, List.getElem?_cons_succ, decide_true, decide_false, not_true_eq_false, not_false_eq_true, Bool.not_true, Bool.not_false, ne_eq, if_true, if_false, Bool.false_eq_true, show ((0:Int) = 0) = True from eq_self 0, show ((1:Int) = 0) = False from by decide, show ((0:Int) = 1) = False from by decide, show ((1:Int)=1) = True from eq_self 1, f__law_mixed, List.drop_succ_cons, List.drop_zero, hlen, hlt]

theorem raw_fin {s m e : Int} (hs : s = 0 ∨ s = 1) (hm : 0 < m) (h1 : m % 2 = 1) (hb : intBits m ≤ 30) (he1 : -20 ≤ e) (he2 : e ≤ 20) : Sz 20 70 (mkD ((1 - 2 * s) * m) e) := by
  have hb' : intBits ((1 - 2 * s) * m) = intBits m := by
    rcases hs with rfl | rfl
    · congr 1; omega
    · rw [show (1 - 2 * 1) * m = -m by omega, bits_neg]
  have hne : (1 - 2 * s) * m ≠ 0 := by rcases hs with rfl | rfl <;> omega
  refine ⟨(1 - 2 * s) * m * 2 ^ (e + 20).toNat, ?_, ?_⟩
  · rw [mkD_shift]; congr 1; omega
  · rw [bits_mul_pow hne, hb']; omega

theorem fmod_rng (a : Int) {b : Int} (h : 0 < b) : 0 ≤ a.fmod b ∧ a.fmod b < b := ⟨Int.fmod_nonneg_of_pos a h, Int.fmod_lt_of_pos a h⟩
theorem pow_le30 {A : Nat} (h : A ≤ 30) : (2 : Int) ^ A ≤ 2 ^ 30 := by
  rw [two_pow_cast, two_pow_cast]
  have := Nat.pow_le_pow_right (n := 2) (by decide) h
  omega

theorem c_raw (k : Nat) (r : Int) : ∃ d, call0 (k + 1) 20 [.int r, .int 30, .int 20] = some (rep d) ∧ Sz 20 70 d := by
  have go : call0 (k + 1) 20 [.int r, .int 30, .int 20] = kf (exs gt0 sh0 (call0 k) f__law_raw.body [.int r, .int 30, .int 20, .undef, .undef, .undef, .undef] none) := rfl
  obtain ⟨kd, hk⟩ : ∃ kd, (r.fdiv 2).fmod 8 = kd := ⟨_, rfl⟩
  obtain ⟨e, he⟩ : ∃ e, (r.fdiv 16).fmod (2 * 20 + 1) - 20 = e := ⟨_, rfl⟩
  obtain ⟨m, hm⟩ : ∃ m, r.fdiv (2 ^ Int.toNat 16) = m := ⟨_, rfl⟩
  obtain ⟨s, hs⟩ : ∃ s, r.fmod 2 = s := ⟨_, rfl⟩
  obtain ⟨A, hA⟩ : ∃ A : Nat, 1 + m.fmod 30 = ((A + 1 : Nat) : Int) := ⟨(m.fmod 30).toNat, by have := fmod_rng m (b := 30) (by decide); omega⟩
  obtain ⟨B, hB⟩ : ∃ B : Nat, 1 + m.fmod (30 - 1) = ((B + 1 : Nat) : Int) := ⟨(m.fmod (30 - 1)).toNat, by have := fmod_rng m (b := 30 - 1) (by decide); omega⟩
  have hA30 : A + 1 ≤ 30 := by have := fmod_rng m (b := 30) (by decide); omega
  have hB29 : B + 1 ≤ 29 := by have := fmod_rng m (b := 30 - 1) (by decide); omega
  have hs01 : s = 0 ∨ s = 1 := by have := fmod_rng r (b := 2) (by decide); omega
  have he12 : -20 ≤ e ∧ e ≤ 20 := by have := fmod_rng (r.fdiv 16) (b := 2 * 20 + 1) (by decide); omega
  have d2 : divOk 2 = true := by decide +kernel
  have d8 : divOk 8 = true := by decide +kernel
  have d16 : divOk 16 = true := by decide +kernel
  have d41 : divOk (2 * 20 + 1) = true := by decide +kernel
  have d30 : divOk 30 = true := by decide +kernel
  have d29 : divOk (30 - 1) = true := by decide +kernel
  have d65 : divOk ((2 : Int) ^ Int.toNat 16) = true := by decide +kernel
  have p16 : powOk 2 16 = true := by decide +kernel
  have pA : powOk 2 ((A + 1 : Nat) : Int) = true := by unfold powOk; rw [show intBits 2 = 2 by decide]; simp only [Bool.and_eq_true, decide_eq_true_eq]; omega
  have pB : powOk 2 ((B + 1 : Nat) : Int) = true := by unfold powOk; rw [show intBits 2 = 2 by decide]; simp only [Bool.and_eq_true, decide_eq_true_eq]; omega
  have dA : divOk ((2 : Int) ^ (A + 1)) = true := divOk_of (by have := pow_pos_int (A + 1); omega) (by rw [bits_two_pow]; omega)
  have m20 : mulOk 2 20 = true := by decide +kernel
  have m2 : ∀ a : Int, mulOk a 2 = true := fun a => by
    unfold mulOk; rw [show decide (intBits 2 ≤ 64) = true by decide +kernel]; simp
  have g1 : ((1 : Int) < 30) = True := by decide
  have c01 : ((1 : Int) = 2) = False := by decide
  have c20 : ((2 : Int) = 0) = False := by decide
  have c21 : ((2 : Int) = 1) = False := by decide
  have c22 : ((2 : Int) = 2) = True := by decide
  have c30 : ((3 : Int) = 0) = False := by decide
  have c31 : ((3 : Int) = 1) = False := by decide
  have c32 : ((3 : Int) = 2) = False := by decide
  have c33 : ((3 : Int) = 3) = True := by decide
  have hPA : (2 : Int) ^ (A + 1) ≤ 2 ^ 30 := pow_le30 hA30
  have hPA2 : (2 : Int) ^ (A + 1) = 2 ^ A * 2 := Int.pow_succ ..
  have hPB : (2 : Int) ^ (B + 1) ≤ 2 ^ 29 := by
    rw [two_pow_cast, two_pow_cast]
    have := Nat.pow_le_pow_right (n := 2) (by decide) hB29
    omega
  have hPB2 : (2 : Int) ^ (B + 1) = 2 ^ B * 2 := Int.pow_succ ..
  have hQA := pow_pos_int A
  have hQB := pow_pos_int B
  have fin : ∀ man : Int, 0 < man → man % 2 = 1 → man < 2 ^ 30 → ∃ d, some (V.tup [.int s, .int man, .int e, .int (intBits man)]) = some (rep d) ∧ Sz 20 70 d := by
    intro man h0 h1 h2
    have hb : intBits man ≤ 30 := intBits_le_iff.mpr (by omega)
    exact ⟨_, by rw [rep_fin hs01 h0 h1], raw_fin hs01 h0 h1 hb he12.1 he12.2⟩
  have fin2 : ∀ {o : Option V} (man : Int), o = some (V.tup [.int s, .int man, .int e, .int (intBits man)]) → 0 < man → man % 2 = 1 → man < 2 ^ 30 → ∃ d, o = some (rep d) ∧ Sz 20 70 d := by
    intro o man ho h0 h1 h2
    rw [ho]; exact fin man h0 h1 h2
  rw [go]
  have w1 := fmod_rng m (b := 2 ^ (A + 1)) (pow_pos_int _)
  have w2 : ((m.fmod (2 ^ (A + 1))).fdiv 2) = (m.fmod (2 ^ (A + 1))) / 2 := Int.fdiv_eq_ediv_of_nonneg _ (by decide)
  by_cases k0 : kd = 0
  · subst k0
    refine ⟨0, ?_, ⟨0, rfl, by decide⟩⟩
    simp -implicitDefEqProofs only [b1_some, b2_some, ob_some, vget_int, vget_str, vget_bool, vget_none, vget_tup, vget_lst, vget_rep, vneg_int, t_int, t_bool, t_none, vnot_int, vnot_bool, vnot_none, bo_add, bo_sub, bo_mul, bo_div, bo_mod, bo_pow, bo_shl, bo_shr, bo_and, bo_xor, vc_eq, vc_ne, vc_lt, vc_le, vc_gt, vc_ge, vc_seq, vc_req, vc_rne, c2_some, kc_some, ktup_some, klst_some, vbits_int, vint_int, vint_bool, visint_int, vidx_tup, vidx_lst, vshift_str, vdm_int, kand_int, kand_bool, kand_t, kand_f, kor_int, kor_bool, kor_none, kor_t, kor_f, kif_bool, kif_t, kif_f, kite_int, kite_bool, kite_none, kt_t, kt_f, kont_next, kont_ret, e_none, e_bool, e_int, e_str, e_var, e_g0, e_g1, e_g2, e_g8, e_g9, e_g10, e_g11, e_g12, e_bin, e_neg, e_not, e_one, e_and, e_or, e_cmp, e_ite, e_tup, e_lst, e_idx, e_shift, e_call, e_bits, e_toint, e_isint, e_dm, es_nil, es_cons, ka_int, ka_bool, ka_none, ka_rep, ob_none, kr_some, kT_2, kT_3, kT_4, kW_2, kW_3, kasrt_t, s_asg, s_asgC, s_asgT, s_asgU, s_asgW, s_aug, s_ite, s_ret, s_asrt, x_nil, x_cons, kf_ret, T4_def, item0, item1, List.set_cons_zero, List.set_cons_succ, List.getElem?_cons_zero, List.getElem?_cons_succ, decide_true, decide_false, not_true_eq_false, not_false_eq_true, Bool.not_true, Bool.not_false, ne_eq, if_true, if_false, Bool.false_eq_true, show ((0:Int) = 0) = True from eq_self 0, show ((1:Int) = 0) = False from by decide, show ((0:Int) = 1) = False from by decide, show ((1:Int)=1) = True from eq_self 1, f__law_raw, hk, he, hm, hs, d2, d8, d16, d41, d65, p16, m20]
    rfl
  · by_cases k1 : kd = 1
    · subst k1
      refine fin2 1 ?_ (by decide) (by decide) (by decide)
      simp -implicitDefEqProofs only [b1_some, b2_some, ob_some, vget_int, vget_str, vget_bool, vget_none, vget_tup, vget_lst, vget_rep, vneg_int, t_int, t_bool, t_none, vnot_int, vnot_bool, vnot_none, bo_add, bo_sub, bo_mul, bo_div, bo_mod, bo_pow, bo_shl, bo_shr, bo_and, bo_xor, vc_eq, vc_ne, vc_lt, vc_le, vc_gt, vc_ge, vc_seq, vc_req, vc_rne, c2_some, kc_some, ktup_some, klst_some, vbits_int, vint_int, vint_bool, visint_int, vidx_tup, vidx_lst, vshift_str, vdm_int, kand_int, kand_bool, kand_t, kand_f, kor_int, kor_bool, kor_none, kor_t, kor_f, kif_bool, kif_t, kif_f, kite_int, kite_bool, kite_none, kt_t, kt_f, kont_next, kont_ret, e_none, e_bool, e_int, e_str, e_var, e_g0, e_g1, e_g2, e_g8, e_g9, e_g10, e_g11, e_g12, e_bin, e_neg, e_not, e_one, e_and, e_or, e_cmp, e_ite, e_tup, e_lst, e_idx, e_shift, e_call, e_bits, e_toint, e_isint, e_dm, es_nil, es_cons, ka_int, ka_bool, ka_none, ka_rep, ob_none, kr_some, kT_2, kT_3, kT_4, kW_2, kW_3, kasrt_t, s_asg, s_asgC, s_asgT, s_asgU, s_asgW, s_aug, s_ite, s_ret, s_asrt, x_nil, x_cons, kf_ret, T4_def, item0, item1, List.set_cons_zero, List.set_cons_succ, List.getElem?_cons_zero, List.getElem?_cons_succ, decide_true, decide_false, not_true_eq_false, not_false_eq_true, Bool.not_true, Bool.not_false, ne_eq, if_true, if_false, Bool.false_eq_true, show ((0:Int) = 0) = True from eq_self 0, show ((1:Int) = 0) = False from by decide, show ((0:Int) = 1) = False from by decide, show ((1:Int)=1) = True from eq_self 1, f__law_raw, hk, he, hm, hs, d2, d8, d16, d41, d65, p16, m20, d30, hA, Int.toNat_natCast, pA, dA, m2]
    · by_cases k2 : kd = 2
      · subst k2
        refine fin2 (2 ^ (A + 1) - 1) ?_ (by omega) (by omega) (by omega)
        simp -implicitDefEqProofs only [b1_some, b2_some, ob_some, vget_int, vget_str, vget_bool, vget_none, vget_tup, vget_lst, vget_rep, vneg_int, t_int, t_bool, t_none, vnot_int, vnot_bool, vnot_none, bo_add, bo_sub, bo_mul, bo_div, bo_mod, bo_pow, bo_shl, bo_shr, bo_and, bo_xor, vc_eq, vc_ne, vc_lt, vc_le, vc_gt, vc_ge, vc_seq, vc_req, vc_rne, c2_some, kc_some, ktup_some, klst_some, vbits_int, vint_int, vint_bool, visint_int, vidx_tup, vidx_lst, vshift_str, vdm_int, kand_int, kand_bool, kand_t, kand_f, kor_int, kor_bool, kor_none, kor_t, kor_f, kif_bool, kif_t, kif_f, kite_int, kite_bool, kite_none, kt_t, kt_f, kont_next, kont_ret, e_none, e_bool, e_int, e_str, e_var, e_g0, e_g1, e_g2, e_g8, e_g9, e_g10, e_g11, e_g12, e_bin, e_neg, e_not, e_one, e_and, e_or, e_cmp, e_ite, e_tup, e_lst, e_idx, e_shift, e_call, e_bits, e_toint, e_isint, e_dm, es_nil, es_cons, ka_int, ka_bool, ka_none, ka_rep, ob_none, kr_some, kT_2, kT_3, kT_4, kW_2, kW_3, kasrt_t, s_asg, s_asgC, s_asgT, s_asgU, s_asgW, s_aug, s_ite, s_ret, s_asrt, x_nil, x_cons, kf_ret, T4_def, item0, item1, List.set_cons_zero, List.set_cons_succ, List.getElem?_cons_zero, List.getElem?_cons_succ, decide_true, decide_false, not_true_eq_false, not_false_eq_true, Bool.not_true, Bool.not_false, ne_eq, if_true, if_false, Bool.false_eq_true, show ((0:Int) = 0) = True from eq_self 0, show ((1:Int) = 0) = False from by decide, show ((0:Int) = 1) = False from by decide, show ((1:Int)=1) = True from eq_self 1, f__law_raw, hk, he, hm, hs, d2, d8, d16, d41, d65, p16, m20, d30, hA, Int.toNat_natCast, pA, dA, m2, c20, c21, c22]
      · by_cases k3 : kd = 3
        · subst k3
          refine fin2 (2 ^ (B + 1) + 1) ?_ (by omega) (by omega) (by omega)
          simp -implicitDefEqProofs only [b1_some, b2_some, ob_some, vget_int, vget_str, vget_bool, vget_none, vget_tup, vget_lst, vget_rep, vneg_int, t_int, t_bool, t_none, vnot_int, vnot_bool, vnot_none, bo_add, bo_sub, bo_mul, bo_div, bo_mod, bo_pow, bo_shl, bo_shr, bo_and, bo_xor, vc_eq, vc_ne, vc_lt, vc_le, vc_gt, vc_ge, vc_seq, vc_req, vc_rne, c2_some, kc_some, ktup_some, klst_some, vbits_int, vint_int, vint_bool, visint_int, vidx_tup, vidx_lst, vshift_str, vdm_int, kand_int, kand_bool, kand_t, kand_f, kor_int, kor_bool, kor_none, kor_t, kor_f, kif_bool, kif_t, kif_f, kite_int, kite_bool, kite_none, kt_t, kt_f, kont_next, kont_ret, e_none, e_bool, e_int, e_str, e_var, e_g0, e_g1, e_g2, e_g8, e_g9, e_g10, e_g11, e_g12, e_bin, e_neg, e_not, e_one, e_and, e_or, e_cmp, e_ite, e_tup, e_lst, e_idx, e_shift, e_call, e_bits, e_toint, e_isint, e_dm, es_nil, es_cons, ka_int, ka_bool, ka_none, ka_rep, ob_none, kr_some, kT_2, kT_3, kT_4, kW_2, kW_3, kasrt_t, s_asg, s_asgC, s_asgT, s_asgU, s_asgW, s_aug, s_ite, s_ret, s_asrt, x_nil, x_cons, kf_ret, T4_def, item0, item1, List.set_cons_zero, List.set_cons_succ, List.getElem?_cons_zero, List.getElem?_cons_succ, decide_true, decide_false, not_true_eq_false, not_false_eq_true, Bool.not_true, Bool.not_false, ne_eq, if_true, if_false, Bool.false_eq_true, show ((0:Int) = 0) = True from eq_self 0, show ((1:Int) = 0) = False from by decide, show ((0:Int) = 1) = False from by decide, show ((1:Int)=1) = True from eq_self 1, f__law_raw, hk, he, hm, hs, d2, d8, d16, d41, d65, p16, m20, d30, d29, hA, hB, Int.toNat_natCast, pA, pB, dA, m2, c30, c31, c32, c33, g1]
        · refine fin2 ((m.fmod (2 ^ (A + 1))).fdiv 2 * 2 + 1) ?_ (by omega) (by omega) (by omega)
          simp -implicitDefEqProofs only [b1_some, b2_some, ob_some, vget_int, vget_str, vget_bool, vget_none, vget_tup, vget_lst, vget_rep, vneg_int, t_int, t_bool, t_none, vnot_int, vnot_bool, vnot_none, bo_add, bo_sub, bo_mul, bo_div, bo_mod, bo_pow, bo_shl, bo_shr, bo_and, bo_xor, vc_eq, vc_ne, vc_lt, vc_le, vc_gt, vc_ge, vc_seq, vc_req, vc_rne, c2_some, kc_some, ktup_some, klst_some, vbits_int, vint_int, vint_bool, visint_int, vidx_tup, vidx_lst, vshift_str, vdm_int, kand_int, kand_bool, kand_t, kand_f, kor_int, kor_bool, kor_none, kor_t, kor_f, kif_bool, kif_t, kif_f, kite_int, kite_bool, kite_none, kt_t, kt_f, kont_next, kont_ret, e_none, e_bool, e_int, e_str, e_var, e_g0, e_g1, e_g2, e_g8, e_g9, e_g10, e_g11, e_g12, e_bin, e_neg, e_not, e_one, e_and, e_or, e_cmp, e_ite, e_tup, e_lst, e_idx, e_shift, e_call, e_bits, e_toint, e_isint, e_dm, es_nil, es_cons, ka_int, ka_bool, ka_none, ka_rep, ob_none, kr_some, kT_2, kT_3, kT_4, kW_2, kW_3, kasrt_t, s_asg, s_asgC, s_asgT, s_asgU, s_asgW, s_aug, s_ite, s_ret, s_asrt, x_nil, x_cons, kf_ret, T4_def, item0, item1, List.set_cons_zero, List.set_cons_succ, List.getElem?_cons_zero, List.getElem?_cons_succ, decide_true, decide_false, not_true_eq_false, not_false_eq_true, Bool.not_true, Bool.not_false, ne_eq, if_true, if_false, Bool.false_eq_true, show ((0:Int) = 0) = True from eq_self 0, show ((1:Int) = 0) = False from by decide, show ((0:Int) = 1) = False from by decide, show ((1:Int)=1) = True from eq_self 1, f__law_raw, hk, he, hm, hs, d2, d8, d16, d41, d65, p16, m20, d30, d29, hA, hB, Int.toNat_natCast, pA, pB, dA, m2, k0, k1, k2, k3]

noncomputable def steps (x : Dyadic) : Nat → Dyadic
  | 0 => 1
  | n + 1 => steps x n * (x - ((n : Int) : Dyadic))
theorem bits_small {n : Int} (h0 : 0 ≤ n) (h : n < 64) : intBits n ≤ 6 := intBits_le_iff.mpr (by omega)
theorem one_cast : (((1 : Int) : Dyadic)) = 1 := rfl
theorem Sz.one : Sz 0 1 1 := ⟨1, rfl, by decide⟩
theorem sub_sz {x : Dyadic} (hx : Sz 20 70 x) {j : Nat} (hj : j < 64) : Sz 20 71 (x - ((j : Int) : Dyadic)) :=
  hx.sub ((Sz.int (bits_small (n := (j : Int)) (by omega) (by omega))).mono (by decide) (by decide))
theorem steps_sz {x : Dyadic} (hx : Sz 20 70 x) : ∀ n : Nat, n < 64 → Sz (20 * n) (71 * n + 1) (steps x n)
  | 0, _ => Sz.one
  | n + 1, h => (Sz.mul (steps_sz hx n (by omega)) (sub_sz hx (j := n) (by omega))).mono (by omega) (by omega)
theorem c_steps (k : Nat) {x : Dyadic} (hx : Sz 20 70 x) {n : Nat} (hn : n < 64) : call0 (k + 6) 21 [rep x, .int n] = some (rep (steps x n)) := by
  rw [show call0 (k + 6) 21 [rep x, .int n] = kf (exs gt0 sh0 (call0 (k + 5)) f__law_steps.body [rep x, .int n, .undef, .undef] none) from rfl]
  have h7 : ∀ j : Int, call0 (k + 5) 7 [.int j] = some (rep (j : Dyadic)) := fun j => c_from_int (k + 2) j
  obtain ⟨σ', h1, h2⟩ := loop_0 (f := fun σ ow => exs gt0 sh0 (call0 (k + 5)) [.asg 2 (.call 15 [(.var 2), (.call 13 [(.var 0), (.call 7 [(.var 3)])])])] σ ow) (i := 3) (ow := none) rfl
    (fun j σ => ∃ u, σ = [rep x, .int n, rep (steps x j), u]) (N := n) (σ := [rep x, .int n, rep 1, .undef]) ⟨_, rfl⟩ (by
      rintro j σ hj ⟨u, rfl⟩
      refine ⟨[rep x, .int n, rep (steps x (j + 1)), .int j], ?_, _, rfl⟩
      have bj : Sz 0 6 (((j : Int)) : Dyadic) := Sz.int (bits_small (by omega) (by omega))
      have hs := c_sub k (hx.bd (by decide) (by decide)) (bj.bd (by decide) (by decide))
      have hm := c_mul (k + 4) (x := steps x j) (y := x - ((j : Int) : Dyadic)) (by have := (steps_sz hx j (by omega)).bits; omega) (by have := (sub_sz hx (j := j) (by omega)).bits; omega)
      simp -implicitDefEqProofs only [b1_some, b2_some, ob_some, vget_int, vget_str, vget_bool, vget_none, vget_tup, vget_lst, vget_rep, vneg_int, t_int, t_bool, t_none, vnot_int, vnot_bool, vnot_none, bo_add, bo_sub, bo_mul, bo_div, bo_mod, bo_pow, bo_shl, bo_shr, bo_and, bo_xor, vc_eq, vc_ne, vc_lt, vc_le, vc_gt, vc_ge, vc_seq, vc_req, vc_rne, c2_some, kc_some, ktup_some, klst_some, vbits_int, vint_int, vint_bool, visint_int, vidx_tup, vidx_lst, vshift_str, vdm_int, kand_int, kand_bool, kand_t, kand_f, kor_int, kor_bool, kor_none, kor_t, kor_f, kif_bool, kif_t, kif_f, kite_int, kite_bool, kite_none, kt_t, kt_f, kont_next, kont_ret, e_none, e_bool, e_int, e_str, e_var, e_g0, e_g1, e_g2, e_g8, e_g9, e_g10, e_g11, e_g12, e_bin, e_neg, e_not, e_one, e_and, e_or, e_cmp, e_ite, e_tup, e_lst, e_idx, e_shift, e_call, e_bits, e_toint, e_isint, e_dm, es_nil, es_cons, ka_int, ka_bool, ka_none, ka_rep, ob_none, kr_some, kT_2, kT_3, kT_4, kW_2, kW_3, kasrt_t, s_asg, s_asgC, s_asgT, s_asgU, s_asgW, s_aug, s_ite, s_ret, s_asrt, x_nil, x_cons, kf_ret, T4_def, item0, item1, List.set_cons_zero, List.set_cons_succ, List.getElem?_cons_zero, List.getElem?_cons_succ, decide_true, decide_false, not_true_eq_false, not_false_eq_true, Bool.not_true, Bool.not_false, ne_eq, if_true, if_false, Bool.false_eq_true, show ((0:Int) = 0) = True from eq_self 0, show ((1:Int) = 0) = False from by decide, show ((0:Int) = 1) = False from by decide, show ((1:Int)=1) = True from eq_self 1, h7, hs, hm]
      rfl)
  obtain ⟨u, rfl⟩ := h2
  have hfor := (s_forR (cs := call0 (k + 5)) (i := 3) (xs := [.var 1]) (σ := [rep x, .int n, rep 1, .undef]) (ow := none) (as := [.int n]) (by rw [es_cons, es_nil, e_var]; rfl) (range_n (by omega))).trans h1
  simp -implicitDefEqProofs only [b1_some, b2_some, ob_some, vget_int, vget_str, vget_bool, vget_none, vget_tup, vget_lst, vget_rep, vneg_int, t_int, t_bool, t_none, vnot_int, vnot_bool, vnot_none, bo_add, bo_sub, bo_mul, bo_div, bo_mod, bo_pow, bo_shl, bo_shr, bo_and, bo_xor, vc_eq, vc_ne, vc_lt, vc_le, vc_gt, vc_ge, vc_seq, vc_req, vc_rne, c2_some, kc_some, ktup_some, klst_some, vbits_int, vint_int, vint_bool, visint_int, vidx_tup, vidx_lst, vshift_str, vdm_int, kand_int, kand_bool, kand_t, kand_f, kor_int, kor_bool, kor_none, kor_t, kor_f, kif_bool, kif_t, kif_f, kite_int, kite_bool, kite_none, kt_t, kt_f, kont_next, kont_ret, e_none, e_bool, e_int, e_str, e_var, e_g0, e_g1, e_g2, e_g8, e_g9, e_g10, e_g11, e_g12, e_bin, e_neg, e_not, e_one, e_and, e_or, e_cmp, e_ite, e_tup, e_lst, e_idx, e_shift, e_call, e_bits, e_toint, e_isint, e_dm, es_nil, es_cons, ka_int, ka_bool, ka_none, ka_rep, ob_none, kr_some, kT_2, kT_3, kT_4, kW_2, kW_3, kasrt_t, s_asg, s_asgC, s_asgT, s_asgU, s_asgW, s_aug, s_ite, s_ret, s_asrt, x_nil, x_cons, kf_ret, T4_def, item0, item1, List.set_cons_zero, List.set_cons_succ, List.getElem?_cons_zero, List.getElem?_cons_succ, decide_true, decide_false, not_true_eq_false, not_false_eq_true, Bool.not_true, Bool.not_false, ne_eq, if_true, if_false, Bool.false_eq_true, show ((0:Int) = 0) = True from eq_self 0, show ((1:Int) = 0) = False from by decide, show ((0:Int) = 1) = False from by decide, show ((1:Int)=1) = True from eq_self 1, f__law_steps, h7, one_cast, hfor]
end Mine

end
section -- P11
open PySem PySem.W PyProof.Rows
set_option maxRecDepth 100000
set_option maxHeartbeats 400000
set_option linter.unusedSimpArgs false
namespace Mine
open Builtin.Int (intBits)

theorem lt7 {P : Nat → Prop} (h0 : P 0) (h1 : P 1) (h2 : P 2) (h3 : P 3) (h4 : P 4) (h5 : P 5) (h6 : P 6) : ∀ n, n < 7 → P n := by
  intro n hn
  match n, hn with
  | 0, _ => exact h0
  | 1, _ => exact h1
  | 2, _ => exact h2
  | 3, _ => exact h3
  | 4, _ => exact h4
  | 5, _ => exact h5
  | 6, _ => exact h6
noncomputable def fac (n : Nat) : Int := [1, 1, 2, 6, 24, 120, 720].getD n 0
noncomputable def S1 (n k : Nat) : Int := (([[1, 0, 0, 0, 0, 0, 0], [0, 1, 0, 0, 0, 0, 0], [0, (-1), 1, 0, 0, 0, 0], [0, 2, (-3), 1, 0, 0, 0], [0, (-6), 11, (-6), 1, 0, 0], [0, 24, (-50), 35, (-10), 1, 0], [0, (-120), 274, (-225), 85, (-15), 1]] : List (List Int)).getD n []).getD k 0
noncomputable def S2 (n k : Nat) : Int := (([[1, 0, 0, 0, 0, 0, 0], [0, 1, 0, 0, 0, 0, 0], [0, 1, 1, 0, 0, 0, 0], [0, 1, 3, 1, 0, 0, 0], [0, 1, 7, 6, 1, 0, 0], [0, 1, 15, 25, 10, 1, 0], [0, 1, 31, 90, 65, 15, 1]] : List (List Int)).getD n []).getD k 0
noncomputable def Ch (n k : Nat) : Int := (([[1, 0, 0, 0, 0, 0, 0], [1, 1, 0, 0, 0, 0, 0], [1, 2, 1, 0, 0, 0, 0], [1, 3, 3, 1, 0, 0, 0], [1, 4, 6, 4, 1, 0, 0], [1, 5, 10, 10, 5, 1, 0], [1, 6, 15, 20, 15, 6, 1]] : List (List Int)).getD n []).getD k 0
noncomputable def isInt (o : Option V) (i : Int) : Bool := match o with
  | some (.int j) => j == i
  | _ => false
theorem isInt_eq {o : Option V} {i : Int} (h : isInt o i = true) : o = some (.int i) := by
  unfold isInt at h
  split at h
  · rw [eq_of_beq h]
  · cases h
theorem c_fac (K : Nat) : ∀ n : Nat, n < 7 → call0 (K + 1) 1 [.int (n : Int)] = some (.int (fac n)) := by
  have h : decide (∀ n : Nat, n < 7 → isInt (call0 (K + 1) 1 [.int (n : Int)]) (fac n) = true) = true := by kernel_rfl
  exact fun n hn => isInt_eq (of_decide_eq_true h n hn)
theorem c_s1 (K : Nat) : ∀ n : Nat, n < 7 → ∀ k : Nat, k < 7 → k ≤ n → call0 (K + 1) 2 [.int (n : Int), .int (k : Int)] = some (.int (S1 n k)) := by
  have h : decide (∀ n : Nat, n < 7 → ∀ k : Nat, k < 7 → k ≤ n → isInt (call0 (K + 1) 2 [.int (n : Int), .int (k : Int)]) (S1 n k) = true) = true := by kernel_rfl
  exact fun n hn k hk hkn => isInt_eq (of_decide_eq_true h n hn k hk hkn)
theorem c_s2 (K : Nat) : ∀ n : Nat, n < 7 → ∀ k : Nat, k < 7 → k ≤ n → call0 (K + 2) 3 [.int (n : Int), .int (k : Int)] = some (.int (S2 n k)) := by
  have h : decide (∀ n : Nat, n < 7 → ∀ k : Nat, k < 7 → k ≤ n → isInt (call0 (K + 2) 3 [.int (n : Int), .int (k : Int)]) (S2 n k) = true) = true := by kernel_rfl
  exact fun n hn k hk hkn => isInt_eq (of_decide_eq_true h n hn k hk hkn)
theorem ways_ok : ∀ n, n < 7 → ∀ k, k < 7 → k ≤ n → mulOk (fac k) (fac (n - k)) = true ∧ divOk (fac k * fac (n - k)) = true ∧ (fac n).fdiv (fac k * fac (n - k)) = Ch n k := by
  decide +kernel
theorem tab_bits : ∀ n, n < 7 → ∀ k, k < 7 → k ≤ n → intBits (S1 n k) ≤ 20 ∧ intBits (S2 n k) ≤ 20 ∧ intBits (Ch n k) ≤ 20 := by
  decide +kernel

theorem d_pow_add (x : Dyadic) (n m : Nat) : x ^ n * x ^ m = x ^ (n + m) := by
  induction m with
  | zero => rw [Dyadic.pow_zero, Dyadic.mul_one]; rfl
  | succ m ih => rw [← Nat.add_assoc, Dyadic.pow_succ, Dyadic.pow_succ, ← ih, Dyadic.mul_assoc]
theorem d_mul_pow (x y : Dyadic) (n : Nat) : x ^ n * y ^ n = (x * y) ^ n := by
  induction n with
  | zero => rw [Dyadic.pow_zero, Dyadic.pow_zero, Dyadic.pow_zero, Dyadic.mul_one]
  | succ n ih => rw [Dyadic.pow_succ, Dyadic.pow_succ, Dyadic.pow_succ, ← ih]; grind
theorem d_neg_pow (x : Dyadic) (n : Nat) : (-x) ^ n = if n % 2 = 1 then -(x ^ n) else x ^ n := by
  induction n with
  | zero => rw [Dyadic.pow_zero, Dyadic.pow_zero]; rfl
  | succ n ih =>
    rw [Dyadic.pow_succ, Dyadic.pow_succ, ih]
    by_cases h : n % 2 = 1
    · rw [if_pos h, if_neg (by omega)]; grind
    · rw [if_neg h, if_pos (by omega)]; grind

noncomputable def binT (x y : Dyadic) (n i : Nat) : Dyadic := x ^ i * y ^ (n - i) * ((Ch n i : Int) : Dyadic)
theorem binom (x y : Dyadic) : ∀ n, n < 7 → (x + y) ^ n = dsum ((List.range (n + 1)).map (binT x y n)) := by
  refine lt7 (P := fun n => (x + y) ^ n = dsum ((List.range (n + 1)).map (binT x y n))) ?_ ?_ ?_ ?_ ?_ ?_ ?_
  · show (x + y) ^ 0 = x ^ 0 * y ^ 0 * (1 : Dyadic) + (0)
    grind
  · show (x + y) ^ 1 = x ^ 0 * y ^ 1 * (1 : Dyadic) + (x ^ 1 * y ^ 0 * (1 : Dyadic) + (0))
    grind
  · show (x + y) ^ 2 = x ^ 0 * y ^ 2 * (1 : Dyadic) + (x ^ 1 * y ^ 1 * (2 : Dyadic) + (x ^ 2 * y ^ 0 * (1 : Dyadic) + (0)))
    grind
  · show (x + y) ^ 3 = x ^ 0 * y ^ 3 * (1 : Dyadic) + (x ^ 1 * y ^ 2 * (3 : Dyadic) + (x ^ 2 * y ^ 1 * (3 : Dyadic) + (x ^ 3 * y ^ 0 * (1 : Dyadic) + (0))))
    grind
  · show (x + y) ^ 4 = x ^ 0 * y ^ 4 * (1 : Dyadic) + (x ^ 1 * y ^ 3 * (4 : Dyadic) + (x ^ 2 * y ^ 2 * (6 : Dyadic) + (x ^ 3 * y ^ 1 * (4 : Dyadic) + (x ^ 4 * y ^ 0 * (1 : Dyadic) + (0)))))
    grind
  · show (x + y) ^ 5 = x ^ 0 * y ^ 5 * (1 : Dyadic) + (x ^ 1 * y ^ 4 * (5 : Dyadic) + (x ^ 2 * y ^ 3 * (10 : Dyadic) + (x ^ 3 * y ^ 2 * (10 : Dyadic) + (x ^ 4 * y ^ 1 * (5 : Dyadic) + (x ^ 5 * y ^ 0 * (1 : Dyadic) + (0))))))
    grind
  · show (x + y) ^ 6 = x ^ 0 * y ^ 6 * (1 : Dyadic) + (x ^ 1 * y ^ 5 * (6 : Dyadic) + (x ^ 2 * y ^ 4 * (15 : Dyadic) + (x ^ 3 * y ^ 3 * (20 : Dyadic) + (x ^ 4 * y ^ 2 * (15 : Dyadic) + (x ^ 5 * y ^ 1 * (6 : Dyadic) + (x ^ 6 * y ^ 0 * (1 : Dyadic) + (0)))))))
    grind

noncomputable def falT (x : Dyadic) (n i : Nat) : Dyadic := x ^ i * ((S1 n i : Int) : Dyadic)
theorem falls (x : Dyadic) : ∀ n, n < 7 → dsum ((List.range (n + 1)).map (falT x n)) = steps x n := by
  refine lt7 (P := fun n => dsum ((List.range (n + 1)).map (falT x n)) = steps x n) ?_ ?_ ?_ ?_ ?_ ?_ ?_
  · show x ^ 0 * (1 : Dyadic) + (0) = 1
    grind
  · show x ^ 0 * (0 : Dyadic) + (x ^ 1 * (1 : Dyadic) + (0)) = (1 * (x - 0))
    grind
  · show x ^ 0 * (0 : Dyadic) + (x ^ 1 * (-1 : Dyadic) + (x ^ 2 * (1 : Dyadic) + (0))) = ((1 * (x - 0)) * (x - 1))
    grind
  · show x ^ 0 * (0 : Dyadic) + (x ^ 1 * (2 : Dyadic) + (x ^ 2 * (-3 : Dyadic) + (x ^ 3 * (1 : Dyadic) + (0)))) = (((1 * (x - 0)) * (x - 1)) * (x - 2))
    grind
  · show x ^ 0 * (0 : Dyadic) + (x ^ 1 * (-6 : Dyadic) + (x ^ 2 * (11 : Dyadic) + (x ^ 3 * (-6 : Dyadic) + (x ^ 4 * (1 : Dyadic) + (0))))) = ((((1 * (x - 0)) * (x - 1)) * (x - 2)) * (x - 3))
    grind
  · show x ^ 0 * (0 : Dyadic) + (x ^ 1 * (24 : Dyadic) + (x ^ 2 * (-50 : Dyadic) + (x ^ 3 * (35 : Dyadic) + (x ^ 4 * (-10 : Dyadic) + (x ^ 5 * (1 : Dyadic) + (0)))))) = (((((1 * (x - 0)) * (x - 1)) * (x - 2)) * (x - 3)) * (x - 4))
    grind
  · show x ^ 0 * (0 : Dyadic) + (x ^ 1 * (-120 : Dyadic) + (x ^ 2 * (274 : Dyadic) + (x ^ 3 * (-225 : Dyadic) + (x ^ 4 * (85 : Dyadic) + (x ^ 5 * (-15 : Dyadic) + (x ^ 6 * (1 : Dyadic) + (0))))))) = ((((((1 * (x - 0)) * (x - 1)) * (x - 2)) * (x - 3)) * (x - 4)) * (x - 5))
    grind

noncomputable def bakT (x : Dyadic) (n i : Nat) : Dyadic := steps x i * ((S2 n i : Int) : Dyadic)
theorem backs (x : Dyadic) : ∀ n, n < 7 → dsum ((List.range (n + 1)).map (bakT x n)) = x ^ n := by
  refine lt7 (P := fun n => dsum ((List.range (n + 1)).map (bakT x n)) = x ^ n) ?_ ?_ ?_ ?_ ?_ ?_ ?_
  · show 1 * (1 : Dyadic) + (0) = x ^ 0
    grind
  · show 1 * (0 : Dyadic) + ((1 * (x - 0)) * (1 : Dyadic) + (0)) = x ^ 1
    grind
  · show 1 * (0 : Dyadic) + ((1 * (x - 0)) * (1 : Dyadic) + (((1 * (x - 0)) * (x - 1)) * (1 : Dyadic) + (0))) = x ^ 2
    grind
  · show 1 * (0 : Dyadic) + ((1 * (x - 0)) * (1 : Dyadic) + (((1 * (x - 0)) * (x - 1)) * (3 : Dyadic) + ((((1 * (x - 0)) * (x - 1)) * (x - 2)) * (1 : Dyadic) + (0)))) = x ^ 3
    grind
  · show 1 * (0 : Dyadic) + ((1 * (x - 0)) * (1 : Dyadic) + (((1 * (x - 0)) * (x - 1)) * (7 : Dyadic) + ((((1 * (x - 0)) * (x - 1)) * (x - 2)) * (6 : Dyadic) + (((((1 * (x - 0)) * (x - 1)) * (x - 2)) * (x - 3)) * (1 : Dyadic) + (0))))) = x ^ 4
    grind
  · show 1 * (0 : Dyadic) + ((1 * (x - 0)) * (1 : Dyadic) + (((1 * (x - 0)) * (x - 1)) * (15 : Dyadic) + ((((1 * (x - 0)) * (x - 1)) * (x - 2)) * (25 : Dyadic) + (((((1 * (x - 0)) * (x - 1)) * (x - 2)) * (x - 3)) * (10 : Dyadic) + ((((((1 * (x - 0)) * (x - 1)) * (x - 2)) * (x - 3)) * (x - 4)) * (1 : Dyadic) + (0)))))) = x ^ 5
    grind
  · show 1 * (0 : Dyadic) + ((1 * (x - 0)) * (1 : Dyadic) + (((1 * (x - 0)) * (x - 1)) * (31 : Dyadic) + ((((1 * (x - 0)) * (x - 1)) * (x - 2)) * (90 : Dyadic) + (((((1 * (x - 0)) * (x - 1)) * (x - 2)) * (x - 3)) * (65 : Dyadic) + ((((((1 * (x - 0)) * (x - 1)) * (x - 2)) * (x - 3)) * (x - 4)) * (15 : Dyadic) + (((((((1 * (x - 0)) * (x - 1)) * (x - 2)) * (x - 3)) * (x - 4)) * (x - 5)) * (1 : Dyadic) + (0))))))) = x ^ 6
    grind

theorem geos (x : Dyadic) : ∀ n, n < 7 → (x - 1) * dsum ((List.range n).map (fun i => x ^ i)) = x ^ n - 1 := by
  refine lt7 (P := fun n => (x - 1) * dsum ((List.range n).map (fun i => x ^ i)) = x ^ n - 1) ?_ ?_ ?_ ?_ ?_ ?_ ?_
  · show (x - 1) * (0) = x ^ 0 - 1
    grind
  · show (x - 1) * (x ^ 0 + (0)) = x ^ 1 - 1
    grind
  · show (x - 1) * (x ^ 0 + (x ^ 1 + (0))) = x ^ 2 - 1
    grind
  · show (x - 1) * (x ^ 0 + (x ^ 1 + (x ^ 2 + (0)))) = x ^ 3 - 1
    grind
  · show (x - 1) * (x ^ 0 + (x ^ 1 + (x ^ 2 + (x ^ 3 + (0))))) = x ^ 4 - 1
    grind
  · show (x - 1) * (x ^ 0 + (x ^ 1 + (x ^ 2 + (x ^ 3 + (x ^ 4 + (0)))))) = x ^ 5 - 1
    grind
  · show (x - 1) * (x ^ 0 + (x ^ 1 + (x ^ 2 + (x ^ 3 + (x ^ 4 + (x ^ 5 + (0))))))) = x ^ 6 - 1
    grind

theorem ones : ∀ n, n < 7 → dsum ((List.range n).map (fun i => (1 : Dyadic) ^ i)) = ((n : Int) : Dyadic) := by
  decide +kernel
end Mine

end
section -- P12
open PySem PySem.W PyProof.Rows
set_option maxRecDepth 100000
set_option maxHeartbeats 400000
set_option linter.unusedSimpArgs false
namespace Mine
open Builtin.Int (intBits)

noncomputable def pows (x : Dyadic) (N : Nat) : List V := ((List.range N).map (fun i => x ^ i)).map rep
theorem pows_get {x : Dyadic} {N j : Nat} (h : j < N) : (pows x N)[j]? = some (rep (x ^ j)) := by
  unfold pows
  rw [List.getElem?_map, List.getElem?_map, List.getElem?_range h]; rfl
theorem pows_len (x : Dyadic) (N : Nat) : (pows x N).length = N := by unfold pows; simp
theorem pows_take {x : Dyadic} {N n : Nat} (h : n ≤ N) : (pows x N).take n = pows x n := by
  unfold pows
  rw [← List.map_take, ← List.map_take, List.take_range, Nat.min_eq_left h]
theorem pow_sz {x : Dyadic} (hx : Sz 20 70 x) {j : Nat} (hj : j < 13) : Sz 240 1100 (x ^ j) := (hx.pow j).mono (by omega) (by omega)

noncomputable def xk (is : Nat) (σ : List V) (vs : List V) : Option R := some (.next (σ.set is (.lst vs)) (some (is, true)))
section
variable {σ : List V} {ow : Ow}
theorem ka_new {i : Nat} {e : X} {vs : List V} (hf : fresh e = true) (h : flats vs = true) : ka i (fresh e) σ ow (some (.lst vs)) = some (.next (σ.set i (.lst vs)) (some (i, true))) := by
  rw [hf]
  show some (asgV i true (.lst vs) σ ow) = _
  unfold asgV
  rw [if_pos (by simpa [flatList] using h)]
end

/-- (x+y)^n -/
theorem c_sums (k : Nat) {x y : Dyadic} (hx : Sz 20 70 x) (hy : Sz 20 70 y) {n N : Nat} (hn : n < 7) (hN : n < N) : call0 (k + 6) 22 [rep x, rep y, .int n, .lst (pows x N)] = some (.bool true) := by
  have go : ∀ P : List V, call0 (k + 6) 22 [rep x, rep y, .int n, .lst P] = kf (exs gt0 sh0 (call0 (k + 5)) f__law_sums_right.body [rep x, rep y, .int n, .lst P, .undef, .undef, .undef] none) := fun P => cstep (fd := f__law_sums_right) rfl rfl
  rw [go]
  have o5 : owBut (some (4, true)) 5 = some (4, true) := rfl
  have o6 : owBut (some (4, true)) 6 = some (4, true) := rfl
  have hT : ∀ i, i ≤ n → Sz 1000 3000 (binT x y n i) := fun i hi =>
    (((hx.pow i).mul (hy.pow (n - i))).mul (Sz.int (tab_bits n hn i (by omega) hi).2.2)).mono (by omega) (by omega)
  obtain ⟨σ', h1, h2⟩ := loop_0 (f := fun σ ow => exs gt0 sh0 (call0 (k + 5)) [.asg 6 (.bin .FloorDiv (.call 1 [(.var 2)]) (.bin .Mult (.call 1 [(.var 5)]) (.call 1 [(.bin .Sub (.var 2) (.var 5))]))), .app 4 (.call 16 [(.call 15 [(.idx (.var 3) (.var 5)), (.call 18 [(.var 1), (.bin .Sub (.var 2) (.var 5)), (.int 4000)])]), (.var 6), (.int 4000)])] σ ow) (i := 5) (ow := some (4, true)) rfl
    (fun j σ => ∃ u v, σ = [rep x, rep y, .int n, .lst (pows x N), .lst (((List.range j).map (binT x y n)).map rep), u, v]) (N := n + 1) (σ := [rep x, rep y, .int n, .lst (pows x N), .lst [], .undef, .undef]) ⟨_, _, rfl⟩ (by
      rintro j σ hj ⟨u, v, rfl⟩
      refine ⟨[rep x, rep y, .int n, .lst (pows x N), .lst (((List.range (j + 1)).map (binT x y n)).map rep), .int j, .int (Ch n j)], ?_, _, _, rfl⟩
      have hjn : j ≤ n := by omega
      obtain ⟨w1, w2, w3⟩ := ways_ok n hn j (by omega) hjn
      have tb := (tab_bits n hn j (by omega) hjn).2.2
      have hsub : (n : Int) - (j : Int) = ((n - j : Nat) : Int) := by omega
      have f1 := c_fac (k + 4) n hn
      have f2 := c_fac (k + 4) j (by omega)
      have f3 := c_fac (k + 4) (n - j) (by omega)
      have by_ := hy.bits
      have hp := c_pow k (d := y) (n := n - j) (by have : bitsD y * (n - j) ≤ 70 * 6 := Nat.mul_le_mul by_ (by omega)
                                                   omega) (by omega) (by omega)
      have hm := c_mul (k + 4) (x := x ^ j) (y := y ^ (n - j)) (by have := (hx.pow j).bits; omega) (by have := (hy.pow (n - j)).bits; omega)
      have hprod := ((hx.pow j).mul (hy.pow (n - j))).bits
      have hmi := c_mul_int (k + 1) (d := x ^ j * y ^ (n - j)) (n := Ch n j) (prec := 4000) (by omega) (by omega) (by omega)
      have hidx := vidx_get (pows_get (x := x) (N := N) (j := j) (by omega)) (by omega)
      have hE : ev gt0 sh0 (call0 (k + 5)) (.call 16 [(.call 15 [(.idx (.var 3) (.var 5)), (.call 18 [(.var 1), (.bin .Sub (.var 2) (.var 5)), (.int 4000)])]), (.var 6), (.int 4000)]) [rep x, rep y, .int n, .lst (pows x N), .lst (((List.range j).map (binT x y n)).map rep), .int j, .int (Ch n j)] = some (rep (binT x y n j)) := by
        simp -implicitDefEqProofs only [b1_some, b2_some, ob_some, vget_int, vget_str, vget_bool, vget_none, vget_tup, vget_lst, vget_rep, vneg_int, t_int, t_bool, t_none, vnot_int, vnot_bool, vnot_none, bo_add, bo_sub, bo_mul, bo_div, bo_mod, bo_pow, bo_shl, bo_shr, bo_and, bo_xor, vc_eq, vc_ne, vc_lt, vc_le, vc_gt, vc_ge, vc_seq, vc_req, vc_rne, c2_some, kc_some, ktup_some, klst_some, vbits_int, vint_int, vint_bool, visint_int, vidx_tup, vidx_lst, vshift_str, vdm_int, kand_int, kand_bool, kand_t, kand_f, kor_int, kor_bool, kor_none, kor_t, kor_f, kif_bool, kif_t, kif_f, kite_int, kite_bool, kite_none, kt_t, kt_f, kont_next, kont_ret, e_none, e_bool, e_int, e_str, e_var, e_g0, e_g1, e_g2, e_g8, e_g9, e_g10, e_g11, e_g12, e_bin, e_neg, e_not, e_one, e_and, e_or, e_cmp, e_ite, e_tup, e_lst, e_idx, e_shift, e_call, e_bits, e_toint, e_isint, e_dm, es_nil, es_cons, ka_int, ka_bool, ka_none, ka_rep, ob_none, kr_some, kT_2, kT_3, kT_4, kW_2, kW_3, kasrt_t, s_asg, s_asgC, s_asgT, s_asgU, s_asgW, s_aug, s_ite, s_ret, s_asrt, x_nil, x_cons, kf_ret, T4_def, item0, item1, List.set_cons_zero, List.set_cons_succ, List.getElem?_cons_zero, List.getElem?_cons_succ, decide_true, decide_false, not_true_eq_false, not_false_eq_true, Bool.not_true, Bool.not_false, ne_eq, if_true, if_false, Bool.false_eq_true, show ((0:Int) = 0) = True from eq_self 0, show ((1:Int) = 0) = False from by decide, show ((0:Int) = 1) = False from by decide, show ((1:Int)=1) = True from eq_self 1, hsub, hidx, hp, hm, hmi]
        rfl
      have happ := s_app (cs := call0 (k + 5)) (i := 4) (σ := [rep x, rep y, .int n, .lst (pows x N), .lst (((List.range j).map (binT x y n)).map rep), .int j, .int (Ch n j)]) (vs := ((List.range j).map (binT x y n)).map rep) (by rw [e_var]; rfl) hE (flat_rep _) (by simp; omega)
      simp -implicitDefEqProofs only [b1_some, b2_some, ob_some, vget_int, vget_str, vget_bool, vget_none, vget_tup, vget_lst, vget_rep, vneg_int, t_int, t_bool, t_none, vnot_int, vnot_bool, vnot_none, bo_add, bo_sub, bo_mul, bo_div, bo_mod, bo_pow, bo_shl, bo_shr, bo_and, bo_xor, vc_eq, vc_ne, vc_lt, vc_le, vc_gt, vc_ge, vc_seq, vc_req, vc_rne, c2_some, kc_some, ktup_some, klst_some, vbits_int, vint_int, vint_bool, visint_int, vidx_tup, vidx_lst, vshift_str, vdm_int, kand_int, kand_bool, kand_t, kand_f, kor_int, kor_bool, kor_none, kor_t, kor_f, kif_bool, kif_t, kif_f, kite_int, kite_bool, kite_none, kt_t, kt_f, kont_next, kont_ret, e_none, e_bool, e_int, e_str, e_var, e_g0, e_g1, e_g2, e_g8, e_g9, e_g10, e_g11, e_g12, e_bin, e_neg, e_not, e_one, e_and, e_or, e_cmp, e_ite, e_tup, e_lst, e_idx, e_shift, e_call, e_bits, e_toint, e_isint, e_dm, es_nil, es_cons, ka_int, ka_bool, ka_none, ka_rep, ob_none, kr_some, kT_2, kT_3, kT_4, kW_2, kW_3, kasrt_t, s_asg, s_asgC, s_asgT, s_asgU, s_asgW, s_aug, s_ite, s_ret, s_asrt, x_nil, x_cons, kf_ret, T4_def, item0, item1, List.set_cons_zero, List.set_cons_succ, List.getElem?_cons_zero, List.getElem?_cons_succ, decide_true, decide_false, not_true_eq_false, not_false_eq_true, Bool.not_true, Bool.not_false, ne_eq, if_true, if_false, Bool.false_eq_true, show ((0:Int) = 0) = True from eq_self 0, show ((1:Int) = 0) = False from by decide, show ((0:Int) = 1) = False from by decide, show ((1:Int)=1) = True from eq_self 1, f1, f2, f3, hsub, bo_mul w1, bo_div w2, w3, o6, happ, List.range_succ, List.map_append, List.map_cons, List.map_nil])
  obtain ⟨u, v, rfl⟩ := h2
  have hfor := (s_forR (cs := call0 (k + 5)) (i := 5) (xs := [.bin .Add (.var 2) (.int 1)]) (σ := [rep x, rep y, .int n, .lst (pows x N), .lst [], .undef, .undef]) (ow := some (4, true)) (as := [.int ((n + 1 : Nat) : Int)]) (by rw [es_cons, es_nil, e_bin, e_var, e_int]; rfl) (range_n (by omega))).trans h1
  have ha := c_add2 (k + 1) (hx.bd (by decide) (by decide)) (hy.bd (by decide) (by decide))
  have bxy := (hx.add hy).bits
  have hp := c_pow k (d := x + y) (n := n) (by have : bitsD (x + y) * n ≤ 71 * 6 := Nat.mul_le_mul bxy (by omega)
                                               omega) (by omega) (by omega)
  have hs := c_sum (k + 2) (ds := (List.range (n + 1)).map (binT x y n)) (by
    intro d hd
    obtain ⟨i, hi, rfl⟩ := List.mem_map.mp hd
    exact hT i (by have := List.mem_range.mp hi; omega)) (by simp; omega)
  have hb := binom x y n hn
  have hnew := ka_new (i := 4) (e := .lst []) (vs := []) (σ := [rep x, rep y, .int n, .lst (pows x N), .undef, .undef, .undef]) (ow := none) rfl rfl
  have hbt : ((x + y) ^ n = dsum ((List.range (n + 1)).map (binT x y n))) = True := eq_true hb
  simp -implicitDefEqProofs only [b1_some, b2_some, ob_some, vget_int, vget_str, vget_bool, vget_none, vget_tup, vget_lst, vget_rep, vneg_int, t_int, t_bool, t_none, vnot_int, vnot_bool, vnot_none, bo_add, bo_sub, bo_mul, bo_div, bo_mod, bo_pow, bo_shl, bo_shr, bo_and, bo_xor, vc_eq, vc_ne, vc_lt, vc_le, vc_gt, vc_ge, vc_seq, vc_req, vc_rne, c2_some, kc_some, ktup_some, klst_some, vbits_int, vint_int, vint_bool, visint_int, vidx_tup, vidx_lst, vshift_str, vdm_int, kand_int, kand_bool, kand_t, kand_f, kor_int, kor_bool, kor_none, kor_t, kor_f, kif_bool, kif_t, kif_f, kite_int, kite_bool, kite_none, kt_t, kt_f, kont_next, kont_ret, e_none, e_bool, e_int, e_str, e_var, e_g0, e_g1, e_g2, e_g8, e_g9, e_g10, e_g11, e_g12, e_bin, e_neg, e_not, e_one, e_and, e_or, e_cmp, e_ite, e_tup, e_lst, e_idx, e_shift, e_call, e_bits, e_toint, e_isint, e_dm, es_nil, es_cons, ka_int, ka_bool, ka_none, ka_rep, ob_none, kr_some, kT_2, kT_3, kT_4, kW_2, kW_3, kasrt_t, s_asg, s_asgC, s_asgT, s_asgU, s_asgW, s_aug, s_ite, s_ret, s_asrt, x_nil, x_cons, kf_ret, T4_def, item0, item1, List.set_cons_zero, List.set_cons_succ, List.getElem?_cons_zero, List.getElem?_cons_succ, decide_true, decide_false, not_true_eq_false, not_false_eq_true, Bool.not_true, Bool.not_false, ne_eq, if_true, if_false, Bool.false_eq_true, show ((0:Int) = 0) = True from eq_self 0, show ((1:Int) = 0) = False from by decide, show ((0:Int) = 1) = False from by decide, show ((1:Int)=1) = True from eq_self 1, f__law_sums_right, hnew, hfor, ha, hp, hs, hbt]
end Mine

end
section -- P13
open PySem PySem.W PyProof.Rows
set_option maxRecDepth 100000
set_option maxHeartbeats 400000
set_option linter.unusedSimpArgs false
namespace Mine
open Builtin.Int (intBits)

theorem rng0 (n : Nat) (g : Nat → V) : (List.range' 0 n).map g = (List.range n).map g := by rw [List.range_eq_range']
theorem c_fall (k : Nat) {x : Dyadic} (hx : Sz 20 70 x) {n N : Nat} (hn : n < 7) (hN : n < N) : call0 (k + 7) 23 [rep x, .int n, .lst (pows x N)] = some (.bool true) := by
  have go : ∀ P : List V, call0 (k + 7) 23 [rep x, .int n, .lst P] = kf (exs gt0 sh0 (call0 (k + 6)) f__law_falling_right.body [rep x, .int n, .lst P, .undef, .undef, .undef] none) := fun P => cstep (fd := f__law_falling_right) rfl rfl
  rw [go]
  have hst : ∀ j : Nat, j < 7 → call0 (k + 6) 21 [rep x, .int j] = some (rep (steps x j)) := fun j hj => c_steps k hx (by omega)
  have s1b : ∀ i, i ≤ n → Sz 1000 3000 (falT x n i) := fun i hi => ((hx.pow i).mul (Sz.int (tab_bits n hn i (by omega) hi).1)).mono (by omega) (by omega)
  have s2b : ∀ i, i ≤ n → Sz 1000 3000 (bakT x n i) := fun i hi => ((steps_sz hx i (by omega)).mul (Sz.int (tab_bits n hn i (by omega) hi).2.1)).mono (by omega) (by omega)
  have ev1 : ∀ (u3 u4 u5 : V) (cs' : Nat → List V → Option V), cs' = call0 (k + 6) → ev gt0 sh0 cs' (.compR (.call 16 [(.idx (.var 2) (.var 4)), (.call 2 [(.var 1), (.var 4)]), (.int 4000)]) 4 [(.bin .Add (.var 1) (.int 1))]) [rep x, .int n, .lst (pows x N), u3, u4, u5] = some (.lst (((List.range (n + 1)).map (falT x n)).map rep)) := by
    rintro u3 u4 u5 cs' rfl
    refine e_compR (as := [.int ((n + 1 : Nat) : Int)]) (vs := rangeUp 0 (n + 1)) (by rw [es_cons, es_nil, e_bin, e_var, e_int]; rfl) (range_n (by omega)) ?_ (flats_map _)
    rw [show ((0 : Int)) = ((0 : Nat) : Int) from rfl, mapO_up (g := fun j => rep (falT x n j)) (n + 1) 0 ?_, rng0, List.map_map]
    · rfl
    intro j hj
    have hjn : j ≤ n := by omega
    have tb := (tab_bits n hn j (by omega) hjn).1
    have f2 := c_s1 (k + 5) n hn j (by omega) hjn
    have hb := (hx.pow j).bits
    have hmi := c_mul_int (k + 2) (d := x ^ j) (n := S1 n j) (prec := 4000) (by omega) (by omega) (by omega)
    have hidx := vidx_get (pows_get (x := x) (N := N) (j := j) (by omega)) (by omega)
    simp -implicitDefEqProofs only [b1_some, b2_some, ob_some, vget_int, vget_str, vget_bool, vget_none, vget_tup, vget_lst, vget_rep, vneg_int, t_int, t_bool, t_none, vnot_int, vnot_bool, vnot_none, bo_add, bo_sub, bo_mul, bo_div, bo_mod, bo_pow, bo_shl, bo_shr, bo_and, bo_xor, vc_eq, vc_ne, vc_lt, vc_le, vc_gt, vc_ge, vc_seq, vc_req, vc_rne, c2_some, kc_some, ktup_some, klst_some, vbits_int, vint_int, vint_bool, visint_int, vidx_tup, vidx_lst, vshift_str, vdm_int, kand_int, kand_bool, kand_t, kand_f, kor_int, kor_bool, kor_none, kor_t, kor_f, kif_bool, kif_t, kif_f, kite_int, kite_bool, kite_none, kt_t, kt_f, kont_next, kont_ret, e_none, e_bool, e_int, e_str, e_var, e_g0, e_g1, e_g2, e_g8, e_g9, e_g10, e_g11, e_g12, e_bin, e_neg, e_not, e_one, e_and, e_or, e_cmp, e_ite, e_tup, e_lst, e_idx, e_shift, e_call, e_bits, e_toint, e_isint, e_dm, es_nil, es_cons, ka_int, ka_bool, ka_none, ka_rep, ob_none, kr_some, kT_2, kT_3, kT_4, kW_2, kW_3, kasrt_t, s_asg, s_asgC, s_asgT, s_asgU, s_asgW, s_aug, s_ite, s_ret, s_asrt, x_nil, x_cons, kf_ret, T4_def, item0, item1, List.set_cons_zero, List.set_cons_succ, List.getElem?_cons_zero, List.getElem?_cons_succ, decide_true, decide_false, not_true_eq_false, not_false_eq_true, Bool.not_true, Bool.not_false, ne_eq, if_true, if_false, Bool.false_eq_true, show ((0:Int) = 0) = True from eq_self 0, show ((1:Int) = 0) = False from by decide, show ((0:Int) = 1) = False from by decide, show ((1:Int)=1) = True from eq_self 1, hidx, f2, hmi]
    rfl
  have ev2 : ∀ (u3 u4 u5 : V) (cs' : Nat → List V → Option V), cs' = call0 (k + 6) → ev gt0 sh0 cs' (.compR (.call 16 [(.call 21 [(.var 0), (.var 4)]), (.call 3 [(.var 1), (.var 4)]), (.int 4000)]) 4 [(.bin .Add (.var 1) (.int 1))]) [rep x, .int n, .lst (pows x N), u3, u4, u5] = some (.lst (((List.range (n + 1)).map (bakT x n)).map rep)) := by
    rintro u3 u4 u5 cs' rfl
    refine e_compR (as := [.int ((n + 1 : Nat) : Int)]) (vs := rangeUp 0 (n + 1)) (by rw [es_cons, es_nil, e_bin, e_var, e_int]; rfl) (range_n (by omega)) ?_ (flats_map _)
    rw [show ((0 : Int)) = ((0 : Nat) : Int) from rfl, mapO_up (g := fun j => rep (bakT x n j)) (n + 1) 0 ?_, rng0, List.map_map]
    · rfl
    intro j hj
    have hjn : j ≤ n := by omega
    have tb := (tab_bits n hn j (by omega) hjn).2.1
    have f2 := c_s2 (k + 4) n hn j (by omega) hjn
    have hb := (steps_sz hx j (by omega)).bits
    have hmi := c_mul_int (k + 2) (d := steps x j) (n := S2 n j) (prec := 4000) (by omega) (by omega) (by omega)
    have f3 := hst j (by omega)
    simp -implicitDefEqProofs only [b1_some, b2_some, ob_some, vget_int, vget_str, vget_bool, vget_none, vget_tup, vget_lst, vget_rep, vneg_int, t_int, t_bool, t_none, vnot_int, vnot_bool, vnot_none, bo_add, bo_sub, bo_mul, bo_div, bo_mod, bo_pow, bo_shl, bo_shr, bo_and, bo_xor, vc_eq, vc_ne, vc_lt, vc_le, vc_gt, vc_ge, vc_seq, vc_req, vc_rne, c2_some, kc_some, ktup_some, klst_some, vbits_int, vint_int, vint_bool, visint_int, vidx_tup, vidx_lst, vshift_str, vdm_int, kand_int, kand_bool, kand_t, kand_f, kor_int, kor_bool, kor_none, kor_t, kor_f, kif_bool, kif_t, kif_f, kite_int, kite_bool, kite_none, kt_t, kt_f, kont_next, kont_ret, e_none, e_bool, e_int, e_str, e_var, e_g0, e_g1, e_g2, e_g8, e_g9, e_g10, e_g11, e_g12, e_bin, e_neg, e_not, e_one, e_and, e_or, e_cmp, e_ite, e_tup, e_lst, e_idx, e_shift, e_call, e_bits, e_toint, e_isint, e_dm, es_nil, es_cons, ka_int, ka_bool, ka_none, ka_rep, ob_none, kr_some, kT_2, kT_3, kT_4, kW_2, kW_3, kasrt_t, s_asg, s_asgC, s_asgT, s_asgU, s_asgW, s_aug, s_ite, s_ret, s_asrt, x_nil, x_cons, kf_ret, T4_def, item0, item1, List.set_cons_zero, List.set_cons_succ, List.getElem?_cons_zero, List.getElem?_cons_succ, decide_true, decide_false, not_true_eq_false, not_false_eq_true, Bool.not_true, Bool.not_false, ne_eq, if_true, if_false, Bool.false_eq_true, show ((0:Int) = 0) = True from eq_self 0, show ((1:Int) = 0) = False from by decide, show ((0:Int) = 1) = False from by decide, show ((1:Int)=1) = True from eq_self 1, f2, f3, hmi]
    rfl
  have h1 := c_sum (k + 3) (ds := (List.range (n + 1)).map (falT x n)) (by
    intro d hd
    obtain ⟨i, hi, rfl⟩ := List.mem_map.mp hd
    exact s1b i (by have := List.mem_range.mp hi; omega)) (by simp; omega)
  have h2 := c_sum (k + 3) (ds := (List.range (n + 1)).map (bakT x n)) (by
    intro d hd
    obtain ⟨i, hi, rfl⟩ := List.mem_map.mp hd
    exact s2b i (by have := List.mem_range.mp hi; omega)) (by simp; omega)
  have h3 := hst n hn
  have q1 : (dsum ((List.range (n + 1)).map (falT x n)) = steps x n) = True := eq_true (falls x n hn)
  have q2 : (dsum ((List.range (n + 1)).map (bakT x n)) = x ^ n) = True := eq_true (backs x n hn)
  have hidx := vidx_get (pows_get (x := x) (N := N) (j := n) hN) (by omega)
  have e1 := ev1 .undef .undef .undef _ rfl
  have e2 := ev2 (.lst (((List.range (n + 1)).map (falT x n)).map rep)) .undef .undef _ rfl
  have n1 := ka_new (i := 3) (e := .compR (.call 16 [(.idx (.var 2) (.var 4)), (.call 2 [(.var 1), (.var 4)]), (.int 4000)]) 4 [(.bin .Add (.var 1) (.int 1))]) (vs := ((List.range (n + 1)).map (falT x n)).map rep) (σ := [rep x, .int n, .lst (pows x N), .undef, .undef, .undef]) (ow := none) rfl (flats_map _)
  have n2 := ka_new (i := 5) (e := .compR (.call 16 [(.call 21 [(.var 0), (.var 4)]), (.call 3 [(.var 1), (.var 4)]), (.int 4000)]) 4 [(.bin .Add (.var 1) (.int 1))]) (vs := ((List.range (n + 1)).map (bakT x n)).map rep) (σ := [rep x, .int n, .lst (pows x N), .lst (((List.range (n + 1)).map (falT x n)).map rep), .undef, .undef]) (ow := some (3, true)) rfl (flats_map _)
  simp -implicitDefEqProofs only [b1_some, b2_some, ob_some, vget_int, vget_str, vget_bool, vget_none, vget_tup, vget_lst, vget_rep, vneg_int, t_int, t_bool, t_none, vnot_int, vnot_bool, vnot_none, bo_add, bo_sub, bo_mul, bo_div, bo_mod, bo_pow, bo_shl, bo_shr, bo_and, bo_xor, vc_eq, vc_ne, vc_lt, vc_le, vc_gt, vc_ge, vc_seq, vc_req, vc_rne, c2_some, kc_some, ktup_some, klst_some, vbits_int, vint_int, vint_bool, visint_int, vidx_tup, vidx_lst, vshift_str, vdm_int, kand_int, kand_bool, kand_t, kand_f, kor_int, kor_bool, kor_none, kor_t, kor_f, kif_bool, kif_t, kif_f, kite_int, kite_bool, kite_none, kt_t, kt_f, kont_next, kont_ret, e_none, e_bool, e_int, e_str, e_var, e_g0, e_g1, e_g2, e_g8, e_g9, e_g10, e_g11, e_g12, e_bin, e_neg, e_not, e_one, e_and, e_or, e_cmp, e_ite, e_tup, e_lst, e_idx, e_shift, e_call, e_bits, e_toint, e_isint, e_dm, es_nil, es_cons, ka_int, ka_bool, ka_none, ka_rep, ob_none, kr_some, kT_2, kT_3, kT_4, kW_2, kW_3, kasrt_t, s_asg, s_asgC, s_asgT, s_asgU, s_asgW, s_aug, s_ite, s_ret, s_asrt, x_nil, x_cons, kf_ret, T4_def, item0, item1, List.set_cons_zero, List.set_cons_succ, List.getElem?_cons_zero, List.getElem?_cons_succ, decide_true, decide_false, not_true_eq_false, not_false_eq_true, Bool.not_true, Bool.not_false, ne_eq, if_true, if_false, Bool.false_eq_true, show ((0:Int) = 0) = True from eq_self 0, show ((1:Int) = 0) = False from by decide, show ((0:Int) = 1) = False from by decide, show ((1:Int)=1) = True from eq_self 1, f__law_falling_right, e1, e2, n1, n2, h1, h2, h3, hidx, q1, q2]

theorem e_all5 {cs : Nat → List V → Option V} {σ : List V} {x : X} (h : ev gt0 sh0 cs x σ = some (.lst [.bool true, .bool true, .bool true, .bool true, .bool true])) : ev gt0 sh0 cs (.all x) σ = some (.bool true) := by
  rw [ev, h]; rfl
theorem items5 : itemsOf (.str "nfcdu") = some [.str "n", .str "f", .str "c", .str "d", .str "u"] := by kernel_rfl
theorem e_comp5 {cs : Nat → List V → Option V} {σ : List V} {elt : X} {i : Nat} (h : ∀ r : PySem.Str, Rn r → ev gt0 sh0 cs elt (σ.set i (.str r)) = some (.bool true)) : ev gt0 sh0 cs (.comp elt i (.str "nfcdu")) σ = some (.lst [.bool true, .bool true, .bool true, .bool true, .bool true]) := by
  rw [ev, e_str]
  show ((itemsOf (.str "nfcdu")).bind _) = _
  rw [items5]
  show ((mapO _ _).bind _) = _
  simp only [mapO, h _ rn_n, h _ rn_f, h _ rn_c, h _ rn_d, h _ rn_u, Option.bind_some, Option.map_some]
  rfl
theorem d_sub_ne {x : Dyadic} (h : x ≠ 1) : x - 1 ≠ 0 := by
  intro e; apply h; have : x = (x - 1) + 1 := by grind
  rw [this, e, Dyadic.zero_add]
theorem dsum_sz {ds : List Dyadic} {a c : Nat} (h : ∀ d ∈ ds, Sz a c d) : Sz a (c + ds.length) (dsum ds) := by
  induction ds with
  | nil => exact ⟨0, rfl, by rw [bits_zero]; omega⟩
  | cons d ds ih =>
    have h1 := ih (fun e he => h e (List.mem_cons_of_mem _ he))
    have h2 := (h d (List.mem_cons_self ..)).mono (a' := a) (c' := c + ds.length) (Nat.le_refl _) (by omega)
    exact (h2.add h1).mono (Nat.le_refl _) (by rw [List.length_cons]; omega)

theorem c_quot (k : Nat) {x : Dyadic} (hx : Sz 20 70 x) {n N : Nat} (hn : n < 7) (hN : n < N) (hN13 : N ≤ 13) : call0 (k + 6) 24 [rep x, .int n, .lst (pows x N)] = some (.bool true) := by
  have go : ∀ P : List V, call0 (k + 6) 24 [rep x, .int n, .lst P] = kf (exs gt0 sh0 (call0 (k + 5)) f__law_quotient_right.body [rep x, .int n, .lst P, .undef, .undef, .undef, .undef, .undef] none) := fun P => cstep (fd := f__law_quotient_right) rfl rfl
  rw [go]
  have h7 : ∀ j : Int, call0 (k + 5) 7 [.int j] = some (rep (j : Dyadic)) := fun j => c_from_int (k + 2) j
  have hps : ∀ i, i < 7 → Sz 120 421 (x ^ i) := fun i hi => (hx.pow i).mono (by omega) (by omega)
  have hall : ∀ d ∈ (List.range n).map (fun i => x ^ i), Sz 120 421 d := by
    intro d hd
    obtain ⟨i, hi, rfl⟩ := List.mem_map.mp hd
    exact hps i (by have := List.mem_range.mp hi; omega)
  have hT : Sz 120 428 (dsum ((List.range n).map (fun i => x ^ i))) := (dsum_sz hall).mono (Nat.le_refl _) (by simp; omega)
  have hs : call0 (k + 5) 14 [.lst (pows x n)] = some (rep (dsum ((List.range n).map (fun i => x ^ i)))) := c_sum (k + 2) (ds := (List.range n).map (fun i => x ^ i)) (fun d hd => (hall d hd).mono (by omega) (by omega)) (by simp; omega)
  have g := geos x n hn
  have g1 := ones n hn
  generalize hTT : dsum ((List.range n).map (fun i => x ^ i)) = T at hs hT g
  have one120 : Sz 120 421 (1 : Dyadic) := Sz.one.mono (by decide) (by decide)
  have one20 : Sz 20 70 (1 : Dyadic) := Sz.one.mono (by decide) (by decide)
  have hup : ev gt0 sh0 (call0 (k + 5)) (.upto (.var 2) (.var 1)) [rep x, .int n, .lst (pows x N), .undef, .undef, .undef, .undef, .undef] = some (.lst (pows x n)) :=
    (e_upto (vs := pows x N) (j := n) (by rw [e_var]; rfl) (by rw [e_var]; rfl) (by omega) (by rw [pows_len]; omega)).trans (by rw [pows_take (by omega)])
  have s1 := c_sub k ((hps n hn).bd (by decide) (by decide)) (one120.bd (by decide) (by decide))
  have s2 := c_sub k (hx.bd (by decide) (by decide)) (one20.bd (by decide) (by decide))
  have zA := (hps n hn).sub one120
  have zB := hx.sub one20
  have hm := c_mul (k + 4) (x := x - 1) (y := T) (by have := zB.bits; omega) (by have := hT.bits; omega)
  rw [g] at hm
  have hidx := vidx_get (pows_get (x := x) (N := N) (j := n) hN) (by omega)
  have ee : (x ^ n - 1 = x ^ n - 1) = True := eq_self _
  by_cases hx1 : x = 1
  · have hT1 : (T = ((n : Int) : Dyadic)) = True := by
      rw [← hTT, hx1]; exact eq_true g1
    have hx1' : (x = 1) = True := eq_true hx1
    simp -implicitDefEqProofs only [b1_some, b2_some, ob_some, vget_int, vget_str, vget_bool, vget_none, vget_tup, vget_lst, vget_rep, vneg_int, t_int, t_bool, t_none, vnot_int, vnot_bool, vnot_none, bo_add, bo_sub, bo_mul, bo_div, bo_mod, bo_pow, bo_shl, bo_shr, bo_and, bo_xor, vc_eq, vc_ne, vc_lt, vc_le, vc_gt, vc_ge, vc_seq, vc_req, vc_rne, c2_some, kc_some, ktup_some, klst_some, vbits_int, vint_int, vint_bool, visint_int, vidx_tup, vidx_lst, vshift_str, vdm_int, kand_int, kand_bool, kand_t, kand_f, kor_int, kor_bool, kor_none, kor_t, kor_f, kif_bool, kif_t, kif_f, kite_int, kite_bool, kite_none, kt_t, kt_f, kont_next, kont_ret, e_none, e_bool, e_int, e_str, e_var, e_g0, e_g1, e_g2, e_g8, e_g9, e_g10, e_g11, e_g12, e_bin, e_neg, e_not, e_one, e_and, e_or, e_cmp, e_ite, e_tup, e_lst, e_idx, e_shift, e_call, e_bits, e_toint, e_isint, e_dm, es_nil, es_cons, ka_int, ka_bool, ka_none, ka_rep, ob_none, kr_some, kT_2, kT_3, kT_4, kW_2, kW_3, kasrt_t, s_asg, s_asgC, s_asgT, s_asgU, s_asgW, s_aug, s_ite, s_ret, s_asrt, x_nil, x_cons, kf_ret, T4_def, item0, item1, List.set_cons_zero, List.set_cons_succ, List.getElem?_cons_zero, List.getElem?_cons_succ, decide_true, decide_false, not_true_eq_false, not_false_eq_true, Bool.not_true, Bool.not_false, ne_eq, if_true, if_false, Bool.false_eq_true, show ((0:Int) = 0) = True from eq_self 0, show ((1:Int) = 0) = False from by decide, show ((0:Int) = 1) = False from by decide, show ((1:Int)=1) = True from eq_self 1, f__law_quotient_right, h7, one_cast, hup, hs, hidx, s1, s2, hm, ee, hx1', hT1]
  · have hx1' : (x = 1) = False := eq_false hx1
    have hTT' : (T = T) = True := eq_self _
    have hall5 := e_all5 (e_comp5 (cs := call0 (k + 5)) (σ := [rep x, .int n, .lst (pows x N), rep 1, rep T, rep (x ^ n - 1), rep (x - 1), .undef]) (elt := .cmp .Eq (.call 17 [(.var 5), (.var 6), (.int 4000), (.var 7)]) (.var 4)) (i := 7) (fun r hr => by
      have hd := c_div (k + 1) (x := x ^ n - 1) (y := x - 1) (z := T) hr (d_sub_ne hx1) g.symm (by have := zA.bits; omega) (by have := zB.bits; omega) (by have := hT.bits; omega)
      simp -implicitDefEqProofs only [b1_some, b2_some, ob_some, vget_int, vget_str, vget_bool, vget_none, vget_tup, vget_lst, vget_rep, vneg_int, t_int, t_bool, t_none, vnot_int, vnot_bool, vnot_none, bo_add, bo_sub, bo_mul, bo_div, bo_mod, bo_pow, bo_shl, bo_shr, bo_and, bo_xor, vc_eq, vc_ne, vc_lt, vc_le, vc_gt, vc_ge, vc_seq, vc_req, vc_rne, c2_some, kc_some, ktup_some, klst_some, vbits_int, vint_int, vint_bool, visint_int, vidx_tup, vidx_lst, vshift_str, vdm_int, kand_int, kand_bool, kand_t, kand_f, kor_int, kor_bool, kor_none, kor_t, kor_f, kif_bool, kif_t, kif_f, kite_int, kite_bool, kite_none, kt_t, kt_f, kont_next, kont_ret, e_none, e_bool, e_int, e_str, e_var, e_g0, e_g1, e_g2, e_g8, e_g9, e_g10, e_g11, e_g12, e_bin, e_neg, e_not, e_one, e_and, e_or, e_cmp, e_ite, e_tup, e_lst, e_idx, e_shift, e_call, e_bits, e_toint, e_isint, e_dm, es_nil, es_cons, ka_int, ka_bool, ka_none, ka_rep, ob_none, kr_some, kT_2, kT_3, kT_4, kW_2, kW_3, kasrt_t, s_asg, s_asgC, s_asgT, s_asgU, s_asgW, s_aug, s_ite, s_ret, s_asrt, x_nil, x_cons, kf_ret, T4_def, item0, item1, List.set_cons_zero, List.set_cons_succ, List.getElem?_cons_zero, List.getElem?_cons_succ, decide_true, decide_false, not_true_eq_false, not_false_eq_true, Bool.not_true, Bool.not_false, ne_eq, if_true, if_false, Bool.false_eq_true, show ((0:Int) = 0) = True from eq_self 0, show ((1:Int) = 0) = False from by decide, show ((0:Int) = 1) = False from by decide, show ((1:Int)=1) = True from eq_self 1, hd, hTT']))
    simp -implicitDefEqProofs only [b1_some, b2_some, ob_some, vget_int, vget_str, vget_bool, vget_none, vget_tup, vget_lst, vget_rep, vneg_int, t_int, t_bool, t_none, vnot_int, vnot_bool, vnot_none, bo_add, bo_sub, bo_mul, bo_div, bo_mod, bo_pow, bo_shl, bo_shr, bo_and, bo_xor, vc_eq, vc_ne, vc_lt, vc_le, vc_gt, vc_ge, vc_seq, vc_req, vc_rne, c2_some, kc_some, ktup_some, klst_some, vbits_int, vint_int, vint_bool, visint_int, vidx_tup, vidx_lst, vshift_str, vdm_int, kand_int, kand_bool, kand_t, kand_f, kor_int, kor_bool, kor_none, kor_t, kor_f, kif_bool, kif_t, kif_f, kite_int, kite_bool, kite_none, kt_t, kt_f, kont_next, kont_ret, e_none, e_bool, e_int, e_str, e_var, e_g0, e_g1, e_g2, e_g8, e_g9, e_g10, e_g11, e_g12, e_bin, e_neg, e_not, e_one, e_and, e_or, e_cmp, e_ite, e_tup, e_lst, e_idx, e_shift, e_call, e_bits, e_toint, e_isint, e_dm, es_nil, es_cons, ka_int, ka_bool, ka_none, ka_rep, ob_none, kr_some, kT_2, kT_3, kT_4, kW_2, kW_3, kasrt_t, s_asg, s_asgC, s_asgT, s_asgU, s_asgW, s_aug, s_ite, s_ret, s_asrt, x_nil, x_cons, kf_ret, T4_def, item0, item1, List.set_cons_zero, List.set_cons_succ, List.getElem?_cons_zero, List.getElem?_cons_succ, decide_true, decide_false, not_true_eq_false, not_false_eq_true, Bool.not_true, Bool.not_false, ne_eq, if_true, if_false, Bool.false_eq_true, show ((0:Int) = 0) = True from eq_self 0, show ((1:Int) = 0) = False from by decide, show ((0:Int) = 1) = False from by decide, show ((1:Int)=1) = True from eq_self 1, f__law_quotient_right, h7, one_cast, hup, hs, hidx, s1, s2, hm, ee, hx1', hall5]
end Mine

end
section -- P14
open PySem PySem.W PyProof.Rows
set_option maxRecDepth 100000
set_option maxHeartbeats 400000
set_option linter.unusedSimpArgs false
namespace Mine
open Builtin.Int (intBits)

noncomputable def lawIn : List S := [.asg 8 (.call 15 [(.var 8), (.var 2)])]
noncomputable def lawLoop : List S := [.asg 8 (.call 7 [(.int 1)]), .forR 9 [(.var 7)] [.asg 8 (.call 15 [(.var 8), (.var 2)])], .ite (.or (.cmp .NotEq (.idx (.var 6) (.var 7)) (.var 8)) (.one (.cmp .NotEq (.call 18 [(.call 9 [(.var 2)]), (.var 7), (.int 4000)]) (.ite (.cmp .Eq (.bin .Mod (.var 7) (.int 2)) (.int 1)) (.call 9 [(.var 8)]) (.var 8))))) [.ret (.bool false)] []]
noncomputable def lawTail : List S := [S.asgC 6 (.compR (.call 18 [(.var 2), (.var 7), (.int 4000)]) 7 [(.bin .Add (.bin .Add (.var 4) (.var 5)) (.int 1))]), S.forR 7 [(.bin .Add (.bin .Add (.var 4) (.var 5)) (.int 1))] lawLoop, S.ite (.or (.cmp .NotEq (.call 15 [(.idx (.var 6) (.var 4)), (.idx (.var 6) (.var 5))]) (.idx (.var 6) (.bin .Add (.var 4) (.var 5)))) (.one (.cmp .NotEq (.call 15 [(.idx (.var 6) (.var 4)), (.call 18 [(.var 3), (.var 4), (.int 4000)])]) (.call 18 [(.call 15 [(.var 2), (.var 3)]), (.var 4), (.int 4000)])))) [.ret (.bool false)] [], S.ret (.and (.call 22 [(.var 2), (.var 3), (.var 4), (.var 6)]) (.and (.call 23 [(.var 2), (.var 4), (.var 6)]) (.one (.call 24 [(.var 2), (.var 4), (.var 6)]))))]
noncomputable def lawHead (T : List S) : List S := S.asg 1 (.call 19 [(.var 0), (.int 0)]) :: S.asgU [2, 3, 4] (.tup [(.call 20 [(.call 19 [(.var 0), (.int 1)]), (.int 30), (.int 20)]), (.call 20 [(.call 19 [(.var 0), (.int 2)]), (.int 30), (.int 20)]), (.bin .Mod (.var 1) (.int 7))]) :: S.ite (.cmp .Eq (.bin .Mod (.bin .FloorDiv (.var 1) (.int 7)) (.int 6)) (.int 0)) [.asg 2 (.idx (.lst [(.call 7 [(.int 1)]), (.call 7 [(.neg (.int 1))]), (.call 7 [(.bin .Mod (.bin .FloorDiv (.var 1) (.int 42)) (.int 9))]), (.call 9 [(.var 3)])]) (.bin .Mod (.bin .FloorDiv (.var 1) (.int 400)) (.int 4)))] [] :: S.asg 5 (.bin .Mod (.bin .FloorDiv (.var 1) (.int 2000)) (.int 7)) :: T

theorem law_in {Sc u1 : V} {x y : Dyadic} (hx : Sz 20 70 x) {n m N j : Nat} (hj : j < 13) (u9 : V) :
    ∃ u9', ex gt0 sh0 (call0 7) (.forR 9 [(.var 7)] [.asg 8 (.call 15 [(.var 8), (.var 2)])]) [Sc, u1, rep x, rep y, .int n, .int m, .lst (pows x N), .int j, rep 1, u9] (some (6, true)) = some (.next [Sc, u1, rep x, rep y, .int n, .int m, .lst (pows x N), .int j, rep (x ^ j), u9'] (some (6, true))) := by
  have o8 : owBut (some (6, true)) 8 = some (6, true) := rfl
  obtain ⟨σ', h1, u, rfl⟩ := loop_0 (f := fun σ ow => exs gt0 sh0 (call0 7) [.asg 8 (.call 15 [(.var 8), (.var 2)])] σ ow) (i := 9) (ow := some (6, true)) rfl
    (fun i σ => ∃ u, σ = [Sc, u1, rep x, rep y, .int n, .int m, .lst (pows x N), .int j, rep (x ^ i), u]) (N := j) (σ := [Sc, u1, rep x, rep y, .int n, .int m, .lst (pows x N), .int j, rep 1, u9]) ⟨u9, by rw [Dyadic.pow_zero]⟩ (by
      rintro i σ hi ⟨u, rfl⟩
      refine ⟨[Sc, u1, rep x, rep y, .int n, .int m, .lst (pows x N), .int j, rep (x ^ (i + 1)), .int i], ?_, _, rfl⟩
      have hm : call0 7 15 [rep (x ^ i), rep x] = some (rep (x ^ i * x)) := c_mul 6 (by have := (pow_sz hx (j := i) (by omega)).bits; omega) (by have := hx.bits; omega)
      rw [Dyadic.pow_succ]
      simp -implicitDefEqProofs only [b1_some, b2_some, ob_some, vget_int, vget_str, vget_bool, vget_none, vget_tup, vget_lst, vget_rep, vneg_int, t_int, t_bool, t_none, vnot_int, vnot_bool, vnot_none, bo_add, bo_sub, bo_mul, bo_div, bo_mod, bo_pow, bo_shl, bo_shr, bo_and, bo_xor, vc_eq, vc_ne, vc_lt, vc_le, vc_gt, vc_ge, vc_seq, vc_req, vc_rne, c2_some, kc_some, ktup_some, klst_some, vbits_int, vint_int, vint_bool, visint_int, vidx_tup, vidx_lst, vshift_str, vdm_int, kand_int, kand_bool, kand_t, kand_f, kor_int, kor_bool, kor_none, kor_t, kor_f, kif_bool, kif_t, kif_f, kite_int, kite_bool, kite_none, kt_t, kt_f, kont_next, kont_ret, e_none, e_bool, e_int, e_str, e_var, e_g0, e_g1, e_g2, e_g8, e_g9, e_g10, e_g11, e_g12, e_bin, e_neg, e_not, e_one, e_and, e_or, e_cmp, e_ite, e_tup, e_lst, e_idx, e_shift, e_call, e_bits, e_toint, e_isint, e_dm, es_nil, es_cons, ka_int, ka_bool, ka_none, ka_rep, ob_none, kr_some, kT_2, kT_3, kT_4, kW_2, kW_3, kasrt_t, s_asg, s_asgC, s_asgT, s_asgU, s_asgW, s_aug, s_ite, s_ret, s_asrt, x_nil, x_cons, kf_ret, T4_def, item0, item1, List.set_cons_zero, List.set_cons_succ, List.getElem?_cons_zero, List.getElem?_cons_succ, decide_true, decide_false, not_true_eq_false, not_false_eq_true, Bool.not_true, Bool.not_false, ne_eq, if_true, if_false, Bool.false_eq_true, show ((0:Int) = 0) = True from eq_self 0, show ((1:Int) = 0) = False from by decide, show ((0:Int) = 1) = False from by decide, show ((1:Int)=1) = True from eq_self 1, hm, o8])
  exact ⟨u, (s_forR (as := [.int j]) (by rw [es_cons, es_nil, e_var]; rfl) (range_n (by omega))).trans h1⟩

theorem law_step {Sc u1 : V} {x y : Dyadic} (hx : Sz 20 70 x) {n m N j : Nat} (hN : N ≤ 13) (hj : j < N) (u7 u8 u9 : V) :
    ∃ v7 v8 v9, exs gt0 sh0 (call0 7) lawLoop ([Sc, u1, rep x, rep y, .int n, .int m, .lst (pows x N), u7, u8, u9].set 7 (.int j)) (some (6, true)) = some (.next [Sc, u1, rep x, rep y, .int n, .int m, .lst (pows x N), v7, v8, v9] (some (6, true))) := by
  have o8 : owBut (some (6, true)) 8 = some (6, true) := rfl
  obtain ⟨u9', hin⟩ := law_in (Sc := Sc) (u1 := u1) (x := x) (y := y) hx (n := n) (m := m) (N := N) (j := j) (by omega) u9
  refine ⟨.int j, rep (x ^ j), u9', ?_⟩
  have h7 : call0 7 7 [.int 1] = some (rep (((1 : Int)) : Dyadic)) := c_from_int 4 1
  have hidx := vidx_get (pows_get (x := x) (N := N) (j := j) hj) (by omega)
  have ng : call0 7 9 [rep x] = some (rep (-x)) := c_neg 6 x
  have ng2 : call0 7 9 [rep (x ^ j)] = some (rep (-(x ^ j))) := c_neg 6 _
  have hb := hx.neg.bits
  have hp : call0 7 18 [rep (-x), .int j, .int 4000] = some (rep ((-x) ^ j)) := c_pow 2 (by have : bitsD (-x) * j ≤ 70 * 12 := Nat.mul_le_mul hb (by omega)
                                                                                            omega) (by omega) (by omega)
  have d2 : divOk 2 = true := by decide +kernel
  have fm : (j : Int).fmod 2 = ((j % 2 : Nat) : Int) := by rw [Int.fmod_eq_emod_of_nonneg _ (by decide)]; omega
  have es : (x ^ j = x ^ j) = True := eq_self _
  by_cases h : j % 2 = 1
  · have c1 : (((j % 2 : Nat) : Int) = 1) = True := by simp only [eq_iff_iff, iff_true]; omega
    have np : ((-x) ^ j = -(x ^ j)) = True := eq_true (by rw [d_neg_pow, if_pos h])
    simp -implicitDefEqProofs only [b1_some, b2_some, ob_some, vget_int, vget_str, vget_bool, vget_none, vget_tup, vget_lst, vget_rep, vneg_int, t_int, t_bool, t_none, vnot_int, vnot_bool, vnot_none, bo_add, bo_sub, bo_mul, bo_div, bo_mod, bo_pow, bo_shl, bo_shr, bo_and, bo_xor, vc_eq, vc_ne, vc_lt, vc_le, vc_gt, vc_ge, vc_seq, vc_req, vc_rne, c2_some, kc_some, ktup_some, klst_some, vbits_int, vint_int, vint_bool, visint_int, vidx_tup, vidx_lst, vshift_str, vdm_int, kand_int, kand_bool, kand_t, kand_f, kor_int, kor_bool, kor_none, kor_t, kor_f, kif_bool, kif_t, kif_f, kite_int, kite_bool, kite_none, kt_t, kt_f, kont_next, kont_ret, e_none, e_bool, e_int, e_str, e_var, e_g0, e_g1, e_g2, e_g8, e_g9, e_g10, e_g11, e_g12, e_bin, e_neg, e_not, e_one, e_and, e_or, e_cmp, e_ite, e_tup, e_lst, e_idx, e_shift, e_call, e_bits, e_toint, e_isint, e_dm, es_nil, es_cons, ka_int, ka_bool, ka_none, ka_rep, ob_none, kr_some, kT_2, kT_3, kT_4, kW_2, kW_3, kasrt_t, s_asg, s_asgC, s_asgT, s_asgU, s_asgW, s_aug, s_ite, s_ret, s_asrt, x_nil, x_cons, kf_ret, T4_def, item0, item1, List.set_cons_zero, List.set_cons_succ, List.getElem?_cons_zero, List.getElem?_cons_succ, decide_true, decide_false, not_true_eq_false, not_false_eq_true, Bool.not_true, Bool.not_false, ne_eq, if_true, if_false, Bool.false_eq_true, show ((0:Int) = 0) = True from eq_self 0, show ((1:Int) = 0) = False from by decide, show ((0:Int) = 1) = False from by decide, show ((1:Int)=1) = True from eq_self 1, lawLoop, h7, one_cast, o8, hin, hidx, es, ng, ng2, hp, d2, fm, c1, np]
  · have c1 : (((j % 2 : Nat) : Int) = 1) = False := by simp only [eq_iff_iff, iff_false]; omega
    have np : ((-x) ^ j = x ^ j) = True := eq_true (by rw [d_neg_pow, if_neg h])
    simp -implicitDefEqProofs only [b1_some, b2_some, ob_some, vget_int, vget_str, vget_bool, vget_none, vget_tup, vget_lst, vget_rep, vneg_int, t_int, t_bool, t_none, vnot_int, vnot_bool, vnot_none, bo_add, bo_sub, bo_mul, bo_div, bo_mod, bo_pow, bo_shl, bo_shr, bo_and, bo_xor, vc_eq, vc_ne, vc_lt, vc_le, vc_gt, vc_ge, vc_seq, vc_req, vc_rne, c2_some, kc_some, ktup_some, klst_some, vbits_int, vint_int, vint_bool, visint_int, vidx_tup, vidx_lst, vshift_str, vdm_int, kand_int, kand_bool, kand_t, kand_f, kor_int, kor_bool, kor_none, kor_t, kor_f, kif_bool, kif_t, kif_f, kite_int, kite_bool, kite_none, kt_t, kt_f, kont_next, kont_ret, e_none, e_bool, e_int, e_str, e_var, e_g0, e_g1, e_g2, e_g8, e_g9, e_g10, e_g11, e_g12, e_bin, e_neg, e_not, e_one, e_and, e_or, e_cmp, e_ite, e_tup, e_lst, e_idx, e_shift, e_call, e_bits, e_toint, e_isint, e_dm, es_nil, es_cons, ka_int, ka_bool, ka_none, ka_rep, ob_none, kr_some, kT_2, kT_3, kT_4, kW_2, kW_3, kasrt_t, s_asg, s_asgC, s_asgT, s_asgU, s_asgW, s_aug, s_ite, s_ret, s_asrt, x_nil, x_cons, kf_ret, T4_def, item0, item1, List.set_cons_zero, List.set_cons_succ, List.getElem?_cons_zero, List.getElem?_cons_succ, decide_true, decide_false, not_true_eq_false, not_false_eq_true, Bool.not_true, Bool.not_false, ne_eq, if_true, if_false, Bool.false_eq_true, show ((0:Int) = 0) = True from eq_self 0, show ((1:Int) = 0) = False from by decide, show ((0:Int) = 1) = False from by decide, show ((1:Int)=1) = True from eq_self 1, lawLoop, h7, one_cast, o8, hin, hidx, es, ng, ng2, hp, d2, fm, c1, np]

theorem law_tail {Sc u1 : V} {x y : Dyadic} (hx : Sz 20 70 x) (hy : Sz 20 70 y) {n m : Nat} (hn : n < 7) (hm : m < 7) :
    kf (exs gt0 sh0 (call0 7) lawTail [Sc, u1, rep x, rep y, .int n, .int m, .undef, .undef, .undef, .undef] none) = some (.bool true) := by
  obtain ⟨N, hN⟩ : ∃ N, n + m + 1 = N := ⟨_, rfl⟩
  have hNI : (n : Int) + (m : Int) + 1 = ((N : Nat) : Int) := by omega
  have hnm : (n : Int) + (m : Int) = ((n + m : Nat) : Int) := by omega
  have ev1 : ev gt0 sh0 (call0 7) (.compR (.call 18 [(.var 2), (.var 7), (.int 4000)]) 7 [(.bin .Add (.bin .Add (.var 4) (.var 5)) (.int 1))]) [Sc, u1, rep x, rep y, .int n, .int m, .undef, .undef, .undef, .undef] = some (.lst (pows x N)) := by
    refine e_compR (as := [.int ((N : Nat) : Int)]) (vs := rangeUp 0 N) (by rw [← hNI, es_cons, es_nil, e_bin, e_bin, e_var, e_var, e_int]; rfl) (range_n (by omega)) ?_ (flats_map _)
    rw [show ((0 : Int)) = ((0 : Nat) : Int) from rfl, mapO_up (g := fun j => rep (x ^ j)) N 0 ?_, rng0, pows, List.map_map]
    · rfl
    intro j hj
    have hb := hx.bits
    have hp : call0 7 18 [rep x, .int j, .int 4000] = some (rep (x ^ j)) := c_pow 2 (by have : bitsD x * j ≤ 70 * 12 := Nat.mul_le_mul hb (by omega)
                                                                                        omega) (by omega) (by omega)
    simp -implicitDefEqProofs only [b1_some, b2_some, ob_some, vget_int, vget_str, vget_bool, vget_none, vget_tup, vget_lst, vget_rep, vneg_int, t_int, t_bool, t_none, vnot_int, vnot_bool, vnot_none, bo_add, bo_sub, bo_mul, bo_div, bo_mod, bo_pow, bo_shl, bo_shr, bo_and, bo_xor, vc_eq, vc_ne, vc_lt, vc_le, vc_gt, vc_ge, vc_seq, vc_req, vc_rne, c2_some, kc_some, ktup_some, klst_some, vbits_int, vint_int, vint_bool, visint_int, vidx_tup, vidx_lst, vshift_str, vdm_int, kand_int, kand_bool, kand_t, kand_f, kor_int, kor_bool, kor_none, kor_t, kor_f, kif_bool, kif_t, kif_f, kite_int, kite_bool, kite_none, kt_t, kt_f, kont_next, kont_ret, e_none, e_bool, e_int, e_str, e_var, e_g0, e_g1, e_g2, e_g8, e_g9, e_g10, e_g11, e_g12, e_bin, e_neg, e_not, e_one, e_and, e_or, e_cmp, e_ite, e_tup, e_lst, e_idx, e_shift, e_call, e_bits, e_toint, e_isint, e_dm, es_nil, es_cons, ka_int, ka_bool, ka_none, ka_rep, ob_none, kr_some, kT_2, kT_3, kT_4, kW_2, kW_3, kasrt_t, s_asg, s_asgC, s_asgT, s_asgU, s_asgW, s_aug, s_ite, s_ret, s_asrt, x_nil, x_cons, kf_ret, T4_def, item0, item1, List.set_cons_zero, List.set_cons_succ, List.getElem?_cons_zero, List.getElem?_cons_succ, decide_true, decide_false, not_true_eq_false, not_false_eq_true, Bool.not_true, Bool.not_false, ne_eq, if_true, if_false, Bool.false_eq_true, show ((0:Int) = 0) = True from eq_self 0, show ((1:Int) = 0) = False from by decide, show ((0:Int) = 1) = False from by decide, show ((1:Int)=1) = True from eq_self 1, hp]
  have n1 := ka_new (i := 6) (e := (.compR (.call 18 [(.var 2), (.var 7), (.int 4000)]) 7 [(.bin .Add (.bin .Add (.var 4) (.var 5)) (.int 1))])) (vs := pows x N) (σ := [Sc, u1, rep x, rep y, .int n, .int m, .undef, .undef, .undef, .undef]) (ow := none) rfl (flats_map _)
  obtain ⟨σ', h1, u7, u8, u9, rfl⟩ := loop_0 (f := fun σ ow => exs gt0 sh0 (call0 7) lawLoop σ ow) (i := 7) (ow := some (6, true)) rfl
    (fun _ σ => ∃ u7 u8 u9, σ = [Sc, u1, rep x, rep y, .int n, .int m, .lst (pows x N), u7, u8, u9]) (N := N) (σ := [Sc, u1, rep x, rep y, .int n, .int m, .lst (pows x N), .undef, .undef, .undef]) ⟨_, _, _, rfl⟩ (by
      rintro j σ hj ⟨u7, u8, u9, rfl⟩
      obtain ⟨v7, v8, v9, h⟩ := law_step (Sc := Sc) (u1 := u1) (x := x) (y := y) hx (n := n) (m := m) (N := N) (j := j) (by omega) hj u7 u8 u9
      exact ⟨_, h, _, _, _, rfl⟩)
  have hfor := (s_forR (cs := call0 7) (i := 7) (xs := [(.bin .Add (.bin .Add (.var 4) (.var 5)) (.int 1))]) (σ := [Sc, u1, rep x, rep y, .int n, .int m, .lst (pows x N), .undef, .undef, .undef]) (ow := some (6, true)) (as := [.int ((N : Nat) : Int)]) (by rw [← hNI, es_cons, es_nil, e_bin, e_bin, e_var, e_var, e_int]; rfl) (range_n (by omega))).trans h1
  have i1 := vidx_get (pows_get (x := x) (N := N) (j := n) (by omega)) (by omega)
  have i2 := vidx_get (pows_get (x := x) (N := N) (j := m) (by omega)) (by omega)
  have i3 := vidx_get (pows_get (x := x) (N := N) (j := n + m) (by omega)) (by omega)
  have bn := (pow_sz hx (j := n) (by omega)).bits
  have bm := (pow_sz hx (j := m) (by omega)).bits
  have byn := (pow_sz hy (j := n) (by omega)).bits
  have bx := hx.bits
  have by_ := hy.bits
  have bxy := (hx.mul hy).bits
  have m1 : call0 7 15 [rep (x ^ n), rep (x ^ m)] = some (rep (x ^ n * x ^ m)) := c_mul 6 (by omega) (by omega)
  have p1 : call0 7 18 [rep y, .int n, .int 4000] = some (rep (y ^ n)) := c_pow 2 (by have : bitsD y * n ≤ 70 * 12 := Nat.mul_le_mul by_ (by omega)
                                                                                      omega) (by omega) (by omega)
  have m2 : call0 7 15 [rep (x ^ n), rep (y ^ n)] = some (rep (x ^ n * y ^ n)) := c_mul 6 (by omega) (by omega)
  have m3 : call0 7 15 [rep x, rep y] = some (rep (x * y)) := c_mul 6 (by omega) (by omega)
  have p2 : call0 7 18 [rep (x * y), .int n, .int 4000] = some (rep ((x * y) ^ n)) := c_pow 2 (by have : bitsD (x * y) * n ≤ 140 * 6 := Nat.mul_le_mul bxy (by omega)
                                                                                                  omega) (by omega) (by omega)
  have q1 : (x ^ n * x ^ m = x ^ (n + m)) = True := eq_true (d_pow_add x n m)
  have q2 : (x ^ n * y ^ n = (x * y) ^ n) = True := eq_true (d_mul_pow x y n)
  have r1 : call0 7 22 [rep x, rep y, .int n, .lst (pows x N)] = some (.bool true) := c_sums 1 hx hy hn (by omega)
  have r2 : call0 7 23 [rep x, .int n, .lst (pows x N)] = some (.bool true) := c_fall 0 hx hn (by omega)
  have r3 : call0 7 24 [rep x, .int n, .lst (pows x N)] = some (.bool true) := c_quot 1 hx hn (by omega) (by omega)
  simp -implicitDefEqProofs only [b1_some, b2_some, ob_some, vget_int, vget_str, vget_bool, vget_none, vget_tup, vget_lst, vget_rep, vneg_int, t_int, t_bool, t_none, vnot_int, vnot_bool, vnot_none, bo_add, bo_sub, bo_mul, bo_div, bo_mod, bo_pow, bo_shl, bo_shr, bo_and, bo_xor, vc_eq, vc_ne, vc_lt, vc_le, vc_gt, vc_ge, vc_seq, vc_req, vc_rne, c2_some, kc_some, ktup_some, klst_some, vbits_int, vint_int, vint_bool, visint_int, vidx_tup, vidx_lst, vshift_str, vdm_int, kand_int, kand_bool, kand_t, kand_f, kor_int, kor_bool, kor_none, kor_t, kor_f, kif_bool, kif_t, kif_f, kite_int, kite_bool, kite_none, kt_t, kt_f, kont_next, kont_ret, e_none, e_bool, e_int, e_str, e_var, e_g0, e_g1, e_g2, e_g8, e_g9, e_g10, e_g11, e_g12, e_bin, e_neg, e_not, e_one, e_and, e_or, e_cmp, e_ite, e_tup, e_lst, e_idx, e_shift, e_call, e_bits, e_toint, e_isint, e_dm, es_nil, es_cons, ka_int, ka_bool, ka_none, ka_rep, ob_none, kr_some, kT_2, kT_3, kT_4, kW_2, kW_3, kasrt_t, s_asg, s_asgC, s_asgT, s_asgU, s_asgW, s_aug, s_ite, s_ret, s_asrt, x_nil, x_cons, kf_ret, T4_def, item0, item1, List.set_cons_zero, List.set_cons_succ, List.getElem?_cons_zero, List.getElem?_cons_succ, decide_true, decide_false, not_true_eq_false, not_false_eq_true, Bool.not_true, Bool.not_false, ne_eq, if_true, if_false, Bool.false_eq_true, show ((0:Int) = 0) = True from eq_self 0, show ((1:Int) = 0) = False from by decide, show ((0:Int) = 1) = False from by decide, show ((1:Int)=1) = True from eq_self 1, lawTail, ev1, n1, hfor, i1, i2, i3, hnm, m1, p1, m2, m3, p2, q1, q2, r1, r2, r3]

theorem small_sz {n : Int} (h0 : -1 ≤ n) (h : n < 64) : Sz 20 70 (n : Dyadic) := (Sz.int (c := 6) (intBits_le_iff.mpr (by omega))).mono (by decide) (by decide)
theorem law_pick {y : Dyadic} (hy : Sz 20 70 y) {a i : Int} (ha0 : 0 ≤ a) (ha : a < 9) (hi0 : 0 ≤ i) (hi : i < 4) : ∃ x, vidx (.lst [rep ((1 : Int) : Dyadic), rep ((-1 : Int) : Dyadic), rep (a : Dyadic), rep (-y)]) (.int i) = some (rep x) ∧ Sz 20 70 x := by
  have : i = 0 ∨ i = 1 ∨ i = 2 ∨ i = 3 := by omega
  rcases this with rfl | rfl | rfl | rfl
  · exact ⟨_, rfl, small_sz (by decide) (by decide)⟩
  · exact ⟨_, rfl, small_sz (by decide) (by decide)⟩
  · exact ⟨_, rfl, small_sz (by omega) (by omega)⟩
  · exact ⟨_, rfl, hy.neg⟩

theorem plain_law (ns : List Int) (hl : ns.length ≤ 63) : cal gt0 sh0 ft 8 25 [.lst (ns.map .int)] = some (.bool true) := by
  have go : ∀ P : List V, call0 (7 + 1) 25 [.lst P] = kf (exs gt0 sh0 (call0 7) (lawHead lawTail) [.lst P, .undef, .undef, .undef, .undef, .undef, .undef, .undef, .undef, .undef] none) := fun P => cstep (fd := f_law) rfl rfl
  refine (go (ns.map .int)).trans ?_
  obtain ⟨fi, h0⟩ := c_mixed 6 ns 0 hl (by decide)
  obtain ⟨r1, h1⟩ := c_mixed 6 ns 1 hl (by decide)
  obtain ⟨r2, h2⟩ := c_mixed 6 ns 2 hl (by decide)
  replace h0 : call0 7 19 [.lst (ns.map .int), .int 0] = some (.int fi) := h0
  replace h1 : call0 7 19 [.lst (ns.map .int), .int 1] = some (.int r1) := h1
  replace h2 : call0 7 19 [.lst (ns.map .int), .int 2] = some (.int r2) := h2
  obtain ⟨x, hxr, hx⟩ := c_raw 6 r1
  obtain ⟨y, hyr, hy⟩ := c_raw 6 r2
  replace hxr : call0 7 20 [.int r1, .int 30, .int 20] = some (rep x) := hxr
  replace hyr : call0 7 20 [.int r2, .int 30, .int 20] = some (rep y) := hyr
  obtain ⟨n, hn, hn7⟩ : ∃ n : Nat, fi.fmod 7 = n ∧ n < 7 := ⟨(fi.fmod 7).toNat, by have := fmod_rng fi (b := 7) (by decide); omega, by have := fmod_rng fi (b := 7) (by decide); omega⟩
  obtain ⟨m, hm, hm7⟩ : ∃ m : Nat, (fi.fdiv 2000).fmod 7 = m ∧ m < 7 := ⟨((fi.fdiv 2000).fmod 7).toNat, by have := fmod_rng (fi.fdiv 2000) (b := 7) (by decide); omega, by have := fmod_rng (fi.fdiv 2000) (b := 7) (by decide); omega⟩
  have hNat : ∀ i : Int, call0 7 7 [.int i] = some (rep (i : Dyadic)) := fun i => c_from_int 4 i
  have ng : call0 7 9 [rep y] = some (rep (-y)) := c_neg 6 y
  have d7 : divOk 7 = true := by decide +kernel
  have d6 : divOk 6 = true := by decide +kernel
  have d42 : divOk 42 = true := by decide +kernel
  have d9 : divOk 9 = true := by decide +kernel
  have d400 : divOk 400 = true := by decide +kernel
  have d4 : divOk 4 = true := by decide +kernel
  have d2000 : divOk 2000 = true := by decide +kernel
  by_cases hc : (fi.fdiv 7).fmod 6 = 0
  · have w1 := fmod_rng (fi.fdiv 42) (b := 9) (by decide)
    have w2 := fmod_rng (fi.fdiv 400) (b := 4) (by decide)
    obtain ⟨x', hp, hx'⟩ := law_pick hy w1.1 w1.2 w2.1 w2.2
    have tl := law_tail (Sc := .lst (ns.map .int)) (u1 := .int fi) hx' hy hn7 hm7
    rw [← tl]
    simp -implicitDefEqProofs only [b1_some, b2_some, ob_some, vget_int, vget_str, vget_bool, vget_none, vget_tup, vget_lst, vget_rep, vneg_int, t_int, t_bool, t_none, vnot_int, vnot_bool, vnot_none, bo_add, bo_sub, bo_mul, bo_div, bo_mod, bo_pow, bo_shl, bo_shr, bo_and, bo_xor, vc_eq, vc_ne, vc_lt, vc_le, vc_gt, vc_ge, vc_seq, vc_req, vc_rne, c2_some, kc_some, ktup_some, klst_some, vbits_int, vint_int, vint_bool, visint_int, vidx_tup, vidx_lst, vshift_str, vdm_int, kand_int, kand_bool, kand_t, kand_f, kor_int, kor_bool, kor_none, kor_t, kor_f, kif_bool, kif_t, kif_f, kite_int, kite_bool, kite_none, kt_t, kt_f, kont_next, kont_ret, e_none, e_bool, e_int, e_str, e_var, e_g0, e_g1, e_g2, e_g8, e_g9, e_g10, e_g11, e_g12, e_bin, e_neg, e_not, e_one, e_and, e_or, e_cmp, e_ite, e_tup, e_lst, e_idx, e_shift, e_call, e_bits, e_toint, e_isint, e_dm, es_nil, es_cons, ka_int, ka_bool, ka_none, ka_rep, ob_none, kr_some, kT_2, kT_3, kT_4, kW_2, kW_3, kasrt_t, s_asg, s_asgC, s_asgT, s_asgU, s_asgW, s_aug, s_ite, s_ret, s_asrt, x_nil, x_cons, kf_ret, T4_def, item0, item1, List.set_cons_zero, List.set_cons_succ, List.getElem?_cons_zero, List.getElem?_cons_succ, decide_true, decide_false, not_true_eq_false, not_false_eq_true, Bool.not_true, Bool.not_false, ne_eq, if_true, if_false, Bool.false_eq_true, show ((0:Int) = 0) = True from eq_self 0, show ((1:Int) = 0) = False from by decide, show ((0:Int) = 1) = False from by decide, show ((1:Int)=1) = True from eq_self 1, lawHead, h0, h1, h2, hxr, hyr, hn, hm, hNat, ng, d7, d6, d42, d9, d400, d4, d2000, hc, hp]
  · have tl := law_tail (Sc := .lst (ns.map .int)) (u1 := .int fi) hx hy hn7 hm7
    rw [← tl]
    simp -implicitDefEqProofs only [b1_some, b2_some, ob_some, vget_int, vget_str, vget_bool, vget_none, vget_tup, vget_lst, vget_rep, vneg_int, t_int, t_bool, t_none, vnot_int, vnot_bool, vnot_none, bo_add, bo_sub, bo_mul, bo_div, bo_mod, bo_pow, bo_shl, bo_shr, bo_and, bo_xor, vc_eq, vc_ne, vc_lt, vc_le, vc_gt, vc_ge, vc_seq, vc_req, vc_rne, c2_some, kc_some, ktup_some, klst_some, vbits_int, vint_int, vint_bool, visint_int, vidx_tup, vidx_lst, vshift_str, vdm_int, kand_int, kand_bool, kand_t, kand_f, kor_int, kor_bool, kor_none, kor_t, kor_f, kif_bool, kif_t, kif_f, kite_int, kite_bool, kite_none, kt_t, kt_f, kont_next, kont_ret, e_none, e_bool, e_int, e_str, e_var, e_g0, e_g1, e_g2, e_g8, e_g9, e_g10, e_g11, e_g12, e_bin, e_neg, e_not, e_one, e_and, e_or, e_cmp, e_ite, e_tup, e_lst, e_idx, e_shift, e_call, e_bits, e_toint, e_isint, e_dm, es_nil, es_cons, ka_int, ka_bool, ka_none, ka_rep, ob_none, kr_some, kT_2, kT_3, kT_4, kW_2, kW_3, kasrt_t, s_asg, s_asgC, s_asgT, s_asgU, s_asgW, s_aug, s_ite, s_ret, s_asrt, x_nil, x_cons, kf_ret, T4_def, item0, item1, List.set_cons_zero, List.set_cons_succ, List.getElem?_cons_zero, List.getElem?_cons_succ, decide_true, decide_false, not_true_eq_false, not_false_eq_true, Bool.not_true, Bool.not_false, ne_eq, if_true, if_false, Bool.false_eq_true, show ((0:Int) = 0) = True from eq_self 0, show ((1:Int) = 0) = False from by decide, show ((0:Int) = 1) = False from by decide, show ((1:Int)=1) = True from eq_self 1, lawHead, h0, h1, h2, hxr, hyr, hn, hm, hNat, ng, d7, d6, d42, d9, d400, d4, d2000, hc]
end Mine

end
section -- Hd
open PySem PySem.W PyProof.Rows
namespace Mine
set_option maxRecDepth 100000
set_option maxHeartbeats 8000000
open_top hd for PySem.Challenge.rw_aj5011_01
end Mine

end
section -- M22
open PySem PySem.Calls PySem.W PyProof.Rows
set_option maxRecDepth 100000
set_option maxHeartbeats 4000000
namespace Mine
noncomputable def tb (nm : List PySem.Str) : Tb := { gt := gt0, sh := sh0, fnm := fnames, nm := nm }
theorem repL_cast {g : Part} {ms : List Value} {vs vs' : List V} (r : RepL g ms vs) (e : vs = vs') : RepL g ms vs' := e ▸ r
noncomputable def fad : List Addr := [21, 28, 35, 42, 59, 66, 74, 82, 90, 98, 106, 113, 121, 129, 137, 145, 153, 161, 170, 177, 184, 191, 198, 203, 208, 213]
noncomputable def o_trailing (P : Params) : Obj := (List.lookup 21 (Mine.hd.heap_39 P)).getD default
noncomputable def d_trailing (P : Params) : FuncData := match (o_trailing P).data with | .func f => f | _ => default
noncomputable def b_trailing (P : Params) : List Stmt := match (d_trailing P).body with | .stmts b => b | _ => []
theorem fact_trailing (P : Params) : FnFact (Mine.hd.heap_39 P) (tb nm_trailing) f_trailing 21 (o_trailing P) (d_trailing P) (b_trailing P) where
  get := by kernel_rfl
  data := by kernel_rfl
  code := by kernel_rfl
  isBody := by kernel_rfl
  co := by kernel_rfl
  gen := by kernel_rfl
  kind := by kernel_rfl
  closure := by kernel_rfl
  globals := by kernel_rfl
  builtins := by kernel_rfl
  noFree := by kernel_rfl
  params := by kernel_rfl
  chk := by kernel_rfl
  len := by kernel_rfl
  np := by decide
  binds := by
    intro s vals X h1 h2
    rcases vals with _ | ⟨v0, _ | ⟨w, r⟩⟩
    · exact absurd h2 (show ¬ (1 ≤ 0 + 0) by decide)
    · exact ⟨[], binds_peek X (fun S => by kernel_rfl), repL_cast .nil (by kernel_rfl)⟩
    · exact absurd h1 (by show ¬ (r.length + 2 ≤ 1); omega)
noncomputable def o_ifac (P : Params) : Obj := (List.lookup 28 (Mine.hd.heap_39 P)).getD default
noncomputable def d_ifac (P : Params) : FuncData := match (o_ifac P).data with | .func f => f | _ => default
noncomputable def b_ifac (P : Params) : List Stmt := match (d_ifac P).body with | .stmts b => b | _ => []
theorem fact_ifac (P : Params) : FnFact (Mine.hd.heap_39 P) (tb nm_ifac) f_ifac 28 (o_ifac P) (d_ifac P) (b_ifac P) where
  get := by kernel_rfl
  data := by kernel_rfl
  code := by kernel_rfl
  isBody := by kernel_rfl
  co := by kernel_rfl
  gen := by kernel_rfl
  kind := by kernel_rfl
  closure := by kernel_rfl
  globals := by kernel_rfl
  builtins := by kernel_rfl
  noFree := by kernel_rfl
  params := by kernel_rfl
  chk := by kernel_rfl
  len := by kernel_rfl
  np := by decide
  binds := by
    intro s vals X h1 h2
    rcases vals with _ | ⟨v0, _ | ⟨w, r⟩⟩
    · exact absurd h2 (show ¬ (1 ≤ 0 + 0) by decide)
    · exact ⟨[], binds_peek X (fun S => by kernel_rfl), repL_cast .nil (by kernel_rfl)⟩
    · exact absurd h1 (by show ¬ (r.length + 2 ≤ 1); omega)
noncomputable def o_stirling1 (P : Params) : Obj := (List.lookup 35 (Mine.hd.heap_39 P)).getD default
noncomputable def d_stirling1 (P : Params) : FuncData := match (o_stirling1 P).data with | .func f => f | _ => default
noncomputable def b_stirling1 (P : Params) : List Stmt := match (d_stirling1 P).body with | .stmts b => b | _ => []
theorem fact_stirling1 (P : Params) : FnFact (Mine.hd.heap_39 P) (tb nm_stirling1) f_stirling1 35 (o_stirling1 P) (d_stirling1 P) (b_stirling1 P) where
  get := by kernel_rfl
  data := by kernel_rfl
  code := by kernel_rfl
  isBody := by kernel_rfl
  co := by kernel_rfl
  gen := by kernel_rfl
  kind := by kernel_rfl
  closure := by kernel_rfl
  globals := by kernel_rfl
  builtins := by kernel_rfl
  noFree := by kernel_rfl
  params := by kernel_rfl
  chk := by kernel_rfl
  len := by kernel_rfl
  np := by decide
  binds := by
    intro s vals X h1 h2
    rcases vals with _ | ⟨v0, _ | ⟨v1, _ | ⟨w, r⟩⟩⟩
    · exact absurd h2 (show ¬ (2 ≤ 0 + 0) by decide)
    · exact absurd h2 (show ¬ (2 ≤ 1 + 0) by decide)
    · exact ⟨[], binds_peek X (fun S => by kernel_rfl), repL_cast .nil (by kernel_rfl)⟩
    · exact absurd h1 (by show ¬ (r.length + 3 ≤ 2); omega)
noncomputable def o_stirling2 (P : Params) : Obj := (List.lookup 42 (Mine.hd.heap_39 P)).getD default
noncomputable def d_stirling2 (P : Params) : FuncData := match (o_stirling2 P).data with | .func f => f | _ => default
noncomputable def b_stirling2 (P : Params) : List Stmt := match (d_stirling2 P).body with | .stmts b => b | _ => []
theorem fact_stirling2 (P : Params) : FnFact (Mine.hd.heap_39 P) (tb nm_stirling2) f_stirling2 42 (o_stirling2 P) (d_stirling2 P) (b_stirling2 P) where
  get := by kernel_rfl
  data := by kernel_rfl
  code := by kernel_rfl
  isBody := by kernel_rfl
  co := by kernel_rfl
  gen := by kernel_rfl
  kind := by kernel_rfl
  closure := by kernel_rfl
  globals := by kernel_rfl
  builtins := by kernel_rfl
  noFree := by kernel_rfl
  params := by kernel_rfl
  chk := by kernel_rfl
  len := by kernel_rfl
  np := by decide
  binds := by
    intro s vals X h1 h2
    rcases vals with _ | ⟨v0, _ | ⟨v1, _ | ⟨w, r⟩⟩⟩
    · exact absurd h2 (show ¬ (2 ≤ 0 + 0) by decide)
    · exact absurd h2 (show ¬ (2 ≤ 1 + 0) by decide)
    · exact ⟨[], binds_peek X (fun S => by kernel_rfl), repL_cast .nil (by kernel_rfl)⟩
    · exact absurd h1 (by show ¬ (r.length + 3 ≤ 2); omega)
noncomputable def o__normalize (P : Params) : Obj := (List.lookup 59 (Mine.hd.heap_39 P)).getD default
noncomputable def d__normalize (P : Params) : FuncData := match (o__normalize P).data with | .func f => f | _ => default
noncomputable def b__normalize (P : Params) : List Stmt := match (d__normalize P).body with | .stmts b => b | _ => []
theorem fact__normalize (P : Params) : FnFact (Mine.hd.heap_39 P) (tb nm__normalize) f__normalize 59 (o__normalize P) (d__normalize P) (b__normalize P) where
  get := by kernel_rfl
  data := by kernel_rfl
  code := by kernel_rfl
  isBody := by kernel_rfl
  co := by kernel_rfl
  gen := by kernel_rfl
  kind := by kernel_rfl
  closure := by kernel_rfl
  globals := by kernel_rfl
  builtins := by kernel_rfl
  noFree := by kernel_rfl
  params := by kernel_rfl
  chk := by kernel_rfl
  len := by kernel_rfl
  np := by decide
  binds := by
    intro s vals X h1 h2
    rcases vals with _ | ⟨v0, _ | ⟨v1, _ | ⟨v2, _ | ⟨v3, _ | ⟨v4, _ | ⟨v5, _ | ⟨w, r⟩⟩⟩⟩⟩⟩⟩
    · exact absurd h2 (show ¬ (6 ≤ 0 + 0) by decide)
    · exact absurd h2 (show ¬ (6 ≤ 1 + 0) by decide)
    · exact absurd h2 (show ¬ (6 ≤ 2 + 0) by decide)
    · exact absurd h2 (show ¬ (6 ≤ 3 + 0) by decide)
    · exact absurd h2 (show ¬ (6 ≤ 4 + 0) by decide)
    · exact absurd h2 (show ¬ (6 ≤ 5 + 0) by decide)
    · exact ⟨[], binds_peek X (fun S => by kernel_rfl), repL_cast .nil (by kernel_rfl)⟩
    · exact absurd h1 (by show ¬ (r.length + 7 ≤ 6); omega)
noncomputable def o_normalize (P : Params) : Obj := (List.lookup 66 (Mine.hd.heap_39 P)).getD default
noncomputable def d_normalize (P : Params) : FuncData := match (o_normalize P).data with | .func f => f | _ => default
noncomputable def b_normalize (P : Params) : List Stmt := match (d_normalize P).body with | .stmts b => b | _ => []
theorem fact_normalize (P : Params) : FnFact (Mine.hd.heap_39 P) (tb nm_normalize) f_normalize 66 (o_normalize P) (d_normalize P) (b_normalize P) where
  get := by kernel_rfl
  data := by kernel_rfl
  code := by kernel_rfl
  isBody := by kernel_rfl
  co := by kernel_rfl
  gen := by kernel_rfl
  kind := by kernel_rfl
  closure := by kernel_rfl
  globals := by kernel_rfl
  builtins := by kernel_rfl
  noFree := by kernel_rfl
  params := by kernel_rfl
  chk := by kernel_rfl
  len := by kernel_rfl
  np := by decide
  binds := by
    intro s vals X h1 h2
    rcases vals with _ | ⟨v0, _ | ⟨v1, _ | ⟨v2, _ | ⟨v3, _ | ⟨v4, _ | ⟨v5, _ | ⟨w, r⟩⟩⟩⟩⟩⟩⟩
    · exact absurd h2 (show ¬ (6 ≤ 0 + 0) by decide)
    · exact absurd h2 (show ¬ (6 ≤ 1 + 0) by decide)
    · exact absurd h2 (show ¬ (6 ≤ 2 + 0) by decide)
    · exact absurd h2 (show ¬ (6 ≤ 3 + 0) by decide)
    · exact absurd h2 (show ¬ (6 ≤ 4 + 0) by decide)
    · exact absurd h2 (show ¬ (6 ≤ 5 + 0) by decide)
    · exact ⟨[], binds_peek X (fun S => by kernel_rfl), repL_cast .nil (by kernel_rfl)⟩
    · exact absurd h1 (by show ¬ (r.length + 7 ≤ 6); omega)
noncomputable def o_from_man_exp (P : Params) : Obj := (List.lookup 74 (Mine.hd.heap_39 P)).getD default
noncomputable def d_from_man_exp (P : Params) : FuncData := match (o_from_man_exp P).data with | .func f => f | _ => default
noncomputable def b_from_man_exp (P : Params) : List Stmt := match (d_from_man_exp P).body with | .stmts b => b | _ => []
theorem fact_from_man_exp (P : Params) : FnFact (Mine.hd.heap_39 P) (tb nm_from_man_exp) f_from_man_exp 74 (o_from_man_exp P) (d_from_man_exp P) (b_from_man_exp P) where
  get := by kernel_rfl
  data := by kernel_rfl
  code := by kernel_rfl
  isBody := by kernel_rfl
  co := by kernel_rfl
  gen := by kernel_rfl
  kind := by kernel_rfl
  closure := by kernel_rfl
  globals := by kernel_rfl
  builtins := by kernel_rfl
  noFree := by kernel_rfl
  params := by kernel_rfl
  chk := by kernel_rfl
  len := by kernel_rfl
  np := by decide
  binds := by
    intro s vals X h1 h2
    rcases vals with _ | ⟨v0, _ | ⟨v1, _ | ⟨v2, _ | ⟨v3, _ | ⟨w, r⟩⟩⟩⟩⟩
    · exact absurd h2 (show ¬ (4 ≤ 0 + 2) by decide)
    · exact absurd h2 (show ¬ (4 ≤ 1 + 2) by decide)
    · exact ⟨[Value.int 0 309, Value.str (Str.ofString "d") 241], binds_peek X (fun S => by kernel_rfl), repL_cast (.cons (.int _ _) (.cons (.str _ _) .nil)) (by kernel_rfl)⟩
    · exact ⟨[Value.str (Str.ofString "d") 241], binds_peek X (fun S => by kernel_rfl), repL_cast (.cons (.str _ _) .nil) (by kernel_rfl)⟩
    · exact ⟨[], binds_peek X (fun S => by kernel_rfl), repL_cast .nil (by kernel_rfl)⟩
    · exact absurd h1 (by show ¬ (r.length + 5 ≤ 4); omega)
noncomputable def o_from_int (P : Params) : Obj := (List.lookup 82 (Mine.hd.heap_39 P)).getD default
noncomputable def d_from_int (P : Params) : FuncData := match (o_from_int P).data with | .func f => f | _ => default
noncomputable def b_from_int (P : Params) : List Stmt := match (d_from_int P).body with | .stmts b => b | _ => []
theorem fact_from_int (P : Params) : FnFact (Mine.hd.heap_39 P) (tb nm_from_int) f_from_int 82 (o_from_int P) (d_from_int P) (b_from_int P) where
  get := by kernel_rfl
  data := by kernel_rfl
  code := by kernel_rfl
  isBody := by kernel_rfl
  co := by kernel_rfl
  gen := by kernel_rfl
  kind := by kernel_rfl
  closure := by kernel_rfl
  globals := by kernel_rfl
  builtins := by kernel_rfl
  noFree := by kernel_rfl
  params := by kernel_rfl
  chk := by kernel_rfl
  len := by kernel_rfl
  np := by decide
  binds := by
    intro s vals X h1 h2
    rcases vals with _ | ⟨v0, _ | ⟨v1, _ | ⟨v2, _ | ⟨w, r⟩⟩⟩⟩
    · exact absurd h2 (show ¬ (3 ≤ 0 + 2) by decide)
    · exact ⟨[Value.int 0 323, Value.str (Str.ofString "d") 241], binds_peek X (fun S => by kernel_rfl), repL_cast (.cons (.int _ _) (.cons (.str _ _) .nil)) (by kernel_rfl)⟩
    · exact ⟨[Value.str (Str.ofString "d") 241], binds_peek X (fun S => by kernel_rfl), repL_cast (.cons (.str _ _) .nil) (by kernel_rfl)⟩
    · exact ⟨[], binds_peek X (fun S => by kernel_rfl), repL_cast .nil (by kernel_rfl)⟩
    · exact absurd h1 (by show ¬ (r.length + 4 ≤ 3); omega)
noncomputable def o_mpf_pos (P : Params) : Obj := (List.lookup 90 (Mine.hd.heap_39 P)).getD default
noncomputable def d_mpf_pos (P : Params) : FuncData := match (o_mpf_pos P).data with | .func f => f | _ => default
noncomputable def b_mpf_pos (P : Params) : List Stmt := match (d_mpf_pos P).body with | .stmts b => b | _ => []
theorem fact_mpf_pos (P : Params) : FnFact (Mine.hd.heap_39 P) (tb nm_mpf_pos) f_mpf_pos 90 (o_mpf_pos P) (d_mpf_pos P) (b_mpf_pos P) where
  get := by kernel_rfl
  data := by kernel_rfl
  code := by kernel_rfl
  isBody := by kernel_rfl
  co := by kernel_rfl
  gen := by kernel_rfl
  kind := by kernel_rfl
  closure := by kernel_rfl
  globals := by kernel_rfl
  builtins := by kernel_rfl
  noFree := by kernel_rfl
  params := by kernel_rfl
  chk := by kernel_rfl
  len := by kernel_rfl
  np := by decide
  binds := by
    intro s vals X h1 h2
    rcases vals with _ | ⟨v0, _ | ⟨v1, _ | ⟨v2, _ | ⟨w, r⟩⟩⟩⟩
    · exact absurd h2 (show ¬ (3 ≤ 0 + 2) by decide)
    · exact ⟨[Value.int 0 333, Value.str (Str.ofString "d") 241], binds_peek X (fun S => by kernel_rfl), repL_cast (.cons (.int _ _) (.cons (.str _ _) .nil)) (by kernel_rfl)⟩
    · exact ⟨[Value.str (Str.ofString "d") 241], binds_peek X (fun S => by kernel_rfl), repL_cast (.cons (.str _ _) .nil) (by kernel_rfl)⟩
    · exact ⟨[], binds_peek X (fun S => by kernel_rfl), repL_cast .nil (by kernel_rfl)⟩
    · exact absurd h1 (by show ¬ (r.length + 4 ≤ 3); omega)
noncomputable def o_mpf_neg (P : Params) : Obj := (List.lookup 98 (Mine.hd.heap_39 P)).getD default
noncomputable def d_mpf_neg (P : Params) : FuncData := match (o_mpf_neg P).data with | .func f => f | _ => default
noncomputable def b_mpf_neg (P : Params) : List Stmt := match (d_mpf_neg P).body with | .stmts b => b | _ => []
theorem fact_mpf_neg (P : Params) : FnFact (Mine.hd.heap_39 P) (tb nm_mpf_neg) f_mpf_neg 98 (o_mpf_neg P) (d_mpf_neg P) (b_mpf_neg P) where
  get := by kernel_rfl
  data := by kernel_rfl
  code := by kernel_rfl
  isBody := by kernel_rfl
  co := by kernel_rfl
  gen := by kernel_rfl
  kind := by kernel_rfl
  closure := by kernel_rfl
  globals := by kernel_rfl
  builtins := by kernel_rfl
  noFree := by kernel_rfl
  params := by kernel_rfl
  chk := by kernel_rfl
  len := by kernel_rfl
  np := by decide
  binds := by
    intro s vals X h1 h2
    rcases vals with _ | ⟨v0, _ | ⟨v1, _ | ⟨v2, _ | ⟨w, r⟩⟩⟩⟩
    · exact absurd h2 (show ¬ (3 ≤ 0 + 2) by decide)
    · exact ⟨[Value.int 0 347, Value.str (Str.ofString "d") 241], binds_peek X (fun S => by kernel_rfl), repL_cast (.cons (.int _ _) (.cons (.str _ _) .nil)) (by kernel_rfl)⟩
    · exact ⟨[Value.str (Str.ofString "d") 241], binds_peek X (fun S => by kernel_rfl), repL_cast (.cons (.str _ _) .nil) (by kernel_rfl)⟩
    · exact ⟨[], binds_peek X (fun S => by kernel_rfl), repL_cast .nil (by kernel_rfl)⟩
    · exact absurd h1 (by show ¬ (r.length + 4 ≤ 3); omega)
noncomputable def o_mpf_abs (P : Params) : Obj := (List.lookup 106 (Mine.hd.heap_39 P)).getD default
noncomputable def d_mpf_abs (P : Params) : FuncData := match (o_mpf_abs P).data with | .func f => f | _ => default
noncomputable def b_mpf_abs (P : Params) : List Stmt := match (d_mpf_abs P).body with | .stmts b => b | _ => []
theorem fact_mpf_abs (P : Params) : FnFact (Mine.hd.heap_39 P) (tb nm_mpf_abs) f_mpf_abs 106 (o_mpf_abs P) (d_mpf_abs P) (b_mpf_abs P) where
  get := by kernel_rfl
  data := by kernel_rfl
  code := by kernel_rfl
  isBody := by kernel_rfl
  co := by kernel_rfl
  gen := by kernel_rfl
  kind := by kernel_rfl
  closure := by kernel_rfl
  globals := by kernel_rfl
  builtins := by kernel_rfl
  noFree := by kernel_rfl
  params := by kernel_rfl
  chk := by kernel_rfl
  len := by kernel_rfl
  np := by decide
  binds := by
    intro s vals X h1 h2
    rcases vals with _ | ⟨v0, _ | ⟨v1, _ | ⟨v2, _ | ⟨w, r⟩⟩⟩⟩
    · exact absurd h2 (show ¬ (3 ≤ 0 + 2) by decide)
    · exact ⟨[Value.int 0 361, Value.str (Str.ofString "d") 241], binds_peek X (fun S => by kernel_rfl), repL_cast (.cons (.int _ _) (.cons (.str _ _) .nil)) (by kernel_rfl)⟩
    · exact ⟨[Value.str (Str.ofString "d") 241], binds_peek X (fun S => by kernel_rfl), repL_cast (.cons (.str _ _) .nil) (by kernel_rfl)⟩
    · exact ⟨[], binds_peek X (fun S => by kernel_rfl), repL_cast .nil (by kernel_rfl)⟩
    · exact absurd h1 (by show ¬ (r.length + 4 ≤ 3); omega)
noncomputable def o_mpf_sign (P : Params) : Obj := (List.lookup 113 (Mine.hd.heap_39 P)).getD default
noncomputable def d_mpf_sign (P : Params) : FuncData := match (o_mpf_sign P).data with | .func f => f | _ => default
noncomputable def b_mpf_sign (P : Params) : List Stmt := match (d_mpf_sign P).body with | .stmts b => b | _ => []
theorem fact_mpf_sign (P : Params) : FnFact (Mine.hd.heap_39 P) (tb nm_mpf_sign) f_mpf_sign 113 (o_mpf_sign P) (d_mpf_sign P) (b_mpf_sign P) where
  get := by kernel_rfl
  data := by kernel_rfl
  code := by kernel_rfl
  isBody := by kernel_rfl
  co := by kernel_rfl
  gen := by kernel_rfl
  kind := by kernel_rfl
  closure := by kernel_rfl
  globals := by kernel_rfl
  builtins := by kernel_rfl
  noFree := by kernel_rfl
  params := by kernel_rfl
  chk := by kernel_rfl
  len := by kernel_rfl
  np := by decide
  binds := by
    intro s vals X h1 h2
    rcases vals with _ | ⟨v0, _ | ⟨w, r⟩⟩
    · exact absurd h2 (show ¬ (1 ≤ 0 + 0) by decide)
    · exact ⟨[], binds_peek X (fun S => by kernel_rfl), repL_cast .nil (by kernel_rfl)⟩
    · exact absurd h1 (by show ¬ (r.length + 2 ≤ 1); omega)
noncomputable def o_mpf_add (P : Params) : Obj := (List.lookup 121 (Mine.hd.heap_39 P)).getD default
noncomputable def d_mpf_add (P : Params) : FuncData := match (o_mpf_add P).data with | .func f => f | _ => default
noncomputable def b_mpf_add (P : Params) : List Stmt := match (d_mpf_add P).body with | .stmts b => b | _ => []
theorem fact_mpf_add (P : Params) : FnFact (Mine.hd.heap_39 P) (tb nm_mpf_add) f_mpf_add 121 (o_mpf_add P) (d_mpf_add P) (b_mpf_add P) where
  get := by kernel_rfl
  data := by kernel_rfl
  code := by kernel_rfl
  isBody := by kernel_rfl
  co := by kernel_rfl
  gen := by kernel_rfl
  kind := by kernel_rfl
  closure := by kernel_rfl
  globals := by kernel_rfl
  builtins := by kernel_rfl
  noFree := by kernel_rfl
  params := by kernel_rfl
  chk := by kernel_rfl
  len := by kernel_rfl
  np := by decide
  binds := by
    intro s vals X h1 h2
    rcases vals with _ | ⟨v0, _ | ⟨v1, _ | ⟨v2, _ | ⟨v3, _ | ⟨v4, _ | ⟨w, r⟩⟩⟩⟩⟩⟩
    · exact absurd h2 (show ¬ (5 ≤ 0 + 3) by decide)
    · exact absurd h2 (show ¬ (5 ≤ 1 + 3) by decide)
    · exact ⟨[Value.int 0 386, Value.str (Str.ofString "d") 241, Value.int 0 387], binds_peek X (fun S => by kernel_rfl), repL_cast (.cons (.int _ _) (.cons (.str _ _) (.cons (.int _ _) .nil))) (by kernel_rfl)⟩
    · exact ⟨[Value.str (Str.ofString "d") 241, Value.int 0 387], binds_peek X (fun S => by kernel_rfl), repL_cast (.cons (.str _ _) (.cons (.int _ _) .nil)) (by kernel_rfl)⟩
    · exact ⟨[Value.int 0 387], binds_peek X (fun S => by kernel_rfl), repL_cast (.cons (.int _ _) .nil) (by kernel_rfl)⟩
    · exact ⟨[], binds_peek X (fun S => by kernel_rfl), repL_cast .nil (by kernel_rfl)⟩
    · exact absurd h1 (by show ¬ (r.length + 6 ≤ 5); omega)
noncomputable def o_mpf_sub (P : Params) : Obj := (List.lookup 129 (Mine.hd.heap_39 P)).getD default
noncomputable def d_mpf_sub (P : Params) : FuncData := match (o_mpf_sub P).data with | .func f => f | _ => default
noncomputable def b_mpf_sub (P : Params) : List Stmt := match (d_mpf_sub P).body with | .stmts b => b | _ => []
theorem fact_mpf_sub (P : Params) : FnFact (Mine.hd.heap_39 P) (tb nm_mpf_sub) f_mpf_sub 129 (o_mpf_sub P) (d_mpf_sub P) (b_mpf_sub P) where
  get := by kernel_rfl
  data := by kernel_rfl
  code := by kernel_rfl
  isBody := by kernel_rfl
  co := by kernel_rfl
  gen := by kernel_rfl
  kind := by kernel_rfl
  closure := by kernel_rfl
  globals := by kernel_rfl
  builtins := by kernel_rfl
  noFree := by kernel_rfl
  params := by kernel_rfl
  chk := by kernel_rfl
  len := by kernel_rfl
  np := by decide
  binds := by
    intro s vals X h1 h2
    rcases vals with _ | ⟨v0, _ | ⟨v1, _ | ⟨v2, _ | ⟨v3, _ | ⟨w, r⟩⟩⟩⟩⟩
    · exact absurd h2 (show ¬ (4 ≤ 0 + 2) by decide)
    · exact absurd h2 (show ¬ (4 ≤ 1 + 2) by decide)
    · exact ⟨[Value.int 0 411, Value.str (Str.ofString "d") 241], binds_peek X (fun S => by kernel_rfl), repL_cast (.cons (.int _ _) (.cons (.str _ _) .nil)) (by kernel_rfl)⟩
    · exact ⟨[Value.str (Str.ofString "d") 241], binds_peek X (fun S => by kernel_rfl), repL_cast (.cons (.str _ _) .nil) (by kernel_rfl)⟩
    · exact ⟨[], binds_peek X (fun S => by kernel_rfl), repL_cast .nil (by kernel_rfl)⟩
    · exact absurd h1 (by show ¬ (r.length + 5 ≤ 4); omega)
noncomputable def o_mpf_sum (P : Params) : Obj := (List.lookup 137 (Mine.hd.heap_39 P)).getD default
noncomputable def d_mpf_sum (P : Params) : FuncData := match (o_mpf_sum P).data with | .func f => f | _ => default
noncomputable def b_mpf_sum (P : Params) : List Stmt := match (d_mpf_sum P).body with | .stmts b => b | _ => []
theorem fact_mpf_sum (P : Params) : FnFact (Mine.hd.heap_39 P) (tb nm_mpf_sum) f_mpf_sum 137 (o_mpf_sum P) (d_mpf_sum P) (b_mpf_sum P) where
  get := by kernel_rfl
  data := by kernel_rfl
  code := by kernel_rfl
  isBody := by kernel_rfl
  co := by kernel_rfl
  gen := by kernel_rfl
  kind := by kernel_rfl
  closure := by kernel_rfl
  globals := by kernel_rfl
  builtins := by kernel_rfl
  noFree := by kernel_rfl
  params := by kernel_rfl
  chk := by kernel_rfl
  len := by kernel_rfl
  np := by decide
  binds := by
    intro s vals X h1 h2
    rcases vals with _ | ⟨v0, _ | ⟨v1, _ | ⟨v2, _ | ⟨v3, _ | ⟨w, r⟩⟩⟩⟩⟩
    · exact absurd h2 (show ¬ (4 ≤ 0 + 3) by decide)
    · exact ⟨[Value.int 0 422, Value.str (Str.ofString "d") 241, Value.bool false], binds_peek X (fun S => by kernel_rfl), repL_cast (.cons (.int _ _) (.cons (.str _ _) (.cons (.bool _) .nil))) (by kernel_rfl)⟩
    · exact ⟨[Value.str (Str.ofString "d") 241, Value.bool false], binds_peek X (fun S => by kernel_rfl), repL_cast (.cons (.str _ _) (.cons (.bool _) .nil)) (by kernel_rfl)⟩
    · exact ⟨[Value.bool false], binds_peek X (fun S => by kernel_rfl), repL_cast (.cons (.bool _) .nil) (by kernel_rfl)⟩
    · exact ⟨[], binds_peek X (fun S => by kernel_rfl), repL_cast .nil (by kernel_rfl)⟩
    · exact absurd h1 (by show ¬ (r.length + 5 ≤ 4); omega)
noncomputable def o_mpf_mul (P : Params) : Obj := (List.lookup 145 (Mine.hd.heap_39 P)).getD default
noncomputable def d_mpf_mul (P : Params) : FuncData := match (o_mpf_mul P).data with | .func f => f | _ => default
noncomputable def b_mpf_mul (P : Params) : List Stmt := match (d_mpf_mul P).body with | .stmts b => b | _ => []
theorem fact_mpf_mul (P : Params) : FnFact (Mine.hd.heap_39 P) (tb nm_mpf_mul) f_mpf_mul 145 (o_mpf_mul P) (d_mpf_mul P) (b_mpf_mul P) where
  get := by kernel_rfl
  data := by kernel_rfl
  code := by kernel_rfl
  isBody := by kernel_rfl
  co := by kernel_rfl
  gen := by kernel_rfl
  kind := by kernel_rfl
  closure := by kernel_rfl
  globals := by kernel_rfl
  builtins := by kernel_rfl
  noFree := by kernel_rfl
  params := by kernel_rfl
  chk := by kernel_rfl
  len := by kernel_rfl
  np := by decide
  binds := by
    intro s vals X h1 h2
    rcases vals with _ | ⟨v0, _ | ⟨v1, _ | ⟨v2, _ | ⟨v3, _ | ⟨w, r⟩⟩⟩⟩⟩
    · exact absurd h2 (show ¬ (4 ≤ 0 + 2) by decide)
    · exact absurd h2 (show ¬ (4 ≤ 1 + 2) by decide)
    · exact ⟨[Value.int 0 443, Value.str (Str.ofString "d") 241], binds_peek X (fun S => by kernel_rfl), repL_cast (.cons (.int _ _) (.cons (.str _ _) .nil)) (by kernel_rfl)⟩
    · exact ⟨[Value.str (Str.ofString "d") 241], binds_peek X (fun S => by kernel_rfl), repL_cast (.cons (.str _ _) .nil) (by kernel_rfl)⟩
    · exact ⟨[], binds_peek X (fun S => by kernel_rfl), repL_cast .nil (by kernel_rfl)⟩
    · exact absurd h1 (by show ¬ (r.length + 5 ≤ 4); omega)
noncomputable def o_mpf_mul_int (P : Params) : Obj := (List.lookup 153 (Mine.hd.heap_39 P)).getD default
noncomputable def d_mpf_mul_int (P : Params) : FuncData := match (o_mpf_mul_int P).data with | .func f => f | _ => default
noncomputable def b_mpf_mul_int (P : Params) : List Stmt := match (d_mpf_mul_int P).body with | .stmts b => b | _ => []
theorem fact_mpf_mul_int (P : Params) : FnFact (Mine.hd.heap_39 P) (tb nm_mpf_mul_int) f_mpf_mul_int 153 (o_mpf_mul_int P) (d_mpf_mul_int P) (b_mpf_mul_int P) where
  get := by kernel_rfl
  data := by kernel_rfl
  code := by kernel_rfl
  isBody := by kernel_rfl
  co := by kernel_rfl
  gen := by kernel_rfl
  kind := by kernel_rfl
  closure := by kernel_rfl
  globals := by kernel_rfl
  builtins := by kernel_rfl
  noFree := by kernel_rfl
  params := by kernel_rfl
  chk := by kernel_rfl
  len := by kernel_rfl
  np := by decide
  binds := by
    intro s vals X h1 h2
    rcases vals with _ | ⟨v0, _ | ⟨v1, _ | ⟨v2, _ | ⟨v3, _ | ⟨w, r⟩⟩⟩⟩⟩
    · exact absurd h2 (show ¬ (4 ≤ 0 + 1) by decide)
    · exact absurd h2 (show ¬ (4 ≤ 1 + 1) by decide)
    · exact absurd h2 (show ¬ (4 ≤ 2 + 1) by decide)
    · exact ⟨[Value.str (Str.ofString "d") 241], binds_peek X (fun S => by kernel_rfl), repL_cast (.cons (.str _ _) .nil) (by kernel_rfl)⟩
    · exact ⟨[], binds_peek X (fun S => by kernel_rfl), repL_cast .nil (by kernel_rfl)⟩
    · exact absurd h1 (by show ¬ (r.length + 5 ≤ 4); omega)
noncomputable def o_mpf_div (P : Params) : Obj := (List.lookup 161 (Mine.hd.heap_39 P)).getD default
noncomputable def d_mpf_div (P : Params) : FuncData := match (o_mpf_div P).data with | .func f => f | _ => default
noncomputable def b_mpf_div (P : Params) : List Stmt := match (d_mpf_div P).body with | .stmts b => b | _ => []
theorem fact_mpf_div (P : Params) : FnFact (Mine.hd.heap_39 P) (tb nm_mpf_div) f_mpf_div 161 (o_mpf_div P) (d_mpf_div P) (b_mpf_div P) where
  get := by kernel_rfl
  data := by kernel_rfl
  code := by kernel_rfl
  isBody := by kernel_rfl
  co := by kernel_rfl
  gen := by kernel_rfl
  kind := by kernel_rfl
  closure := by kernel_rfl
  globals := by kernel_rfl
  builtins := by kernel_rfl
  noFree := by kernel_rfl
  params := by kernel_rfl
  chk := by kernel_rfl
  len := by kernel_rfl
  np := by decide
  binds := by
    intro s vals X h1 h2
    rcases vals with _ | ⟨v0, _ | ⟨v1, _ | ⟨v2, _ | ⟨v3, _ | ⟨w, r⟩⟩⟩⟩⟩
    · exact absurd h2 (show ¬ (4 ≤ 0 + 1) by decide)
    · exact absurd h2 (show ¬ (4 ≤ 1 + 1) by decide)
    · exact absurd h2 (show ¬ (4 ≤ 2 + 1) by decide)
    · exact ⟨[Value.str (Str.ofString "d") 241], binds_peek X (fun S => by kernel_rfl), repL_cast (.cons (.str _ _) .nil) (by kernel_rfl)⟩
    · exact ⟨[], binds_peek X (fun S => by kernel_rfl), repL_cast .nil (by kernel_rfl)⟩
    · exact absurd h1 (by show ¬ (r.length + 5 ≤ 4); omega)
noncomputable def o_mpf_pow_int (P : Params) : Obj := (List.lookup 170 (Mine.hd.heap_39 P)).getD default
noncomputable def d_mpf_pow_int (P : Params) : FuncData := match (o_mpf_pow_int P).data with | .func f => f | _ => default
noncomputable def b_mpf_pow_int (P : Params) : List Stmt := match (d_mpf_pow_int P).body with | .stmts b => b | _ => []
theorem fact_mpf_pow_int (P : Params) : FnFact (Mine.hd.heap_39 P) (tb nm_mpf_pow_int) f_mpf_pow_int 170 (o_mpf_pow_int P) (d_mpf_pow_int P) (b_mpf_pow_int P) where
  get := by kernel_rfl
  data := by kernel_rfl
  code := by kernel_rfl
  isBody := by kernel_rfl
  co := by kernel_rfl
  gen := by kernel_rfl
  kind := by kernel_rfl
  closure := by kernel_rfl
  globals := by kernel_rfl
  builtins := by kernel_rfl
  noFree := by kernel_rfl
  params := by kernel_rfl
  chk := by kernel_rfl
  len := by kernel_rfl
  np := by decide
  binds := by
    intro s vals X h1 h2
    rcases vals with _ | ⟨v0, _ | ⟨v1, _ | ⟨v2, _ | ⟨v3, _ | ⟨w, r⟩⟩⟩⟩⟩
    · exact absurd h2 (show ¬ (4 ≤ 0 + 1) by decide)
    · exact absurd h2 (show ¬ (4 ≤ 1 + 1) by decide)
    · exact absurd h2 (show ¬ (4 ≤ 2 + 1) by decide)
    · exact ⟨[Value.str (Str.ofString "d") 241], binds_peek X (fun S => by kernel_rfl), repL_cast (.cons (.str _ _) .nil) (by kernel_rfl)⟩
    · exact ⟨[], binds_peek X (fun S => by kernel_rfl), repL_cast .nil (by kernel_rfl)⟩
    · exact absurd h1 (by show ¬ (r.length + 5 ≤ 4); omega)
noncomputable def o__law_mixed (P : Params) : Obj := (List.lookup 177 (Mine.hd.heap_39 P)).getD default
noncomputable def d__law_mixed (P : Params) : FuncData := match (o__law_mixed P).data with | .func f => f | _ => default
noncomputable def b__law_mixed (P : Params) : List Stmt := match (d__law_mixed P).body with | .stmts b => b | _ => []
theorem fact__law_mixed (P : Params) : FnFact (Mine.hd.heap_39 P) (tb nm__law_mixed) f__law_mixed 177 (o__law_mixed P) (d__law_mixed P) (b__law_mixed P) where
  get := by kernel_rfl
  data := by kernel_rfl
  code := by kernel_rfl
  isBody := by kernel_rfl
  co := by kernel_rfl
  gen := by kernel_rfl
  kind := by kernel_rfl
  closure := by kernel_rfl
  globals := by kernel_rfl
  builtins := by kernel_rfl
  noFree := by kernel_rfl
  params := by kernel_rfl
  chk := by kernel_rfl
  len := by kernel_rfl
  np := by decide
  binds := by
    intro s vals X h1 h2
    rcases vals with _ | ⟨v0, _ | ⟨v1, _ | ⟨w, r⟩⟩⟩
    · exact absurd h2 (show ¬ (2 ≤ 0 + 0) by decide)
    · exact absurd h2 (show ¬ (2 ≤ 1 + 0) by decide)
    · exact ⟨[], binds_peek X (fun S => by kernel_rfl), repL_cast .nil (by kernel_rfl)⟩
    · exact absurd h1 (by show ¬ (r.length + 3 ≤ 2); omega)
noncomputable def o__law_raw (P : Params) : Obj := (List.lookup 184 (Mine.hd.heap_39 P)).getD default
noncomputable def d__law_raw (P : Params) : FuncData := match (o__law_raw P).data with | .func f => f | _ => default
noncomputable def b__law_raw (P : Params) : List Stmt := match (d__law_raw P).body with | .stmts b => b | _ => []
theorem fact__law_raw (P : Params) : FnFact (Mine.hd.heap_39 P) (tb nm__law_raw) f__law_raw 184 (o__law_raw P) (d__law_raw P) (b__law_raw P) where
  get := by kernel_rfl
  data := by kernel_rfl
  code := by kernel_rfl
  isBody := by kernel_rfl
  co := by kernel_rfl
  gen := by kernel_rfl
  kind := by kernel_rfl
  closure := by kernel_rfl
  globals := by kernel_rfl
  builtins := by kernel_rfl
  noFree := by kernel_rfl
  params := by kernel_rfl
  chk := by kernel_rfl
  len := by kernel_rfl
  np := by decide
  binds := by
    intro s vals X h1 h2
    rcases vals with _ | ⟨v0, _ | ⟨v1, _ | ⟨v2, _ | ⟨w, r⟩⟩⟩⟩
    · exact absurd h2 (show ¬ (3 ≤ 0 + 0) by decide)
    · exact absurd h2 (show ¬ (3 ≤ 1 + 0) by decide)
    · exact absurd h2 (show ¬ (3 ≤ 2 + 0) by decide)
    · exact ⟨[], binds_peek X (fun S => by kernel_rfl), repL_cast .nil (by kernel_rfl)⟩
    · exact absurd h1 (by show ¬ (r.length + 4 ≤ 3); omega)
noncomputable def o__law_steps (P : Params) : Obj := (List.lookup 191 (Mine.hd.heap_39 P)).getD default
noncomputable def d__law_steps (P : Params) : FuncData := match (o__law_steps P).data with | .func f => f | _ => default
noncomputable def b__law_steps (P : Params) : List Stmt := match (d__law_steps P).body with | .stmts b => b | _ => []
theorem fact__law_steps (P : Params) : FnFact (Mine.hd.heap_39 P) (tb nm__law_steps) f__law_steps 191 (o__law_steps P) (d__law_steps P) (b__law_steps P) where
  get := by kernel_rfl
  data := by kernel_rfl
  code := by kernel_rfl
  isBody := by kernel_rfl
  co := by kernel_rfl
  gen := by kernel_rfl
  kind := by kernel_rfl
  closure := by kernel_rfl
  globals := by kernel_rfl
  builtins := by kernel_rfl
  noFree := by kernel_rfl
  params := by kernel_rfl
  chk := by kernel_rfl
  len := by kernel_rfl
  np := by decide
  binds := by
    intro s vals X h1 h2
    rcases vals with _ | ⟨v0, _ | ⟨v1, _ | ⟨w, r⟩⟩⟩
    · exact absurd h2 (show ¬ (2 ≤ 0 + 0) by decide)
    · exact absurd h2 (show ¬ (2 ≤ 1 + 0) by decide)
    · exact ⟨[], binds_peek X (fun S => by kernel_rfl), repL_cast .nil (by kernel_rfl)⟩
    · exact absurd h1 (by show ¬ (r.length + 3 ≤ 2); omega)
noncomputable def o__law_sums_right (P : Params) : Obj := (List.lookup 198 (Mine.hd.heap_39 P)).getD default
noncomputable def d__law_sums_right (P : Params) : FuncData := match (o__law_sums_right P).data with | .func f => f | _ => default
noncomputable def b__law_sums_right (P : Params) : List Stmt := match (d__law_sums_right P).body with | .stmts b => b | _ => []
theorem fact__law_sums_right (P : Params) : FnFact (Mine.hd.heap_39 P) (tb nm__law_sums_right) f__law_sums_right 198 (o__law_sums_right P) (d__law_sums_right P) (b__law_sums_right P) where
  get := by kernel_rfl
  data := by kernel_rfl
  code := by kernel_rfl
  isBody := by kernel_rfl
  co := by kernel_rfl
  gen := by kernel_rfl
  kind := by kernel_rfl
  closure := by kernel_rfl
  globals := by kernel_rfl
  builtins := by kernel_rfl
  noFree := by kernel_rfl
  params := by kernel_rfl
  chk := by kernel_rfl
  len := by kernel_rfl
  np := by decide
  binds := by
    intro s vals X h1 h2
    rcases vals with _ | ⟨v0, _ | ⟨v1, _ | ⟨v2, _ | ⟨v3, _ | ⟨w, r⟩⟩⟩⟩⟩
    · exact absurd h2 (show ¬ (4 ≤ 0 + 0) by decide)
    · exact absurd h2 (show ¬ (4 ≤ 1 + 0) by decide)
    · exact absurd h2 (show ¬ (4 ≤ 2 + 0) by decide)
    · exact absurd h2 (show ¬ (4 ≤ 3 + 0) by decide)
    · exact ⟨[], binds_peek X (fun S => by kernel_rfl), repL_cast .nil (by kernel_rfl)⟩
    · exact absurd h1 (by show ¬ (r.length + 5 ≤ 4); omega)
noncomputable def o__law_falling_right (P : Params) : Obj := (List.lookup 203 (Mine.hd.heap_39 P)).getD default
noncomputable def d__law_falling_right (P : Params) : FuncData := match (o__law_falling_right P).data with | .func f => f | _ => default
noncomputable def b__law_falling_right (P : Params) : List Stmt := match (d__law_falling_right P).body with | .stmts b => b | _ => []
theorem fact__law_falling_right (P : Params) : FnFact (Mine.hd.heap_39 P) (tb nm__law_falling_right) f__law_falling_right 203 (o__law_falling_right P) (d__law_falling_right P) (b__law_falling_right P) where
  get := by kernel_rfl
  data := by kernel_rfl
  code := by kernel_rfl
  isBody := by kernel_rfl
  co := by kernel_rfl
  gen := by kernel_rfl
  kind := by kernel_rfl
  closure := by kernel_rfl
  globals := by kernel_rfl
  builtins := by kernel_rfl
  noFree := by kernel_rfl
  params := by kernel_rfl
  chk := by kernel_rfl
  len := by kernel_rfl
  np := by decide
  binds := by
    intro s vals X h1 h2
    rcases vals with _ | ⟨v0, _ | ⟨v1, _ | ⟨v2, _ | ⟨w, r⟩⟩⟩⟩
    · exact absurd h2 (show ¬ (3 ≤ 0 + 0) by decide)
    · exact absurd h2 (show ¬ (3 ≤ 1 + 0) by decide)
    · exact absurd h2 (show ¬ (3 ≤ 2 + 0) by decide)
    · exact ⟨[], binds_peek X (fun S => by kernel_rfl), repL_cast .nil (by kernel_rfl)⟩
    · exact absurd h1 (by show ¬ (r.length + 4 ≤ 3); omega)
noncomputable def o__law_quotient_right (P : Params) : Obj := (List.lookup 208 (Mine.hd.heap_39 P)).getD default
noncomputable def d__law_quotient_right (P : Params) : FuncData := match (o__law_quotient_right P).data with | .func f => f | _ => default
noncomputable def b__law_quotient_right (P : Params) : List Stmt := match (d__law_quotient_right P).body with | .stmts b => b | _ => []
theorem fact__law_quotient_right (P : Params) : FnFact (Mine.hd.heap_39 P) (tb nm__law_quotient_right) f__law_quotient_right 208 (o__law_quotient_right P) (d__law_quotient_right P) (b__law_quotient_right P) where
  get := by kernel_rfl
  data := by kernel_rfl
  code := by kernel_rfl
  isBody := by kernel_rfl
  co := by kernel_rfl
  gen := by kernel_rfl
  kind := by kernel_rfl
  closure := by kernel_rfl
  globals := by kernel_rfl
  builtins := by kernel_rfl
  noFree := by kernel_rfl
  params := by kernel_rfl
  chk := by kernel_rfl
  len := by kernel_rfl
  np := by decide
  binds := by
    intro s vals X h1 h2
    rcases vals with _ | ⟨v0, _ | ⟨v1, _ | ⟨v2, _ | ⟨w, r⟩⟩⟩⟩
    · exact absurd h2 (show ¬ (3 ≤ 0 + 0) by decide)
    · exact absurd h2 (show ¬ (3 ≤ 1 + 0) by decide)
    · exact absurd h2 (show ¬ (3 ≤ 2 + 0) by decide)
    · exact ⟨[], binds_peek X (fun S => by kernel_rfl), repL_cast .nil (by kernel_rfl)⟩
    · exact absurd h1 (by show ¬ (r.length + 4 ≤ 3); omega)
noncomputable def o_law (P : Params) : Obj := (List.lookup 213 (Mine.hd.heap_39 P)).getD default
noncomputable def d_law (P : Params) : FuncData := match (o_law P).data with | .func f => f | _ => default
noncomputable def b_law (P : Params) : List Stmt := match (d_law P).body with | .stmts b => b | _ => []
theorem fact_law (P : Params) : FnFact (Mine.hd.heap_39 P) (tb nm_law) f_law 213 (o_law P) (d_law P) (b_law P) where
  get := by kernel_rfl
  data := by kernel_rfl
  code := by kernel_rfl
  isBody := by kernel_rfl
  co := by kernel_rfl
  gen := by kernel_rfl
  kind := by kernel_rfl
  closure := by kernel_rfl
  globals := by kernel_rfl
  builtins := by kernel_rfl
  noFree := by kernel_rfl
  params := by kernel_rfl
  chk := by kernel_rfl
  len := by kernel_rfl
  np := by decide
  binds := by
    intro s vals X h1 h2
    rcases vals with _ | ⟨v0, _ | ⟨w, r⟩⟩
    · exact absurd h2 (show ¬ (1 ≤ 0 + 0) by decide)
    · exact ⟨[], binds_peek X (fun S => by kernel_rfl), repL_cast .nil (by kernel_rfl)⟩
    · exact absurd h1 (by show ¬ (r.length + 2 ≤ 1); omega)
end Mine

end
section -- M23
open PySem PySem.Calls PySem.W PyProof.Rows
set_option maxRecDepth 100000
set_option maxHeartbeats 4000000
namespace Mine
noncomputable def mkW (prog : Program) (w : World) (p : Program) (loose : List PySem.Str) (mean : ExcName → Option Value) (mg mb : PySem.Str → Option Value) : Wd :=
  { prog := prog, w := w, K := Mine.hd.heap_39 w.params, p := p, loose := loose, mean := mean, mg := mg, mb := mb }

theorem look_rep {P : Params} {W : Wd} {a : Addr} {o : Obj} {items : Array Value} {n : Nat} {vs : List V} (hK : W.K = Mine.hd.heap_39 P) (h1 : (Mine.hd.heap_39 P).lookup a = some o) (h2 : o.cls = .type "tuple") (h3 : o.data = .seq items n)
    (h4 : ∀ g, RepL g items.toList vs) : ∀ h : Heap, W.OK h → Rep h.get? (.ref a) (.tup vs) := fun h X => .tup (X.inK _ _ (by rw [hK]; exact h1)) h2 h3 (h4 _)

theorem gt_cons {Q : PySem.Str → V → Prop} {x : PySem.Str} {v : V} {l : GT} (h : Q x v) (r : ∀ (i : Nat) x v, l[i]? = some (x, v) → Q x v) : ∀ (i : Nat) x' v', ((x, v) :: l)[i]? = some (x', v') → Q x' v'
  | 0, x', v', e => by simp at e; obtain ⟨rfl, rfl⟩ := e; exact h
  | i + 1, x', v', e => r i x' v' (by simpa using e)
theorem gt_nil {Q : PySem.Str → V → Prop} : ∀ (i : Nat) x' v', ([] : GT)[i]? = some (x', v') → Q x' v' := fun i x v e => by simp at e

theorem sh_cons {Q : PySem.Str → V → Prop} {x : PySem.Str} {v : V} {l : List (PySem.Str × V)} (h : Q x v) (r : ∀ x v, l.lookup x = some v → Q x v) : ∀ x' v', ((x, v) :: l).lookup x' = some v' → Q x' v' := by
  intro x' v' e
  rw [List.lookup_cons] at e
  split at e
  · rename_i hb; cases e; rw [eq_of_beq hb]; exact h
  · exact r _ _ e
theorem sh_nil {Q : PySem.Str → V → Prop} : ∀ x' v', ([] : List (PySem.Str × V)).lookup x' = some v' → Q x' v' := fun x v e => by simp at e

section
variable {prog : Program} {w : World} {p : Program} {loose : List PySem.Str} {mean : ExcName → Option Value} {mg mb : PySem.Str → Option Value}

theorem fn_cons {K : Frag} {x : PySem.Str} {l : List PySem.Str} {n : Nat} (h : ∃ a o fd, fad[n]? = some a ∧ nsIn K mainGlobals x = some (some (.ref a)) ∧ K.lookup a = some o ∧ o.data = .func fd)
    (r : ∀ (f : Nat) (x : PySem.Str), l[f]? = some x → ∃ a o fd, fad[n + 1 + f]? = some a ∧ nsIn K mainGlobals x = some (some (.ref a)) ∧ K.lookup a = some o ∧ o.data = .func fd) :
    ∀ (f : Nat) (x' : PySem.Str), (x :: l)[f]? = some x' → ∃ a o fd, fad[n + f]? = some a ∧ nsIn K mainGlobals x' = some (some (.ref a)) ∧ K.lookup a = some o ∧ o.data = .func fd
  | 0, x', e => by simp at e; subst e; exact h
  | f + 1, x', e => by rw [show n + (f + 1) = n + 1 + f by omega]; exact r f x' (by simpa using e)
noncomputable def o_43 (P : Params) : Obj := (List.lookup 43 (Mine.hd.heap_39 P)).getD default
noncomputable def o_44 (P : Params) : Obj := (List.lookup 44 (Mine.hd.heap_39 P)).getD default
noncomputable def o_45 (P : Params) : Obj := (List.lookup 45 (Mine.hd.heap_39 P)).getD default
noncomputable def o_46 (P : Params) : Obj := (List.lookup 46 (Mine.hd.heap_39 P)).getD default
noncomputable def o_47 (P : Params) : Obj := (List.lookup 47 (Mine.hd.heap_39 P)).getD default
noncomputable def o_49 (P : Params) : Obj := (List.lookup 49 (Mine.hd.heap_39 P)).getD default
noncomputable def o_50 (P : Params) : Obj := (List.lookup 50 (Mine.hd.heap_39 P)).getD default
noncomputable def o_51 (P : Params) : Obj := (List.lookup 51 (Mine.hd.heap_39 P)).getD default
noncomputable def o_52 (P : Params) : Obj := (List.lookup 52 (Mine.hd.heap_39 P)).getD default
theorem sys_gt (nm : List PySem.Str) : ∀ (i : Nat) (x : PySem.Str) (v : V), (tb nm).gt[i]? = some (x, v) → ∃ mv, nsIn (mkW prog w p loose mean mg mb).K mainGlobals x = some (some mv) ∧ ∀ h : Heap, (mkW prog w p loose mean mg mb).OK h → Rep h.get? mv v := by
  show ∀ (i : Nat) (x : PySem.Str) (v : V), gt0[i]? = some (x, v) → ∃ mv, nsIn (Mine.hd.heap_39 w.params) mainGlobals x = some (some mv) ∧ ∀ h : Heap, (mkW prog w p loose mean mg mb).OK h → Rep h.get? mv v
  unfold gt0 T4
  refine gt_cons ⟨.int 0 187, by kernel_rfl, fun h _ => .int _ _⟩ ?_
  refine gt_cons ⟨.int 1 189, by kernel_rfl, fun h _ => .int _ _⟩ ?_
  refine gt_cons ⟨.str "n" 233, by kernel_rfl, fun h _ => .str _ _⟩ ?_
  refine gt_cons ⟨.str "f" 235, by kernel_rfl, fun h _ => .str _ _⟩ ?_
  refine gt_cons ⟨.str "c" 237, by kernel_rfl, fun h _ => .str _ _⟩ ?_
  refine gt_cons ⟨.str "u" 239, by kernel_rfl, fun h _ => .str _ _⟩ ?_
  refine gt_cons ⟨.str "d" 241, by kernel_rfl, fun h _ => .str _ _⟩ ?_
  refine gt_cons ⟨.str "d" 241, by kernel_rfl, fun h _ => .str _ _⟩ ?_
  refine gt_cons ⟨.ref 43, by kernel_rfl, look_rep (P := w.params) (o := o_43 w.params) (items := #[.int 0 244, .int 0 187, .int 0 245, .int 0 246]) (n := 0) rfl (by kernel_rfl) (by kernel_rfl) (by kernel_rfl) fun g => .cons (.int 0 244) (.cons (.int 0 187) (.cons (.int 0 245) (.cons (.int 0 246) (.nil))))⟩ ?_
  refine gt_cons ⟨.ref 44, by kernel_rfl, look_rep (P := w.params) (o := o_44 w.params) (items := #[.int 0 248, .int 1 189, .int 0 249, .int 1 250]) (n := 0) rfl (by kernel_rfl) (by kernel_rfl) (by kernel_rfl) fun g => .cons (.int 0 248) (.cons (.int 1 189) (.cons (.int 0 249) (.cons (.int 1 250) (.nil))))⟩ ?_
  refine gt_cons ⟨.ref 45, by kernel_rfl, look_rep (P := w.params) (o := o_45 w.params) (items := #[.int 0 252, .int 0 187, .int (-123) 254, .int (-1) 256]) (n := 0) rfl (by kernel_rfl) (by kernel_rfl) (by kernel_rfl) fun g => .cons (.int 0 252) (.cons (.int 0 187) (.cons (.int (-123) 254) (.cons (.int (-1) 256) (.nil))))⟩ ?_
  refine gt_cons ⟨.ref 46, by kernel_rfl, look_rep (P := w.params) (o := o_46 w.params) (items := #[.int 0 258, .int 0 187, .int (-456) 260, .int (-2) 262]) (n := 0) rfl (by kernel_rfl) (by kernel_rfl) (by kernel_rfl) fun g => .cons (.int 0 258) (.cons (.int 0 187) (.cons (.int (-456) 260) (.cons (.int (-2) 262) (.nil))))⟩ ?_
  refine gt_cons ⟨.ref 47, by kernel_rfl, look_rep (P := w.params) (o := o_47 w.params) (items := #[.int 1 264, .int 0 187, .int (-789) 266, .int (-3) 268]) (n := 0) rfl (by kernel_rfl) (by kernel_rfl) (by kernel_rfl) fun g => .cons (.int 1 264) (.cons (.int 0 187) (.cons (.int (-789) 266) (.cons (.int (-3) 268) (.nil))))⟩ ?_
  exact gt_nil
theorem sys_sh : ∃ a es n, nsIn (mkW prog w p loose mean mg mb).K mainGlobals "shifts_down" = some (some (.ref a)) ∧ (mkW prog w p loose mean mg mb).K.lookup a = some ⟨.type "dict", none, .dict es n, #[]⟩ ∧ KeysLit (mkW prog w p loose mean mg mb).w.params es.toList ∧
    ∀ (x : PySem.Str) (v : V), sh0.lookup x = some v → ∃ mv, nsIn (mkW prog w p loose mean mg mb).K a x = some (some mv) ∧ ∀ h : Heap, (mkW prog w p loose mean mg mb).OK h → Rep h.get? mv v := by
  refine ⟨48, #[{ hash := PyData.keyHash w.params (Str.ofString "f"), key := .str "f" 235, val := .ref 49 }, { hash := PyData.keyHash w.params (Str.ofString "c"), key := .str "c" 237, val := .ref 50 }, { hash := PyData.keyHash w.params (Str.ofString "d"), key := .str "d" 241, val := .ref 51 }, { hash := PyData.keyHash w.params (Str.ofString "u"), key := .str "u" 239, val := .ref 52 }], 4, by kernel_rfl, by kernel_rfl, ⟨⟨_, _, rfl, rfl⟩, ⟨_, _, rfl, rfl⟩, ⟨_, _, rfl, rfl⟩, ⟨_, _, rfl, rfl⟩, trivial⟩, ?_⟩
  show ∀ (x : PySem.Str) (v : V), sh0.lookup x = some v → ∃ mv, nsIn (Mine.hd.heap_39 w.params) 48 x = some (some mv) ∧ ∀ h : Heap, (mkW prog w p loose mean mg mb).OK h → Rep h.get? mv v
  unfold sh0
  refine sh_cons ⟨.ref 49, by kernel_rfl, look_rep (P := w.params) (o := o_49 w.params) (items := #[.int 1 270, .int 0 271]) (n := 0) rfl (by kernel_rfl) (by kernel_rfl) (by kernel_rfl) fun g => .cons (.int 1 270) (.cons (.int 0 271) (.nil))⟩ ?_
  refine sh_cons ⟨.ref 50, by kernel_rfl, look_rep (P := w.params) (o := o_50 w.params) (items := #[.int 0 272, .int 1 273]) (n := 0) rfl (by kernel_rfl) (by kernel_rfl) (by kernel_rfl) fun g => .cons (.int 0 272) (.cons (.int 1 273) (.nil))⟩ ?_
  refine sh_cons ⟨.ref 51, by kernel_rfl, look_rep (P := w.params) (o := o_51 w.params) (items := #[.int 1 274, .int 1 275]) (n := 0) rfl (by kernel_rfl) (by kernel_rfl) (by kernel_rfl) fun g => .cons (.int 1 274) (.cons (.int 1 275) (.nil))⟩ ?_
  refine sh_cons ⟨.ref 52, by kernel_rfl, look_rep (P := w.params) (o := o_52 w.params) (items := #[.int 0 276, .int 0 277]) (n := 0) rfl (by kernel_rfl) (by kernel_rfl) (by kernel_rfl) fun g => .cons (.int 0 276) (.cons (.int 0 277) (.nil))⟩ ?_
  exact sh_nil
theorem sys_fn (nm : List PySem.Str) : ∀ (f : Nat) (x : PySem.Str), (tb nm).fnm[f]? = some x → ∃ a o fd, fad[f]? = some a ∧ nsIn (mkW prog w p loose mean mg mb).K mainGlobals x = some (some (.ref a)) ∧ (mkW prog w p loose mean mg mb).K.lookup a = some o ∧ o.data = .func fd := by
  intro f x hx
  rw [← Nat.zero_add f]
  revert f x
  show ∀ (f : Nat) (x : PySem.Str), fnames[f]? = some x → ∃ a o fd, fad[0 + f]? = some a ∧ nsIn (Mine.hd.heap_39 w.params) mainGlobals x = some (some (.ref a)) ∧ (Mine.hd.heap_39 w.params).lookup a = some o ∧ o.data = .func fd
  unfold fnames
  refine fn_cons ⟨21, o_trailing w.params, d_trailing w.params, rfl, by kernel_rfl, (fact_trailing w.params).get, (fact_trailing w.params).data⟩ ?_
  refine fn_cons ⟨28, o_ifac w.params, d_ifac w.params, rfl, by kernel_rfl, (fact_ifac w.params).get, (fact_ifac w.params).data⟩ ?_
  refine fn_cons ⟨35, o_stirling1 w.params, d_stirling1 w.params, rfl, by kernel_rfl, (fact_stirling1 w.params).get, (fact_stirling1 w.params).data⟩ ?_
  refine fn_cons ⟨42, o_stirling2 w.params, d_stirling2 w.params, rfl, by kernel_rfl, (fact_stirling2 w.params).get, (fact_stirling2 w.params).data⟩ ?_
  refine fn_cons ⟨59, o__normalize w.params, d__normalize w.params, rfl, by kernel_rfl, (fact__normalize w.params).get, (fact__normalize w.params).data⟩ ?_
  refine fn_cons ⟨66, o_normalize w.params, d_normalize w.params, rfl, by kernel_rfl, (fact_normalize w.params).get, (fact_normalize w.params).data⟩ ?_
  refine fn_cons ⟨74, o_from_man_exp w.params, d_from_man_exp w.params, rfl, by kernel_rfl, (fact_from_man_exp w.params).get, (fact_from_man_exp w.params).data⟩ ?_
  refine fn_cons ⟨82, o_from_int w.params, d_from_int w.params, rfl, by kernel_rfl, (fact_from_int w.params).get, (fact_from_int w.params).data⟩ ?_
  refine fn_cons ⟨90, o_mpf_pos w.params, d_mpf_pos w.params, rfl, by kernel_rfl, (fact_mpf_pos w.params).get, (fact_mpf_pos w.params).data⟩ ?_
  refine fn_cons ⟨98, o_mpf_neg w.params, d_mpf_neg w.params, rfl, by kernel_rfl, (fact_mpf_neg w.params).get, (fact_mpf_neg w.params).data⟩ ?_
  refine fn_cons ⟨106, o_mpf_abs w.params, d_mpf_abs w.params, rfl, by kernel_rfl, (fact_mpf_abs w.params).get, (fact_mpf_abs w.params).data⟩ ?_
  refine fn_cons ⟨113, o_mpf_sign w.params, d_mpf_sign w.params, rfl, by kernel_rfl, (fact_mpf_sign w.params).get, (fact_mpf_sign w.params).data⟩ ?_
  refine fn_cons ⟨121, o_mpf_add w.params, d_mpf_add w.params, rfl, by kernel_rfl, (fact_mpf_add w.params).get, (fact_mpf_add w.params).data⟩ ?_
  refine fn_cons ⟨129, o_mpf_sub w.params, d_mpf_sub w.params, rfl, by kernel_rfl, (fact_mpf_sub w.params).get, (fact_mpf_sub w.params).data⟩ ?_
  refine fn_cons ⟨137, o_mpf_sum w.params, d_mpf_sum w.params, rfl, by kernel_rfl, (fact_mpf_sum w.params).get, (fact_mpf_sum w.params).data⟩ ?_
  refine fn_cons ⟨145, o_mpf_mul w.params, d_mpf_mul w.params, rfl, by kernel_rfl, (fact_mpf_mul w.params).get, (fact_mpf_mul w.params).data⟩ ?_
  refine fn_cons ⟨153, o_mpf_mul_int w.params, d_mpf_mul_int w.params, rfl, by kernel_rfl, (fact_mpf_mul_int w.params).get, (fact_mpf_mul_int w.params).data⟩ ?_
  refine fn_cons ⟨161, o_mpf_div w.params, d_mpf_div w.params, rfl, by kernel_rfl, (fact_mpf_div w.params).get, (fact_mpf_div w.params).data⟩ ?_
  refine fn_cons ⟨170, o_mpf_pow_int w.params, d_mpf_pow_int w.params, rfl, by kernel_rfl, (fact_mpf_pow_int w.params).get, (fact_mpf_pow_int w.params).data⟩ ?_
  refine fn_cons ⟨177, o__law_mixed w.params, d__law_mixed w.params, rfl, by kernel_rfl, (fact__law_mixed w.params).get, (fact__law_mixed w.params).data⟩ ?_
  refine fn_cons ⟨184, o__law_raw w.params, d__law_raw w.params, rfl, by kernel_rfl, (fact__law_raw w.params).get, (fact__law_raw w.params).data⟩ ?_
  refine fn_cons ⟨191, o__law_steps w.params, d__law_steps w.params, rfl, by kernel_rfl, (fact__law_steps w.params).get, (fact__law_steps w.params).data⟩ ?_
  refine fn_cons ⟨198, o__law_sums_right w.params, d__law_sums_right w.params, rfl, by kernel_rfl, (fact__law_sums_right w.params).get, (fact__law_sums_right w.params).data⟩ ?_
  refine fn_cons ⟨203, o__law_falling_right w.params, d__law_falling_right w.params, rfl, by kernel_rfl, (fact__law_falling_right w.params).get, (fact__law_falling_right w.params).data⟩ ?_
  refine fn_cons ⟨208, o__law_quotient_right w.params, d__law_quotient_right w.params, rfl, by kernel_rfl, (fact__law_quotient_right w.params).get, (fact__law_quotient_right w.params).data⟩ ?_
  refine fn_cons ⟨213, o_law w.params, d_law w.params, rfl, by kernel_rfl, (fact_law w.params).get, (fact_law w.params).data⟩ ?_
  exact fun f x e => by simp at e
theorem sys_blt : ∀ x ∈ (["len", "int", "isinstance", "divmod", "min", "all", "range"] : List PySem.Str), nsIn (mkW prog w p loose mean mg mb).K mainGlobals x = some none := by
  show ∀ x ∈ (["len", "int", "isinstance", "divmod", "min", "all", "range"] : List PySem.Str), nsIn (Mine.hd.heap_39 w.params) mainGlobals x = some none
  simp only [List.forall_mem_cons]
  exact ⟨by kernel_rfl, by kernel_rfl, by kernel_rfl, by kernel_rfl, by kernel_rfl, by kernel_rfl, by kernel_rfl, fun _ h => by cases h⟩
theorem sys_of {k : Nat} {cs : Nat → List V → Option V} (nm : List PySem.Str) (hn : nm.Nodup) (hc : ∀ f args r, cs f args = some r → FnOk (mkW prog w p loose mean mg mb) fad k f args r) : Sys (mkW prog w p loose mean mg mb) (tb nm) fad cs k :=
  ⟨sys_gt nm, sys_sh, sys_fn nm, sys_blt, hc, hn⟩

theorem cal_ok : ∀ (k f : Nat) (args : List V) (r : V), cal gt0 sh0 ft k f args = some r → FnOk (mkW prog w p loose mean mg mb) fad k f args r
  | 0, _, _, _, h => by cases h
  | k + 1, f, args, r, h => by
    rw [cal, Option.bind_eq_some_iff] at h
    obtain ⟨fd, h1, h2⟩ := h
    have ih := cal_ok k
    match f, h1 with
    | 0, h1 => cases h1; exact fn_ok (sys_of nm_trailing (by decide +kernel) ih) (fact_trailing w.params) rfl h2
    | 1, h1 => cases h1; exact fn_ok (sys_of nm_ifac (by decide +kernel) ih) (fact_ifac w.params) rfl h2
    | 2, h1 => cases h1; exact fn_ok (sys_of nm_stirling1 (by decide +kernel) ih) (fact_stirling1 w.params) rfl h2
    | 3, h1 => cases h1; exact fn_ok (sys_of nm_stirling2 (by decide +kernel) ih) (fact_stirling2 w.params) rfl h2
    | 4, h1 => cases h1; exact fn_ok (sys_of nm__normalize (by decide +kernel) ih) (fact__normalize w.params) rfl h2
    | 5, h1 => cases h1; exact fn_ok (sys_of nm_normalize (by decide +kernel) ih) (fact_normalize w.params) rfl h2
    | 6, h1 => cases h1; exact fn_ok (sys_of nm_from_man_exp (by decide +kernel) ih) (fact_from_man_exp w.params) rfl h2
    | 7, h1 => cases h1; exact fn_ok (sys_of nm_from_int (by decide +kernel) ih) (fact_from_int w.params) rfl h2
    | 8, h1 => cases h1; exact fn_ok (sys_of nm_mpf_pos (by decide +kernel) ih) (fact_mpf_pos w.params) rfl h2
    | 9, h1 => cases h1; exact fn_ok (sys_of nm_mpf_neg (by decide +kernel) ih) (fact_mpf_neg w.params) rfl h2
    | 10, h1 => cases h1; exact fn_ok (sys_of nm_mpf_abs (by decide +kernel) ih) (fact_mpf_abs w.params) rfl h2
    | 11, h1 => cases h1; exact fn_ok (sys_of nm_mpf_sign (by decide +kernel) ih) (fact_mpf_sign w.params) rfl h2
    | 12, h1 => cases h1; exact fn_ok (sys_of nm_mpf_add (by decide +kernel) ih) (fact_mpf_add w.params) rfl h2
    | 13, h1 => cases h1; exact fn_ok (sys_of nm_mpf_sub (by decide +kernel) ih) (fact_mpf_sub w.params) rfl h2
    | 14, h1 => cases h1; exact fn_ok (sys_of nm_mpf_sum (by decide +kernel) ih) (fact_mpf_sum w.params) rfl h2
    | 15, h1 => cases h1; exact fn_ok (sys_of nm_mpf_mul (by decide +kernel) ih) (fact_mpf_mul w.params) rfl h2
    | 16, h1 => cases h1; exact fn_ok (sys_of nm_mpf_mul_int (by decide +kernel) ih) (fact_mpf_mul_int w.params) rfl h2
    | 17, h1 => cases h1; exact fn_ok (sys_of nm_mpf_div (by decide +kernel) ih) (fact_mpf_div w.params) rfl h2
    | 18, h1 => cases h1; exact fn_ok (sys_of nm_mpf_pow_int (by decide +kernel) ih) (fact_mpf_pow_int w.params) rfl h2
    | 19, h1 => cases h1; exact fn_ok (sys_of nm__law_mixed (by decide +kernel) ih) (fact__law_mixed w.params) rfl h2
    | 20, h1 => cases h1; exact fn_ok (sys_of nm__law_raw (by decide +kernel) ih) (fact__law_raw w.params) rfl h2
    | 21, h1 => cases h1; exact fn_ok (sys_of nm__law_steps (by decide +kernel) ih) (fact__law_steps w.params) rfl h2
    | 22, h1 => cases h1; exact fn_ok (sys_of nm__law_sums_right (by decide +kernel) ih) (fact__law_sums_right w.params) rfl h2
    | 23, h1 => cases h1; exact fn_ok (sys_of nm__law_falling_right (by decide +kernel) ih) (fact__law_falling_right w.params) rfl h2
    | 24, h1 => cases h1; exact fn_ok (sys_of nm__law_quotient_right (by decide +kernel) ih) (fact__law_quotient_right w.params) rfl h2
    | 25, h1 => cases h1; exact fn_ok (sys_of nm_law (by decide +kernel) ih) (fact_law w.params) rfl h2
    | n + 26, h1 => cases h1
end
end Mine

end
section
open PySem PySem.Calls PySem.W PyProof.Rows
namespace Mine
theorem room8 : Room callerA 8 := ⟨rfl, by decide +kernel, by decide +kernel⟩
end Mine
end
open PySem PySem.Calls PySem.W PyProof.Rows
set_option maxRecDepth 100000 in
set_option maxHeartbeats 8000000 in
theorem PySem.Challenge.cw_aj5011_01_holds : PySem.Challenge.rw_aj5011_01.Holds := by
  refine Mine.hd ?_
  k_fill
  intro w s₀ s₁ mg mb G Y fa o pm cd doc dV kV ho hd hcd hD hmg hg args vals as hpre hlay hrd hwl hlo
  have KX := kIn_of Y
  refine Ground.open G ?_
  intro T B D TE TW
  have hfa := hmg.symm.trans (mg_of (n := "law") (v := .ref 213) KX T.g (by kernel_rfl))
  cases hfa
  wrow_args hpre hlay hrd hwl hlo
  rename_i ns _ _ _ _ _ _ _ a ms _ hL _ _ _ hI _ hlen _
  have hn : ns.length ≤ 63 := by omega
  obtain ⟨oL, hL1, hL2, nL, hL3⟩ := hL
  have hc := Mine.cal_ok (prog := Challenge.rw_aj5011_01.row.prog) (w := w) (p := Mine.hd.view_39) (mean := ExcName.means s₀.heap) (mg := mg) (mb := mb) (loose := _) 8 25 _ _ (Mine.plain_law ns hn) 213 rfl callerA s₁ [.ref a] Mine.room8 ⟨KX, T⟩
    (.cons (.lst hL1 hL2 hL3 (Mine.repL_of_ints hI)) .nil)
  refine wpAny_mono hc (fun v s' h => ?_) (fun _ _ f => f.elim)
  obtain ⟨hv, h', tk, rfl, hk⟩ := h
  cases hv
  exact GoodW.toG ⟨.inl ⟨.bool true, .bool true, [], rfl, fun _ => rfl, .bool _, by kernel_rfl, fun _ => ⟨List.nodup_nil, fun _ h => by cases h⟩⟩, hk, rfl, hg⟩

