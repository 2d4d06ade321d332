import PyProof.Rows.All
import Wide.All
import OpenK.AllK
import Wide.FinOn
import Lean
import PySem.Challenge.RW_sl0014_01
set_option Elab.async false

section
open PySem PySem.Calls PyProof.Rows PySem.W
set_option maxRecDepth 100000
set_option linter.unusedVariables false
namespace Mine

noncomputable def hDict : List (Option Expr) × List Expr := match (PySem.Challenge.pw_sl0014_01.main.body[56]? : Option Stmt) with
  | some (Stmt.Assign _ (Expr.Dict ks vs _) _) => (ks, vs)
  | _ => ([], [])
noncomputable def hKey : Option Expr → Str
  | some (.Constant (.str s) _ _) => s
  | _ => default
noncomputable def hName : Expr → Str
  | .Name x _ => x
  | _ => default
noncomputable def hInt (x : Str) : List Stmt → Int
  | [] => 0
  | s :: r => match s with
    | .Assign [.Name y _] (.Constant (.int n) _ _) _ => if x = y then n else hInt x r
    | _ => hInt x r
noncomputable def hGo (P : Params) : Nat → List (Option Expr) → List Expr → List DictEntry
  | i, k :: ks, v :: vs => ⟨PyData.keyHash P (hKey k), .str (hKey k) (if i < 35 then 339 + 2 * i else 373 + i), .int (hInt (hName v) PySem.Challenge.pw_sl0014_01.main.body) (227 + 2 * (hInt (hName v) PySem.Challenge.pw_sl0014_01.main.body).toNat)⟩ :: hGo P (i + 1) ks vs
  | _, _, _ => []
noncomputable def hEs (P : Params) : Array DictEntry := (hGo P 0 hDict.1 hDict.2).toArray
noncomputable def hObj (P : Params) : Obj := ⟨.type "dict", none, .dict (hEs P) 48, #[]⟩
noncomputable abbrev hEx : Str := Str.ofString "EXACT_TOKEN_TYPES"
theorem ns_keeps {h h' : Heap} {a : Addr} {x : Str} {v : Value} (e : h.nsMap a x = some v) (k : ∀ b o, h.get? b = some o → h'.get? b = some o) : h'.nsMap a x = some v := by
  unfold Heap.nsMap at e ⊢
  cases ho : h.get? a with
  | none => rw [ho] at e; cases e
  | some o => rw [k a o ho]; rw [ho] at e; exact e
noncomputable def hook : Hook := ⟨Option Value × Option Obj, fun s => (s.heap.nsMap mainGlobals hEx, s.heap.get? 36), fun w => (some (.ref 36), some (hObj w.params)), fun w h => h.nsMap mainGlobals hEx = some (.ref 36) ∧ h.get? 36 = some (hObj w.params),
  fun w s e => ⟨congrArg Prod.fst e, congrArg Prod.snd e⟩, fun w h h' x k => ⟨ns_keeps x.1 k, k _ _ x.2⟩⟩
theorem h_keys (P : Params) : ∀ (i : Nat) (ks : List (Option Expr)) (vs : List Expr), KeysLit P (hGo P i ks vs)
  | _, [], _ => trivial
  | _, _ :: _, [] => trivial
  | i, _ :: ks, _ :: vs => ⟨⟨_, _, rfl, rfl⟩, h_keys P (i + 1) ks vs⟩
noncomputable def hview : Program := view PySem.Challenge.pw_sl0014_01 [1, 2, 4, 6, 7, 8, 9, 10, 11, 12, 13, 14, 15, 16, 17, 18, 19, 20, 21, 22, 23, 24, 25, 26, 27, 28, 29, 30, 31, 32, 33, 34, 35, 36, 37, 38, 39, 40, 41, 42, 43, 44, 45, 46, 47, 48, 49, 50, 51, 52, 53, 54, 55, 56, 57, 58, 60, 61, 62, 63, 64, 65, 66, 67]
end Mine
end

section
open PySem PySem.Calls PyProof.Rows PySem.W
set_option linter.unusedVariables false
namespace Mine

inductive AV where
  | none
  | bool (b : Bool)
  | int (i : Int)
  | flt (x : UInt64)
  | lst (xs : List AV)
  | tup (xs : List AV)
  | rng (a b : Int)
  | loc (i : Nat)

set_option genSizeOfSpec false in
inductive AObj where
  | list (xs : List AV)
  | iter (xs : List AV) (i : Nat)
  | tab

set_option genSizeOfSpec false in
inductive AFl where
  | next
  | brk
  | ret (v : AV)

noncomputable abbrev Vars := List (Nat × AV)
noncomputable abbrev Hp := List AObj

noncomputable def lk : Nat → Vars → Option AV
  | _, [] => none
  | x, (y, v) :: r => if x = y then some v else lk x r
noncomputable def setVar (x : Nat) (v : AV) : Vars → Vars
  | [] => [(x, v)]
  | (y, u) :: r => if x = y then (x, v) :: r else (y, u) :: setVar x v r
noncomputable def capV : List Nat → Vars → Option Vars
  | [], _ => some []
  | n :: r, vs => match lk n vs with
    | some v => (match capV r vs with
      | some c => some ((n, v) :: c)
      | none => none)
    | none => none

set_option genSizeOfSpec false in
set_option genInjectivity false in
inductive PE where
  | cst (v : AV)
  | var (n : Nat)
  | bin (op : Operator) (l r : PE)
  | neg (e : PE)
  | not (e : PE)
  | cmp (op : CmpOp) (l r : PE)
  | ife (t a b : PE)
  | nil
  | cons (e es : PE)
  | tup (es : PE)
  | comp (x : Nat) (caps : List Nat) (it elt : PE)
  | compIf (x : Nat) (caps : List Nat) (it c elt : PE)
  | call (f : Nat) (es : PE)
  | len (e : PE)
  | sum (e : PE)
  | rng1 (e : PE)
  | rng2 (a b : PE)
  | trunc (e : PE)
  | max3 (a b c : PE)
  | min3 (a b c : PE)
  | get (o k d : PE)
  | slice (o lo hi st : PE)
  | item (o i : PE)

set_option genSizeOfSpec false in
set_option genInjectivity false in
inductive PS where
  | skip
  | seq (a b : PS)
  | asg (n : Nat) (e : PE)
  | newl (n : Nat) (es : PE)
  | rows4 (n : Nat)
  | iter (n : Nat) (e : PE)
  | next (n m : Nat)
  | callI (n f m : Nat)
  | asg2 (n m : Nat) (e : PE)
  | seti (o i v : Nat)
  | app (o : Nat) (e : PE)
  | ext (o : Nat) (e : PE)
  | aug (n : Nat) (op : Operator) (e : PE)
  | ite (c : PE) (a b : PS)
  | whl (c : PE) (b : PS)
  | loop (n : Nat) (e : PE) (b : PS)
  | ret (e : PE)
  | brk
  | tab (n : Nat)

noncomputable def smallI (i : Int) : Bool := decide (-1000000000000 ≤ i) && decide (i ≤ 1000000000000)
noncomputable def smallL (n : Nat) : Bool := decide (n ≤ 100000)

noncomputable def listAt (σ : Hp) (i : Nat) : Option (List AV) :=
  match σ[i]? with
  | some (.list xs) => some xs
  | _ => none
noncomputable def itemsA (σ : Hp) : AV → Option (List AV)
  | .lst xs => some xs
  | .loc i => listAt σ i
  | _ => none
noncomputable def iterAt (σ : Hp) (i : Nat) : Option (List AV × Nat) :=
  match σ[i]? with
  | some (.iter xs k) => some (xs, k)
  | _ => none
noncomputable def rngL (a : Int) : Nat → List AV
  | 0 => []
  | n + 1 => .int a :: rngL (a + 1) n
noncomputable def iterA (σ : Hp) : AV → Option (List AV)
  | .lst xs => some xs
  | .loc i => listAt σ i
  | .rng a b => some (rngL a (b - a).toNat)
  | _ => none

noncomputable def intsOf : List AV → Option (List Int)
  | [] => some []
  | .int i :: r => (intsOf r).map (i :: ·)
  | _ => none
noncomputable def mapO {α β : Type} (f : α → Option β) : List α → Option (List β)
  | [] => some []
  | a :: r => match f a with
    | some b => (match mapO f r with
      | some bs => some (b :: bs)
      | none => none)
    | none => none
noncomputable def mapIf (c : AV → Option Bool) (f : AV → Option AV) : List AV → Option (List AV)
  | [] => some []
  | a :: r => match c a with
    | some true => (match f a with
      | some b => (match mapIf c f r with
        | some bs => some (b :: bs)
        | none => none)
      | none => none)
    | some false => mapIf c f r
    | none => none

noncomputable def atom : AV → Bool
  | .none => true
  | .bool _ => true
  | .int _ => true
  | .flt _ => true
  | _ => false
noncomputable def flat : AV → Bool
  | .lst xs => xs.all atom
  | v => atom v
noncomputable def deep : AV → Bool
  | .lst xs => xs.all flat
  | .tup xs => xs.all flat
  | v => atom v
noncomputable def frz0 (σ : Hp) (v : AV) : Option AV :=
  match v with
  | .loc i => (listAt σ i).bind fun xs => if xs.all atom then some (.lst xs) else none
  | v => if flat v then some v else none
noncomputable def frz (σ : Hp) (v : AV) : Option AV :=
  match v with
  | .lst xs => (mapO (frz0 σ) xs).bind fun ys => some (.lst ys)
  | .tup xs => (mapO (frz0 σ) xs).bind fun ys => some (.tup ys)
  | v => frz0 σ v

noncomputable def partA : AV → Option (Option Int)
  | .none => some none
  | .int i => some (some i)
  | _ => none
noncomputable def pickA {α : Type} (xs : List α) (lo hi st : Option Int) : List α :=
  (sliceRange (sliceBounds lo hi st xs.length).1 (sliceBounds lo hi st xs.length).2.1 (sliceBounds lo hi st xs.length).2.2).filterMap (xs[·]?)

noncomputable def i1 : AV → Option Int
  | .int x => some x
  | _ => none
noncomputable def g1 : AV → Option UInt64
  | .flt x => some x
  | _ => none
noncomputable def l1 : AV → Option (List AV)
  | .lst xs => some xs
  | _ => none
noncomputable def iiA (a b : AV) (f : Int → Int → Option AV) : Option AV := (i1 a).bind fun x => (i1 b).bind fun y => f x y
noncomputable def ffA (a b : AV) (f : UInt64 → UInt64 → Option AV) : Option AV := (g1 a).bind fun x => (g1 b).bind fun y => f x y
noncomputable def llA (a b : AV) (σ : Hp) : Option AV := (itemsA σ a).bind fun xs => (itemsA σ b).bind fun ys => if smallL (xs.length + ys.length) then some (.lst (xs ++ ys)) else none
noncomputable def addA (a b : AV) (σ : Hp) : Option AV := match a with
  | .int x => (i1 b).bind fun y => some (.int (x + y))
  | .flt x => (g1 b).bind fun y => some (.flt (Float64.add x y))
  | a => llA a b σ
noncomputable def subA (a b : AV) : Option AV := match a with
  | .int x => (i1 b).bind fun y => some (.int (x - y))
  | .flt x => (match b with
    | .flt y => some (.flt (Float64.sub x y))
    | .int y => if smallI y then some (.flt (Float64.sub x (Float64.ofInt y))) else none
    | _ => none)
  | _ => none
noncomputable def mulA (a b : AV) : Option AV := (i1 a).bind fun x => match b with
  | .int y => if smallI x && smallI y then some (.int (x * y)) else none
  | .flt y => if smallI x then some (.flt (Float64.mul (Float64.ofInt x) y)) else none
  | _ => none
noncomputable def modA (a b : AV) : Option AV := match a with
  | .int x => (i1 b).bind fun y => if decide (y ≠ 0) then some (.int (x.fmod y)) else none
  | .flt x => (g1 b).bind fun y => if Float64.isZero y then none else some (.flt (Float64.divmod x y).2)
  | _ => none
noncomputable def divA (a b : AV) : Option AV := match a with
  | .int x => (i1 b).bind fun y => if decide (y ≠ 0) && !Float64.isInf (Float64.ofFrac (decide (x < 0) != decide (y < 0)) x.natAbs y.natAbs) then some (.flt (Float64.ofFrac (decide (x < 0) != decide (y < 0)) x.natAbs y.natAbs)) else none
  | .flt x => (g1 b).bind fun y => if Float64.isZero y then none else some (.flt (Float64.div x y))
  | _ => none
noncomputable def fdvA (a b : AV) : Option AV := iiA a b fun x y => if decide (y ≠ 0) && decide (y.natAbs < 1000000) then some (.int (x.fdiv y)) else none
noncomputable def shlA (a b : AV) : Option AV := iiA a b fun x y => if decide (0 ≤ y) && decide (y ≤ 1000) && smallI x then some (.int (x * 2 ^ y.toNat)) else none
noncomputable def binA (op : Operator) (a b : AV) (σ : Hp) : Option AV :=
  match op with
  | .Add => addA a b σ
  | .Sub => subA a b
  | .Mult => mulA a b
  | .FloorDiv => fdvA a b
  | .Mod => modA a b
  | .Div => divA a b
  | .BitAnd => iiA a b fun x y => some (.int (Builtin.bitAnd x y))
  | .BitOr => iiA a b fun x y => some (.int (Builtin.bitOr x y))
  | .LShift => shlA a b
  | _ => none

noncomputable def zi (v : AV) : Option (List Int) := (l1 v).bind intsOf
noncomputable def eqO {α : Type} [DecidableEq α] (a b : Option α) (d : Option Bool) : Option Bool := a.elim d fun a => b.elim d fun b => some (decide (a = b))
noncomputable def eqL (xs ys : List AV) : Option Bool := eqO (intsOf xs) (intsOf ys) (eqO (mapO zi xs) (mapO zi ys) none)
noncomputable def eqA (a b : AV) : Option Bool :=
  match a with
  | .int x => (i1 b).map fun y => x == y
  | .flt x => (g1 b).map fun y => Float64.cmp x y == some Ordering.eq
  | .lst xs => (l1 b).bind fun ys => eqL xs ys
  | _ => none
noncomputable def leA (a b : AV) : Option Bool :=
  match a with
  | .int x => (i1 b).map fun y => decide (x ≤ y)
  | .flt x => (g1 b).map fun y => Float64.cmp x y == some .lt || Float64.cmp x y == some .eq
  | _ => none
noncomputable def icA (a b : AV) (f : Int → Int → Bool) : Option Bool := (i1 a).bind fun x => (i1 b).map fun y => f x y
noncomputable def cmpA (op : CmpOp) (a b : AV) : Option Bool :=
  match op with
  | .Eq => eqA a b
  | .NotEq => (l1 a).bind fun xs => (l1 b).bind fun ys => (eqL xs ys).map (!·)
  | .Lt => icA a b fun x y => decide (x < y)
  | .LtE => leA a b
  | .Gt => icA a b fun x y => decide (x > y)
  | .GtE => icA a b fun x y => decide (x ≥ y)
  | _ => none
noncomputable def truA : AV → Option Bool
  | .bool b => some b
  | .int i => some (i != 0)
  | _ => none

noncomputable def tabGet (k : Int) (d : Int) : Int :=
  if k = 14 then 1 else if k = 15 then 2 else if k = 16 then 3 else if k = 17 then 4 else d
noncomputable def locA : AV → Option Nat
  | .loc i => some i
  | _ => none
noncomputable def tabAt (σ : Hp) (i : Nat) : Option Unit :=
  match σ[i]? with
  | some .tab => some ()
  | _ => none
noncomputable def getA (σ : Hp) (o k d : AV) : Option AV :=
  (locA o).bind fun i => (i1 k).bind fun k => (i1 d).bind fun d => (tabAt σ i).bind fun _ => some (.int (tabGet k d))
noncomputable def lenA (σ : Hp) (v : AV) : Option AV := (itemsA σ v).map fun xs => .int xs.length
noncomputable def sumA (v : AV) : Option AV :=
  (l1 v).bind fun xs => (intsOf xs).bind fun ns => some (.int ns.sum)
noncomputable def itemsT (σ : Hp) (o : AV) : Option (List AV) := match o with
  | .tup xs => some xs
  | o => itemsA σ o
noncomputable def itemA (σ : Hp) (o i : AV) : Option AV := (i1 i).bind fun k => if 0 ≤ k then (itemsT σ o).bind fun xs => xs[k.toNat]? else none
noncomputable def sliceA (σ : Hp) (o lo hi st : AV) : Option AV :=
  (itemsA σ o).bind fun xs => (partA lo).bind fun lo => (partA hi).bind fun hi => (partA st).bind fun st => if st = some 0 then none else some (.lst (pickA xs lo hi st))
noncomputable def max3A (a b c : AV) : Option AV :=
  (g1 a).bind fun a => (g1 b).bind fun b => (g1 c).bind fun c => some (.flt (if Float64.cmp c (if Float64.cmp b a == some .gt then b else a) == some .gt then c else if Float64.cmp b a == some .gt then b else a))
noncomputable def min3A (a b c : AV) : Option AV :=
  (g1 a).bind fun a => (g1 b).bind fun b => (g1 c).bind fun c => some (.flt (if Float64.cmp c (if Float64.cmp b a == some .lt then b else a) == some .lt then c else if Float64.cmp b a == some .lt then b else a))
noncomputable def truncA (v : AV) : Option AV :=
  (g1 v).bind fun x => match Float64.decode x with
    | .fin sg m e => some (.int (Float64.truncOf sg m e))
    | _ => none
noncomputable def rngA (a b : AV) : Option AV :=
  iiA a b fun a b => if smallI a && smallI b && decide (b - a ≤ 100000) then some (.rng a b) else none
noncomputable def negA (v : AV) : Option AV :=
  (i1 v).bind fun i => some (.int (-i))
noncomputable def notA (v : AV) : Option AV := (truA v).map fun b => .bool (!b)
noncomputable def consA (v l : AV) : Option AV :=
  (l1 l).bind fun xs => if smallL (xs.length + 1) then some (.lst (v :: xs)) else none

noncomputable def o1 (f : AV → Option AV) (a : Option AV) : Option AV := a.bind f
noncomputable def o2 (f : AV → AV → Option AV) (a b : Option AV) : Option AV := a.bind fun a => b.bind fun b => f a b
noncomputable def o3 (f : AV → AV → AV → Option AV) (a b c : Option AV) : Option AV := a.bind fun a => b.bind fun b => c.bind fun c => f a b c
noncomputable def o4 (f : AV → AV → AV → AV → Option AV) (a b c d : Option AV) : Option AV := a.bind fun a => b.bind fun b => c.bind fun c => d.bind fun d => f a b c d
noncomputable def oI {α : Type} (t : Option Bool) (a b : Option α) : Option α := t.bind fun t => cond t a b
noncomputable def oC (v : Option AV) (σ : Hp) (caps : List Nat) (vs : Vars) (g : Vars → AV → Option AV) : Option AV :=
  v.bind fun v => (iterA σ v).bind fun xs => (capV caps vs).bind fun cv => (mapO (g cv) xs).bind fun ys => some (.lst ys)
noncomputable def oD (v : Option AV) (σ : Hp) (caps : List Nat) (vs : Vars) (c : Vars → AV → Option Bool) (g : Vars → AV → Option AV) : Option AV :=
  v.bind fun v => (iterA σ v).bind fun xs => (capV caps vs).bind fun cv => (mapIf (c cv) (g cv) xs).bind fun ys => some (.lst ys)
noncomputable def tupA (v : AV) : Option AV := (l1 v).bind fun xs => some (.tup xs)
noncomputable def otru (a : Option AV) : Option Bool := a.bind truA

noncomputable abbrev Fns := Nat → List AV → Option AV
noncomputable abbrev Its := Nat → List AV → Nat → Option (AV × List AV × Nat)

noncomputable def callA (F : Fns) (f : Nat) (v : AV) : Option AV := (l1 v).bind fun xs => if xs.all deep then F f xs else none

noncomputable def evP (F : Fns) : PE → Vars → Hp → Option AV
  | .cst v, _, _ => some v
  | .var n, vs, _ => lk n vs
  | .bin op l r, vs, σ => o2 (fun a b => binA op a b σ) (evP F l vs σ) (evP F r vs σ)
  | .neg e, vs, σ => o1 negA (evP F e vs σ)
  | .not e, vs, σ => o1 notA (evP F e vs σ)
  | .cmp op l r, vs, σ => o2 (fun a b => (cmpA op a b).map .bool) (evP F l vs σ) (evP F r vs σ)
  | .ife t a b, vs, σ => oI (otru (evP F t vs σ)) (evP F a vs σ) (evP F b vs σ)
  | .nil, _, _ => some (.lst [])
  | .cons e es, vs, σ => o2 consA (evP F e vs σ) (evP F es vs σ)
  | .tup es, vs, σ => o1 tupA (evP F es vs σ)
  | .comp x caps it elt, vs, σ => oC (evP F it vs σ) σ caps vs fun cv a => evP F elt ((x, a) :: cv) σ
  | .compIf x caps it c elt, vs, σ => oD (evP F it vs σ) σ caps vs (fun cv a => otru (evP F c ((x, a) :: cv) σ)) fun cv a => evP F elt ((x, a) :: cv) σ
  | .call f es, vs, σ => o1 (callA F f) (evP F es vs σ)
  | .len e, vs, σ => o1 (lenA σ) (evP F e vs σ)
  | .sum e, vs, σ => o1 sumA (evP F e vs σ)
  | .rng1 e, vs, σ => o1 (rngA (.int 0)) (evP F e vs σ)
  | .rng2 a b, vs, σ => o2 rngA (evP F a vs σ) (evP F b vs σ)
  | .trunc e, vs, σ => o1 truncA (evP F e vs σ)
  | .max3 a b c, vs, σ => o3 max3A (evP F a vs σ) (evP F b vs σ) (evP F c vs σ)
  | .min3 a b c, vs, σ => o3 min3A (evP F a vs σ) (evP F b vs σ) (evP F c vs σ)
  | .get o k d, vs, σ => o3 (getA σ) (evP F o vs σ) (evP F k vs σ) (evP F d vs σ)
  | .slice o lo hi st, vs, σ => o4 (sliceA σ) (evP F o vs σ) (evP F lo vs σ) (evP F hi vs σ) (evP F st vs σ)
  | .item o i, vs, σ => o2 (itemA σ) (evP F o vs σ) (evP F i vs σ)

noncomputable abbrev St := AFl × Vars × Hp

noncomputable def loopF (r : AFl × Vars × Hp) (k : Vars → Hp → Option St) : Option St := match r.1 with
  | .next => k r.2.1 r.2.2
  | .brk => some (.next, r.2)
  | .ret _ => some r
noncomputable def whL (c : Vars → Hp → Option Bool) (b : Vars → Hp → Option St) : Nat → Vars → Hp → Option St
  | 0, _, _ => none
  | k + 1, vs, σ => (c vs σ).bind fun t => cond t ((b vs σ).bind fun r => loopF r fun vs σ => whL c b k vs σ) (some (.next, vs, σ))
noncomputable def forL (n : Nat) (b : Vars → Hp → Option St) : List AV → Vars → Hp → Option St
  | [], vs, σ => some (.next, vs, σ)
  | v :: r, vs, σ => (b (setVar n v vs) σ).bind fun q => loopF q fun vs σ => forL n b r vs σ
noncomputable def frozenA : AV → Option (List AV)
  | .lst xs => some xs
  | .rng a b => some (rngL a (b - a).toNat)
  | _ => none

noncomputable def flowF (r : AFl × Vars × Hp) (k : Vars → Hp → Option St) : Option St := match r.1 with
  | .next => k r.2.1 r.2.2
  | .brk => some r
  | .ret _ => some r
noncomputable def lkL (n : Nat) (vs : Vars) : Option Nat := (lk n vs).bind locA
noncomputable def pairA : AV → Option (AV × AV)
  | .tup [a, b] => some (a, b)
  | _ => none
noncomputable def augA (op : Operator) (a b : Int) : Option AV := match op with
  | .LShift => shlA (.int a) (.int b)
  | .BitOr => some (.int (Builtin.bitOr a b))
  | _ => none
noncomputable def exP (F : Fns) (I : Its) : PS → Vars → Hp → Option St
  | .skip, vs, σ => some (.next, vs, σ)
  | .seq a b, vs, σ => (exP F I a vs σ).bind fun r => flowF r fun vs σ => exP F I b vs σ
  | .asg n e, vs, σ => (evP F e vs σ).bind fun v => some (.next, setVar n v vs, σ)
  | .newl n es, vs, σ => ((evP F es vs σ).bind l1).bind fun xs => some (.next, setVar n (.loc σ.length) vs, σ ++ [.list xs])
  | .rows4 n, vs, σ => some (.next, setVar n (.lst [.loc σ.length, .loc (σ.length + 1), .loc (σ.length + 2), .loc (σ.length + 3)]) vs, σ ++ [.list [], .list [], .list [], .list []])
  | .iter n e, vs, σ => ((evP F e vs σ).bind l1).bind fun xs => some (.next, setVar n (.loc σ.length) vs, σ ++ [.iter xs 0])
  | .next n m, vs, σ => (lkL m vs).bind fun i => (iterAt σ i).bind fun p => (p.1[p.2]?).bind fun v => some (.next, setVar n v vs, σ.set i (.iter p.1 (p.2 + 1)))
  | .callI n f m, vs, σ => (lkL m vs).bind fun i => (iterAt σ i).bind fun p => if p.1.all atom then (I f p.1 p.2).bind fun q => if atom q.1 then some (.next, setVar n q.1 vs, σ.set i (.iter q.2.1 q.2.2)) else none else none
  | .asg2 n m e, vs, σ => ((evP F e vs σ).bind pairA).bind fun p => some (.next, setVar m p.2 (setVar n p.1 vs), σ)
  | .seti o i v, vs, σ => (lk v vs).bind fun x => (lkL o vs).bind fun l => ((lk i vs).bind i1).bind fun k => (listAt σ l).bind fun xs =>
    if decide (0 ≤ k) && decide (k < xs.length) then some (.next, vs, σ.set l (.list (xs.set k.toNat x))) else none
  | .app o e, vs, σ => (lkL o vs).bind fun l => (evP F e vs σ).bind fun v => (listAt σ l).bind fun xs => if smallL (xs.length + 1) then some (.next, vs, σ.set l (.list (xs ++ [v]))) else none
  | .ext o e, vs, σ => (lkL o vs).bind fun l => ((evP F e vs σ).bind l1).bind fun ys => (listAt σ l).bind fun xs => if smallL (xs.length + ys.length) then some (.next, vs, σ.set l (.list (xs ++ ys))) else none
  | .aug n op e, vs, σ => ((lk n vs).bind i1).bind fun a => ((evP F e vs σ).bind i1).bind fun b => (augA op a b).bind fun v => some (.next, setVar n v vs, σ)
  | .ite c a b, vs, σ => oI (otru (evP F c vs σ)) (exP F I a vs σ) (exP F I b vs σ)
  | .whl c b, vs, σ => whL (fun vs σ => otru (evP F c vs σ)) (exP F I b) 100 vs σ
  | .loop n e b, vs, σ => ((evP F e vs σ).bind frozenA).bind fun xs => forL n (exP F I b) xs vs σ
  | .ret e, vs, σ => (evP F e vs σ).bind fun v => some (.ret v, vs, σ)
  | .brk, vs, σ => some (.brk, vs, σ)
  | .tab n, vs, σ => some (.next, setVar n (.loc σ.length) vs, σ ++ [.tab])

noncomputable def bindA : List Nat → List AV → Option Vars
  | [], as => (match as with
    | [] => some []
    | _ :: _ => none)
  | n :: ns, as => (match as with
    | v :: vs => (bindA ns vs).map ((n, v) :: ·)
    | [] => none)
noncomputable def endF (r : AFl × Vars × Hp) : Option AV := match r.1 with
  | .ret v => frz r.2.2 v
  | .next => some .none
  | .brk => none
noncomputable def runF (F : Fns) (I : Its) (ps : List Nat) (b : PS) : List AV → Option AV := fun as => (bindA ps as).bind fun vs => (exP F I b vs []).bind endF
noncomputable def retF : AFl → Option AV
  | .ret v => some v
  | _ => none
noncomputable def runI (F : Fns) (I : Its) (p : Nat) (b : PS) : List AV → Nat → Option (AV × List AV × Nat) := fun xs k =>
  (exP F I b [(p, .loc 0)] [.iter xs k]).bind fun r => (retF r.1).bind fun v => (iterAt r.2.2 0).bind fun q => if atom v && q.1.all atom then some (v, q.1, q.2) else none
end Mine
end

section
open PySem PySem.Calls PyProof.Rows PySem.W
set_option linter.unusedVariables false
namespace Mine

inductive VRel (W : Addr → Prop) (ρ : List Addr) (h : Heap) : AV → Value → Prop
  | none : VRel W ρ h .none .none
  | bool (b : Bool) : VRel W ρ h (.bool b) (.bool b)
  | int (i : Int) (t : Tok) : VRel W ρ h (.int i) (.int i t)
  | flt (x : UInt64) (t : Tok) : VRel W ρ h (.flt x) (.float x t)
  | lstR {xs : List AV} {vs : List Value} {a : Addr} : ¬ W a → h.PlainList a vs.toArray → vs.length ≤ sizeLine → xs.length = vs.length → (∀ (i : Nat) (x : AV) (v : Value), xs[i]? = some x → vs[i]? = some v → VRel W ρ h x v) → VRel W ρ h (.lst xs) (.ref a)
  | tupR {xs : List AV} {vs : List Value} {a : Addr} : ¬ W a → h.IsTuple a vs.toArray → vs.length ≤ sizeLine → xs.length = vs.length → (∀ (i : Nat) (x : AV) (v : Value), xs[i]? = some x → vs[i]? = some v → VRel W ρ h x v) → VRel W ρ h (.tup xs) (.ref a)
  | rng {lo hi : Int} {a : Addr} {t u v : Tok} : ¬ W a → smallI lo = true → smallI hi = true → hi - lo ≤ 100000 → IsRange h a lo hi 1 t u v → VRel W ρ h (.rng lo hi) (.ref a)
  | loc {i : Nat} {a : Addr} : ρ[i]? = some a → VRel W ρ h (.loc i) (.ref a)
noncomputable def VRels (W : Addr → Prop) (ρ : List Addr) (h : Heap) (as : List AV) (vs : List Value) : Prop :=
  as.length = vs.length ∧ ∀ (i : Nat) (x : AV) (v : Value), as[i]? = some x → vs[i]? = some v → VRel W ρ h x v

section
variable {W : Addr → Prop} {ρ : List Addr} {h : Heap} {v : Value}
theorem VRel.int_inv {i : Int} (r : VRel W ρ h (.int i) v) : ∃ t, v = .int i t := by cases r; exact ⟨_, rfl⟩
theorem VRel.flt_inv {x : UInt64} (r : VRel W ρ h (.flt x) v) : ∃ t, v = .float x t := by cases r; exact ⟨_, rfl⟩
theorem VRel.bool_inv {b : Bool} (r : VRel W ρ h (.bool b) v) : v = .bool b := by cases r; rfl
theorem VRel.lst_inv {xs : List AV} (r : VRel W ρ h (.lst xs) v) : ∃ a vs, v = .ref a ∧ ¬ W a ∧ h.PlainList a (List.toArray vs) ∧ vs.length ≤ sizeLine ∧ VRels W ρ h xs vs := by
  cases r with | lstR a b c d e => exact ⟨_, _, rfl, a, b, c, d, e⟩
theorem VRel.tup_inv {xs : List AV} (r : VRel W ρ h (.tup xs) v) : ∃ a vs, v = .ref a ∧ ¬ W a ∧ h.IsTuple a (List.toArray vs) ∧ vs.length ≤ sizeLine ∧ VRels W ρ h xs vs := by
  cases r with | tupR a b c d e => exact ⟨_, _, rfl, a, b, c, d, e⟩
theorem VRel.rng_inv {lo hi : Int} (r : VRel W ρ h (.rng lo hi) v) : ∃ a t u x, v = .ref a ∧ ¬ W a ∧ smallI lo = true ∧ smallI hi = true ∧ hi - lo ≤ 100000 ∧ IsRange h a lo hi 1 t u x := by
  cases r with | rng a b c d e => exact ⟨_, _, _, _, rfl, a, b, c, d, e⟩
theorem VRel.loc_inv {i : Nat} (r : VRel W ρ h (.loc i) v) : ∃ a, v = .ref a ∧ ρ[i]? = some a := by
  cases r with | loc e => exact ⟨_, rfl, e⟩
theorem VRel.none_inv (r : VRel W ρ h .none v) : v = .none := by cases r; rfl
theorem VRel.lst {xs : List AV} {vs : List Value} {a : Addr} (hw : ¬ W a) (hp : h.PlainList a vs.toArray) (hs : vs.length ≤ sizeLine) (r : VRels W ρ h xs vs) : VRel W ρ h (.lst xs) (.ref a) := .lstR hw hp hs r.1 r.2
theorem VRel.tup {xs : List AV} {vs : List Value} {a : Addr} (hw : ¬ W a) (hp : h.IsTuple a vs.toArray) (hs : vs.length ≤ sizeLine) (r : VRels W ρ h xs vs) : VRel W ρ h (.tup xs) (.ref a) := .tupR hw hp hs r.1 r.2
theorem VRels.nil : VRels W ρ h [] [] := ⟨rfl, fun i x v e => by rw [List.getElem?_nil] at e; cases e⟩
theorem VRels.cons {a : AV} {as : List AV} {vs : List Value} (r : VRel W ρ h a v) (rs : VRels W ρ h as vs) : VRels W ρ h (a :: as) (v :: vs) := by
  refine ⟨congrArg Nat.succ rs.1, fun i x u e1 e2 => ?_⟩
  cases i with
  | zero => cases e1; cases e2; exact r
  | succ i => exact rs.2 i x u e1 e2
theorem VRels.cons_inv {a : AV} {as : List AV} {vs : List Value} (r : VRels W ρ h (a :: as) vs) : ∃ v us, vs = v :: us ∧ VRel W ρ h a v ∧ VRels W ρ h as us := by
  cases vs with
  | nil => cases r.1
  | cons v us => exact ⟨v, us, rfl, r.2 0 a v rfl rfl, Nat.succ.inj r.1, fun i => r.2 (i + 1)⟩
theorem VRels.nil_inv {vs : List Value} (r : VRels W ρ h [] vs) : vs = [] := by
  cases vs with
  | nil => rfl
  | cons => cases r.1
theorem VRel.i1_inv {a : AV} {x : Int} (e : i1 a = some x) (r : VRel W ρ h a v) : a = .int x ∧ ∃ t, v = .int x t := by
  cases a <;> cases e
  exact ⟨rfl, r.int_inv⟩
theorem VRel.g1_inv {a : AV} {x : UInt64} (e : g1 a = some x) (r : VRel W ρ h a v) : a = .flt x ∧ ∃ t, v = .float x t := by
  cases a <;> cases e
  exact ⟨rfl, r.flt_inv⟩
end
inductive Keeps (s : Shared) : Shared → Prop
  | mk (h' : Heap) (t : Nat) : (∀ b o, s.heap.get? b = some o → h'.get? b = some o) → Keeps s { s with heap := h', toks := t }
theorem l1_inv {a : AV} {xs : List AV} (e : l1 a = some xs) : a = .lst xs := by
  cases a <;> cases e
  rfl
theorem bind_inv {α β : Type} {o : Option α} {f : α → Option β} {b : β} (e : o.bind f = some b) : ∃ a, o = some a ∧ f a = some b := by
  cases o with
  | none => cases e
  | some a => exact ⟨a, rfl, e⟩
theorem map_inv {α β : Type} {o : Option α} {f : α → β} {b : β} (e : o.map f = some b) : ∃ a, o = some a ∧ f a = b := by
  cases o with
  | none => cases e
  | some a => exact ⟨a, rfl, Option.some.inj e⟩
theorem if_inv {α : Type} {c : Bool} {x y : α} (e : (if c = true then some x else none) = some y) : c = true ∧ x = y := by
  cases c with
  | false => cases e
  | true => exact ⟨rfl, Option.some.inj e⟩
theorem nif_inv {α : Type} {c : Bool} {x y : α} (e : (if c = true then none else some x) = some y) : c = false ∧ x = y := by
  cases c with
  | true => cases e
  | false => exact ⟨rfl, Option.some.inj e⟩
theorem and_inv {a b : Bool} (e : (a && b) = true) : a = true ∧ b = true := Bool.and_eq_true_iff.mp e
theorem small_inv {i : Int} (e : smallI i = true) : -1000000000000 ≤ i ∧ i ≤ 1000000000000 := ⟨of_decide_eq_true (and_inv e).1, of_decide_eq_true (and_inv e).2⟩

theorem pre_get {ρ ρ' : List Addr} (p : ρ <+: ρ') {i : Nat} {a : Addr} (h : ρ[i]? = some a) : ρ'[i]? = some a := by
  obtain ⟨t, rfl⟩ := p
  have hi : i < ρ.length := (List.getElem?_eq_some_iff.mp h).1
  rw [List.getElem?_append_left hi]; exact h

theorem isTuple_at {h h' : Heap} {a : Addr} {items : Array Value} (x : h.IsTuple a items) (hk : ∀ o, h.get? a = some o → h'.get? a = some o) : h'.IsTuple a items := let ⟨o, e, r⟩ := x; ⟨o, hk _ e, r⟩
/-- what carries related values from one state to another -/
structure Mono (W W' : Addr → Prop) (ρ ρ' : List Addr) (h h' : Heap) : Prop where
  keep : ∀ b o, h.get? b = some o → ¬ W b → h'.get? b = some o
  off : ∀ b o, h.get? b = some o → ¬ W b → ¬ W' b
  pre : ρ <+: ρ'

section
variable {W W' : Addr → Prop} {ρ ρ' : List Addr} {h h' : Heap}
theorem VRel.mono (m : Mono W W' ρ ρ' h h') {a : AV} {v : Value} (r : VRel W ρ h a v) : VRel W' ρ' h' a v := by
  induction r with
  | none => exact .none
  | bool b => exact .bool b
  | int i t => exact .int i t
  | flt x t => exact .flt x t
  | lstR hw hp hs hl _ ih => exact .lstR (by obtain ⟨n, e⟩ := hp; exact m.off _ _ e hw) (hp.at fun o e => m.keep _ _ e hw) hs hl ih
  | tupR hw hp hs hl _ ih => exact .tupR (by obtain ⟨o, e, _⟩ := hp; exact m.off _ _ e hw) (isTuple_at hp fun o e => m.keep _ _ e hw) hs hl ih
  | rng hw h1 h2 h3 e => exact .rng (m.off _ _ e hw) h1 h2 h3 (m.keep _ _ e hw)
  | loc e => exact .loc (pre_get m.pre e)
theorem VRels.mono (m : Mono W W' ρ ρ' h h') {as : List AV} {vs : List Value} (r : VRels W ρ h as vs) : VRels W' ρ' h' as vs := ⟨r.1, fun i x v e1 e2 => (r.2 i x v e1 e2).mono m⟩
theorem Mono.keeps (k : ∀ b o, h.get? b = some o → h'.get? b = some o) : Mono W W ρ ρ h h' := ⟨fun b o e _ => k b o e, fun _ _ _ x => x, List.prefix_refl _⟩
theorem Mono.trans {W'' : Addr → Prop} {ρ'' : List Addr} {h'' : Heap} (m : Mono W W' ρ ρ' h h') (n : Mono W' W'' ρ' ρ'' h' h'') : Mono W W'' ρ ρ'' h h'' :=
  ⟨fun b o e w => n.keep b o (m.keep b o e w) (m.off b o e w), fun b o e w => n.off b o (m.keep b o e w) (m.off b o e w), m.pre.trans n.pre⟩
theorem VRel.up {a : AV} {v : Value} (r : VRel W ρ h a v) (k : ∀ b o, h.get? b = some o → h'.get? b = some o) : VRel W ρ h' a v := r.mono (.keeps k)
theorem VRels.up {as : List AV} {vs : List Value} (r : VRels W ρ h as vs) (k : ∀ b o, h.get? b = some o → h'.get? b = some o) : VRels W ρ h' as vs := r.mono (.keeps k)

namespace VRels
theorem length {as : List AV} {vs : List Value} (r : VRels W ρ h as vs) : as.length = vs.length := r.1
theorem get {as : List AV} {vs : List Value} (r : VRels W ρ h as vs) {i : Nat} {a : AV} (e : as[i]? = some a) : ∃ v, vs[i]? = some v ∧ VRel W ρ h a v := by
  have hi : i < vs.length := r.1 ▸ (List.getElem?_eq_some_iff.mp e).1
  exact ⟨vs[i], List.getElem?_eq_getElem hi, r.2 i a _ e (List.getElem?_eq_getElem hi)⟩
theorem append {as bs : List AV} : ∀ {vs ws : List Value}, VRels W ρ h as vs → VRels W ρ h bs ws → VRels W ρ h (as ++ bs) (vs ++ ws) := by
  induction as with
  | nil => intro vs ws r g; cases r.nil_inv; exact g
  | cons a as ih => intro vs ws r g; obtain ⟨v, us, rfl, r, rs⟩ := r.cons_inv; exact .cons r (ih rs g)
theorem snoc {as : List AV} {vs : List Value} {a : AV} {v : Value} (r : VRels W ρ h as vs) (g : VRel W ρ h a v) : VRels W ρ h (as ++ [a]) (vs ++ [v]) := r.append (.cons g .nil)
theorem set {as : List AV} {a : AV} {v : Value} (g : VRel W ρ h a v) : ∀ {vs : List Value}, VRels W ρ h as vs → ∀ i, VRels W ρ h (as.set i a) (vs.set i v) := by
  induction as with
  | nil => intro vs r i; cases r.nil_inv; exact .nil
  | cons b as ih =>
    intro vs r i
    obtain ⟨u, us, rfl, r, rs⟩ := r.cons_inv
    cases i with
    | zero => exact .cons g rs
    | succ i => exact .cons r (ih rs i)
theorem places {as : List AV} {vs : List Value} (r : VRels W ρ h as vs) : ∀ js : List Nat, VRels W ρ h (js.filterMap (as[·]?)) (js.filterMap (vs[·]?))
  | [] => .nil
  | j :: js => by
    have ih := places r js
    cases hn : as[j]? with
    | some n =>
      obtain ⟨v, hv, q⟩ := r.get hn
      simp only [List.filterMap_cons, hn, hv]
      exact .cons q ih
    | none =>
      have hv : vs[j]? = none := by
        rw [List.getElem?_eq_none_iff] at hn ⊢
        rw [← r.length]; exact hn
      simp only [List.filterMap_cons, hn, hv]
      exact ih
theorem pick {as : List AV} {vs : List Value} (r : VRels W ρ h as vs) (lo hi st : Option Int) : VRels W ρ h (pickA as lo hi st) (slicePick vs.toArray lo hi st).toList := by
  have e : (slicePick vs.toArray lo hi st).toList = (sliceRange (sliceBounds lo hi st as.length).1 (sliceBounds lo hi st as.length).2.1 (sliceBounds lo hi st as.length).2.2).filterMap (vs[·]?) := by
    simp [slicePick, r.length]
  rw [e]
  exact r.places _
theorem numbers {as : List AV} : ∀ {vs : List Value}, VRels W ρ h as vs → ∀ {ns : List Int}, intsOf as = some ns → IntsAre vs ns := by
  induction as with
  | nil => intro vs r ns e; cases r.nil_inv; cases e; exact .nil
  | cons a as ih =>
    intro vs r ns e
    obtain ⟨v, us, rfl, r, rs⟩ := r.cons_inv
    cases a with
    | int i =>
      obtain ⟨ms, e1, rfl⟩ := map_inv e
      obtain ⟨t, rfl⟩ := r.int_inv
      exact .cons i _ (ih rs e1)
    | _ => cases e
theorem of_all {as : List AV} {vs : List Value} {P : AV → Bool} {W' : Addr → Prop} {ρ' : List Addr} {h' : Heap} (f : ∀ a v, P a = true → VRel W ρ h a v → VRel W' ρ' h' a v) (r : VRels W ρ h as vs) (e : as.all P = true) : VRels W' ρ' h' as vs :=
  ⟨r.1, fun i x v e1 e2 => f x v (List.all_eq_true.mp e x (List.mem_of_getElem? e1)) (r.2 i x v e1 e2)⟩
end VRels

theorem VRel.atom {a : AV} {v : Value} (e : atom a = true) (r : VRel W ρ h a v) : VRel W' ρ' h' a v := by
  cases a with
  | none => cases r.none_inv; exact .none
  | bool b => cases r.bool_inv; exact .bool b
  | int i => obtain ⟨t, rfl⟩ := r.int_inv; exact .int i t
  | flt x => obtain ⟨t, rfl⟩ := r.flt_inv; exact .flt x t
  | _ => cases e
end

noncomputable def tabD : List (PyData × PyData) := [(.int 14, .int 1), (.int 15, .int 2), (.int 16, .int 3), (.int 17, .int 4)]

noncomputable def ORel (prog : Program) (w : World) (W : Addr → Prop) (ρ : List Addr) : AObj → Heap → Addr → Prop
  | .list xs, h, a => ∃ vs : List Value, h.PlainList a vs.toArray ∧ vs.length ≤ sizeLine ∧ VRels W ρ h xs vs
  | .iter xs i, h, a => ∃ (l : Addr) (vs : List Value), h.IsListIter a l i ∧ ¬ W l ∧ h.PlainList l vs.toArray ∧ vs.length ≤ sizeLine ∧ VRels W ρ h xs vs
  | .tab, h, a => IntTab prog w h a tabD ∧ ∃ o, h.get? a = some o

section
variable {prog : Program} {w : World} {W W' : Addr → Prop} {ρ ρ' : List Addr} {h h' : Heap}
theorem ORel.stands {o : AObj} {a : Addr} (r : ORel prog w W ρ o h a) : ∃ x, h.get? a = some x := by
  cases o with
  | list xs => obtain ⟨vs, ⟨n, e⟩, _⟩ := r; exact ⟨_, e⟩
  | iter xs i => obtain ⟨al, vs, ⟨o, e, _⟩, _⟩ := r; exact ⟨_, e⟩
  | tab => exact r.2
theorem ORel.mono (m : Mono W W' ρ ρ' h h') {x : AObj} {a : Addr} (r : ORel prog w W ρ x h a) (k : ∀ o, h.get? a = some o → h'.get? a = some o) : ORel prog w W' ρ' x h' a := by
  cases x with
  | list xs => obtain ⟨vs, ⟨n, e⟩, h1, h2⟩ := r; exact ⟨vs, ⟨n, k _ e⟩, h1, h2.mono m⟩
  | iter xs i =>
    obtain ⟨l, vs, ⟨o, e, h1⟩, h2, h3, h4, h5⟩ := r
    obtain ⟨n, e3⟩ := id h3
    exact ⟨l, vs, ⟨o, k _ e, h1⟩, m.off _ _ e3 h2, h3.at fun o e => m.keep _ _ e h2, h4, h5.mono m⟩
  | tab =>
    obtain ⟨⟨lo, kvs, ⟨o, es, ep, e, h1⟩, hf⟩, o', e'⟩ := r
    exact ⟨⟨lo, kvs, ⟨o, es, ep, k _ e, h1⟩, hf⟩, o', k _ e'⟩

structure Rel (prog : Program) (w : World) (h₁ : Heap) (K : Addr → Obj → Prop) (W₀ W : Addr → Prop) (ρ : List Addr) (σ : Hp) (h : Heap) : Prop where
  base : ∀ b o, h₁.get? b = some o → K b o
  keep : ∀ b o, K b o → h.get? b = some o
  sub : ∀ a, W₀ a → W a
  dom : ∀ a, W a → ∃ o, h.get? a = some o
  own : ∀ a ∈ ρ, W a ∧ ¬ W₀ a ∧ ∀ o, ¬ K a o
  nodup : ρ.Nodup
  len : ρ.length = σ.length
  obj : ∀ (i : Nat) (a : Addr) (o : AObj), ρ[i]? = some a → σ[i]? = some o → ORel prog w W ρ o h a

theorem nodup_at : ∀ {l : List Addr}, l.Nodup → ∀ {i j : Nat} (hi : i < l.length) (hj : j < l.length), l[i] = l[j] → i = j := by
  intro l hl i j hi hj e
  rw [List.nodup_iff_pairwise_ne, List.pairwise_iff_getElem] at hl
  rcases Nat.lt_trichotomy i j with h | h | h
  · exact absurd e (hl i j hi hj h)
  · exact h
  · exact absurd e.symm (hl j i hj hi h)
theorem nodup_at? {l : List Addr} (hl : l.Nodup) {i j : Nat} {a : Addr} (ei : l[i]? = some a) (ej : l[j]? = some a) : i = j := by
  obtain ⟨hi, e3⟩ := List.getElem?_eq_some_iff.mp ei
  obtain ⟨hj, e4⟩ := List.getElem?_eq_some_iff.mp ej
  exact nodup_at hl hi hj (e3.trans e4.symm)

namespace Rel
variable {h₁ : Heap} {K : Addr → Obj → Prop} {W₀ : Addr → Prop} {σ : Hp}
theorem addr (H : Rel prog w h₁ K W₀ W ρ σ h) {i : Nat} {o : AObj} (e : σ[i]? = some o) : ∃ a, ρ[i]? = some a ∧ ORel prog w W ρ o h a := by
  have hi : i < σ.length := (List.getElem?_eq_some_iff.mp e).1
  have hi' : i < ρ.length := by rw [H.len]; exact hi
  exact ⟨ρ[i], by simp [hi'], H.obj i _ o (by simp [hi']) e⟩
theorem heap (H : Rel prog w h₁ K W₀ W ρ σ h) : ∀ b o, h₁.get? b = some o → h.get? b = some o := fun b o e => H.keep _ _ (H.base _ _ e)
/-- the heap grew, nothing else -/
theorem grow (H : Rel prog w h₁ K W₀ W ρ σ h) (k : ∀ b o, h.get? b = some o → h'.get? b = some o) : Rel prog w h₁ K W₀ W ρ σ h' :=
  ⟨H.base, fun b o e => k _ _ (H.keep b o e), H.sub, fun a wa => let ⟨o, e⟩ := H.dom a wa; ⟨o, k _ _ e⟩, H.own, H.nodup, H.len, fun i a o e1 e2 => (H.obj i a o e1 e2).mono (.keeps k) fun o e => k _ _ e⟩
/-- one more address that data may not use -/
noncomputable def with' (W : Addr → Prop) (L : Addr) : Addr → Prop := fun a => W a ∨ a = L
theorem mono_with {L : Addr} (hn : h.get? L = none) (k : ∀ b o, h.get? b = some o → h'.get? b = some o) : Mono W (with' W L) ρ ρ h h' :=
  ⟨fun b o e _ => k _ _ e, fun b o e hw q => q.elim hw (fun q => by subst q; rw [hn] at e; exact nomatch e), List.prefix_refl _⟩
theorem enter (H : Rel prog w h₁ K W₀ W ρ σ h) {L : Addr} {o : Obj} (hn : h.get? L = none) (k : ∀ b o, h.get? b = some o → h'.get? b = some o) (hL : h'.get? L = some o) : Rel prog w h₁ K W₀ (with' W L) ρ σ h' :=
  ⟨H.base, fun b o e => k _ _ (H.keep b o e), fun a wa => .inl (H.sub a wa), fun a wa => wa.elim (fun wa => let ⟨o, e⟩ := H.dom a wa; ⟨o, k _ _ e⟩) fun q => ⟨o, q ▸ hL⟩,
    fun a ha => ⟨.inl (H.own a ha).1, (H.own a ha).2⟩, H.nodup, H.len, fun i a o e1 e2 => (H.obj i a o e1 e2).mono (mono_with hn k) fun o e => k _ _ e⟩
/-- a change at an address that is neither kept nor of ours -/
theorem mono_but {L : Addr} (hW : W L) (k : ∀ b o, b ≠ L → h.get? b = some o → h'.get? b = some o) : Mono W W ρ ρ h h' :=
  ⟨fun b o e hw => k _ _ (fun q => hw (q ▸ hW)) e, fun _ _ _ x => x, List.prefix_refl _⟩
theorem but (H : Rel prog w h₁ K W₀ W ρ σ h) {L : Addr} (hW : W L) (hK : ∀ o, ¬ K L o) (hr : L ∉ ρ) (k : ∀ b o, b ≠ L → h.get? b = some o → h'.get? b = some o) (hL : ∃ o, h'.get? L = some o) : Rel prog w h₁ K W₀ W ρ σ h' :=
  ⟨H.base, fun b o e => k _ _ (fun q => hK o (q ▸ e)) (H.keep b o e), H.sub,
    fun a wa => if q : a = L then q ▸ hL else let ⟨o, e⟩ := H.dom a wa; ⟨o, k _ _ q e⟩, H.own, H.nodup, H.len,
    fun i a o e1 e2 => (H.obj i a o e1 e2).mono (mono_but hW k) fun o e => k _ _ (fun q => hr (q ▸ List.mem_of_getElem? e1)) e⟩
/-- a new object of ours -/
theorem mono_alloc {a : Addr} (hn : h.get? a = none) (k : ∀ b o, h.get? b = some o → h'.get? b = some o) : Mono W (with' W a) ρ (ρ ++ [a]) h h' :=
  ⟨fun b o e _ => k _ _ e, fun b o e hw q => q.elim hw (fun q => by subst q; rw [hn] at e; exact nomatch e), ⟨[a], rfl⟩⟩
theorem alloc (H : Rel prog w h₁ K W₀ W ρ σ h) {a : Addr} {x : AObj} (k : ∀ b o, h.get? b = some o → h'.get? b = some o) (hn : h.get? a = none) (r : ORel prog w (with' W a) (ρ ++ [a]) x h' a) :
    Rel prog w h₁ K W₀ (with' W a) (ρ ++ [a]) (σ ++ [x]) h' := by
  have hna : ¬ W a := fun q => by obtain ⟨x, e⟩ := H.dom a q; rw [hn] at e; cases e
  refine ⟨H.base, fun b o e => k _ _ (H.keep b o e), fun a wa => .inl (H.sub a wa), fun b wb => wb.elim (fun wa => let ⟨o, e⟩ := H.dom b wa; ⟨o, k _ _ e⟩) fun q => q ▸ r.stands, fun b hb => ?_, ?_, by simp [H.len], ?_⟩
  · rcases List.mem_append.mp hb with q | q
    · exact ⟨.inl (H.own b q).1, (H.own b q).2⟩
    · rw [List.mem_singleton.mp q]
      exact ⟨.inr rfl, fun q => hna (H.sub _ q), fun o e => by have := H.keep a o e; rw [hn] at this; cases this⟩
  · rw [List.nodup_append]
    refine ⟨H.nodup, by simp, fun x hx y hy => ?_⟩
    rw [List.mem_singleton.mp hy]
    exact fun e => hna (e ▸ (H.own x hx).1)
  · intro i b o e1 e2
    by_cases hi : i < σ.length
    · have hi' : i < ρ.length := by rw [H.len]; exact hi
      rw [List.getElem?_append_left hi'] at e1
      rw [List.getElem?_append_left hi] at e2
      exact (H.obj i b o e1 e2).mono (mono_alloc hn k) fun o e => k _ _ e
    · have hi2 : i = σ.length := by
        have := (List.getElem?_eq_some_iff.mp e2).1
        simp at this; omega
      subst hi2
      have e3 : (ρ ++ [a])[σ.length]? = some a := by rw [← H.len]; simp
      rw [e3] at e1; cases e1
      simp at e2; subst e2
      exact r
/-- an object of ours changed -/
theorem put (H : Rel prog w h₁ K W₀ W ρ σ h) {i : Nat} {a : Addr} {x : AObj} (ea : ρ[i]? = some a) (k : ∀ b o, b ≠ a → h.get? b = some o → h'.get? b = some o) (r : ORel prog w W ρ x h' a) :
    Rel prog w h₁ K W₀ W ρ (σ.set i x) h' := by
  have hw := H.own a (List.mem_of_getElem? ea)
  refine ⟨H.base, fun b o e => k _ _ (fun q => hw.2.2 o (q ▸ e)) (H.keep b o e), H.sub, fun b wb => if q : b = a then q ▸ r.stands else let ⟨o, e⟩ := H.dom b wb; ⟨o, k _ _ q e⟩, H.own, H.nodup, by simp [H.len], ?_⟩
  intro j b o e1 e2
  by_cases hij : i = j
  · subst hij
    rw [ea] at e1; cases e1
    have hi : i < σ.length := by rw [← H.len]; exact (List.getElem?_eq_some_iff.mp ea).1
    rw [List.getElem?_set_self hi] at e2; cases e2
    exact r
  · rw [List.getElem?_set_ne hij] at e2
    refine (H.obj j b o e1 e2).mono (mono_but hw.1 k) fun o e => k _ _ (fun q => hij ?_) e
    subst q
    exact nodup_at? H.nodup ea e1
theorem fresh (H : Rel prog w h₁ K W₀ W ρ σ h) {a : Addr} (hn : h.get? a = none) : ¬ W a := fun q => by obtain ⟨o, e⟩ := H.dom a q; rw [hn] at e; cases e
end Rel

noncomputable def Loads (env : Env) (names : List (Str × NameKind)) (h : Heap) (x : Str) (v : Value) : Prop :=
  (names.lookup x = some .local ∧ ∃ m, h.Ns env.locals m ∧ m x = some v) ∨ ((names.lookup x = some .cell ∨ names.lookup x = some .free) ∧ ∃ c, env.cells.lookup x = some c ∧ h.IsCell c (some v))
theorem Loads.at {env : Env} {names : List (Str × NameKind)} {x : Str} {v : Value} (r : Loads env names h x v) (k : ∀ o, h.get? env.locals = some o → h'.get? env.locals = some o)
    (k' : ∀ c o, env.cells.lookup x = some c → h.get? c = some o → h'.get? c = some o) : Loads env names h' x v := by
  rcases r with ⟨h1, m, h2, h3⟩ | ⟨h1, c, h2, o, h3, h4⟩
  · exact .inl ⟨h1, m, h2.at' k, h3⟩
  · exact .inr ⟨h1, c, h2, o, k' c o h2 h3, h4⟩

structure Frm (tab : List Str) (names : List (Str × NameKind)) (env : Env) (W : Addr → Prop) (ρ : List Addr) (vs : Vars) (h : Heap) : Prop where
  kind : env.scope.kind = .function
  kinds : ∀ x, env.kindOf x = names.lookup x
  glob : env.globals = mainGlobals
  blt : env.builtins = builtinsNs
  vars : ∀ n v, lk n vs = some v → ∃ x v', tab[n]? = some x ∧ Loads env names h x v' ∧ VRel W ρ h v v'
theorem Frm.up {tab : List Str} {names : List (Str × NameKind)} {env : Env} {vs : Vars} (F : Frm tab names env W ρ vs h) (k : ∀ b o, h.get? b = some o → h'.get? b = some o) : Frm tab names env W ρ vs h' :=
  ⟨F.kind, F.kinds, F.glob, F.blt, fun n v e => let ⟨x, v', e1, e2, e3⟩ := F.vars n v e; ⟨x, v', e1, e2.at (fun o e => k _ _ e) (fun c o _ e => k _ _ e), e3.up k⟩⟩

end

theorem keeps_refl (s : Shared) : Keeps s s := ⟨s.heap, s.toks, fun _ _ e => e⟩
theorem keeps_trans {s s' s'' : Shared} (a : Keeps s s') (b : Keeps s' s'') : Keeps s s'' := by
  obtain ⟨h, t, k⟩ := a
  obtain ⟨h', t', k'⟩ := b
  exact ⟨h', t', fun b o e => k' b o (k b o e)⟩
theorem keeps_heap {s s' : Shared} (a : Keeps s s') : ∀ b o, s.heap.get? b = some o → s'.heap.get? b = some o := by
  obtain ⟨h, t, k⟩ := a; exact k

end Mine
end

section
open PySem PySem.Calls PyProof.Rows PySem.W
set_option linter.unusedVariables false
namespace Mine

set_option genSizeOfSpec false in
set_option genInjectivity false in
structure Cx where
  prog : Program
  w : World
  h₁ : Heap
  tab : List Str
  mg : Str → Option Value
  mb : Str → Option Value
  F : Fns
  I : Its
  k : Nat

noncomputable def AOk (k : Nat) (A : Around) : Prop := A.handled = none ∧ A.depth + k < recursionLimit ∧ A.units + 64 + 4 * k + 4 < cLine

noncomputable def EvOK (C : Cx) (names : List (Str × NameKind)) (e : Expr) (p : PE) : Prop :=
  ∀ (A : Around) (env : Env) (K : Addr → Obj → Prop) (W₀ W : Addr → Prop) (ρ : List Addr) (vs : Vars) (σ : Hp) (s : Shared),
    AOk C.k A → Rel C.prog C.w C.h₁ K W₀ W ρ σ s.heap → Frm C.tab names env W ρ vs s.heap → ∀ v, evP C.F p vs σ = some v →
    ∀ (Q : Value → Shared → Prop) (E : Value → Shared → Prop), (∀ v' s', Keeps s s' → VRel W ρ s'.heap v v' → Q v' s') → wpAny (model C.prog C.w) A (eval e env) Q E s

noncomputable def EvsOK (C : Cx) (names : List (Str × NameKind)) (es : List Expr) (p : PE) : Prop :=
  ∀ (A : Around) (env : Env) (K : Addr → Obj → Prop) (W₀ W : Addr → Prop) (ρ : List Addr) (vs : Vars) (σ : Hp) (s : Shared) (pos : Pos),
    AOk C.k A → Rel C.prog C.w C.h₁ K W₀ W ρ σ s.heap → Frm C.tab names env W ρ vs s.heap → ∀ v, evP C.F p vs σ = some v →
    ∀ (Q : List Value → Shared → Prop) (E : Value → Shared → Prop), (∀ xs vals s', v = .lst xs → xs.length ≤ 100000 → Keeps s s' → VRels W ρ s'.heap xs vals → Q vals s') → wpAny (model C.prog C.w) A (spliced (backTo pos (starEach es env))) Q E s

/-- truth of a test -/
noncomputable def TrOK (C : Cx) (names : List (Str × NameKind)) (e : Expr) (p : PE) : Prop :=
  ∀ (A : Around) (env : Env) (K : Addr → Obj → Prop) (W₀ W : Addr → Prop) (ρ : List Addr) (vs : Vars) (σ : Hp) (s : Shared),
    AOk C.k A → Rel C.prog C.w C.h₁ K W₀ W ρ σ s.heap → Frm C.tab names env W ρ vs s.heap → ∀ b, otru (evP C.F p vs σ) = some b →
    ∀ (Q : Bool → Shared → Prop) (E : Value → Shared → Prop), (∀ s', Keeps s s' → Q b s') → wpAny (model C.prog C.w) A (isTrue e env (eval e env)) Q E s

theorem keeps_tok (s : Shared) (t : Nat) : Keeps s { s with toks := t } := ⟨s.heap, t, fun _ _ e => e⟩
theorem keeps_push (s : Shared) (o : Obj) (t : Nat) : Keeps s { s with heap := s.heap.push o, toks := t } := ⟨_, t, fun _ _ e => Heap.get?_push_of_some o e⟩

section
variable {prog : Program} {w : World} {h₁ : Heap} {A : Around} {K : Addr → Obj → Prop} {W₀ W : Addr → Prop} {ρ : List Addr} {σ : Hp} {s : Shared} {E : Value → Shared → Prop}

theorem Rel.items (H : Rel prog w h₁ K W₀ W ρ σ s.heap) {a : AV} {va : Value} {xs : List AV} (e : itemsA σ a = some xs) (r : VRel W ρ s.heap a va) :
    ∃ l vs, va = .ref l ∧ s.heap.PlainList l (List.toArray vs) ∧ vs.length ≤ sizeLine ∧ VRels W ρ s.heap xs vs := by
  cases a with
  | lst ys =>
    cases e
    obtain ⟨l, vs, rfl, hw, hp, hs, r⟩ := r.lst_inv
    exact ⟨_, _, rfl, hp, hs, r⟩
  | loc i =>
    obtain ⟨l, rfl, hl⟩ := r.loc_inv
    have e' : listAt σ i = some xs := e
    unfold listAt at e'
    split at e'
    · rename_i ys q
      cases e'
      obtain ⟨vs, h1, h2, h3⟩ := H.obj _ _ _ hl q
      exact ⟨_, _, rfl, h1, h2, h3⟩
    · cases e'
  | _ => cases e

theorem fresh_size (h : Heap) : h.get? h.objs.size = none := Heap.get?_none_of_le (Nat.le_refl _)

theorem new_list (H : Rel prog w h₁ K W₀ W ρ σ s.heap) {xs : List AV} {vs : List Value} (t : Nat) (n : Nat) (hl : vs.length ≤ sizeLine) (r : VRels W ρ s.heap xs vs) :
    Keeps s { s with heap := s.heap.push { cls := .type "list", data := .seq vs.toArray n }, toks := t } ∧
    VRel W ρ (s.heap.push { cls := .type "list", data := .seq vs.toArray n }) (.lst xs) (.ref s.heap.objs.size) :=
  ⟨keeps_push s _ t, .lst (H.fresh (fresh_size _)) ⟨n, Heap.get?_push_size _ rfl⟩ hl (r.up fun _ _ e => Heap.get?_push_of_some _ e)⟩

theorem sizeLine_big : 100000 ≤ sizeLine := by rw [sizeLine_eq]; omega

section
variable {a b v : AV} {va vb : Value}
noncomputable abbrev BinQ (prog : Program) (w : World) (A : Around) (W : Addr → Prop) (ρ : List Addr) (s : Shared) (E : Value → Shared → Prop) (op : Operator) (va vb : Value) (v : AV) : Prop :=
  ∀ Q : Value → Shared → Prop, (∀ v' s', Keeps s s' → VRel W ρ s'.heap v v' → Q v' s') → wpAny (model prog w) A (binaryOp op va vb) Q E s
theorem ii_inv {f : Int → Int → Option AV} (ra : VRel W ρ s.heap a va) (rb : VRel W ρ s.heap b vb) (e : iiA a b f = some v) : ∃ x y t u, va = .int x t ∧ vb = .int y u ∧ f x y = some v := by
  obtain ⟨x, e1, e⟩ := bind_inv e
  obtain ⟨y, e2, e⟩ := bind_inv e
  obtain ⟨_, t, h1⟩ := ra.i1_inv e1
  obtain ⟨_, u, h2⟩ := rb.i1_inv e2
  exact ⟨x, y, t, u, h1, h2, e⟩
theorem add_ok' (H : Rel prog w h₁ K W₀ W ρ σ s.heap) (ra : VRel W ρ s.heap a va) (rb : VRel W ρ s.heap b vb) (e : addA a b σ = some v) : BinQ prog w A W ρ s E .Add va vb v := by
  intro Q q
  have lst : llA a b σ = some v → wpAny (model prog w) A (binaryOp .Add va vb) Q E s := fun e => by
    obtain ⟨xs, e1, e⟩ := bind_inv e
    obtain ⟨ys, e2, e⟩ := bind_inv e
    obtain ⟨hs, rfl⟩ := if_inv e
    obtain ⟨l, us, rfl, ⟨n, hp⟩, hl, r⟩ := H.items e1 ra
    obtain ⟨l', us', rfl, ⟨n', hp'⟩, hl', r'⟩ := H.items e2 rb
    have hz : us.length + us'.length ≤ sizeLine := Nat.le_trans (by rw [← r.length, ← r'.length]; exact of_decide_eq_true hs) sizeLine_big
    have hz' : (us ++ us').length ≤ sizeLine := by rw [List.length_append]; exact hz
    have z := new_list H s.toks 0 hz' (r.append r')
    have e3 : us.toArray ++ us'.toArray = (us ++ us').toArray := by simp
    refine PySem.P.add_list hp hp' ?_ (by simpa using hz)
    rw [e3]
    exact q _ _ z.1 z.2
  cases a with
  | int x =>
    obtain ⟨y, e1, e⟩ := bind_inv e
    obtain ⟨t, rfl⟩ := ra.int_inv
    obtain ⟨_, u, rfl⟩ := rb.i1_inv e1
    cases e
    exact PyProof.Rows.add_int (q _ _ (keeps_tok _ _) (.int _ _))
  | flt x =>
    obtain ⟨y, e1, e⟩ := bind_inv e
    obtain ⟨t, rfl⟩ := ra.flt_inv
    obtain ⟨_, u, rfl⟩ := rb.g1_inv e1
    cases e
    exact PyProof.Rows.add_float (q _ _ (keeps_tok _ _) (.flt _ _))
  | none => exact lst e
  | bool c => exact lst e
  | lst c => exact lst e
  | tup c => exact lst e
  | rng c d => exact lst e
  | loc c => exact lst e
theorem sub_ok' (ra : VRel W ρ s.heap a va) (rb : VRel W ρ s.heap b vb) (e : subA a b = some v) : BinQ prog w A W ρ s E .Sub va vb v := by
  intro Q q
  cases a with
  | int x =>
    obtain ⟨y, e1, e⟩ := bind_inv e
    obtain ⟨t, rfl⟩ := ra.int_inv
    obtain ⟨_, u, rfl⟩ := rb.i1_inv e1
    cases e
    exact PyProof.Rows.sub_int (q _ _ (keeps_tok _ _) (.int _ _))
  | flt x =>
    obtain ⟨t, rfl⟩ := ra.flt_inv
    cases b with
    | flt y =>
      obtain ⟨u, rfl⟩ := rb.flt_inv
      cases e
      exact PyProof.Rows.sub_float (q _ _ (keeps_tok _ _) (.flt _ _))
    | int y =>
      obtain ⟨u, rfl⟩ := rb.int_inv
      obtain ⟨hs, rfl⟩ := if_inv e
      have hs := small_inv hs
      exact sub_fi_fits (Nat.lt_of_le_of_lt (show _ ≤ 1000000000000 by omega) (by decide +kernel)) (q _ _ (keeps_tok _ _) (.flt _ _))
    | _ => cases e
  | _ => cases e
theorem mul_ok' (ra : VRel W ρ s.heap a va) (rb : VRel W ρ s.heap b vb) (e : mulA a b = some v) : BinQ prog w A W ρ s E .Mult va vb v := by
  intro Q q
  obtain ⟨x, e1, e⟩ := bind_inv e
  obtain ⟨_, t, rfl⟩ := ra.i1_inv e1
  cases b with
  | flt y =>
    obtain ⟨u, rfl⟩ := rb.flt_inv
    obtain ⟨hs, rfl⟩ := if_inv e
    have hs := small_inv hs
    exact mul_if_fits (Nat.lt_of_le_of_lt (show _ ≤ 1000000000000 by omega) (by decide +kernel)) (q _ _ (keeps_tok _ _) (.flt _ _))
  | int y =>
    obtain ⟨u, rfl⟩ := rb.int_inv
    obtain ⟨hs, rfl⟩ := if_inv e
    have hs := small_inv (and_inv hs).1
    exact PyProof.Rows.mul_int (q _ _ (keeps_tok _ _) (.int _ _)) (.of_left (intBits_le (by omega)))
  | _ => cases e
theorem mod_ok' (ra : VRel W ρ s.heap a va) (rb : VRel W ρ s.heap b vb) (e : modA a b = some v) : BinQ prog w A W ρ s E .Mod va vb v := by
  intro Q q
  cases a with
  | int x =>
    obtain ⟨y, e1, e⟩ := bind_inv e
    obtain ⟨t, rfl⟩ := ra.int_inv
    obtain ⟨_, u, rfl⟩ := rb.i1_inv e1
    obtain ⟨hs, rfl⟩ := if_inv e
    exact PyProof.Rows.mod_int (of_decide_eq_true hs) (q _ _ (keeps_tok _ _) (.int _ _))
  | flt x =>
    obtain ⟨y, e1, e⟩ := bind_inv e
    obtain ⟨t, rfl⟩ := ra.flt_inv
    obtain ⟨_, u, rfl⟩ := rb.g1_inv e1
    obtain ⟨hs, rfl⟩ := nif_inv e
    exact AutoFloatOps.mod_1 (by rw [hs]; exact Bool.false_ne_true) (q _ _ (keeps_tok _ _) (.flt _ _))
  | _ => cases e
theorem div_ok' (ra : VRel W ρ s.heap a va) (rb : VRel W ρ s.heap b vb) (e : divA a b = some v) : BinQ prog w A W ρ s E .Div va vb v := by
  intro Q q
  cases a with
  | int x =>
    obtain ⟨y, e1, e⟩ := bind_inv e
    obtain ⟨t, rfl⟩ := ra.int_inv
    obtain ⟨_, u, rfl⟩ := rb.i1_inv e1
    obtain ⟨hs, rfl⟩ := if_inv e
    obtain ⟨h1, h2⟩ := and_inv hs
    have h2 : _ = false := (Bool.not_eq_true' _).mp h2
    exact AutoIntOps.truediv_2 (fun q => (of_decide_eq_true h1) (by simpa using q)) (by rw [h2]; exact Bool.false_ne_true) (q _ _ (keeps_tok _ _) (.flt _ _))
  | flt x =>
    obtain ⟨y, e1, e⟩ := bind_inv e
    obtain ⟨t, rfl⟩ := ra.flt_inv
    obtain ⟨_, u, rfl⟩ := rb.g1_inv e1
    obtain ⟨hs, rfl⟩ := nif_inv e
    exact AutoFloatOps.truediv_1 (by rw [hs]; exact Bool.false_ne_true) (q _ _ (keeps_tok _ _) (.flt _ _))
  | _ => cases e
theorem bin_ok (H : Rel prog w h₁ K W₀ W ρ σ s.heap) {op : Operator} (ra : VRel W ρ s.heap a va) (rb : VRel W ρ s.heap b vb) (e : binA op a b σ = some v) : BinQ prog w A W ρ s E op va vb v := by
  cases op with
  | Add => exact add_ok' H ra rb e
  | Sub => exact sub_ok' ra rb e
  | Mult => exact mul_ok' ra rb e
  | Div => exact div_ok' ra rb e
  | Mod => exact mod_ok' ra rb e
  | FloorDiv =>
    intro Q q
    obtain ⟨x, y, t, u, rfl, rfl, e⟩ := ii_inv ra rb e
    obtain ⟨hs, rfl⟩ := if_inv e
    obtain ⟨h1, h2⟩ := and_inv hs
    exact AutoIntOps.floordiv_1 (fun q => (of_decide_eq_true h1) (by simpa using q)) (by rw [PyProof.noPylong_small (Nat.lt_trans (of_decide_eq_true h2) (by decide))]; exact Bool.false_ne_true) (q _ _ (keeps_tok _ _) (.int _ _))
  | LShift =>
    intro Q q
    obtain ⟨x, y, t, u, rfl, rfl, e⟩ := ii_inv ra rb e
    obtain ⟨hs, rfl⟩ := if_inv e
    obtain ⟨h1, h2⟩ := and_inv hs
    have h0 := of_decide_eq_true (and_inv h1).1
    have h1 := of_decide_eq_true (and_inv h1).2
    have h2 := small_inv h2
    exact PyProof.Rows.lshift_int_small (by omega) (by omega) (by omega) (q _ _ (keeps_tok _ _) (.int _ _))
  | BitAnd =>
    intro Q q
    obtain ⟨x, y, t, u, rfl, rfl, e⟩ := ii_inv ra rb e
    cases e
    exact PyProof.Rows.and_int (q _ _ (keeps_tok _ _) (.int _ _))
  | BitOr =>
    intro Q q
    obtain ⟨x, y, t, u, rfl, rfl, e⟩ := ii_inv ra rb e
    cases e
    exact PyProof.Rows.or_int (q _ _ (keeps_tok _ _) (.int _ _))
  | _ => cases e
end
end
end Mine
end

section
open PySem PySem.Calls PyProof.Rows PySem.W
set_option linter.unusedVariables false
namespace Mine

section
variable {prog : Program} {w : World} {h₁ : Heap} {A : Around} {K : Addr → Obj → Prop} {W₀ W : Addr → Prop} {ρ : List Addr} {σ : Hp} {s : Shared} {E : Value → Shared → Prop}

theorem deepInts : ∀ {xs : List AV} {vs : List Value} {nss : List (List Int)}, VRels W ρ s.heap xs vs → mapO zi xs = some nss → ∃ as, ReadsAll s.heap vs (nss.map fun ns => PyData.list (ns.map PyData.int)) as := by
  intro xs
  induction xs with
  | nil => intro vs nss r e; cases r.nil_inv; cases e; exact ⟨_, .nil⟩
  | cons a xs ih =>
    intro vs nss r e
    obtain ⟨v, us, rfl, r, rs⟩ := r.cons_inv
    cases hb : zi a with
    | none => simp only [mapO, hb] at e; cases e
    | some b =>
      cases hbs : mapO zi xs with
      | none => simp only [mapO, hb, hbs] at e; cases e
      | some bs =>
        simp only [mapO, hb, hbs] at e
        cases e
        obtain ⟨as, h2⟩ := ih rs hbs
        obtain ⟨ys, e1, e2⟩ := bind_inv hb
        cases l1_inv e1
        obtain ⟨l, ws, rfl, _, hp, _, q⟩ := r.lst_inv
        exact ⟨_, .cons (reads_newData hp.isList (ke_carried (q.numbers e2))) h2⟩

theorem canLayDeep : ∀ nss : List (List Int), PyData.canLayAll0 (nss.map fun ns => PyData.list (ns.map PyData.int)) = true
  | [] => rfl
  | _ :: r => by simp [PyData.canLayAll0, PyData.canLay0, ke_canLayAll0, canLayDeep r]
theorem depthDeep : ∀ nss : List (List Int), PyData.depthAll (nss.map fun ns => PyData.list (ns.map PyData.int)) ≤ 1
  | [] => by simp [PyData.depthAll]
  | _ :: r => by have := depthDeep r; simp [PyData.depthAll, PyData.depth, ke_depthAll]; omega
theorem shapedDeep (nss : List (List Int)) : SeqAt.shaped (.list (nss.map fun ns => PyData.list (ns.map PyData.int))) = true := by
  have := depthDeep nss
  simp [SeqAt.shaped, PyData.canLay0, PyData.depth, canLayDeep]; omega
theorem eqvDeep : ∀ nss mss : List (List Int), PyData.eqvAll (nss.map fun ns => PyData.list (ns.map PyData.int)) (mss.map fun ns => PyData.list (ns.map PyData.int)) = decide (nss = mss)
  | [], [] => by simp [PyData.eqvAll]
  | [], _ :: _ => by simp [PyData.eqvAll]
  | _ :: _, [] => by simp [PyData.eqvAll]
  | a :: r, b :: t => by
    simp only [List.map_cons, PyData.eqvAll, PyData.eqv, eqvDeep r t, ked_eqvAll]
    by_cases h : a = b <;> by_cases h' : r = t <;> simp [h, h']

theorem room {k : Nat} (hA : AOk k A) : A.units + 64 < cLine := by have := hA.2.2; omega

theorem eqO_inv {α : Type} [DecidableEq α] {a b : Option α} {d : Option Bool} {c : Bool} (e : eqO a b d = some c) : (∃ x y, a = some x ∧ b = some y ∧ c = decide (x = y)) ∨ d = some c := by
  cases a with
  | none => exact .inr e
  | some x => cases b with
    | none => exact .inr e
    | some y => exact .inl ⟨x, y, rfl, rfl, (Option.some.inj e).symm⟩
theorem eqL_ok (hA : AOk 0 A) {xs ys : List AV} {va vb : Value} {c : Bool} (ra : VRel W ρ s.heap (.lst xs) va) (rb : VRel W ρ s.heap (.lst ys) vb) (e : eqL xs ys = some c) :
    (∀ Q : Value → Shared → Prop, Q (.bool c) s → wpAny (model prog w) A (compareOp .Eq va vb) Q E s) ∧ (∀ Q : Value → Shared → Prop, Q (.bool (!c)) s → wpAny (model prog w) A (compareOp .NotEq va vb) Q E s) := by
  obtain ⟨l, us, rfl, _, hp, _, r⟩ := ra.lst_inv
  obtain ⟨l', us', rfl, _, hp', _, r'⟩ := rb.lst_inv
  rcases eqO_inv e with ⟨ns, ms, e1, e2, rfl⟩ | e
  · exact ⟨fun Q q => ke_eq_ints hp.isList hp'.isList (r.numbers e1) (r'.numbers e2) (room hA) q, fun Q q => ke_ne_ints hp.isList hp'.isList (r.numbers e1) (r'.numbers e2) (room hA) q⟩
  · rcases eqO_inv e with ⟨ns, ms, e1, e2, rfl⟩ | e
    · obtain ⟨as, h1⟩ := deepInts r e1
      obtain ⟨bs, h2⟩ := deepInts r' e2
      obtain ⟨n, hp⟩ := hp
      obtain ⟨n', hp'⟩ := hp'
      have z1 := Reads.list hp rfl rfl h1
      have z2 := Reads.list hp' rfl rfl h2
      have ev : PyData.eqv (.list (ns.map fun ns => PyData.list (ns.map PyData.int))) (.list (ms.map fun ns => PyData.list (ns.map PyData.int))) = decide (ns = ms) := eqvDeep ns ms
      exact ⟨fun Q q => eq_dataH z1 z2 (shapedDeep _) (shapedDeep _) (room hA) (by rw [ev]; exact q), fun Q q => ne_dataH z1 z2 (shapedDeep _) (shapedDeep _) (room hA) (by rw [ev]; exact q)⟩
    · cases e

theorem ic_inv {a b : AV} {va vb : Value} {f : Int → Int → Bool} {c : Bool} (ra : VRel W ρ s.heap a va) (rb : VRel W ρ s.heap b vb) (e : icA a b f = some c) : ∃ x y t u, va = .int x t ∧ vb = .int y u ∧ f x y = c := by
  obtain ⟨x, e1, e⟩ := bind_inv e
  obtain ⟨y, e2, e⟩ := map_inv e
  obtain ⟨_, t, h1⟩ := ra.i1_inv e1
  obtain ⟨_, u, h2⟩ := rb.i1_inv e2
  exact ⟨x, y, t, u, h1, h2, e⟩
theorem eq_ok' (hA : AOk 0 A) {a b : AV} {c : Bool} {va vb : Value} (ra : VRel W ρ s.heap a va) (rb : VRel W ρ s.heap b vb) (e : eqA a b = some c)
    {Q : Value → Shared → Prop} (q : Q (.bool c) s) : wpAny (model prog w) A (compareOp .Eq va vb) Q E s := by
  cases a with
  | int x =>
    obtain ⟨y, e1, rfl⟩ := map_inv e
    obtain ⟨t, rfl⟩ := ra.int_inv
    obtain ⟨_, u, rfl⟩ := rb.i1_inv e1
    exact PyProof.Rows.eq_int q
  | flt x =>
    obtain ⟨y, e1, rfl⟩ := map_inv e
    obtain ⟨t, rfl⟩ := ra.flt_inv
    obtain ⟨_, u, rfl⟩ := rb.g1_inv e1
    exact AutoFloatOps.eq_0 q
  | lst xs =>
    obtain ⟨ys, e1, e⟩ := bind_inv e
    cases l1_inv e1
    exact (eqL_ok hA ra rb e).1 Q q
  | _ => cases e
theorem le_ok' {a b : AV} {c : Bool} {va vb : Value} (ra : VRel W ρ s.heap a va) (rb : VRel W ρ s.heap b vb) (e : leA a b = some c)
    {Q : Value → Shared → Prop} (q : Q (.bool c) s) : wpAny (model prog w) A (compareOp .LtE va vb) Q E s := by
  cases a with
  | int x =>
    obtain ⟨y, e1, rfl⟩ := map_inv e
    obtain ⟨t, rfl⟩ := ra.int_inv
    obtain ⟨_, u, rfl⟩ := rb.i1_inv e1
    exact PyProof.Rows.le_int q
  | flt x =>
    obtain ⟨y, e1, rfl⟩ := map_inv e
    obtain ⟨t, rfl⟩ := ra.flt_inv
    obtain ⟨_, u, rfl⟩ := rb.g1_inv e1
    exact AutoFloatOps.le_0 q
  | _ => cases e
theorem cmp_ok (hA : AOk 0 A) {op : CmpOp} {a b : AV} {c : Bool} {va vb : Value} (ra : VRel W ρ s.heap a va) (rb : VRel W ρ s.heap b vb) (e : cmpA op a b = some c)
    {Q : Value → Shared → Prop} (q : Q (.bool c) s) : wpAny (model prog w) A (compareOp op va vb) Q E s := by
  cases op with
  | Eq => exact eq_ok' hA ra rb e q
  | NotEq =>
    obtain ⟨xs, e1, e3⟩ := bind_inv e
    obtain ⟨ys, e2, e4⟩ := bind_inv e3
    obtain ⟨d, e5, rfl⟩ := map_inv e4
    cases l1_inv e1
    cases l1_inv e2
    exact (eqL_ok hA ra rb e5).2 Q q
  | LtE => exact le_ok' ra rb e q
  | Lt => obtain ⟨x, y, t, u, rfl, rfl, rfl⟩ := ic_inv ra rb e; exact PyProof.Rows.lt_int q
  | Gt => obtain ⟨x, y, t, u, rfl, rfl, rfl⟩ := ic_inv ra rb e; exact PyProof.Rows.gt_int q
  | GtE => obtain ⟨x, y, t, u, rfl, rfl, rfl⟩ := ic_inv ra rb e; exact PyProof.Rows.ge_int q
  | _ => cases e

theorem tru_ok {a : AV} {b : Bool} {va : Value} (ra : VRel W ρ s.heap a va) (e : truA a = some b) {Q : Bool → Shared → Prop} (q : Q b s) : wpAny (model prog w) A (truthy va) Q E s := by
  cases a with
  | bool c => cases ra.bool_inv; cases e; exact wpAny_truthy_bool q
  | int i => obtain ⟨t, rfl⟩ := ra.int_inv; cases e; exact PySem.P.truthy_int q
  | _ => cases e

theorem len_ok (H : Rel prog w h₁ K W₀ W ρ σ s.heap) {a v : AV} {va : Value} (ra : VRel W ρ s.heap a va) (e : lenA σ a = some v)
    {Q : Value → Shared → Prop} (q : ∀ v' s', Keeps s s' → VRel W ρ s'.heap v v' → Q v' s') : wpAny (model prog w) A (call (.builtin "len") [va]) Q E s := by
  simp only [lenA, Option.map_eq_some_iff] at e
  obtain ⟨xs, e, rfl⟩ := e
  obtain ⟨l, us, rfl, hp, hl, r⟩ := H.items e ra
  have hz : us.toArray.size = us.length := List.size_toArray ..
  refine PyProof.Rows.len_list hp.isList (by rw [sizeLine_eq] at hl; rw [hz]; omega) ?_
  rw [hz, ← r.length]
  exact q _ _ (keeps_tok _ _) (.int _ _)

theorem preSum_get (ns : List Int) : ∀ n, n ≤ ns.length → preSum (fun i => ns.getD i 0) n = (ns.take n).sum
  | 0, _ => by simp [preSum]
  | n + 1, h => by
    have hl : n < ns.length := h
    rw [preSum, preSum_get ns n (Nat.le_of_succ_le h), List.take_succ_eq_append_getElem hl, List.sum_append]
    simp [hl]

theorem sum_ok (hA : AOk 0 A) (H : Rel prog w h₁ K W₀ W ρ σ s.heap) {a v : AV} {va : Value} (ra : VRel W ρ s.heap a va) (e : sumA a = some v)
    {Q : Value → Shared → Prop} (q : ∀ v' s', Keeps s s' → VRel W ρ s'.heap v v' → Q v' s') : wpAny (model prog w) A (call (.builtin "sum") [va]) Q E s := by
  obtain ⟨xs, e1, e⟩ := bind_inv e
  obtain ⟨ns, hn, e⟩ := bind_inv e
  cases e
  cases l1_inv e1
  obtain ⟨l, vs, rfl, hw, hp, hs, r⟩ := ra.lst_inv
  have hI := r.numbers hn
  have hsz : ∀ o : Obj, (s.heap.push o).objs.size = s.heap.objs.size + 1 := fun o => Heap.size_push ..
  have hlI : s.heap.objs.size ≠ l := fun q => by obtain ⟨n, e⟩ := hp; rw [← q, fresh_size] at e; cases e
  refine call_sum_walkG (wpAny_pyIter_list hp.isList ?_)
  refine ⟨s.heap.objs.size, [s.heap.objs.size, l], [s.heap.objs.size], _, _, _, fun i => ns.getD i 0, rfl, Walks.list (A := A.in1) hA.1 _ l (Ne.symm hlI) vs.toArray,
    ⟨⟨_, Heap.get?_push_size _ rfl, rfl, rfl⟩, hp.isList.push _⟩, fun b hb => ?_, fun i v hv => ?_, fun h' tk t' hk => ?_⟩
  · show b < (s.heap.push _).objs.size
    rw [hsz]
    rcases List.mem_cons.mp hb with rfl | hb
    · exact Nat.lt_succ_self _
    · rw [List.mem_singleton.mp hb]; obtain ⟨n, e⟩ := hp; exact Nat.lt_succ_of_lt (Heap.lt_size e)
  · have hi : i < vs.length := by
      have := (Array.getElem?_eq_some_iff.mp hv).1
      simpa using this
    have hi' : i < ns.length := by rw [← hI.length]; exact hi
    obtain ⟨t, ht⟩ := hI.get i ns[i] (by simp [hi'])
    refine ⟨t, ?_⟩
    rw [show vs.toArray[i]? = vs[i]? by simp, ht] at hv
    cases hv
    simp [hi']
  · have e2 : vs.toArray.size = ns.length := by rw [List.size_toArray, hI.length]
    rw [e2, preSum_get ns _ (Nat.le_refl _), List.take_length]
    exact q _ _ ⟨h', tk, fun b o e => hk b o (by simp only [List.mem_singleton]; rintro rfl; rw [fresh_size] at e; cases e) (Heap.get?_push_of_some _ e)⟩ (.int _ _)

theorem rng_ok (H : Rel prog w h₁ K W₀ W ρ σ s.heap) {a b v : AV} {va vb : Value} (ra : VRel W ρ s.heap a va) (rb : VRel W ρ s.heap b vb) (e : rngA a b = some v)
    {Q : Value → Shared → Prop} (q : ∀ v' s', Keeps s s' → VRel W ρ s'.heap v v' → Q v' s') :
    wpAny (model prog w) A (call (.type "range") [va, vb]) Q E s ∧ (a = .int 0 → wpAny (model prog w) A (call (.type "range") [vb]) Q E s) := by
  obtain ⟨x, y, t, u, rfl, rfl, e'⟩ := ii_inv ra rb e
  obtain ⟨hs, rfl⟩ := if_inv e'
  obtain ⟨h12, h3⟩ := and_inv hs
  obtain ⟨h1, h2⟩ := and_inv h12
  have h3 := of_decide_eq_true h3
  refine ⟨call_range_2 (q _ _ (keeps_push _ _ _) (.rng (H.fresh (fresh_size _)) h1 h2 h3 (IsRange.new ..))), fun e0 => ?_⟩
  subst e0
  obtain ⟨_, e0⟩ := ra.int_inv
  cases e0
  exact call_range_1 (q _ _ (keeps_push _ _ _) (.rng (H.fresh (fresh_size _)) h1 h2 h3 (IsRange.new ..)))

theorem trunc_ok {a v : AV} {va : Value} (ra : VRel W ρ s.heap a va) (e : truncA a = some v)
    {Q : Value → Shared → Prop} (q : ∀ v' s', Keeps s s' → VRel W ρ s'.heap v v' → Q v' s') : wpAny (model prog w) A (call (.type "int") [va]) Q E s := by
  obtain ⟨x, e1, e⟩ := bind_inv e
  obtain ⟨_, t, rfl⟩ := ra.g1_inv e1
  split at e
  · rename_i hd
    cases e
    exact call_int_float hd (q _ _ (keeps_tok _ _) (.int _ _))
  · cases e

theorem CmpOf.floats_gt {P : Nat → Value → Prop} (val : Nat → UInt64) (hval : ∀ i v, P i v → ∃ t, v = .float (val i) t) :
    CmpOf prog w A .Gt P (fun i j => Float64.cmp (val i) (val j) == some Ordering.gt) := fun i j vi vj s Q E hi hj h => by
  obtain ⟨t, rfl⟩ := hval i vi hi
  obtain ⟨u, rfl⟩ := hval j vj hj
  exact richCompare_gives (op := .Gt) (typeIs_float s _ t) (typeIs_float s _ u) F.slot_float_gt F.entry_float_gt (F.args_float_gt_2 _ _) (AutoFloatG4.float___gt___float_float_0 _ t _ u) (fun x => nomatch x) h
theorem CmpOf.floats_lt {P : Nat → Value → Prop} (val : Nat → UInt64) (hval : ∀ i v, P i v → ∃ t, v = .float (val i) t) :
    CmpOf prog w A .Lt P (fun i j => Float64.cmp (val i) (val j) == some Ordering.lt) := fun i j vi vj s Q E hi hj h => by
  obtain ⟨t, rfl⟩ := hval i vi hi
  obtain ⟨u, rfl⟩ := hval j vj hj
  exact richCompare_gives (op := .Lt) (typeIs_float s _ t) (typeIs_float s _ u) F.slot_float_lt F.entry_float_lt (F.args_float_lt_2 _ _) (AutoFloatG5.float___lt___float_float_0 _ t _ u) (fun x => nomatch x) h

noncomputable def f3 (a b c : UInt64) : Nat → UInt64
  | 0 => a
  | 1 => b
  | _ => c
theorem f3_at {a b c : UInt64} {t u x : Tok} {i : Nat} {v : Value} (h : (#[Value.float a t, .float b u, .float c x])[i]? = some v) : ∃ t, v = .float (f3 a b c i) t := by
  match i, h with
  | 0, h => cases h; exact ⟨_, rfl⟩
  | 1, h => cases h; exact ⟨_, rfl⟩
  | 2, h => cases h; exact ⟨_, rfl⟩
  | n + 3, h => simp at h

theorem mm_ok (hA : AOk 0 A) {a b c : UInt64} {t u x : Tok} (gt : Bool)
    {Q : Value → Shared → Prop} (q : ∀ t s', Keeps s s' → Q (.float (f3 a b c (argBest (fun i j => Float64.cmp (f3 a b c i) (f3 a b c j) == some (if gt then Ordering.gt else Ordering.lt)) 2)) t) s') :
    wpAny (model prog w) A (call (.builtin (if gt then "max" else "min")) [.float a t, .float b u, .float c x]) Q E s := by
  have hT : (s.heap.push { cls := .type "tuple", data := .seq #[.float a t, .float b u, .float c x] }).IsTuple s.heap.objs.size #[.float a t, .float b u, .float c x] := ⟨_, Heap.get?_push_size _ rfl, rfl, 0, by simp⟩
  have hsz : (s.heap.push { cls := .type "tuple", data := .seq #[.float a t, .float b u, .float c x] }).objs.size = s.heap.objs.size + 1 := Heap.size_push ..
  have hne : s.heap.objs.size ≠ (s.heap.push { cls := .type "tuple", data := .seq #[.float a t, .float b u, .float c x] }).objs.size := by rw [hsz]; exact Nat.ne_of_lt (Nat.lt_succ_self _)
  have hfp : ∀ d ∈ [(s.heap.push { cls := .type "tuple", data := .seq #[.float a t, .float b u, .float c x] }).objs.size, s.heap.objs.size], ∀ o, d < ((s.heap.push { cls := .type "tuple", data := .seq #[.float a t, .float b u, .float c x] }).push o).objs.size := fun d hd o => by
    rw [Heap.size_push, hsz]
    rcases List.mem_cons.mp hd with rfl | hd
    · rw [hsz]; exact Nat.lt_succ_self _
    · rcases List.mem_cons.mp hd with rfl | hd
      · exact Nat.lt_succ_of_lt (Nat.lt_succ_self _)
      · cases hd
  have fin : ∀ (v : Value) (h' : Heap) (tk : Nat) (j : Nat) (o : Obj), (#[Value.float a t, .float b u, .float c x])[j]? = some v → j = argBest (fun i j => Float64.cmp (f3 a b c i) (f3 a b c j) == some (if gt then Ordering.gt else Ordering.lt)) 2 →
      (∀ d o', d ∉ [(s.heap.push { cls := .type "tuple", data := .seq #[.float a t, .float b u, .float c x] }).objs.size] → ((s.heap.push { cls := .type "tuple", data := .seq #[.float a t, .float b u, .float c x] }).push o).get? d = some o' → h'.get? d = some o') →
      Q v { s with heap := h', toks := tk } := fun v h' tk j o hP e hk => by
    obtain ⟨t', rfl⟩ := f3_at hP
    subst e
    refine q _ _ ⟨h', tk, fun d o' e => hk d o' (fun hm => ?_) (Heap.get?_push_of_some _ (Heap.get?_push_of_some _ e))⟩
    have := Heap.lt_size e
    rw [List.mem_singleton.mp hm, hsz] at this
    exact Nat.lt_irrefl _ (Nat.lt_of_succ_lt this)
  cases gt with
  | true =>
    refine call_max_three (wpAny_pyIter_tuple hT ?_)
    exact ⟨_, [_, s.heap.objs.size], [_], _, _, _, _, rfl, Walks.tuple (A := A.in1) hA.1 _ s.heap.objs.size hne _, ⟨⟨_, Heap.get?_push_size _ rfl, rfl, rfl⟩, hT.push _⟩, fun d hd => hfp d hd _, by simp, CmpOf.floats_gt (f3 a b c) (fun _ _ => f3_at),
      fun v h' tk hP hk => fin v h' tk _ _ hP rfl hk⟩
  | false =>
    refine call_min_three (wpAny_pyIter_tuple hT ?_)
    exact ⟨_, [_, s.heap.objs.size], [_], _, _, _, _, rfl, Walks.tuple (A := A.in1) hA.1 _ s.heap.objs.size hne _, ⟨⟨_, Heap.get?_push_size _ rfl, rfl, rfl⟩, hT.push _⟩, fun d hd => hfp d hd _, by simp, CmpOf.floats_lt (f3 a b c) (fun _ _ => f3_at),
      fun v h' tk hP hk => fin v h' tk _ _ hP rfl hk⟩

theorem f3_best (a b c : UInt64) (o : Ordering) : f3 a b c (argBest (fun i j => Float64.cmp (f3 a b c i) (f3 a b c j) == some o) 2) =
    if Float64.cmp c (if Float64.cmp b a == some o then b else a) == some o then c else if Float64.cmp b a == some o then b else a := by
  show f3 a b c (if (Float64.cmp c (f3 a b c (if (Float64.cmp b a == some o) = true then 1 else 0)) == some o) = true then 2 else (if (Float64.cmp b a == some o) = true then 1 else 0)) = _
  cases h : (Float64.cmp b a == some o) with
  | true =>
    simp only [if_true]
    show f3 a b c (if (Float64.cmp c b == some o) = true then 2 else 1) = _
    cases h2 : (Float64.cmp c b == some o) <;> rfl
  | false =>
    simp only [Bool.false_eq_true, if_false]
    show f3 a b c (if (Float64.cmp c a == some o) = true then 2 else 0) = _
    cases h2 : (Float64.cmp c a == some o) <;> rfl

theorem max_ok (hA : AOk 0 A) {a b c v : AV} {va vb vc : Value} (ra : VRel W ρ s.heap a va) (rb : VRel W ρ s.heap b vb) (rc : VRel W ρ s.heap c vc) (e : max3A a b c = some v)
    {Q : Value → Shared → Prop} (q : ∀ v' s', Keeps s s' → VRel W ρ s'.heap v v' → Q v' s') : wpAny (model prog w) A (call (.builtin "max") [va, vb, vc]) Q E s := by
  obtain ⟨x, e1, e⟩ := bind_inv e
  obtain ⟨y, e2, e⟩ := bind_inv e
  obtain ⟨z, e3, e⟩ := bind_inv e
  obtain ⟨_, t, rfl⟩ := ra.g1_inv e1
  obtain ⟨_, t, rfl⟩ := rb.g1_inv e2
  obtain ⟨_, t, rfl⟩ := rc.g1_inv e3
  cases e
  refine mm_ok hA true fun t s' k => ?_
  rw [f3_best]
  exact q _ _ k (.flt _ _)
theorem min_ok (hA : AOk 0 A) {a b c v : AV} {va vb vc : Value} (ra : VRel W ρ s.heap a va) (rb : VRel W ρ s.heap b vb) (rc : VRel W ρ s.heap c vc) (e : min3A a b c = some v)
    {Q : Value → Shared → Prop} (q : ∀ v' s', Keeps s s' → VRel W ρ s'.heap v v' → Q v' s') : wpAny (model prog w) A (call (.builtin "min") [va, vb, vc]) Q E s := by
  obtain ⟨x, e1, e⟩ := bind_inv e
  obtain ⟨y, e2, e⟩ := bind_inv e
  obtain ⟨z, e3, e⟩ := bind_inv e
  obtain ⟨_, t, rfl⟩ := ra.g1_inv e1
  obtain ⟨_, t, rfl⟩ := rb.g1_inv e2
  obtain ⟨_, t, rfl⟩ := rc.g1_inv e3
  cases e
  refine mm_ok hA false fun t s' k => ?_
  rw [f3_best]
  exact q _ _ k (.flt _ _)
end
end Mine
end

section
open PySem PySem.Calls PyProof.Rows PySem.W
set_option linter.unusedVariables false
namespace Mine

theorem o1_some {f : AV → Option AV} {a : Option AV} {v : AV} (h : o1 f a = some v) : ∃ x, a = some x ∧ f x = some v := bind_inv h
theorem o2_some {f : AV → AV → Option AV} {a b : Option AV} {v : AV} (h : o2 f a b = some v) : ∃ x y, a = some x ∧ b = some y ∧ f x y = some v :=
  Exists.elim (bind_inv h) fun x hx => Exists.elim (bind_inv hx.2) fun y hy => ⟨x, y, hx.1, hy.1, hy.2⟩
theorem o3_some {f : AV → AV → AV → Option AV} {a b c : Option AV} {v : AV} (h : o3 f a b c = some v) : ∃ x y z, a = some x ∧ b = some y ∧ c = some z ∧ f x y z = some v :=
  Exists.elim (bind_inv h) fun x hx => Exists.elim (bind_inv hx.2) fun y hy => Exists.elim (bind_inv hy.2) fun z hz => ⟨x, y, z, hx.1, hy.1, hz.1, hz.2⟩
theorem o4_some {f : AV → AV → AV → AV → Option AV} {a b c d : Option AV} {v : AV} (h : o4 f a b c d = some v) : ∃ x y z u, a = some x ∧ b = some y ∧ c = some z ∧ d = some u ∧ f x y z u = some v :=
  Exists.elim (bind_inv h) fun x hx => Exists.elim (bind_inv hx.2) fun y hy => Exists.elim (bind_inv hy.2) fun z hz => Exists.elim (bind_inv hz.2) fun u hu => ⟨x, y, z, u, hx.1, hy.1, hz.1, hu.1, hu.2⟩
theorem otru_some {a : Option AV} {b : Bool} (h : otru a = some b) : ∃ x, a = some x ∧ truA x = some b := bind_inv h
theorem oI_some {α : Type} {t : Option Bool} {a b : Option α} {v : α} (h : oI t a b = some v) : (t = some true ∧ a = some v) ∨ (t = some false ∧ b = some v) := by
  obtain ⟨c, e, h⟩ := bind_inv h
  cases c with
  | true => exact .inl ⟨e, h⟩
  | false => exact .inr ⟨e, h⟩

noncomputable def notSet : Expr → Bool
  | .Set .. => false
  | _ => true
noncomputable def notComp : Expr → Bool
  | .ListComp .. => false
  | .SetComp .. => false
  | .DictComp .. => false
  | _ => true
noncomputable def notSlice : Expr → Bool
  | .Slice .. => false
  | _ => true
noncomputable def plainTest : Expr → Bool
  | .UnaryOp .. => false
  | .BoolOp .. => false
  | .IfExp .. => false
  | .Compare .. => false
  | _ => true
theorem fsi_ok {e : Expr} {env : Env} {v : Value} (h : notSet e = true) : foldedSetIterable e env v = pure v := by
  cases e <;> first | rfl | exact absurd h Bool.false_ne_true
theorem bim_ok {op : CmpOp} {e : Expr} (h : notSet e = true) : behindInMarks op e = false := by
  cases e <;> first | rfl | exact absurd h Bool.false_ne_true
theorem swaps_none {e : Expr} {t : Option Expr} {n : Nat} {env : Env} (h : notComp e = true) : swapsWith e t n env = pure false := by
  cases e <;> first | rfl | exact absurd h Bool.false_ne_true
theorem subs_ok {e : Expr} {a b : Value} (h : notSlice e = true) : subscripted e false a b = operate [a, b] (getItem a b) := by
  cases e <;> first | rfl | exact absurd h Bool.false_ne_true
theorem isTrue_ok {e : Expr} {env : Env} {whole : Sem Value} (h : plainTest e = true) : isTrue e env whole = (do let v ← whole; standAt e.pos; holding [v] (truthy v)) := by
  cases e <;> first | rfl | exact absurd h Bool.false_ne_true
noncomputable def notStar : Expr → Bool
  | .Starred .. => false
  | _ => true
theorem star_cons {e : Expr} {es : List Expr} {env : Env} (h : notStar e = true) : starEach (e :: es) env = (false, eval e env) :: starEach es env := by
  cases e <;> first | rfl | exact absurd h Bool.false_ne_true

theorem AOk.zero {k : Nat} {A : Around} (h : AOk k A) : AOk 0 A := ⟨h.1, by have := h.2.1; omega, by have := h.2.2; omega⟩

section
variable {C : Cx} {names : List (Str × NameKind)}

theorem EvOK.cint {i : Int} {k : Nat} {pos : Pos} : EvOK C names (.Constant (.int i) k pos) (.cst (.int i)) := by
  intro A env K W₀ W ρ vs σ s hA H F v e Q E q
  cases e
  exact wpAny_Constant_int (q _ _ (keeps_tok _ _) (.int _ _))
theorem EvOK.cflt {x : UInt64} {k : Nat} {pos : Pos} : EvOK C names (.Constant (.float x) k pos) (.cst (.flt x)) := by
  intro A env K W₀ W ρ vs σ s hA H F v e Q E q
  cases e
  exact PySem.wpAny_Constant_float (q _ _ (keeps_tok _ _) (.flt _ _))
theorem EvOK.cbool {x : Bool} {k : Nat} {pos : Pos} : EvOK C names (.Constant (.bool x) k pos) (.cst (.bool x)) := by
  intro A env K W₀ W ρ vs σ s hA H F v e Q E q
  cases e
  exact PySem.wpAny_Constant_bool (q _ _ (keeps_refl _) (.bool _))

theorem load_ok {prog : Program} {w : World} {A : Around} {env : Env} {h : Heap} {x : Str} {v : Value} {s : Shared} (hk : env.scope.kind = .function) (hn : ∀ x, env.kindOf x = names.lookup x) (l : Loads env names s.heap x v)
    (hc : (x == ("__classdict__" : Str)) = false) {Q : Value → Shared → Prop} {E : Value → Shared → Prop} (q : Q v s) : wpAny (model prog w) A (loadName env x) Q E s := by
  rcases l with ⟨h1, m, h2, h3⟩ | ⟨h1, c, h2, h3⟩
  · exact wpAny_loadName_local hk ((hn x).trans h1) h2 h3 q
  · rcases h1 with h1 | h1
    · exact wpAny_loadName_cell hk ((hn x).trans h1) h2 h3 q
    · exact wpAny_loadName_free hk ((hn x).trans h1) h2 h3 q hc

theorem EvOK.var {n : Nat} {x : Str} {pos : Pos} (ht : C.tab[n]? = some x) (hd : (x == ("__debug__" : Str)) = false := by decide +kernel) (hc : (x == ("__classdict__" : Str)) = false := by decide +kernel) :
    EvOK C names (.Name x pos) (.var n) := by
  intro A env K W₀ W ρ vs σ s hA H F v e Q E q
  obtain ⟨x', v', e1, e2, e3⟩ := F.vars n v e
  rw [ht] at e1; cases e1
  exact wpAny_Name (load_ok (h := s.heap) F.kind F.kinds e2 hc (q _ _ (keeps_refl _) e3)) hd

structure Stat (C : Cx) : Prop where
  g : C.h₁.Ns mainGlobals C.mg
  b : C.h₁.Ns builtinsNs C.mb
  nolimit : C.h₁.NoLimit

theorem glob_ok {A : Around} {env : Env} {K : Addr → Obj → Prop} {W₀ W : Addr → Prop} {ρ : List Addr} {vs : Vars} {σ : Hp} {s : Shared} (hC : Stat C) (H : Rel C.prog C.w C.h₁ K W₀ W ρ σ s.heap) (F : Frm C.tab names env W ρ vs s.heap)
    {x : Str} {pos : Pos} {v : Value} (hk : names.lookup x = some .globalImplicit) (hv : C.mg x = some v ∨ (C.mg x = none ∧ C.mb x = some v)) (hd : (x == ("__debug__" : Str)) = false)
    {Q : Value → Shared → Prop} {E : Value → Shared → Prop} (q : Q v s) : wpAny (model C.prog C.w) A (eval (.Name x pos) env) Q E s := by
  refine Name_function_global F.kind ((F.kinds x).trans hk) ?_ hd
  rcases hv with hv | ⟨hm, hv⟩
  · exact loadGlobal_global (by rw [F.glob]; exact hC.g.keeps H.heap) hv q
  · exact loadGlobal_builtin (by rw [F.glob]; exact hC.g.keeps H.heap) hm (by rw [F.blt]; exact hC.b.keeps H.heap) hv q

theorem EvOK.glob {x : Str} {pos : Pos} {i : Int} (hC : Stat C) (hk : names.lookup x = some .globalImplicit) (hv : ∃ t, C.mg x = some (.int i t)) (hd : (x == ("__debug__" : Str)) = false := by decide +kernel) :
    EvOK C names (.Name x pos) (.cst (.int i)) := by
  intro A env K W₀ W ρ vs σ s hA H F v e Q E q
  cases e
  obtain ⟨t, hv⟩ := hv
  exact glob_ok hC H F hk (.inl hv) hd (q _ _ (keeps_refl _) (.int _ _))

theorem EvOK.bin {op : Operator} {l r : Expr} {pl pr : PE} {pos : Pos} (hl : EvOK C names l pl) (hr : EvOK C names r pr) : EvOK C names (.BinOp l op r pos) (.bin op pl pr) := by
  intro A env K W₀ W ρ vs σ s hA H F v e Q E q
  obtain ⟨a, b, e1, e2, e3⟩ := o2_some e
  exact wpAny_BinOp (hl A env K W₀ W ρ vs σ s hA H F a e1 _ _ fun va s₁ k₁ r₁ =>
    hr A env K W₀ W ρ vs σ s₁ hA (H.grow (keeps_heap k₁)) (F.up (keeps_heap k₁)) b e2 _ _ fun vb s₂ k₂ r₂ =>
      bin_ok ((H.grow (keeps_heap k₁)).grow (keeps_heap k₂)) (r₁.up (keeps_heap k₂)) r₂ e3 _ fun v' s' k r => q v' s' (keeps_trans (keeps_trans k₁ k₂) k) r)

theorem EvOK.neg {x : Expr} {p : PE} {pos : Pos} (h : EvOK C names x p) : EvOK C names (.UnaryOp .USub x pos) (.neg p) := by
  intro A env K W₀ W ρ vs σ s hA H F v e Q E q
  obtain ⟨a, e1, e3⟩ := o1_some e
  refine PySem.wpAny_UnaryOp (h A env K W₀ W ρ vs σ s hA H F a e1 _ _ fun va s₁ k₁ r₁ => ?_)
  obtain ⟨i, e4, e5⟩ := bind_inv e3
  obtain ⟨_, t, rfl⟩ := r₁.i1_inv e4
  cases e5
  exact PySem.P.neg_int (q _ _ (keeps_trans k₁ (keeps_tok _ _)) (.int _ _))

theorem EvOK.cmp {op : CmpOp} {l r : Expr} {pl pr : PE} {pos : Pos} (hl : EvOK C names l pl) (hr : EvOK C names r pr) (hm : behindInMarks op r = false := by exact bim_ok rfl) : EvOK C names (.Compare l [op] [r] pos) (.cmp op pl pr) := by
  intro A env K W₀ W ρ vs σ s hA H F v e Q E q
  obtain ⟨a, b, e1, e2, e3⟩ := o2_some e
  obtain ⟨c, e4, rfl⟩ := map_inv e3
  exact wpAny_Compare1 (hl A env K W₀ W ρ vs σ s hA H F a e1 _ _ fun va s₁ k₁ r₁ =>
    hr A env K W₀ W ρ vs σ s₁ hA (H.grow (keeps_heap k₁)) (F.up (keeps_heap k₁)) b e2 _ _ fun vb s₂ k₂ r₂ =>
      cmp_ok hA.zero (r₁.up (keeps_heap k₂)) r₂ e4 (q _ _ (keeps_trans k₁ k₂) (.bool _))) hm
theorem TrOK.cmp {op : CmpOp} {l r : Expr} {pl pr : PE} {pos : Pos} (hl : EvOK C names l pl) (hr : EvOK C names r pr) (hm : behindInMarks op r = false := by exact bim_ok rfl) : TrOK C names (.Compare l [op] [r] pos) (.cmp op pl pr) := by
  intro A env K W₀ W ρ vs σ s hA H F c e Q E q
  obtain ⟨x, e, et⟩ := otru_some e
  obtain ⟨a, b, e1, e2, e3⟩ := o2_some e
  obtain ⟨c', e4, rfl⟩ := map_inv e3
  cases et
  exact wpAny_isTrue_Compare1 (hl A env K W₀ W ρ vs σ s hA H F a e1 _ _ fun va s₁ k₁ r₁ =>
    hr A env K W₀ W ρ vs σ s₁ hA (H.grow (keeps_heap k₁)) (F.up (keeps_heap k₁)) b e2 _ _ fun vb s₂ k₂ r₂ =>
      cmp_ok hA.zero (r₁.up (keeps_heap k₂)) r₂ e4 (wpAny_truthy_bool (q _ (keeps_trans k₁ k₂)))) hm
theorem TrOK.not {x : Expr} {p : PE} {pos : Pos} (h : TrOK C names x p) : TrOK C names (.UnaryOp .Not x pos) (.not p) := by
  intro A env K W₀ W ρ vs σ s hA H F c e Q E q
  obtain ⟨y, e, et⟩ := otru_some e
  obtain ⟨a, e1, e3⟩ := o1_some e
  obtain ⟨b, e4, rfl⟩ := map_inv e3
  cases et
  exact wpAny_isTrue_Not (h A env K W₀ W ρ vs σ s hA H F b (by rw [e1]; exact e4) _ _ fun s' k => q s' k)
theorem TrOK.val {x : Expr} {p : PE} (h : EvOK C names x p) (he : ∀ env whole, isTrue x env whole = (do let v ← whole; standAt x.pos; holding [v] (truthy v)) := by intro _ _; exact isTrue_ok rfl) : TrOK C names x p := by
  intro A env K W₀ W ρ vs σ s hA H F c e Q E q
  obtain ⟨y, e, et⟩ := otru_some e
  exact wpAny_isTrue_value (h A env K W₀ W ρ vs σ s hA H F y e _ _ fun va s₁ k₁ r₁ => tru_ok r₁ et (q _ k₁)) (he env _)

theorem EvOK.ife {t a b : Expr} {pt pa pb : PE} {pos : Pos} (ht : TrOK C names t pt) (ha : EvOK C names a pa) (hb : EvOK C names b pb) : EvOK C names (.IfExp t a b pos) (.ife pt pa pb) := by
  intro A env K W₀ W ρ vs σ s hA H F v e Q E q
  rcases oI_some e with ⟨e1, e2⟩ | ⟨e1, e2⟩
  · exact PySem.wpAny_IfExp (ht A env K W₀ W ρ vs σ s hA H F true e1 _ _ fun s₁ k₁ =>
      ha A env K W₀ W ρ vs σ s₁ hA (H.grow (keeps_heap k₁)) (F.up (keeps_heap k₁)) v e2 _ _ fun v' s' k r => q v' s' (keeps_trans k₁ k) r)
  · exact PySem.wpAny_IfExp (ht A env K W₀ W ρ vs σ s hA H F false e1 _ _ fun s₁ k₁ =>
      hb A env K W₀ W ρ vs σ s₁ hA (H.grow (keeps_heap k₁)) (F.up (keeps_heap k₁)) v e2 _ _ fun v' s' k r => q v' s' (keeps_trans k₁ k) r)

theorem EvsOK.nil : EvsOK C names [] .nil := by
  intro A env K W₀ W ρ vs σ s pos hA H F v e Q E q
  cases e
  exact wpAny_items_nil (q _ _ _ rfl (Nat.zero_le _) (keeps_refl _) .nil)
theorem EvsOK.cons {e : Expr} {es : List Expr} {p ps : PE} (h : EvOK C names e p) (hs : EvsOK C names es ps) (he : ∀ env, starEach (e :: es) env = (false, eval e env) :: starEach es env := by intro _; exact star_cons rfl) :
    EvsOK C names (e :: es) (.cons p ps) := by
  intro A env K W₀ W ρ vs σ s pos hA H F v e Q E q
  obtain ⟨a, b, e1, e2, e3⟩ := o2_some e
  obtain ⟨xs, e4, e5⟩ := bind_inv e3
  obtain ⟨hz, rfl⟩ := if_inv e5
  cases l1_inv e4
  exact wpAny_items_cons (h A env K W₀ W ρ vs σ s hA H F a e1 _ _ fun va s₁ k₁ r₁ =>
    hs A env K W₀ W ρ vs σ s₁ pos hA (H.grow (keeps_heap k₁)) (F.up (keeps_heap k₁)) _ e2 _ _ fun xs' vals s₂ ex hl k₂ r₂ => by
      cases ex
      exact q _ _ _ rfl (of_decide_eq_true hz) (keeps_trans k₁ k₂) (.cons (r₁.up (keeps_heap k₂)) r₂)) (he env)

theorem EvOK.list {es : List Expr} {p : PE} {pos : Pos} (h : EvsOK C names es p) : EvOK C names (.List es pos) p := by
  intro A env K W₀ W ρ vs σ s hA H F v e Q E q
  refine PySem.wpAny_List (h A env K W₀ W ρ vs σ s pos hA H F v e _ _ fun xs vals s₁ ex hl k₁ r₁ => ?_)
  subst ex
  have hz : vals.length ≤ sizeLine := Nat.le_trans (by rw [← r₁.length]; exact hl) sizeLine_big
  have z := new_list (H.grow (keeps_heap k₁)) s₁.toks 0 hz r₁
  exact ⟨hz, q _ _ (keeps_trans k₁ z.1) z.2⟩
theorem EvOK.tup {es : List Expr} {p : PE} {n : Nat} {pos : Pos} (h : EvsOK C names es p) : EvOK C names (.Tuple es n pos) (.tup p) := by
  intro A env K W₀ W ρ vs σ s hA H F v e Q E q
  obtain ⟨a, e1, e3⟩ := o1_some e
  refine PySem.wpAny_Tuple (h A env K W₀ W ρ vs σ s pos hA H F a e1 _ _ fun xs vals s₁ ex hl k₁ r₁ => ?_)
  subst ex
  cases e3
  have hz : vals.length ≤ sizeLine := Nat.le_trans (by rw [← r₁.length]; exact hl) sizeLine_big
  exact ⟨hz, q _ _ (keeps_trans k₁ (keeps_push _ _ _)) (.tup ((H.grow (keeps_heap k₁)).fresh (fresh_size _)) ⟨_, Heap.get?_push_size _ rfl, rfl, 0, rfl⟩ hz (r₁.up fun _ _ e => Heap.get?_push_of_some _ e))⟩

theorem EvOK.item {o i : Expr} {po pi : PE} {pos : Pos} (ho : EvOK C names o po) (hi : EvOK C names i pi) (hs : ∀ a b, subscripted i false a b = operate [a, b] (getItem a b) := by intro _ _; exact subs_ok rfl) :
    EvOK C names (.Subscript o i pos) (.item po pi) := by
  intro A env K W₀ W ρ vs σ s hA H F v e Q E q
  obtain ⟨a, b, e1, e2, e3⟩ := o2_some e
  refine Subscript_ (ho A env K W₀ W ρ vs σ s hA H F a e1 _ _ fun va s₁ k₁ r₁ =>
    hi A env K W₀ W ρ vs σ s₁ hA (H.grow (keeps_heap k₁)) (F.up (keeps_heap k₁)) b e2 _ _ fun vb s₂ k₂ r₂ => ?_)
  have H₂ := (H.grow (keeps_heap k₁)).grow (keeps_heap k₂)
  have r₁' := r₁.up (keeps_heap k₂)
  have fin : ∀ v', VRel W ρ s₂.heap v v' → Q v' s₂ := fun v' r => q v' s₂ (keeps_trans k₁ k₂) r
  obtain ⟨k, e4, e5⟩ := bind_inv e3
  obtain ⟨_, t, rfl⟩ := r₂.i1_inv e4
  have h0 : 0 ≤ k := by
    by_cases h : 0 ≤ k
    · exact h
    · rw [if_neg h] at e5; cases e5
  rw [if_pos h0] at e5
  obtain ⟨xs, e6, e7⟩ := bind_inv e5
  have lst : itemsA σ a = some xs → wpAny (model C.prog C.w) A (subscriptTail o i va (.int k t)) Q E s₂ := fun hl => by
    obtain ⟨l, us, rfl, hp, hz, r⟩ := H₂.items hl r₁'
    obtain ⟨x, hx, rx⟩ := r.get e7
    have hlt := (List.getElem?_eq_some_iff.mp hx).1
    rw [sizeLine_eq] at hz
    exact tail_any hp.isList.typeIs slot_list_getitem.lookup (wpAny_getItem_list hp.isList h0 (by omega) (by simpa using hx) (fin _ rx)) (hs _ _)
  cases a with
  | tup ys =>
    cases e6
    obtain ⟨l, us, rfl, hw, hp, hz, r⟩ := r₁'.tup_inv
    obtain ⟨x, hx, rx⟩ := r.get e7
    have hlt := (List.getElem?_eq_some_iff.mp hx).1
    have hlt' := hz
    rw [sizeLine_eq] at hlt'
    have ht : IsTup s₂.heap _ _ := hp
    exact tail_any ht.typeIs slot_tuple_getitem.lookup (getItem_tuple ht (by omega) (by omega) (seqIndex_of h0 (by simp; omega)) (by simpa using hx) (fin _ rx)) (hs _ _)
  | lst ys => exact lst e6
  | loc l => exact lst e6
  | _ => cases e6

/-- a part of a slice -/
noncomputable def PartOK (C : Cx) (names : List (Str × NameKind)) (e : Option Expr) (p : PE) : Prop :=
  ∀ (A : Around) (env : Env) (K : Addr → Obj → Prop) (W₀ W : Addr → Prop) (ρ : List Addr) (vs : Vars) (σ : Hp) (s : Shared),
    AOk C.k A → Rel C.prog C.w C.h₁ K W₀ W ρ σ s.heap → Frm C.tab names env W ρ vs s.heap → ∀ v, evP C.F p vs σ = some v →
    ∀ (Q : Value → Shared → Prop) (E : Value → Shared → Prop), (∀ v' s', Keeps s s' → VRel W ρ s'.heap v v' → Q v' s') → wpAny (model C.prog C.w) A (evalPart e env) Q E s
theorem PartOK.none : PartOK C names .none (.cst .none) := by
  intro A env K W₀ W ρ vs σ s hA H F v e Q E q
  cases e
  rw [evalPart_none]
  exact wpAny_pure (q _ _ (keeps_refl _) .none)
theorem PartOK.some {e : Expr} {p : PE} (h : EvOK C names e p) : PartOK C names (.some e) p := by
  intro A env K W₀ W ρ vs σ s hA H F v ev Q E q
  rw [evalPart_some]
  exact h A env K W₀ W ρ vs σ s hA H F v ev Q E q

theorem part_is {W : Addr → Prop} {ρ : List Addr} {h : Heap} {v : AV} {x : Value} {k : Option Int} (r : VRel W ρ h v x) (e : partA v = some k) : IsPart x k := by
  cases v with
  | none => cases e; cases r; exact .none
  | int i => cases e; obtain ⟨t, rfl⟩ := r.int_inv; exact .int _ _
  | _ => cases e

theorem EvOK.slice {o : Expr} {lo hi st : Option Expr} {po pl ph pt : PE} {p pos : Pos} (ho : EvOK C names o po) (hl : PartOK C names lo pl) (hh : PartOK C names hi ph) (ht : PartOK C names st pt)
    (hs : ∀ a b, ∃ ops, subscripted (.Slice lo hi st p) false a b = operate ops (getItem a b) := by intro _ _; exact ⟨_, rfl⟩) :
    EvOK C names (.Subscript o (.Slice lo hi st p) pos) (.slice po pl ph pt) := by
  intro A env K W₀ W ρ vs σ s hA H F v e Q E q
  obtain ⟨a, x, y, z, e0, e1, e2, e3, e4⟩ := o4_some e
  refine Subscript_ (ho A env K W₀ W ρ vs σ s hA H F a e0 _ _ fun va s₁ k₁ r₁ => wpAny_Slice ?_)
  have H₁ := H.grow (keeps_heap k₁)
  have F₁ := F.up (keeps_heap k₁)
  refine hl A env K W₀ W ρ vs σ s₁ hA H₁ F₁ x e1 _ _ fun vx s₂ k₂ r₂ => ?_
  have H₂ := H₁.grow (keeps_heap k₂)
  have F₂ := F₁.up (keeps_heap k₂)
  refine hh A env K W₀ W ρ vs σ s₂ hA H₂ F₂ y e2 _ _ fun vy s₃ k₃ r₃ => ?_
  have H₃ := H₂.grow (keeps_heap k₃)
  have F₃ := F₂.up (keeps_heap k₃)
  refine ht A env K W₀ W ρ vs σ s₃ hA H₃ F₃ z e3 _ _ fun vz s₄ k₄ r₄ => ?_
  have H₄ := H₃.grow (keeps_heap k₄)
  have r₁' := ((r₁.up (keeps_heap k₂)).up (keeps_heap k₃)).up (keeps_heap k₄)
  have kk := keeps_trans (keeps_trans (keeps_trans k₁ k₂) k₃) k₄
  have q' : ∀ v' s', Keeps s₄ s' → VRel W ρ s'.heap v v' → Q v' s' := fun v' s' k r => q v' s' (keeps_trans kk k) r
  clear q k₁ k₂ k₃ k₄ kk r₁ H₁ H₂ H₃ F₁ F₂ F₃
  obtain ⟨xs, i1, e5⟩ := bind_inv e4
  obtain ⟨l, i2, e6⟩ := bind_inv e5
  obtain ⟨h, i3, e7⟩ := bind_inv e6
  obtain ⟨k, i4, e8⟩ := bind_inv e7
  have hne : ¬ k = some 0 := fun h => by rw [if_pos h] at e8; cases e8
  rw [if_neg hne] at e8
  cases e8
  obtain ⟨la, us, rfl, hp, hz, r⟩ := H₄.items i1 r₁'
  obtain ⟨ops, hops⟩ := hs (.ref la) (.ref s₄.heap.objs.size)
  have hpk := slicePick_size_le us.toArray l h k
  have e5 : (slicePick us.toArray l h k).toList.toArray = slicePick us.toArray l h k := by simp
  generalize hs5 : ({ s₄ with heap := s₄.heap.push { cls := .type "slice", data := .fields #[vx, vy, vz] } } : Shared) = s₅
  have k5 : ∀ b o, s₄.heap.get? b = some o → s₅.heap.get? b = some o := fun _ _ e => hs5 ▸ Heap.get?_push_of_some _ e
  have z := new_list (H₄.grow k5) s₄.toks 0 (vs := (slicePick us.toArray l h k).toList) (xs := pickA xs l h k) (by simp at hpk ⊢; omega) ((r.pick l h k).up k5)
  rw [e5] at z
  have K5 : Keeps s₄ s₅ := hs5 ▸ keeps_push _ _ _
  have fin := q' _ _ (keeps_trans K5 z.1) z.2
  clear z q' K5
  subst hs5
  exact tail_any (Heap.IsList.typeIs (s := { s₄ with heap := s₄.heap.push { cls := .type "slice", data := .fields #[vx, vy, vz] } }) (hp.isList.push _)) list_getitem_lookup
    (wpAny_getItem_list_slice (hp.isList.push _) (Heap.IsSliceOf.new ..) (part_is r₂ i2) (part_is r₃ i3) (part_is r₄ i4) hne fin (by simpa using hz)) hops
end
end Mine
end

section
open PySem PySem.Calls PyProof.Rows PySem.W
set_option linter.unusedVariables false
namespace Mine

/-- the contract of a top def -/
noncomputable def CallOK (C : Cx) (k : Nat) (a : Addr) (f : List AV → Option AV) : Prop :=
  ∀ (A : Around) (W : Addr → Prop) (s : Shared), AOk k A → (∀ b o, C.h₁.get? b = some o → s.heap.get? b = some o) → (∀ a, W a → ∃ o, s.heap.get? a = some o) →
    ∀ as vals, VRels W [] s.heap as vals → ∀ v, f as = some v → ∀ (Q : Value → Shared → Prop) (E : Value → Shared → Prop), (∀ v' s', Keeps s s' → VRel W [] s'.heap v v' → Q v' s') →
      wpAny (model C.prog C.w) A (call (.ref a) vals) Q E s
/-- the contract of a def that reads an iterator -/
noncomputable def IterOK (C : Cx) (k : Nat) (a : Addr) (f : List AV → Nat → Option (AV × List AV × Nat)) : Prop :=
  ∀ (A : Around) (W : Addr → Prop) (it : Addr) (s : Shared), AOk k A → (∀ b o, C.h₁.get? b = some o → s.heap.get? b = some o) → (∀ a, W a → ∃ o, s.heap.get? a = some o) → C.h₁.get? it = none → W it →
    ∀ (l : Addr) (us : List Value) (xs : List AV) (i : Nat), s.heap.IsListIter it l i → ¬ W l → s.heap.PlainList l us.toArray → us.length ≤ sizeLine → VRels W [] s.heap xs us → ∀ v xs' j, f xs i = some (v, xs', j) →
      ∀ (Q : Value → Shared → Prop) (E : Value → Shared → Prop), (∀ v' h' tk, (∀ b o, b ≠ it → s.heap.get? b = some o → h'.get? b = some o) →
        (∃ (l' : Addr) (us' : List Value), h'.IsListIter it l' j ∧ ¬ W l' ∧ h'.PlainList l' us'.toArray ∧ us'.length ≤ sizeLine ∧ ∀ ρ, VRels W ρ h' xs' us') → VRel W [] h' v v' → Q v' { s with heap := h', toks := tk }) →
      wpAny (model C.prog C.w) A (call (.ref a) [.ref it]) Q E s

section
variable {C : Cx} {names : List (Str × NameKind)}

/-- a call by a name of the top or of the built-in ones -/
theorem callN_ok {A : Around} {env : Env} {K : Addr → Obj → Prop} {W₀ W : Addr → Prop} {ρ : List Addr} {vs : Vars} {σ : Hp} {s : Shared} (hC : Stat C) (hA : AOk C.k A) (H : Rel C.prog C.w C.h₁ K W₀ W ρ σ s.heap) (F : Frm C.tab names env W ρ vs s.heap)
    {f : Str} {fp pos : Pos} {e : Expr} {es : List Expr} {p : PE} {fv : Value} (hk : names.lookup f = some .globalImplicit) (hv : C.mg f = some fv ∨ (C.mg f = none ∧ C.mb f = some fv)) (hd : (f == ("__debug__" : Str)) = false)
    (hfv : (∃ id, fv = .builtin id) ∨ (∃ id, fv = .type id) ∨ (∃ a o fd, fv = .ref a ∧ C.h₁.get? a = some o ∧ o.data = .func fd))
    (h : EvsOK C names (e :: es) p) (he : ∀ env, starEach (e :: es) env = (false, eval e env) :: starEach es env) (hp : ∀ env, (backTo pos (starEach es env)).any (·.1) = false)
    {xs : List AV} (ev : evP C.F p vs σ = some (.lst xs)) {Q : Value → Shared → Prop} {E : Value → Shared → Prop}
    (q : ∀ vals s', Keeps s s' → VRels W ρ s'.heap xs vals → wpAny (model C.prog C.w) A (call fv vals) Q E s') :
    wpAny (model C.prog C.w) A (eval (.Call (.Name f fp) (e :: es) [] pos) env) Q E s := by
  refine Call_Name rfl (glob_ok hC H F hk hv hd ?_)
  have z : ∀ Q' : Args → Shared → Prop, (∀ vals s', Keeps s s' → VRels W ρ s'.heap xs vals → Q' ⟨vals, []⟩ s') → wpAny (model C.prog C.w) A (evalArgs fv true (backTo pos (starEach (e :: es) env)) []) Q' E s := fun Q' q' => by
    have h0 := h A env K W₀ W ρ vs σ s pos hA H F _ ev (fun vals s' => Q' ⟨vals, []⟩ s') E (fun xs' vals s' ex _ k r => by cases ex; exact q' _ _ k r)
    rw [he env] at h0 ⊢
    exact evalArgs_plain h0
  have hpl : (backTo pos (starEach (e :: es) env)).any (·.1) = false := by
    rw [he env]; show (false || (backTo pos (starEach es env)).any (·.1)) = false; rw [hp env]; rfl
  rcases hfv with ⟨id, rfl⟩ | ⟨id, rfl⟩ | ⟨a, o, fd, rfl, ho, hd⟩
  · exact callWith_builtin hpl (z _ fun vals s' k r => q vals s' k r)
  · exact PyProof.Rows.callWith_type hpl (z _ fun vals s' k r => q vals s' k r)
  · exact callWith_function (o := o) (fd := fd) (z _ fun vals s' k r => ⟨⟨keeps_heap k _ _ (H.heap _ _ ho), hd⟩, q vals s' k r⟩)

theorem rels1 {W : Addr → Prop} {ρ : List Addr} {h : Heap} {x : AV} {vals : List Value} (r : VRels W ρ h [x] vals) : ∃ v, vals = [v] ∧ VRel W ρ h x v := by
  obtain ⟨v, us, rfl, a, b⟩ := r.cons_inv; cases b.nil_inv; exact ⟨_, rfl, a⟩
theorem rels2 {W : Addr → Prop} {ρ : List Addr} {h : Heap} {x y : AV} {vals : List Value} (r : VRels W ρ h [x, y] vals) : ∃ v u, vals = [v, u] ∧ VRel W ρ h x v ∧ VRel W ρ h y u := by
  obtain ⟨v, us, rfl, a, b⟩ := r.cons_inv; obtain ⟨u, rfl, c⟩ := rels1 b; exact ⟨_, _, rfl, a, c⟩
theorem rels3 {W : Addr → Prop} {ρ : List Addr} {h : Heap} {x y z : AV} {vals : List Value} (r : VRels W ρ h [x, y, z] vals) : ∃ v u w, vals = [v, u, w] ∧ VRel W ρ h x v ∧ VRel W ρ h y u ∧ VRel W ρ h z w := by
  obtain ⟨v, us, rfl, a, b⟩ := r.cons_inv; obtain ⟨u, w, rfl, c, d⟩ := rels2 b; exact ⟨_, _, _, rfl, a, c, d⟩

theorem ev1 {F : Fns} {vs : Vars} {σ : Hp} {p : PE} {x : AV} (h : evP F p vs σ = some x) : evP F (.cons p .nil) vs σ = some (.lst [x]) := by
  show o2 _ (evP F p vs σ) (some (.lst [])) = _; rw [h]; rfl
theorem ev2 {F : Fns} {vs : Vars} {σ : Hp} {p r : PE} {x y : AV} (h : evP F p vs σ = some x) (h' : evP F r vs σ = some y) : evP F (.cons p (.cons r .nil)) vs σ = some (.lst [x, y]) := by
  show o2 _ (evP F p vs σ) (evP F (.cons r .nil) vs σ) = _; rw [h, ev1 h']; rfl
theorem ev3 {F : Fns} {vs : Vars} {σ : Hp} {p r t : PE} {x y z : AV} (h : evP F p vs σ = some x) (h' : evP F r vs σ = some y) (h'' : evP F t vs σ = some z) : evP F (.cons p (.cons r (.cons t .nil))) vs σ = some (.lst [x, y, z]) := by
  show o2 _ (evP F p vs σ) (evP F (.cons r (.cons t .nil)) vs σ) = _; rw [h, ev2 h' h'']; rfl

theorem EvOK.len {f : Str} {fp pos : Pos} {e : Expr} {p : PE} (hC : Stat C) (hk : names.lookup f = some .globalImplicit) (hv : C.mg f = none ∧ C.mb f = some (.builtin "len")) (h : EvOK C names e p)
    (he : ∀ env, starEach [e] env = (false, eval e env) :: starEach [] env := by intro _; exact star_cons rfl) (hd : (f == ("__debug__" : Str)) = false := by decide +kernel) : EvOK C names (.Call (.Name f fp) [e] [] pos) (.len p) := by
  intro A env K W₀ W ρ vs σ s hA H F v ev Q E q
  obtain ⟨a, e1, e3⟩ := o1_some ev
  refine callN_ok hC hA H F hk (.inr hv) hd (.inl ⟨_, rfl⟩) (EvsOK.cons h EvsOK.nil he) he (fun _ => rfl) (ev1 e1) fun vals s' k r => ?_
  obtain ⟨u, rfl, r₁⟩ := rels1 r
  exact len_ok (H.grow (keeps_heap k)) r₁ e3 fun v' s'' k' r' => q _ _ (keeps_trans k k') r'
theorem EvOK.sum {f : Str} {fp pos : Pos} {e : Expr} {p : PE} (hC : Stat C) (hk : names.lookup f = some .globalImplicit) (hv : C.mg f = none ∧ C.mb f = some (.builtin "sum")) (h : EvOK C names e p)
    (he : ∀ env, starEach [e] env = (false, eval e env) :: starEach [] env := by intro _; exact star_cons rfl) (hd : (f == ("__debug__" : Str)) = false := by decide +kernel) : EvOK C names (.Call (.Name f fp) [e] [] pos) (.sum p) := by
  intro A env K W₀ W ρ vs σ s hA H F v ev Q E q
  obtain ⟨a, e1, e3⟩ := o1_some ev
  refine callN_ok hC hA H F hk (.inr hv) hd (.inl ⟨_, rfl⟩) (EvsOK.cons h EvsOK.nil he) he (fun _ => rfl) (ev1 e1) fun vals s' k r => ?_
  obtain ⟨u, rfl, r₁⟩ := rels1 r
  exact sum_ok hA.zero (H.grow (keeps_heap k)) r₁ e3 fun v' s'' k' r' => q _ _ (keeps_trans k k') r'
theorem EvOK.trunc {f : Str} {fp pos : Pos} {e : Expr} {p : PE} (hC : Stat C) (hk : names.lookup f = some .globalImplicit) (hv : C.mg f = none ∧ C.mb f = some (.type "int")) (h : EvOK C names e p)
    (he : ∀ env, starEach [e] env = (false, eval e env) :: starEach [] env := by intro _; exact star_cons rfl) (hd : (f == ("__debug__" : Str)) = false := by decide +kernel) : EvOK C names (.Call (.Name f fp) [e] [] pos) (.trunc p) := by
  intro A env K W₀ W ρ vs σ s hA H F v ev Q E q
  obtain ⟨a, e1, e3⟩ := o1_some ev
  refine callN_ok hC hA H F hk (.inr hv) hd (.inr (.inl ⟨_, rfl⟩)) (EvsOK.cons h EvsOK.nil he) he (fun _ => rfl) (ev1 e1) fun vals s' k r => ?_
  obtain ⟨u, rfl, r₁⟩ := rels1 r
  exact trunc_ok r₁ e3 fun v' s'' k' r' => q _ _ (keeps_trans k k') r'
theorem EvOK.rng1 {f : Str} {fp pos : Pos} {e : Expr} {p : PE} (hC : Stat C) (hk : names.lookup f = some .globalImplicit) (hv : C.mg f = none ∧ C.mb f = some (.type "range")) (h : EvOK C names e p)
    (he : ∀ env, starEach [e] env = (false, eval e env) :: starEach [] env := by intro _; exact star_cons rfl) (hd : (f == ("__debug__" : Str)) = false := by decide +kernel) : EvOK C names (.Call (.Name f fp) [e] [] pos) (.rng1 p) := by
  intro A env K W₀ W ρ vs σ s hA H F v ev Q E q
  obtain ⟨a, e1, e3⟩ := o1_some ev
  refine callN_ok hC hA H F hk (.inr hv) hd (.inr (.inl ⟨_, rfl⟩)) (EvsOK.cons h EvsOK.nil he) he (fun _ => rfl) (ev1 e1) fun vals s' k r => ?_
  obtain ⟨u, rfl, r₁⟩ := rels1 r
  exact (rng_ok (va := .int 0 0) (H.grow (keeps_heap k)) (.int 0 0) r₁ e3 fun v' s'' k' r' => q _ _ (keeps_trans k k') r').2 rfl
theorem EvOK.rng2 {f : Str} {fp pos : Pos} {e e' : Expr} {p p' : PE} (hC : Stat C) (hk : names.lookup f = some .globalImplicit) (hv : C.mg f = none ∧ C.mb f = some (.type "range")) (h : EvOK C names e p) (h' : EvOK C names e' p')
    (he : ∀ env, starEach [e, e'] env = (false, eval e env) :: starEach [e'] env := by intro _; exact star_cons rfl) (he' : ∀ env, starEach [e'] env = (false, eval e' env) :: starEach [] env := by intro _; exact star_cons rfl)
    (hd : (f == ("__debug__" : Str)) = false := by decide +kernel) : EvOK C names (.Call (.Name f fp) [e, e'] [] pos) (.rng2 p p') := by
  intro A env K W₀ W ρ vs σ s hA H F v ev Q E q
  obtain ⟨a, b, e1, e2, e3⟩ := o2_some ev
  refine callN_ok hC hA H F hk (.inr hv) hd (.inr (.inl ⟨_, rfl⟩)) (EvsOK.cons h (EvsOK.cons h' EvsOK.nil he') he) he (fun env => by rw [he' env]; rfl) (ev2 e1 e2) fun vals s' k r => ?_
  obtain ⟨u, x, rfl, r, r'⟩ := rels2 r
  exact (rng_ok (H.grow (keeps_heap k)) r r' e3 fun v' s'' k' r' => q _ _ (keeps_trans k k') r').1
theorem EvOK.max3 {f : Str} {fp pos : Pos} {e e' e'' : Expr} {p p' p'' : PE} (hC : Stat C) (hk : names.lookup f = some .globalImplicit) (hv : C.mg f = none ∧ C.mb f = some (.builtin "max")) (h : EvOK C names e p) (h' : EvOK C names e' p') (h'' : EvOK C names e'' p'')
    (he : ∀ env, starEach [e, e', e''] env = (false, eval e env) :: starEach [e', e''] env := by intro _; exact star_cons rfl) (he' : ∀ env, starEach [e', e''] env = (false, eval e' env) :: starEach [e''] env := by intro _; exact star_cons rfl)
    (he'' : ∀ env, starEach [e''] env = (false, eval e'' env) :: starEach [] env := by intro _; exact star_cons rfl)
    (hd : (f == ("__debug__" : Str)) = false := by decide +kernel) : EvOK C names (.Call (.Name f fp) [e, e', e''] [] pos) (.max3 p p' p'') := by
  intro A env K W₀ W ρ vs σ s hA H F v ev Q E q
  obtain ⟨a, b, c, e1, e2, e4, e3⟩ := o3_some ev
  refine callN_ok hC hA H F hk (.inr hv) hd (.inl ⟨_, rfl⟩) (EvsOK.cons h (EvsOK.cons h' (EvsOK.cons h'' EvsOK.nil he'') he') he) he (fun env => by rw [he' env, he'' env]; rfl) (ev3 e1 e2 e4) fun vals s' k r => ?_
  obtain ⟨u, x, y, rfl, r, r', r''⟩ := rels3 r
  exact max_ok hA.zero r r' r'' e3 fun v' s'' k' r' => q _ _ (keeps_trans k k') r'
theorem EvOK.min3 {f : Str} {fp pos : Pos} {e e' e'' : Expr} {p p' p'' : PE} (hC : Stat C) (hk : names.lookup f = some .globalImplicit) (hv : C.mg f = none ∧ C.mb f = some (.builtin "min")) (h : EvOK C names e p) (h' : EvOK C names e' p') (h'' : EvOK C names e'' p'')
    (he : ∀ env, starEach [e, e', e''] env = (false, eval e env) :: starEach [e', e''] env := by intro _; exact star_cons rfl) (he' : ∀ env, starEach [e', e''] env = (false, eval e' env) :: starEach [e''] env := by intro _; exact star_cons rfl)
    (he'' : ∀ env, starEach [e''] env = (false, eval e'' env) :: starEach [] env := by intro _; exact star_cons rfl)
    (hd : (f == ("__debug__" : Str)) = false := by decide +kernel) : EvOK C names (.Call (.Name f fp) [e, e', e''] [] pos) (.min3 p p' p'') := by
  intro A env K W₀ W ρ vs σ s hA H F v ev Q E q
  obtain ⟨a, b, c, e1, e2, e4, e3⟩ := o3_some ev
  refine callN_ok hC hA H F hk (.inr hv) hd (.inl ⟨_, rfl⟩) (EvsOK.cons h (EvsOK.cons h' (EvsOK.cons h'' EvsOK.nil he'') he') he) he (fun env => by rw [he' env, he'' env]; rfl) (ev3 e1 e2 e4) fun vals s' k r => ?_
  obtain ⟨u, x, y, rfl, r, r', r''⟩ := rels3 r
  exact min_ok hA.zero r r' r'' e3 fun v' s'' k' r' => q _ _ (keeps_trans k k') r'

theorem pre_nil {ρ : List Addr} : ([] : List Addr) <+: ρ := List.nil_prefix
theorem mono_pre {W : Addr → Prop} {ρ : List Addr} {h : Heap} : Mono W W [] ρ h h := ⟨fun _ _ e _ => e, fun _ _ _ x => x, pre_nil⟩

theorem VRel.flat' {W : Addr → Prop} {ρ ρ' : List Addr} {h : Heap} {a : AV} {v : Value} (e : Mine.flat a = true) (r : VRel W ρ h a v) : VRel W ρ' h a v := by
  cases a with
  | lst xs =>
    obtain ⟨l, vs, rfl, hw, hp, hs, r⟩ := r.lst_inv
    exact .lst hw hp hs (r.of_all (fun a v e r => r.atom e) e)
  | _ => exact r.atom e
theorem VRel.deep' {W : Addr → Prop} {ρ ρ' : List Addr} {h : Heap} {a : AV} {v : Value} (e : Mine.deep a = true) (r : VRel W ρ h a v) : VRel W ρ' h a v := by
  cases a with
  | lst xs =>
    obtain ⟨l, vs, rfl, hw, hp, hs, r⟩ := r.lst_inv
    exact .lst hw hp hs (r.of_all (fun a v e r => r.flat' e) e)
  | tup xs =>
    obtain ⟨l, vs, rfl, hw, hp, hs, r⟩ := r.tup_inv
    exact .tup hw hp hs (r.of_all (fun a v e r => r.flat' e) e)
  | _ => exact r.atom e

theorem EvOK.call {f : Str} {fp pos : Pos} {e : Expr} {es : List Expr} {n : Nat} {p : PE} {a : Addr} {o : Obj} {fd : FuncData} (hC : Stat C) (hk : names.lookup f = some .globalImplicit) (hv : C.mg f = some (.ref a))
    (ho : C.h₁.get? a = some o) (hf : o.data = .func fd) (hc : CallOK C C.k a (C.F n)) (h : EvsOK C names (e :: es) p)
    (he : ∀ env, starEach (e :: es) env = (false, eval e env) :: starEach es env := by intro _; exact star_cons rfl) (hp : ∀ env, (backTo pos (starEach es env)).any (·.1) = false := by intro _; rfl)
    (hd : (f == ("__debug__" : Str)) = false := by decide +kernel) : EvOK C names (.Call (.Name f fp) (e :: es) [] pos) (.call n p) := by
  intro A env K W₀ W ρ vs σ s hA H F v ev Q E q
  obtain ⟨x, e1, e3⟩ := o1_some ev
  obtain ⟨xs, e4, e5⟩ := bind_inv e3
  cases l1_inv e4
  have hall : xs.all Mine.deep = true := by
    cases h : xs.all Mine.deep with
    | true => rfl
    | false => rw [h] at e5; cases e5
  rw [if_pos hall] at e5
  exact callN_ok hC hA H F hk (.inl hv) hd (.inr (.inr ⟨a, o, fd, rfl, ho, hf⟩)) h he hp e1 fun vals s' k r =>
    hc A W s' hA (H.grow (keeps_heap k)).heap (H.grow (keeps_heap k)).dom _ _ (r.of_all (fun _ _ => VRel.deep') hall) v e5 _ _ fun v' s'' k' r' => q _ _ (keeps_trans k k') (r'.mono mono_pre)

theorem tab_key (k d : Int) : (PySem.Spec.lookup (.int k) tabD).getD (.int d) = .int (tabGet k d) := by
  have n : ∀ m : Int, k ≠ m → PySem.Spec.same (.int k) (.int m) = false ∧ PySem.Spec.same (.int m) (.int k) = false := fun m hm => by
    simp [PySem.Spec.same, hm, Ne.symm hm]
  unfold tabGet
  by_cases h1 : k = 14
  · subst h1; rfl
  by_cases h2 : k = 15
  · subst h2; rfl
  by_cases h3 : k = 16
  · subst h3; rfl
  by_cases h4 : k = 17
  · subst h4; rfl
  rw [if_neg h1, if_neg h2, if_neg h3, if_neg h4]
  simp [PySem.Spec.lookup, tabD, n 14 h1, n 15 h2, n 16 h3, n 17 h4]
theorem loc_inv' {a : AV} {i : Nat} (e : locA a = some i) : a = .loc i := by
  cases a <;> cases e
  rfl
theorem i1_eq {a : AV} {i : Int} (e : i1 a = some i) : a = .int i := by
  cases a <;> cases e
  rfl
theorem tabAt_some {σ : Hp} {i : Nat} {u : Unit} (e : tabAt σ i = some u) : σ[i]? = some .tab := by
  unfold tabAt at e
  split at e
  · rename_i h; exact h
  · cases e
/-- letters.get(k, d) -/
theorem EvOK.get {x : Expr} {e e' : Expr} {apos pos : Pos} {po pk pd : PE} (ho : EvOK C names x po) (hk : EvOK C names e pk) (hd : EvOK C names e' pd)
    (hbase : ∀ env, attributeBase x "get" env (eval x env) = eval x env := by intro _; rfl) (hline : (apos.endLine == pos.line) = true := by rfl)
    (htrees : ∀ env, backTo pos (starEach [e, e'] env) = [(false, eval e env), (false, eval e' env)] := by intro _; rfl) :
    EvOK C names (.Call (.Attribute x "get" apos) [e, e'] [] pos) (.get po pk pd) := by
  intro A env K W₀ W ρ vs σ s hA H F v ev Q E q
  obtain ⟨a, b, c, e1, e2, e4, e3⟩ := o3_some ev
  obtain ⟨i, e5, e6⟩ := bind_inv e3
  obtain ⟨k, e7, e8⟩ := bind_inv e6
  obtain ⟨d, e9, e10⟩ := bind_inv e8
  obtain ⟨_, ht, e11⟩ := bind_inv e10
  cases e11
  cases loc_inv' e5
  cases i1_eq e7
  cases i1_eq e9
  have ht := tabAt_some ht
  refine wpAny_Call_method2_late (hbase env) hline (htrees env) (ho A env K W₀ W ρ vs σ s hA H F _ e1 _ _ fun va s₁ k₁ r₁ => ?_)
  obtain ⟨l, rfl, hl⟩ := r₁.loc_inv
  have H₁ := H.grow (keeps_heap k₁)
  have F₁ := F.up (keeps_heap k₁)
  obtain ⟨hm, kvs, hdd, _⟩ := (H₁.obj _ _ _ hl ht).1
  refine ⟨"dict", "dict.get", PySem.F.plainAttrs_dict, PySem.F.slot_dict_get, PySem.F.type_dict_get, hdd.typeIs, hdd.mapOf.noDict, ?_⟩
  refine callWith_builtin rfl (evalArgs_plain (spliced_cons (hk A env K W₀ W ρ vs σ s₁ hA H₁ F₁ _ e2 _ _ fun vb s₂ k₂ r₂ => ?_)))
  have H₂ := H₁.grow (keeps_heap k₂)
  refine spliced_cons (hd A env K W₀ W ρ vs σ s₂ hA H₂ (F₁.up (keeps_heap k₂)) _ e4 _ _ fun vc s₃ k₃ r₃ => spliced_nil ?_)
  obtain ⟨t, rfl⟩ := r₂.int_inv
  obtain ⟨u, rfl⟩ := r₃.int_inv
  refine call_get2_intTab ((H₂.grow (keeps_heap k₃)).obj _ _ _ hl ht).1 (.int d _) fun v hv => ?_
  rw [tab_key] at hv
  cases hv s₃.heap
  exact q _ _ (keeps_trans (keeps_trans (keeps_trans k₁ k₂) k₃) (keeps_tok _ _)) (.int _ _)
end
end Mine
end

section
open PySem PySem.Calls PyProof.Rows PySem.W
set_option linter.unusedVariables false
namespace Mine

structure Src (prog : Program) (w : World) (A : Around) (W : Addr → Prop) (ρ : List Addr) (xs : List AV) (h₀ h : Heap) (I : Addr) (fp : List Addr) (P : Nat → Value → Prop) (St : Nat → Heap → Prop) : Prop where
  walks : Walks prog w A I fp [I] xs.length P St
  st : St 0 h
  stands : ∀ i h, St i h → ∃ o, h.get? I = some o
  fresh : h₀.get? I = none
  fpOk : ∀ b ∈ fp, b = I ∨ (b ≠ I ∧ ∃ o, h₀.get? b = some o)
  item : ∀ i v x, P i v → xs[i]? = some x → VRel W ρ h₀ x v
  size : xs.length ≤ sizeLine

theorem rngL_length : ∀ (n : Nat) (a : Int), (rngL a n).length = n
  | 0, _ => rfl
  | n + 1, a => by simp [rngL, rngL_length n]
theorem rngL_get : ∀ (n : Nat) (a : Int) (i : Nat) (x : AV), (rngL a n)[i]? = some x → x = .int (a + i)
  | 0, _, _, _, h => by simp [rngL] at h
  | n + 1, a, 0, x, h => by simp [rngL] at h; rw [← h]; simp
  | n + 1, a, i + 1, x, h => by
    simp only [rngL, List.getElem?_cons_succ] at h
    rw [rngL_get n (a + 1) i x h]
    congr 1
    push_cast
    omega

section
variable {prog : Program} {w : World} {h₁ : Heap} {A : Around} {K : Addr → Obj → Prop} {W₀ W : Addr → Prop} {ρ : List Addr} {σ : Hp} {s : Shared} {E : Value → Shared → Prop}

theorem list_src (hA : A.handled = none) {l : Addr} {us : List Value} {xs : List AV} (hp : s.heap.PlainList l us.toArray) (hz : us.length ≤ sizeLine) (r : VRels W ρ s.heap xs us) {Q : Value → Shared → Prop}
    (q : ∀ I fp P St s', Keeps s s' → Src prog w A W ρ xs s.heap s'.heap I fp P St → (∀ b ∈ fp, b = l ∨ b = I) → Q (.ref I) s') : wpAny (model prog w) A (pyIter (.ref l)) Q E s := by
  have hlI : l ≠ s.heap.objs.size := fun e => by obtain ⟨n, e'⟩ := hp; rw [e, fresh_size] at e'; cases e'
  refine wpAny_pyIter_list hp.isList (q _ [s.heap.objs.size, l] (fun i v => us.toArray[i]? = some v) (fun i h => h.IsListIter s.heap.objs.size l i ∧ h.IsList l us.toArray) _ (keeps_push s _ s.toks) ⟨?_, ⟨⟨_, Heap.get?_push_size _ rfl, rfl, rfl⟩, hp.isList.push _⟩, ?_, fresh_size _, ?_, ?_, ?_⟩ ?_)
  · have := Walks.list (prog := prog) (w := w) hA s.heap.objs.size l hlI us.toArray
    have e : us.toArray.size = xs.length := by rw [r.length]; simp
    rw [e] at this
    exact this
  · exact fun i h st => let ⟨⟨o, e, _⟩, _⟩ := st; ⟨o, e⟩
  · intro b hb
    rcases List.mem_cons.mp hb with rfl | hb
    · exact .inl rfl
    · rw [List.mem_singleton.mp hb]; obtain ⟨n, e⟩ := hp; exact .inr ⟨hlI, _, e⟩
  · intro i v x hv hx
    obtain ⟨u, hu, ru⟩ := r.get hx
    have hv' : us[i]? = some v := by simpa using hv
    rw [hu] at hv'; cases hv'
    exact ru
  · rw [r.length]; exact hz
  · intro b hb
    rcases List.mem_cons.mp hb with rfl | hb
    · exact .inr rfl
    · exact .inl (List.mem_singleton.mp hb)

theorem iter_ok (hA : A.handled = none) (H : Rel prog w h₁ K W₀ W ρ σ s.heap) {a : AV} {va : Value} {xs : List AV} (r : VRel W ρ s.heap a va) (e : iterA σ a = some xs) {Q : Value → Shared → Prop}
    (q : ∀ I fp P St s', Keeps s s' → Src prog w A W ρ xs s.heap s'.heap I fp P St → (frozenA a = some xs → ∀ b ∈ fp, ¬ W b ∨ b = I) → Q (.ref I) s') : wpAny (model prog w) A (pyIter va) Q E s := by
  cases a with
  | lst ys =>
    cases e
    obtain ⟨l, us, rfl, hw, hp, hz, r⟩ := r.lst_inv
    exact list_src hA hp hz r fun I fp P St s' k S hb => q I fp P St s' k S fun _ b hb' => (hb b hb').elim (fun e => .inl (e ▸ hw)) .inr
  | loc i =>
    obtain ⟨l, us, rfl, hp, hz, r⟩ := H.items (a := .loc _) (xs := xs) e r
    exact list_src hA hp hz r fun I fp P St s' k S hb => q I fp P St s' k S fun e => nomatch (show Option.none = some xs from e)
  | rng lo hi =>
    cases e
    obtain ⟨l, t, u, v, rfl, hw, h1, h2, h3, hr⟩ := r.rng_inv
    have h1 := small_inv h1
    have h2 := small_inv h2
    have e2 : (((rngL lo (hi - lo).toNat).length : Nat) : Int) = ((hi - lo).toNat : Int) := by rw [rngL_length]
    have ew := Walks.range (prog := prog) (w := w) hA s.heap.objs.size lo 1 (hi - lo).toNat
    rw [← rngL_length (hi - lo).toNat lo] at ew
    refine wpAny_pyIter_range hr (small_one (by omega) (by omega) (by omega) (by omega)) (q _ _ _ _ _ (keeps_push s _ s.toks) ⟨ew, ?_, fun i h st => ⟨_, st⟩, fresh_size _, fun b hb => .inl (List.mem_singleton.mp hb), ?_, ?_⟩ fun _ b hb => .inr (List.mem_singleton.mp hb))
    · show IsRangeIter _ _ _ _ _
      rw [rangeSize_nat, e2, Int.mul_one, Int.natCast_zero, Int.sub_zero, Int.add_zero]
      exact Heap.get?_push_size _ rfl
    · intro i v x hv hx
      obtain ⟨t, rfl⟩ := hv
      rw [rngL_get _ _ _ _ hx, Int.mul_one]
      exact .int _ _
    · rw [rngL_length, sizeLine_eq]; omega
  | _ => cases e

theorem Rel.widen {W' : Addr → Prop} {h' : Heap} (H : Rel prog w h₁ K W₀ W ρ σ s.heap) (k : ∀ b o, s.heap.get? b = some o → h'.get? b = some o) (h1 : ∀ a, W a → W' a) (h2 : ∀ a, W' a → ¬ W a → s.heap.get? a = none)
    (h3 : ∀ a, W' a → ∃ o, h'.get? a = some o) : Rel prog w h₁ K W₀ W' ρ σ h' :=
  ⟨H.base, fun b o e => k _ _ (H.keep b o e), fun a wa => h1 a (H.sub a wa), h3, fun a ha => ⟨h1 a (H.own a ha).1, (H.own a ha).2⟩, H.nodup, H.len,
    fun i a o e1 e2 => (H.obj i a o e1 e2).mono ⟨fun b o e _ => k b o e, fun b o e hw wb => (by have := h2 b wb hw; rw [e] at this; exact nomatch this), List.prefix_refl _⟩ fun o e => k _ _ e⟩
theorem mono_widen {W' : Addr → Prop} {h h' : Heap} (k : ∀ b o, h.get? b = some o → h'.get? b = some o) (h2 : ∀ a, W' a → ¬ W a → h.get? a = none) : Mono W W' ρ ρ h h' :=
  ⟨fun b o e _ => k b o e, fun b o e hw wb => (by have := h2 b wb hw; rw [e] at this; exact nomatch this), List.prefix_refl _⟩
end

/-- the free names' cells -/
noncomputable def clos (env : Env) : List (Str × NameKind) → List (Str × Addr) → List (Str × Addr)
  | [], acc => acc
  | (n, k) :: r, acc => if k == .free then clos env r ((n, (env.cells.lookup n).getD 0) :: acc) else clos env r acc

theorem closureFor_eq {scope : Scope} {env : Env} (h : ∀ y ∈ scope.names, y.2 = .free → (env.cells.lookup y.1).isSome = true) : closureFor scope env = pure (clos env scope.names []) := by
  simp only [closureFor]
  have key : ∀ (l : List (Str × NameKind)) (acc : List (Str × Addr)), (∀ y ∈ l, y.2 = .free → (env.cells.lookup y.1).isSome = true) →
      ((forIn l acc fun x r => if (x.snd == NameKind.free) = true then do let __do_lift ← cellOf env x.fst; pure (ForInStep.yield ((x.fst, __do_lift) :: r)) else pure (ForInStep.yield r)) : Sem (List (Str × Addr))) = pure (clos env l acc) := by
    intro l
    induction l with
    | nil => intro acc _; rfl
    | cons x r ih =>
      intro acc hl
      obtain ⟨n, k⟩ := x
      rw [List.forIn_cons]
      simp only [clos]
      have hr := fun y hy => hl y (List.mem_cons_of_mem _ hy)
      by_cases hk : (k == NameKind.free) = true
      · simp only [hk, if_true]
        have hs := hl (n, k) List.mem_cons_self (by simpa using hk)
        obtain ⟨c, hc⟩ := Option.isSome_iff_exists.mp hs
        have e : cellOf env n = pure c := by unfold cellOf; rw [show env.cells.lookup n = some c from hc]
        rw [e]
        simp only [pure_bind]
        rw [ih _ hr]
        rw [show env.cells.lookup n = some c from hc]
        rfl
      · simp only [hk]
        exact ih _ hr
  rw [key _ _ h]
  rfl

theorem clos_lookup {env : Env} : ∀ (l : List (Str × NameKind)) (acc : List (Str × Addr)) (y : Str) (c : Addr), env.cells.lookup y = some c → (acc.lookup y = some c ∨ (y, NameKind.free) ∈ l) → (clos env l acc).lookup y = some c
  | [], acc, y, c, _, h => by rcases h with h | h; exact h; cases h
  | (n, k) :: r, acc, y, c, hc, h => by
    simp only [clos]
    split
    · rename_i hk
      refine clos_lookup r _ y c hc ?_
      by_cases hn : y = n
      · subst hn; left; simp [hc]
      · rcases h with h | h
        · left
          have : (y == n) = false := by simpa using hn
          rw [List.lookup_cons, this]; exact h
        · rcases List.mem_cons.mp h with e | h
          · cases e; exact absurd rfl hn
          · exact .inr h
    · rename_i hk
      refine clos_lookup r _ y c hc ?_
      rcases h with h | h
      · exact .inl h
      · rcases List.mem_cons.mp h with e | h
        · cases e; simp at hk
        · exact .inr h

theorem cf_nil (n : Nat) (acc : List (Str × Addr)) : cellsFrom n [] acc = acc := rfl
theorem cf_cons (n : Nat) (x : Str) (k : NameKind) (r : List (Str × NameKind)) (acc : List (Str × Addr)) : cellsFrom n ((x, k) :: r) acc = if (k == .cell) = true then cellsFrom (n + 1) r ((x, n) :: acc) else cellsFrom n r acc := rfl
theorem cellsFrom_append : ∀ (l : List (Str × NameKind)) (n : Nat) (acc : List (Str × Addr)), cellsFrom n l acc = cellsFrom n l [] ++ acc
  | [], n, acc => rfl
  | (x, k) :: r, n, acc => by
    rw [cf_cons, cf_cons]
    split
    · rw [cellsFrom_append r (n + 1) ((x, n) :: acc), cellsFrom_append r (n + 1) [(x, n)]]; simp
    · exact cellsFrom_append r n acc
theorem cellsFrom_names : ∀ (l : List (Str × NameKind)) (n : Nat) (x : Str) (c : Addr), (x, c) ∈ cellsFrom n l [] → (x, NameKind.cell) ∈ l
  | [], n, x, c, h => nomatch h
  | (y, k) :: r, n, x, c, h => by
    rw [cf_cons] at h
    split at h
    · rename_i hk
      rw [cellsFrom_append] at h
      rcases List.mem_append.mp h with h | h
      · exact List.mem_cons_of_mem _ (cellsFrom_names r _ x c h)
      · rw [List.mem_singleton] at h; cases h
        have : k = .cell := by simpa using hk
        rw [this]; exact List.mem_cons_self
    · exact List.mem_cons_of_mem _ (cellsFrom_names r _ x c h)
theorem cellsFrom_has : ∀ (l : List (Str × NameKind)) (n : Nat) (x : Str), (x, NameKind.cell) ∈ l → ∃ c, (cellsFrom n l []).lookup x = some c
  | [], n, x, h => by cases h
  | (y, k) :: r, n, x, h => by
    rw [cf_cons]
    split
    · rename_i hk
      rw [cellsFrom_append, List.lookup_append]
      rcases List.mem_cons.mp h with e | h
      · cases e
        cases hx : (cellsFrom (n + 1) r []).lookup y with
        | some c => exact ⟨c, by simp [hx]⟩
        | none => exact ⟨n, by simp [hx]⟩
      · obtain ⟨c, hc⟩ := cellsFrom_has r (n + 1) x h
        exact ⟨c, by simp [hc]⟩
    · rename_i hk
      rcases List.mem_cons.mp h with e | h
      · cases e; simp at hk
      · exact cellsFrom_has r n x h

theorem lookup_none_of {α : Type} {l : List (Str × α)} {x : Str} (h : ∀ c, (x, c) ∉ l) : l.lookup x = none := by
  cases e : l.lookup x with
  | none => rfl
  | some c => exact absurd (mem_of_lookup e) (h c)

/-- names of a comprehension's frame, as its outer function sees them -/
noncomputable def relN (ns outer : List (Str × NameKind)) : List (Str × NameKind) :=
  ns.map fun (n, k) => if (k == .free && outer.lookup n == some .cell) then (n, .cell) else (n, k)

theorem relabel_names {scope : Scope} {env : Env} {names : List (Str × NameKind)} (hk : env.scope.kind = .function) (hn : ∀ x, env.kindOf x = names.lookup x) : (relabel scope env).names = relN scope.names names := by
  unfold relabel relN
  simp only [hk, hn]
  congr 1
  funext ⟨n, k⟩
  simp

end Mine
end

section
open PySem PySem.Calls PyProof.Rows PySem.W
set_option linter.unusedVariables false
namespace Mine

theorem capV_lk : ∀ {caps : List Nat} {vs cv : Vars}, capV caps vs = some cv → ∀ {n : Nat} {v : AV}, lk n cv = some v → n ∈ caps ∧ lk n vs = some v
  | [], vs, cv, h, n, v, e => by simp only [capV] at h; cases h; simp [lk] at e
  | m :: r, vs, cv, h, n, v, e => by
    simp only [capV] at h
    split at h
    · rename_i u hu
      split at h
      · rename_i c hc
        cases h
        simp only [lk] at e
        split at e
        · rename_i hn
          subst hn
          cases e
          exact ⟨List.mem_cons_self, hu⟩
        · have := capV_lk hc e
          exact ⟨List.mem_cons_of_mem _ this.1, this.2⟩
      · cases h
    · cases h
theorem capV_has : ∀ {caps : List Nat} {vs cv : Vars}, capV caps vs = some cv → ∀ {n : Nat}, n ∈ caps → ∃ v, lk n vs = some v
  | [], vs, cv, h, n, e => by cases e
  | m :: r, vs, cv, h, n, e => by
    simp only [capV] at h
    split at h
    · rename_i u hu
      split at h
      · rename_i c hc
        rcases List.mem_cons.mp e with e | e
        · subst e; exact ⟨_, hu⟩
        · exact capV_has hc e
      · cases h
    · cases h

theorem mapO_mapIf {f : AV → Option AV} : ∀ {xs : List AV}, mapO f xs = mapIf (fun _ => some true) f xs
  | [] => rfl
  | a :: r => by
    simp only [mapO, mapIf, mapO_mapIf (xs := r)]
    cases f a with
    | none => rfl
    | some b => cases mapIf (fun _ => some true) f r <;> rfl

section
variable {M : Model} {A : Around} {E : Value → Shared → Prop} {s : Shared}
theorem newEnv_ok {scope : Scope} {globals : Addr} {cl : List (Str × Addr)} {qual : Str} {env : Env} {Q : Env → Shared → Prop}
    (h : Q { scope, locals := s.heap.objs.size, globals, cells := cellsFrom (s.heap.objs.size + 1) scope.names cl, qual, func := none, code := env.code, frame := env.frame, builtins := env.builtins }
      { s with heap := pushCells (s.heap.push { cls := .type "dict", data := .dict #[] }) scope.names }) :
    wpAny M A (newFunctionEnv scope globals cl [] qual none .none (some env)) Q E s := by
  simp only [newFunctionEnv, Option.isSome_some, if_true]
  refine wpAny_bind (wpAny_alloc ?_)
  refine wpAny_bind (wpAny_layCells _ (fun name kind cells => by cases hkc : kind == NameKind.cell <;> simp [hkc]) _ _ _ _ ?_)
  rw [show ({ s with heap := s.heap.push { cls := .type "dict", data := .dict #[] } } : Shared).heap.objs.size = s.heap.objs.size + 1 from Heap.size_push ..]
  simp only [List.forIn_nil]
  exact wpAny_bind (wpAny_pure (wpAny_pure h))
end

/-- what a comprehension's names must be -/
structure CompNames (tab : List Str) (ns names : List (Str × NameKind)) (x : Str) (nx : Nat) (caps : List Nat) : Prop where
  tabx : tab[nx]? = some x
  kx : (relN ns names).lookup x = some .local ∨ ((x, NameKind.cell) ∈ ns ∧ (relN ns names).lookup x = some .cell)
  cap : ∀ n ∈ caps, ∃ y, tab[n]? = some y ∧ (y, NameKind.free) ∈ ns ∧ (y, NameKind.cell) ∉ ns ∧ ((relN ns names).lookup y = some .cell ∨ (relN ns names).lookup y = some .free) ∧ (names.lookup y = some .cell ∨ names.lookup y = some .free)
  free : ∀ y ∈ ns, y.2 = .free → ∃ n ∈ caps, tab[n]? = some y.1
  locs : ∀ y ∈ ns, y.2 = .local → ns.lookup y.1 = some .local

noncomputable abbrev testsOf (ifs : List Expr) (cenv : Env) : Sem Bool :=
  forIn ifs true fun c r => if r = true then do let ok ← isTrue c cenv (eval c cenv); pure (ForInStep.yield ok) else pure (ForInStep.yield r)

section
variable {C : Cx} {names : List (Str × NameKind)}

inductive CInv (s : Shared) (xs ys : List AV) (ct : AV → Option Bool) (g : AV → Option AV) (W' : Addr → Prop) (ρ : List Addr) (D L : Addr) (cl : List (Str × Addr)) (St' : Nat → Heap → Prop) (k : Nat) : Shared → Prop
  | mk (h : Heap) (tk i : Nat) (out rest : List AV) (us : List Value) (m : Str → Option Value) : k = xs.length + 1 - i → i ≤ xs.length → mapIf ct g (xs.drop i) = some rest → ys = out ++ rest → us.length ≤ i → (∀ b o, s.heap.get? b = some o → h.get? b = some o) → St' i h →
    h.PlainList D (List.toArray us) → VRels W' ρ h out us → h.Ns L m → (∀ y c, (y, c) ∈ cl → ∃ v, h.IsCell c v) → CInv s xs ys ct g W' ρ D L cl St' k { s with heap := h, toks := tk }

theorem comp_core {A : Around} {env : Env} {K : Addr → Obj → Prop} {W₀ W : Addr → Prop} {ρ : List Addr} {vs : Vars} {σ : Hp} {s : Shared} {E : Value → Shared → Prop} (hA : AOk C.k A) (H : Rel C.prog C.w C.h₁ K W₀ W ρ σ s.heap)
    (F : Frm C.tab names env W ρ vs s.heap) {elt iter : Expr} {x : Str} {px pos : Pos} {ifs : List Expr} {scope : Scope} {nx : Nat} {caps : List Nat} {cv : Vars} {pelt : PE} {ct : AV → Option Bool} {a : AV} {va : Value} {xs ys : List AV}
    (hkind : scope.kind = .function) (hN : CompNames C.tab scope.names names x nx caps) (hcv : capV caps vs = some cv) (ra : VRel W ρ s.heap a va) (ex : iterA σ a = some xs)
    (hct : ∀ (W' : Addr → Prop) (cenv : Env) (s' : Shared) (b : AV) (t : Bool), Rel C.prog C.w C.h₁ K W₀ W' ρ σ s'.heap → Frm C.tab (relN scope.names names) cenv W' ρ ((nx, b) :: cv) s'.heap → ct b = some t →
      ∀ (Q : Bool → Shared → Prop) (E : Value → Shared → Prop), (∀ s'', Keeps s' s'' → Q t s'') → wpAny (model C.prog C.w) A (testsOf ifs cenv) Q E s')
    (helt : EvOK C (relN scope.names names) elt pelt) (hys : mapIf ct (fun b => evP C.F pelt ((nx, b) :: cv) σ) xs = some ys)
    {RR : Value → Addr → Result → Shared → Prop}
    (hRR : ∀ (D L : Addr) (W' : Addr → Prop) (h : Heap) (tk : Nat) (us : List Value) (m : Str → Option Value), (∀ b o, s.heap.get? b = some o → h.get? b = some o) → s.heap.get? D = none → s.heap.get? L = none → D ≠ L →
      (∀ a, W a → W' a) → (∀ a, W' a → ¬ W a → s.heap.get? a = none) → W' L → h.PlainList D us.toArray → us.length ≤ sizeLine → VRels W' ρ h ys us → h.Ns L m → RR (.ref D) L (.ok .next) { s with heap := h, toks := tk }) :
    wpAny (model C.prog C.w) A (pyIter va) (fun it s₂ => wpAny (model C.prog C.w) A (newList []) (fun acc s₃ => wpAny (model C.prog C.w) A (newFunctionEnv scope env.globals (clos env scope.names []) [] env.qual none .none (some env)) (fun cenv s₄ =>
      codeAny (model C.prog C.w) A (.compStart (.ListComp elt [⟨.Name x px, iter, ifs, 0⟩] scope pos) 0 it acc { cenv with scope := relabel scope env }) (RR acc cenv.locals) s₄) E s₃) E s₂) E s := by
  refine iter_ok hA.1 H ra ex fun I fp P St s₂ k₂ S _ => ?_
  obtain ⟨h₂, t₂, keep₂⟩ := k₂
  refine wpAny_newObj_type (newEnv_ok ?_)
  dsimp only
  generalize hH3 : h₂.push { cls := .type "list", dict := none, data := .seq ([] : List Value).toArray } = H3
  have sz3 : H3.objs.size = h₂.objs.size + 1 := by rw [← hH3, Heap.size_push]
  have keep3 : ∀ b o, h₂.get? b = some o → H3.get? b = some o := fun b o e => hH3 ▸ Heap.get?_push_of_some _ e
  have accD : H3.get? h₂.objs.size = some { cls := .type "list", dict := none, data := .seq ([] : List Value).toArray } := hH3 ▸ Heap.get?_push_size _ rfl
  generalize hH4 : pushCells (H3.push { cls := .type "dict", data := .dict #[] }) scope.names = H4
  have keep4 : ∀ b o, H3.get? b = some o → H4.get? b = some o := fun b o e => hH4 ▸ pushCells_keeps _ _ _ _ (Heap.get?_push_of_some _ e)
  have nsL : H4.Ns H3.objs.size (fun _ => none) := hH4 ▸ (Heap.Ns.new H3 (.type "dict")).keeps (pushCells_keeps _ _)
  have okC : CellsOk H4 (H3.objs.size + 1) (cellsFrom (H3.objs.size + 1) scope.names []) := by
    have := cellsFrom_ok scope.names (H3.push { cls := .type "dict", data := .dict #[] }) (H3.objs.size + 1) [] ⟨fun _ _ hm => (nomatch hm), List.Pairwise.nil⟩ (by rw [Heap.size_push]; exact Nat.le_refl _)
    rw [Heap.size_push, hH4] at this
    exact this
  -- addresses
  have old : ∀ b o, s.heap.get? b = some o → b < h₂.objs.size := fun b o e => Heap.lt_size (keep₂ b o e)
  have freshGe : ∀ b, h₂.objs.size ≤ b → s.heap.get? b = none := fun b hb => by
    cases e : s.heap.get? b with
    | none => rfl
    | some o => exact absurd (old b o e) (Nat.not_lt.mpr hb)
  have IL : I < h₂.objs.size := let ⟨o, e⟩ := S.stands _ _ S.st; Heap.lt_size e
  have hDL : h₂.objs.size ≠ H3.objs.size := by rw [sz3]; exact Nat.ne_of_lt (Nat.lt_succ_self _)
  have hID : I ≠ h₂.objs.size := Nat.ne_of_lt IL
  have hILo : I ≠ H3.objs.size := by rw [sz3]; exact Nat.ne_of_lt (Nat.lt_succ_of_lt IL)
  have cellGe : ∀ y c, (y, c) ∈ cellsFrom (H3.objs.size + 1) scope.names [] → H3.objs.size < c := fun y c h => (okC.empty y c h).2
  -- the set that data may not use
  let W' : Addr → Prop := fun b => W b ∨ b = I ∨ b = h₂.objs.size ∨ b = H3.objs.size ∨ ∃ y, (y, b) ∈ cellsFrom (H3.objs.size + 1) scope.names []
  have hW1 : ∀ b, W b → W' b := fun b h => .inl h
  have hW2 : ∀ b, W' b → ¬ W b → s.heap.get? b = none := fun b h hn => by
    rcases h with h | rfl | rfl | rfl | ⟨y, h⟩
    · exact absurd h hn
    · exact S.fresh
    · exact freshGe _ (Nat.le_refl _)
    · exact freshGe _ (by rw [sz3]; exact Nat.le_succ _)
    · exact freshGe _ (by have := cellGe y b h; rw [sz3] at this; omega)
  have hclos : (cellsFrom (H3.objs.size + 1) scope.names (clos env scope.names [])) = cellsFrom (H3.objs.size + 1) scope.names [] ++ clos env scope.names [] := cellsFrom_append _ _ _
  -- the frame of the comprehension
  generalize hcenv : ({ scope := relabel scope env, locals := H3.objs.size, globals := env.globals, cells := cellsFrom (H3.objs.size + 1) scope.names (clos env scope.names []), qual := env.qual, func := none, code := env.code, frame := env.frame, builtins := env.builtins } : Env) = cenv
  have cL : cenv.locals = H3.objs.size := by rw [← hcenv]
  have cC : cenv.cells = cellsFrom (H3.objs.size + 1) scope.names [] ++ clos env scope.names [] := by rw [← hcenv]; exact hclos
  have cK : ∀ y, cenv.kindOf y = (relN scope.names names).lookup y := fun y => by
    rw [← hcenv]; show (relabel scope env).names.lookup y = _; rw [relabel_names F.kind F.kinds]
  have cF : cenv.scope.kind = .function := by rw [← hcenv]; exact hkind
  have cG : cenv.globals = mainGlobals := by rw [← hcenv]; exact F.glob
  have cB : cenv.builtins = builtinsNs := by rw [← hcenv]; exact F.blt
  -- what the captured names are
  have hcap : ∀ n v, lk n cv = some v → ∃ y v' c, C.tab[n]? = some y ∧ ((relN scope.names names).lookup y = some .cell ∨ (relN scope.names names).lookup y = some .free) ∧ cenv.cells.lookup y = some c ∧ s.heap.IsCell c (some v') ∧ VRel W ρ s.heap v v' := fun n v e => by
    obtain ⟨hn, e'⟩ := capV_lk hcv e
    obtain ⟨y, v', e1, e2, e3⟩ := F.vars n v e'
    obtain ⟨y', f1, f2, f3, f4, f5⟩ := hN.cap n hn
    rw [e1] at f1; cases f1
    rcases e2 with ⟨g1, _⟩ | ⟨_, c, g2, g3⟩
    · rcases f5 with f5 | f5 <;> rw [g1] at f5 <;> cases f5
    · refine ⟨y, v', c, e1, f4, ?_, g3, e3⟩
      rw [cC, List.lookup_append, lookup_none_of (fun c' hc' => f3 (cellsFrom_names _ _ _ _ hc'))]
      exact clos_lookup _ _ _ _ g2 (.inr f2)
  -- the loop
  have loop : ∀ (tk : Nat), codeAny (model C.prog C.w) A (.compLoop (.ListComp elt [⟨.Name x px, iter, ifs, 0⟩] scope pos) 0 (.ref I) (.ref h₂.objs.size) cenv) (RR (.ref h₂.objs.size) H3.objs.size) { s with heap := H4, toks := tk } := by
    intro tk₀
    refine codeAny_compLoop_tests
      (CInv s xs ys ct (fun b => evP C.F pelt ((nx, b) :: cv) σ) W' ρ h₂.objs.size H3.objs.size (cellsFrom (H3.objs.size + 1) scope.names []) St)
      ?_ (xs.length + 1) (.mk H4 tk₀ 0 [] ys [] _ (by omega) (Nat.zero_le _) (by simpa using hys) rfl (Nat.le_refl _) (fun b o e => keep4 _ _ (keep3 _ _ (keep₂ _ _ e)))
        (S.walks.frame _ _ _ S.st (fun b _ o e => keep4 _ _ (keep3 _ _ e))) ⟨_, keep4 _ _ accD⟩ .nil nsL fun y c h => ⟨_, (okC.empty y c h).1⟩)
    intro k s' inv
    obtain ⟨h, tk, i, out, rest, us, m, rfl, hi, hrest, hout, hus, hold, hst, hD, hr, hns, hcl⟩ := inv
    have hcne : ∀ y c, (y, c) ∈ cellsFrom (H3.objs.size + 1) scope.names [] → c ≠ I ∧ c ≠ h₂.objs.size ∧ c ≠ H3.objs.size := fun y c hc => by
      have h4 := cellGe y c hc
      have h5 : h₂.objs.size < c := by rw [sz3] at h4; omega
      exact ⟨fun e => Nat.lt_asymm IL (e ▸ h5), Nat.ne_of_gt h5, Nat.ne_of_gt h4⟩
    by_cases hlt : i < xs.length
    · refine S.walks.item i _ _ _ hlt hst fun v h₅ tk₅ hPv hst₅ keep₅ => ?_
      -- the item bound
      have hxi : xs[i]? = some xs[i] := by simp [hlt]
      have rv := S.item i v _ hPv hxi
      have old₅ : ∀ b o, s.heap.get? b = some o → h₅.get? b = some o := fun b o e => keep₅ b o (fun hm => by rw [List.mem_singleton.mp hm, S.fresh] at e; cases e) (hold b o e)
      have notI : ∀ {b : Addr}, b ≠ I → b ∉ [I] := fun hb hm => hb (List.mem_singleton.mp hm)
      have hns₅ : h₅.Ns H3.objs.size m := hns.at' fun o e => keep₅ _ o (notI (Ne.symm hILo)) e
      have hD₅ : h₅.PlainList h₂.objs.size (List.toArray us) := hD.at fun o e => keep₅ _ o (notI (Ne.symm hID)) e
      have hcl₅ : ∀ y c, (y, c) ∈ cellsFrom (H3.objs.size + 1) scope.names [] → ∃ v, h₅.IsCell c v := fun y c hc => let ⟨v, o, e, d⟩ := hcl y c hc; ⟨v, o, keep₅ _ o (notI (hcne y c hc).1) e, d⟩
      -- after the binding
      have after : ∀ (h₆ : Heap) (tk₆ : Nat), (∀ b o, b ≠ H3.objs.size → (∀ c, cenv.cells.lookup x = some c → (x, NameKind.cell) ∈ scope.names → b ≠ c) → h₅.get? b = some o → h₆.get? b = some o) → Loads cenv (relN scope.names names) h₆ x v → (∃ m, h₆.Ns H3.objs.size m) →
          (∀ y c, (y, c) ∈ cellsFrom (H3.objs.size + 1) scope.names [] → ∃ v, h₆.IsCell c v) →
          wpAny (model C.prog C.w) A (testsOf ifs cenv) (fun ok s₃ =>
            if ok = true then wpAny (model C.prog C.w) A (eval elt cenv) (fun x s₄ =>
              wpAny (model C.prog C.w) A (call (.builtin "list.append") [.ref h₂.objs.size, x]) (fun _ s₅ => ∃ m, m < xs.length + 1 - i ∧ CInv s xs ys ct (fun b => evP C.F pelt ((nx, b) :: cv) σ) W' ρ h₂.objs.size H3.objs.size (cellsFrom (H3.objs.size + 1) scope.names []) St m s₅)
                (notedBy (model C.prog C.w) A cenv fun e s' => RR (.ref h₂.objs.size) H3.objs.size (.error e) s') s₄) (notedBy (model C.prog C.w) A cenv fun e s' => RR (.ref h₂.objs.size) H3.objs.size (.error e) s') s₃
            else ∃ m, m < xs.length + 1 - i ∧ CInv s xs ys ct (fun b => evP C.F pelt ((nx, b) :: cv) σ) W' ρ h₂.objs.size H3.objs.size (cellsFrom (H3.objs.size + 1) scope.names []) St m s₃)
          (notedBy (model C.prog C.w) A cenv fun e s' => RR (.ref h₂.objs.size) H3.objs.size (.error e) s') { s with heap := h₆, toks := tk₆ } := by
        intro h₆ tk₆ keep₆ lx hns₆ hcl₆
        have xcell : ∀ c, cenv.cells.lookup x = some c → (x, NameKind.cell) ∈ scope.names → (x, c) ∈ cellsFrom (H3.objs.size + 1) scope.names [] := fun c hc hm => by
          obtain ⟨c', hc'⟩ := cellsFrom_has scope.names (H3.objs.size + 1) x hm
          rw [cC, List.lookup_append, hc'] at hc
          cases hc
          exact mem_of_lookup hc'
        have neC : ∀ b, (b < h₂.objs.size ∨ b = h₂.objs.size) → (b ≠ H3.objs.size ∧ ∀ c, cenv.cells.lookup x = some c → (x, NameKind.cell) ∈ scope.names → b ≠ c) := fun b hb => by
          refine ⟨by rw [sz3]; omega, fun c hc hm => ?_⟩
          have := cellGe x c (xcell c hc hm)
          rw [sz3] at this
          omega
        have old₆ : ∀ b o, s.heap.get? b = some o → h₆.get? b = some o := fun b o e => keep₆ b o (neC b (.inl (old b o e))).1 (neC b (.inl (old b o e))).2 (old₅ b o e)
        have hst₆ : St (i + 1) h₆ := S.walks.frame _ _ _ hst₅ fun b hb o e => by
          rcases S.fpOk b hb with rfl | ⟨_, o', e'⟩
          · exact keep₆ _ o (neC _ (.inl IL)).1 (neC _ (.inl IL)).2 e
          · exact keep₆ b o (neC b (.inl (old b o' e'))).1 (neC b (.inl (old b o' e'))).2 e
        have hD₆ : h₆.PlainList h₂.objs.size (List.toArray us) := hD₅.at fun o e => keep₆ _ o (neC _ (.inr rfl)).1 (neC _ (.inr rfl)).2 e
        have dom₆ : ∀ b, W' b → ∃ o, h₆.get? b = some o := fun b hb => by
          rcases hb with hb | rfl | rfl | rfl | ⟨y, hb⟩
          · obtain ⟨o, e⟩ := H.dom b hb; exact ⟨o, old₆ _ _ e⟩
          · exact S.stands _ _ hst₆
          · obtain ⟨n, e⟩ := hD₆; exact ⟨_, e⟩
          · obtain ⟨m, o, _, _, e, _⟩ := hns₆; exact ⟨o, e⟩
          · obtain ⟨v, o, e, _⟩ := hcl₆ y b hb; exact ⟨o, e⟩
        have H₆ : Rel C.prog C.w C.h₁ K W₀ W' ρ σ h₆ := H.widen old₆ hW1 hW2 dom₆
        have m₆ : Mono W W' ρ ρ s.heap h₆ := mono_widen old₆ hW2
        have hr₆ : VRels W' ρ h₆ out us := by
          refine hr.mono ⟨fun b o e hw => ?_, fun _ _ _ x => x, List.prefix_refl _⟩
          refine keep₆ b o (fun q => hw (.inr (.inr (.inr (.inl q))))) (fun c hc hm q => hw (.inr (.inr (.inr (.inr ⟨x, q ▸ xcell c hc hm⟩))))) (keep₅ b o (fun q => hw (.inr (.inl (List.mem_singleton.mp q)))) e)
        have F₆ : Frm C.tab (relN scope.names names) cenv W' ρ ((nx, xs[i]) :: cv) h₆ := by
          refine ⟨cF, cK, cG, cB, fun n u e => ?_⟩
          simp only [lk] at e
          split at e
          · rename_i hn
            subst hn
            cases e
            exact ⟨x, v, hN.tabx, lx, rv.mono m₆⟩
          · obtain ⟨y, v', c, e1, e2, e3, ⟨o, e4, e5⟩, e6⟩ := hcap n u e
            exact ⟨y, v', e1, .inr ⟨e2, c, e3, o, old₆ _ _ e4, e5⟩, e6.mono m₆⟩
        -- the rest of the list
        have hdrop : xs.drop i = xs[i] :: xs.drop (i + 1) := List.drop_eq_getElem_cons hlt
        rw [hdrop] at hrest
        simp only [mapIf] at hrest
        split at hrest
        · rename_i hb
          split at hrest
          · rename_i u hu
            split at hrest
            · rename_i rest' hrest'
              cases hrest
              refine hct W' cenv _ _ true H₆ F₆ hb _ _ fun s₇ k₇ => ?_
              obtain ⟨h₇, tk₇, keep₇⟩ := k₇
              rw [if_pos rfl]
              refine helt A cenv K W₀ W' ρ _ σ _ hA (H₆.grow keep₇) (F₆.up keep₇) u hu _ _ fun y s₈ k₈ ry => ?_
              obtain ⟨h₈, tk₈, keep₈⟩ := k₈
              have keep68 : ∀ b o, h₆.get? b = some o → h₈.get? b = some o := fun b o e => keep₈ b o (keep₇ b o e)
              refine wpAny_list_append_plain (hsz := by rw [List.size_toArray]; have := S.size; omega) (hD₆.at fun o e => keep68 _ o e) fun h₉ hD₉ hs₉ => ?_
              have keep₉ : ∀ b o, b ≠ h₂.objs.size → h₈.get? b = some o → h₉.get? b = some o := fun b o hb e => hs₉.extBut b o hb e
              refine ⟨xs.length + 1 - (i + 1), by omega, .mk h₉ tk₈ (i + 1) (out ++ [u]) rest' (us ++ [y]) hns₆.choose rfl hlt hrest' (by rw [hout]; simp) (by simp; omega) (fun b o e => ?_) ?_ ?_ ?_ ?_ ?_⟩
              · exact keep₉ b o (Nat.ne_of_lt (old b o e)) (keep68 b o (old₆ b o e))
              · refine S.walks.frame _ _ _ hst₆ fun b hb o e => keep₉ b o ?_ (keep68 b o e)
                rcases S.fpOk b hb with rfl | ⟨_, o', e'⟩
                · exact hID
                · exact Nat.ne_of_lt (old b o' e')
              · simpa using hD₉
              · have mm : Mono W' W' ρ ρ h₈ h₉ := ⟨fun b o e hw => keep₉ b o (fun q => hw (.inr (.inr (.inl q)))) e, fun _ _ _ x => x, List.prefix_refl _⟩
                exact (((hr₆.up keep68).mono mm).snoc (ry.mono mm))
              · exact (hns₆.choose_spec.keeps keep68).at' fun o e => keep₉ _ o (Ne.symm hDL) e
              · exact fun y c hc => let ⟨v, o, e, d⟩ := hcl₆ y c hc; ⟨v, o, keep₉ _ o (hcne y c hc).2.1 (keep68 _ _ e), d⟩
            · cases hrest
          · cases hrest
        · rename_i hb
          refine hct W' cenv _ _ false H₆ F₆ hb _ _ fun s₇ k₇ => ?_
          obtain ⟨h₇, tk₇, keep₇⟩ := k₇
          rw [if_neg Bool.false_ne_true]
          refine ⟨xs.length + 1 - (i + 1), by omega, .mk h₇ tk₇ (i + 1) out rest us hns₆.choose rfl hlt hrest hout (by omega) (fun b o e => keep₇ b o (old₆ b o e)) ?_ ?_ ?_ ?_ ?_⟩
          · exact S.walks.frame _ _ _ hst₆ fun b hb o e => keep₇ b o e
          · exact hD₆.at fun o e => keep₇ _ o e
          · exact hr₆.up keep₇
          · exact hns₆.choose_spec.keeps keep₇
          · exact fun y c hc => let ⟨v, o, e, d⟩ := hcl₆ y c hc; ⟨v, o, keep₇ _ o e, d⟩
        · cases hrest
      dsimp only
      rcases hN.kx with kx | ⟨kx, kx'⟩
      · refine wpAny_assign_Name (wpAny_storeName_local ((cK x).trans kx) (m := m) (by rw [cL]; exact hns₅) (fun h₆ hn₆ hs₆ => ?_) (by rw [cF]; rfl))
        rw [cL] at hn₆ hs₆
        refine after h₆ _ (fun b o hb _ e => hs₆.extBut b o hb e) (.inl ⟨kx, _, by rw [cL]; exact hn₆, by simp⟩) ⟨_, hn₆⟩ fun y c hc => ?_
        obtain ⟨v, o, e, d⟩ := hcl₅ y c hc
        exact ⟨v, o, hs₆.extBut c o (hcne y c hc).2.2 e, d⟩
      · obtain ⟨c, hc⟩ := cellsFrom_has scope.names (H3.objs.size + 1) x kx
        have hcx : cenv.cells.lookup x = some c := by rw [cC, List.lookup_append, hc]; rfl
        have hmem := mem_of_lookup hc
        obtain ⟨v₀, hcell⟩ := hcl₅ x c hmem
        refine wpAny_assign_Name (wpAny_storeName_cell cF ((cK x).trans kx') hcx hcell fun h₆ hc₆ hs₆ => ?_)
        refine after h₆ _ (fun b o _ hb e => hs₆.extBut b o (hb c hcx kx) e) (.inr ⟨.inl kx', c, hcx, hc₆⟩) ⟨m, hns₅.sameBut hs₆ (Ne.symm (hcne x c hmem).2.2)⟩ fun y c' hc' => ?_
        by_cases hq : c' = c
        · subst hq; exact ⟨_, hc₆⟩
        · obtain ⟨v, o, e, d⟩ := hcl₅ y c' hc'
          exact ⟨v, o, hs₆.extBut c' o hq e, d⟩
    · have hin : i = xs.length := by omega
      subst hin
      refine S.walks.done _ _ _ hst fun h₅ tk₅ keep₅ => ?_
      have notI : ∀ {b : Addr}, b ≠ I → b ∉ [I] := fun hb hm => hb (List.mem_singleton.mp hm)
      have hrest0 : rest = [] := by
        rw [List.drop_length] at hrest; simpa [mapIf] using hrest.symm
      subst hrest0
      rw [List.append_nil] at hout
      subst hout
      refine hRR _ _ W' h₅ tk₅ us m (fun b o e => keep₅ b o (fun hm => by rw [List.mem_singleton.mp hm, S.fresh] at e; cases e) (hold b o e)) (freshGe _ (Nat.le_refl _)) (freshGe _ (by rw [sz3]; exact Nat.le_succ _)) hDL hW1 hW2
        (.inr (.inr (.inr (.inl rfl)))) (hD.at fun o e => keep₅ _ o (notI (Ne.symm hID)) e) (Nat.le_trans hus S.size) ?_ (hns.at' fun o e => keep₅ _ o (notI (Ne.symm hILo)) e)
      exact hr.mono ⟨fun b o e hw => keep₅ b o (notI fun q => hw (.inr (.inl q))) e, fun _ _ _ x => x, List.prefix_refl _⟩
  exact codeAny_compStart_list (loop _) (S.walks.self 0 _ _ _ (S.walks.frame _ _ _ S.st (fun b _ o e => keep4 _ _ (keep3 _ _ e))) (loop _))
end
end Mine
end

section
open PySem PySem.Calls PyProof.Rows PySem.W
set_option linter.unusedVariables false
namespace Mine

section
variable {prog : Program} {w : World} {A : Around} {E : Value → Shared → Prop} {s : Shared}
theorem iterCall_ok {l : Addr} {items : Array Value} {Q : Value → Shared → Prop} (hl : s.heap.IsList l items)
    (hQ : Q (.ref s.heap.objs.size) { s with heap := s.heap.push { cls := .type "list_iterator", data := .fields #[.ref l, .int 0 0] } }) :
    wpAny (model prog w) A (call (.builtin "iter") [.ref l]) Q E s := by
  refine call_function_entry (by decide +kernel) (by decide +kernel) kdk_entry_iter (kdk_args_iter _) ?_
  unfold Builtin.«iter»
  refine wpAny_bind (m := someArgs "iter" 1 2 _) (wpAny_of_eq (a := [Value.ref l]) (by first | rfl | kernel_rfl!) ?_)
  show wpAny _ _ (pyIter (.ref l) >>= _) _ _ _
  exact wpAny_bind (wpAny_pyIter_list hl (wpAny_pure ⟨_, rfl, hQ⟩))

theorem nextCall_ok {it l : Addr} {i : Nat} {items : Array Value} {x : Value} {Q : Value → Shared → Prop} (hit : s.heap.IsListIter it l i) (hl : s.heap.IsList l items) (hx : items[i]? = some x)
    (hQ : ∀ h', h'.IsListIter it l (i + 1) → Heap.SameBut it s.heap h' → Q x { s with heap := h' }) :
    wpAny (model prog w) A (call (.builtin "next") [.ref it]) Q E s := by
  obtain ⟨o, ho, hc, hd⟩ := id hit
  obtain ⟨ol, hol, _, nl, hdl⟩ := hl
  refine call_function_entry (by decide +kernel) (by decide +kernel) kdk_entry_next (kdk_args_next _) ?_
  unfold Builtin.«next»
  refine wpAny_bind (m := someArgs "next" 1 2 _) (wpAny_of_eq (a := [Value.ref it]) (by first | rfl | kernel_rfl!) ?_)
  dsimp only
  refine wpAny_bind (wpAny_specialOf (name := Str.ofString "__next__") hit.typeIs slot_listiter_next.lookup ?_)
  refine wpAny_ite_split (fun hab => absurd hab (by decide)) (fun _ => ?_)
  refine wpAny_bind (wpAny_callSpecial?_slot (name := Str.ofString "__next__") hit.typeIs slot_listiter_next
    (wpAny_call_entry slot_listiter_next hit.typeIs entry_listiter_next ?_ (args_listiter_next _)))
  show wpAny _ _ (field (.ref it) 0 >>= _) _ _ s
  refine wpAny_bind (wpAny_field ho hd (x := .ref l) rfl ?_)
  show wpAny _ _ (if (Value.ref l == Value.none) = true then _ else _) _ _ s
  rw [if_neg (show ¬ ((Value.ref l == Value.none) = true) from Bool.false_ne_true)]
  show wpAny _ _ (field (.ref it) 1 >>= _) _ _ s
  refine wpAny_bind (wpAny_field ho hd (x := .int i 0) rfl ?_)
  show wpAny _ _ (seqItems? (.ref l) >>= _) _ _ s
  refine wpAny_bind (wpAny_seqItems hol hdl ?_)
  simp only [Int.toNat_natCast, hx]
  refine wpAny_bind (wpAny_setField ho hd (by simp) (wpAny_pure ⟨x, rfl, wpAny_pure ⟨_, rfl, hQ _ ?_ (Heap.SameBut.update ..)⟩⟩))
  exact ⟨_, Heap.get?_update_self _ ho (Obj.isFreed_of_fields (Obj.data_mapFields hd _)), (Obj.cls_mapFields ..).trans hc, by
    rw [Obj.data_mapFields hd]; simp [rawInt]⟩
end

section
variable {C : Cx} {names : List (Str × NameKind)}

theorem frees_have {env : Env} {W : Addr → Prop} {ρ : List Addr} {vs cv : Vars} {h : Heap} {ns : List (Str × NameKind)} {x : Str} {nx : Nat} {caps : List Nat} (F : Frm C.tab names env W ρ vs h) (hN : CompNames C.tab ns names x nx caps) (hcv : capV caps vs = some cv) :
    ∀ y ∈ ns, y.2 = .free → (env.cells.lookup y.1).isSome = true := fun y hy hf => by
  obtain ⟨n, hn, ht⟩ := hN.free y hy hf
  obtain ⟨v, hv⟩ := capV_has hcv hn
  obtain ⟨y', v', e1, e2, e3⟩ := F.vars n v hv
  rw [ht] at e1; cases e1
  obtain ⟨y', f1, _, _, _, f5⟩ := hN.cap n hn
  rw [ht] at f1; cases f1
  rcases e2 with ⟨g1, _⟩ | ⟨_, c, g2, _⟩
  · rcases f5 with f5 | f5 <;> rw [g1] at f5 <;> cases f5
  · rw [g2]; rfl

/-- what a list comprehension gives -/
theorem comp_ev {A : Around} {env : Env} {K : Addr → Obj → Prop} {W₀ W : Addr → Prop} {ρ : List Addr} {vs : Vars} {σ : Hp} {s : Shared} {E : Value → Shared → Prop} (hA : AOk C.k A) (H : Rel C.prog C.w C.h₁ K W₀ W ρ σ s.heap)
    (F : Frm C.tab names env W ρ vs s.heap) {elt iter : Expr} {x : Str} {px pos : Pos} {ifs : List Expr} {scope : Scope} {nx : Nat} {caps : List Nat} {cv : Vars} {pit pelt : PE} {ct : AV → Option Bool} {a : AV} {xs ys : List AV}
    (hkind : scope.kind = .function) (hN : CompNames C.tab scope.names names x nx caps) (hcv : capV caps vs = some cv) (hit : EvOK C names iter pit) (hfs : ∀ env x, foldedSetIterable iter env x = pure x) (ea : evP C.F pit vs σ = some a) (ex : iterA σ a = some xs)
    (hct : ∀ (W' : Addr → Prop) (cenv : Env) (s' : Shared) (b : AV) (t : Bool), Rel C.prog C.w C.h₁ K W₀ W' ρ σ s'.heap → Frm C.tab (relN scope.names names) cenv W' ρ ((nx, b) :: cv) s'.heap → ct b = some t →
      ∀ (Q : Bool → Shared → Prop) (E : Value → Shared → Prop), (∀ s'', Keeps s' s'' → Q t s'') → wpAny (model C.prog C.w) A (testsOf ifs cenv) Q E s')
    (helt : EvOK C (relN scope.names names) elt pelt) (hys : mapIf ct (fun b => evP C.F pelt ((nx, b) :: cv) σ) xs = some ys)
    (use : Option (Value → Sem Unit)) {Q : Value → Shared → Prop}
    (q : ∀ (D L : Addr) (W' : Addr → Prop) (h : Heap) (tk : Nat) (us : List Value) (m : Str → Option Value), (∀ b o, s.heap.get? b = some o → h.get? b = some o) → s.heap.get? D = none → s.heap.get? L = none → D ≠ L →
      (∀ a, W a → W' a) → (∀ a, W' a → ¬ W a → s.heap.get? a = none) → W' L → h.PlainList D us.toArray → us.length ≤ sizeLine → VRels W' ρ h ys us → h.Ns L m → compPost (model C.prog C.w) A E use Q (.ref D) L (.ok .next) { s with heap := h, toks := tk }) :
    wpAny (model C.prog C.w) A (comprehension (.ListComp elt [⟨.Name x px, iter, ifs, 0⟩] scope pos) scope env (firstIterPos [⟨.Name x px, iter, ifs, 0⟩] pos) (newList []) false (eval iter env) use) Q E s := by
  refine wpAny_comprehension_free (e := .ListComp elt [⟨.Name x px, iter, ifs, 0⟩] scope pos) (use := use) rfl (fun v => hfs env v) (closureFor_eq (frees_have F hN hcv)) hkind hN.locs ?_
  refine hit A env K W₀ W ρ vs σ s hA H F a ea _ _ fun va s₁ k₁ r₁ => ?_
  have H₁ := H.grow (keeps_heap k₁)
  have F₁ := F.up (keeps_heap k₁)
  refine comp_core (RR := fun acc L => compPost (model C.prog C.w) A E use Q acc L) hA H₁ F₁ hkind hN hcv r₁ ex hct helt hys ?_
  intro D L W' h tk us m keep hD hL hDL hW1 hW2 hWL hp hz r hn
  have kh := keeps_heap k₁
  obtain ⟨h₁', t₁, _⟩ := id k₁
  have none_of : ∀ b, h₁'.get? b = none → s.heap.get? b = none := fun b hb => by
    cases e : s.heap.get? b with
    | none => rfl
    | some o => have := kh b o e; rw [hb] at this; cases this
  exact q D L W' h tk us m (fun b o e => keep b o (kh b o e)) (none_of D hD) (none_of L hL) hDL hW1 (fun a h1 h2 => none_of a (hW2 a h1 h2)) hWL hp hz r hn

theorem comp_val {W W' : Addr → Prop} {ρ : List Addr} {s : Shared} {ys : List AV} {us : List Value} {D L : Addr} {h h' : Heap} (dom : ∀ a, W a → ∃ o, s.heap.get? a = some o) (hD : s.heap.get? D = none) (hDL : D ≠ L)
    (hW1 : ∀ a, W a → W' a) (hWL : W' L) (hp : h.PlainList D us.toArray) (hz : us.length ≤ sizeLine) (r : VRels W' ρ h ys us) (hs : ∀ b o, ¬ W' b ∨ b = D → h.get? b = some o → h'.get? b = some o) : VRel W ρ h' (.lst ys) (.ref D) :=
  .lst (fun q => by obtain ⟨o, e⟩ := dom D q; rw [hD] at e; cases e) (hp.at fun o e => hs D o (.inr rfl) e) hz
    (r.mono ⟨fun b o e hw => hs b o (.inl hw) e, fun b o e hw q => hw (hW1 b q), List.prefix_refl _⟩)

theorem comp_end {A : Around} {E : Value → Shared → Prop} {W W' : Addr → Prop} {ρ : List Addr} {s : Shared} {Q : Value → Shared → Prop} {ys : List AV} {us : List Value} {D L : Addr} {h : Heap} {tk : Nat} {m : Str → Option Value}
    (dom : ∀ a, W a → ∃ o, s.heap.get? a = some o) (keep : ∀ b o, s.heap.get? b = some o → h.get? b = some o) (hD : s.heap.get? D = none) (hL : s.heap.get? L = none) (hDL : D ≠ L)
    (hW1 : ∀ a, W a → W' a) (hWL : W' L) (hp : h.PlainList D us.toArray) (hz : us.length ≤ sizeLine) (r : VRels W' ρ h ys us) (hn : h.Ns L m)
    (q : ∀ v' s', Keeps s s' → VRel W ρ s'.heap (.lst ys) v' → Q v' s') : compPost (model C.prog C.w) A E none Q (.ref D) L (.ok .next) { s with heap := h, toks := tk } :=
  ⟨m, hn, fun h' hs => q _ _ ⟨h', tk, fun b o e => hs.extBut b o (fun q => by rw [q, hL] at e; cases e) (keep b o e)⟩
    (comp_val dom hD hDL hW1 hWL hp hz r fun b o hb e => hs.extBut b o (hb.elim (fun hb q => hb (q ▸ hWL)) fun hb => hb ▸ hDL) e)⟩

theorem tests0 {A : Around} {cenv : Env} {s : Shared} {Q : Bool → Shared → Prop} {E : Value → Shared → Prop} (q : Q true s) : wpAny (model C.prog C.w) A (testsOf [] cenv) Q E s := wpAny_tests_nil q
theorem tests1 {A : Around} {cenv : Env} {s : Shared} {c : Expr} {Q : Bool → Shared → Prop} {E : Value → Shared → Prop} (q : wpAny (model C.prog C.w) A (isTrue c cenv (eval c cenv)) Q E s) : wpAny (model C.prog C.w) A (testsOf [c] cenv) Q E s := wpAny_tests_one q

theorem evP_comp {F : Fns} {vs : Vars} {σ : Hp} {nx : Nat} {caps : List Nat} {pit pelt : PE} {v : AV} (e : evP F (.comp nx caps pit pelt) vs σ = some v) :
    ∃ a xs cv ys, evP F pit vs σ = some a ∧ iterA σ a = some xs ∧ capV caps vs = some cv ∧ mapIf (fun _ => some true) (fun b => evP F pelt ((nx, b) :: cv) σ) xs = some ys ∧ v = .lst ys := by
  obtain ⟨a, e1, e⟩ := bind_inv e
  obtain ⟨xs, e2, e⟩ := bind_inv e
  obtain ⟨cv, e3, e⟩ := bind_inv e
  obtain ⟨ys, e4, e⟩ := bind_inv e
  exact ⟨a, xs, cv, ys, e1, e2, e3, mapO_mapIf.symm.trans e4, (Option.some.inj e).symm⟩
theorem evP_compIf {F : Fns} {vs : Vars} {σ : Hp} {nx : Nat} {caps : List Nat} {pit pc pelt : PE} {v : AV} (e : evP F (.compIf nx caps pit pc pelt) vs σ = some v) :
    ∃ a xs cv ys, evP F pit vs σ = some a ∧ iterA σ a = some xs ∧ capV caps vs = some cv ∧ mapIf (fun b => otru (evP F pc ((nx, b) :: cv) σ)) (fun b => evP F pelt ((nx, b) :: cv) σ) xs = some ys ∧ v = .lst ys := by
  obtain ⟨a, e1, e⟩ := bind_inv e
  obtain ⟨xs, e2, e⟩ := bind_inv e
  obtain ⟨cv, e3, e⟩ := bind_inv e
  obtain ⟨ys, e4, e⟩ := bind_inv e
  exact ⟨a, xs, cv, ys, e1, e2, e3, e4, (Option.some.inj e).symm⟩

theorem EvOK.comp {elt iter : Expr} {x : Str} {px pos : Pos} {scope : Scope} {nx : Nat} {caps : List Nat} {pit pelt : PE} (hN : CompNames C.tab scope.names names x nx caps) (hit : EvOK C names iter pit) (helt : EvOK C (relN scope.names names) elt pelt)
    (hkind : scope.kind = .function := by rfl) (hfs : ∀ env x, foldedSetIterable iter env x = pure x := by intro _ _; exact fsi_ok rfl) : EvOK C names (.ListComp elt [⟨.Name x px, iter, [], 0⟩] scope pos) (.comp nx caps pit pelt) := by
  intro A env K W₀ W ρ vs σ s hA H F v e Q E q
  obtain ⟨a, xs, cv, ys, ea, exs, hcv, hys, rfl⟩ := evP_comp e
  rw [eval_ListComp]
  refine comp_ev hA H F hkind hN hcv hit hfs ea exs (ct := fun _ => some true) (fun W' cenv s' b t _ _ et Q E q => ?_) helt hys none fun D L W' h tk us m keep hD hL hDL hW1 hW2 hWL hp hz r hn => comp_end H.dom keep hD hL hDL hW1 hWL hp hz r hn q
  cases et
  exact tests0 (q _ (keeps_refl _))
theorem EvOK.compIf {elt iter c : Expr} {x : Str} {px pos : Pos} {scope : Scope} {nx : Nat} {caps : List Nat} {pit pc pelt : PE} (hN : CompNames C.tab scope.names names x nx caps) (hit : EvOK C names iter pit) (hc : TrOK C (relN scope.names names) c pc) (helt : EvOK C (relN scope.names names) elt pelt)
    (hkind : scope.kind = .function := by rfl) (hfs : ∀ env x, foldedSetIterable iter env x = pure x := by intro _ _; exact fsi_ok rfl) : EvOK C names (.ListComp elt [⟨.Name x px, iter, [c], 0⟩] scope pos) (.compIf nx caps pit pc pelt) := by
  intro A env K W₀ W ρ vs σ s hA H F v e Q E q
  obtain ⟨a, xs, cv, ys, ea, exs, hcv, hys, rfl⟩ := evP_compIf e
  rw [eval_ListComp]
  refine comp_ev hA H F hkind hN hcv hit hfs ea exs (ct := fun b => otru (evP C.F pc ((nx, b) :: cv) σ)) (fun W' cenv s' b t HR FR et Q E q => ?_) helt hys none fun D L W' h tk us m keep hD hL hDL hW1 hW2 hWL hp hz r hn => comp_end H.dom keep hD hL hDL hW1 hWL hp hz r hn q
  exact tests1 (hc A cenv K W₀ W' ρ _ σ s' hA HR FR t et _ _ fun s'' k => q _ k)
end
end Mine
end

section
open PySem PySem.Calls PyProof.Rows PySem.W
set_option linter.unusedVariables false
namespace Mine

theorem lk_setVar (n m : Nat) (v : AV) : ∀ vs : Vars, lk n (setVar m v vs) = if n = m then some v else lk n vs
  | [] => by simp [setVar, lk]
  | (y, u) :: r => by
    simp only [setVar]
    split
    · rename_i h
      subst h
      simp only [lk]
      split <;> rfl
    · rename_i h
      simp only [lk, lk_setVar n m v r]
      split
      · rename_i h'
        subst h'
        rw [if_neg (fun e => h e.symm)]
      · rfl

structure FSt (C : Cx) (names : List (Str × NameKind)) (env : Env) (K : Addr → Obj → Prop) (W₀ W : Addr → Prop) (ρ : List Addr) (vs : Vars) (σ : Hp) (h : Heap) : Prop where
  rel : Rel C.prog C.w C.h₁ K W₀ W ρ σ h
  frm : Frm C.tab names env W ρ vs h
  ownL : W env.locals ∧ (∀ o, ¬ K env.locals o) ∧ env.locals ∉ ρ
  ns : ∃ m, h.Ns env.locals m
  cells : ∀ x, names.lookup x = some .cell → ∃ c, env.cells.lookup x = some c ∧ (∃ v, h.IsCell c v) ∧ W c ∧ (∀ o, ¬ K c o) ∧ c ∉ ρ ∧ c ≠ env.locals
  apart : ∀ x y c, names.lookup x = some .cell → names.lookup y = some .cell → env.cells.lookup x = some c → env.cells.lookup y = some c → x = y
  nofree : ∀ x, names.lookup x ≠ some .free
  inj : ∀ (i j : Nat) (x : Str), C.tab[i]? = some x → C.tab[j]? = some x → i = j

inductive FlRel (W : Addr → Prop) (ρ : List Addr) (h : Heap) : AFl → Flow → Prop
  | next : FlRel W ρ h .next .next
  | brk : FlRel W ρ h .brk .brk
  | ret {v : AV} {v' : Value} : VRel W ρ h v v' → FlRel W ρ h (.ret v) (.ret v')

/-- what a statement leaves -/
inductive Post (C : Cx) (names : List (Str × NameKind)) (env : Env) (K : Addr → Obj → Prop) (W₀ W : Addr → Prop) (ρ : List Addr) (s : Shared) (r : St) (f : Flow) : Shared → Prop
  | mk (W' : Addr → Prop) (ρ' : List Addr) (h' : Heap) (tk : Nat) : FSt C names env K W₀ W' ρ' r.2.1 r.2.2 h' → Mono W W' ρ ρ' s.heap h' → FlRel W' ρ' h' r.1 f → Post C names env K W₀ W ρ s r f { s with heap := h', toks := tk }

noncomputable def XOK (C : Cx) (names : List (Str × NameKind)) (st : Stmt) (p : PS) : Prop :=
  ∀ (A : Around) (env : Env) (K : Addr → Obj → Prop) (W₀ W : Addr → Prop) (ρ : List Addr) (vs : Vars) (σ : Hp) (s : Shared), AOk C.k A → FSt C names env K W₀ W ρ vs σ s.heap →
    ∀ r, exP C.F C.I p vs σ = some r → ∀ (Q : Flow → Shared → Prop) (E : Value → Shared → Prop), (∀ f s', Post C names env K W₀ W ρ s r f s' → Q f s') → wpAny (model C.prog C.w) A (exec st env) Q E s
noncomputable def XsOK (C : Cx) (names : List (Str × NameKind)) (ss : List Stmt) (p : PS) : Prop :=
  ∀ (A : Around) (env : Env) (K : Addr → Obj → Prop) (W₀ W : Addr → Prop) (ρ : List Addr) (vs : Vars) (σ : Hp) (s : Shared), AOk C.k A → FSt C names env K W₀ W ρ vs σ s.heap →
    ∀ r, exP C.F C.I p vs σ = some r → ∀ (Q : Flow → Shared → Prop) (E : Value → Shared → Prop), (∀ f s', Post C names env K W₀ W ρ s r f s' → Q f s') → wpAny (model C.prog C.w) A (execs ss env) Q E s

theorem Mono.refl {W : Addr → Prop} {ρ : List Addr} {h : Heap} : Mono W W ρ ρ h h := .keeps fun _ _ e => e

theorem Post.trans {C : Cx} {names : List (Str × NameKind)} {env : Env} {K : Addr → Obj → Prop} {W₀ W W' : Addr → Prop} {ρ ρ' : List Addr} {s : Shared} {h' : Heap} {tk : Nat} {r : St} {f : Flow} {s'' : Shared}
    (m : Mono W W' ρ ρ' s.heap h') (p : Post C names env K W₀ W' ρ' { s with heap := h', toks := tk } r f s'') : Post C names env K W₀ W ρ s r f s'' := by
  obtain ⟨W'', ρ'', h'', tk', F, m', fl⟩ := p
  exact .mk W'' ρ'' h'' tk' F (m.trans m') fl
theorem Post.elim {C : Cx} {names : List (Str × NameKind)} {env : Env} {K : Addr → Obj → Prop} {W₀ W : Addr → Prop} {ρ : List Addr} {s : Shared} {r : St} {f : Flow} {s' : Shared} (p : Post C names env K W₀ W ρ s r f s')
    {P : Shared → Prop} (h : ∀ W' ρ' h' tk, FSt C names env K W₀ W' ρ' r.2.1 r.2.2 h' → Mono W W' ρ ρ' s.heap h' → FlRel W' ρ' h' r.1 f → P { s with heap := h', toks := tk }) : P s' := by
  obtain ⟨W', ρ', h', tk, F, m, fl⟩ := p
  exact h W' ρ' h' tk F m fl

section
variable {C : Cx} {names : List (Str × NameKind)} {env : Env} {K : Addr → Obj → Prop} {W₀ W : Addr → Prop} {ρ : List Addr} {vs : Vars} {σ : Hp} {h h' : Heap}

theorem cell_keep {c : Addr} {v : Option Value} (x : h.IsCell c v) (k : ∀ o, h.get? c = some o → h'.get? c = some o) : h'.IsCell c v := let ⟨o, e, d⟩ := x; ⟨o, k o e, d⟩

theorem FSt.grow (F : FSt C names env K W₀ W ρ vs σ h) (k : ∀ b o, h.get? b = some o → h'.get? b = some o) : FSt C names env K W₀ W ρ vs σ h' :=
  ⟨F.rel.grow k, F.frm.up k, F.ownL, let ⟨m, n⟩ := F.ns; ⟨m, n.keeps k⟩, fun x e => let ⟨c, e1, ⟨v, e2⟩, r⟩ := F.cells x e; ⟨c, e1, ⟨v, cell_keep e2 fun o e => k _ _ e⟩, r⟩, F.apart, F.nofree, F.inj⟩

theorem FSt.alloc (F : FSt C names env K W₀ W ρ vs σ h) {a : Addr} {x : AObj} (k : ∀ b o, h.get? b = some o → h'.get? b = some o) (hn : h.get? a = none) (r : ORel C.prog C.w (Rel.with' W a) (ρ ++ [a]) x h' a) :
    FSt C names env K W₀ (Rel.with' W a) (ρ ++ [a]) vs (σ ++ [x]) h' := by
  have hL : env.locals ≠ a := fun q => by obtain ⟨m, o, _, _, e, _⟩ := F.ns; rw [q, hn] at e; cases e
  have m : Mono W (Rel.with' W a) ρ (ρ ++ [a]) h h' := Rel.mono_alloc hn k
  refine ⟨F.rel.alloc k hn r, ⟨F.frm.kind, F.frm.kinds, F.frm.glob, F.frm.blt, fun n v e => ?_⟩, ⟨.inl F.ownL.1, F.ownL.2.1, fun q => ?_⟩, let ⟨m, n⟩ := F.ns; ⟨m, n.keeps k⟩, fun x e => ?_, F.apart, F.nofree, F.inj⟩
  · obtain ⟨x, v', e1, e2, e3⟩ := F.frm.vars n v e
    exact ⟨x, v', e1, e2.at (fun o e => k _ _ e) (fun c o _ e => k _ _ e), e3.mono m⟩
  · rcases List.mem_append.mp q with q | q
    · exact F.ownL.2.2 q
    · exact hL (List.mem_singleton.mp q)
  · obtain ⟨c, e1, ⟨v, e2⟩, e3, e4, e5, e6⟩ := F.cells x e
    refine ⟨c, e1, ⟨v, cell_keep e2 fun o e => k _ _ e⟩, .inl e3, e4, fun q => ?_, e6⟩
    rcases List.mem_append.mp q with q | q
    · exact e5 q
    · obtain ⟨o, e, _⟩ := e2
      rw [List.mem_singleton.mp q, hn] at e; cases e

theorem FSt.put (F : FSt C names env K W₀ W ρ vs σ h) {i : Nat} {a : Addr} {x : AObj} (ea : ρ[i]? = some a) (k : ∀ b o, b ≠ a → h.get? b = some o → h'.get? b = some o) (r : ORel C.prog C.w W ρ x h' a) :
    FSt C names env K W₀ W ρ vs (σ.set i x) h' ∧ Mono W W ρ ρ h h' := by
  have ha := List.mem_of_getElem? ea
  have hw := F.rel.own a ha
  have m : Mono W W ρ ρ h h' := Rel.mono_but hw.1 k
  refine ⟨⟨F.rel.put ea k r, ⟨F.frm.kind, F.frm.kinds, F.frm.glob, F.frm.blt, fun n v e => ?_⟩, F.ownL, let ⟨m, n⟩ := F.ns; ⟨m, n.at' fun o e => k _ _ (fun q => F.ownL.2.2 (q ▸ ha)) e⟩, fun x e => ?_, F.apart, F.nofree, F.inj⟩, m⟩
  · obtain ⟨x, v', e1, e2, e3⟩ := F.frm.vars n v e
    refine ⟨x, v', e1, ?_, e3.mono m⟩
    rcases e2 with ⟨f1, m', f2, f3⟩ | ⟨f1, c, f2, f3⟩
    · exact .inl ⟨f1, m', f2.at' fun o e => k _ _ (fun q => F.ownL.2.2 (q ▸ ha)) e, f3⟩
    · rcases f1 with f1 | f1
      · obtain ⟨c', g1, _, _, _, g5, _⟩ := F.cells x f1
        rw [f2] at g1; cases g1
        exact .inr ⟨.inl f1, c, f2, cell_keep f3 fun o e => k _ _ (fun q => g5 (q ▸ ha)) e⟩
      · exact absurd f1 (F.nofree x)
  · obtain ⟨c, e1, ⟨v, e2⟩, e3, e4, e5, e6⟩ := F.cells x e
    exact ⟨c, e1, ⟨v, cell_keep e2 fun o e => k _ _ (fun q => e5 (q ▸ ha)) e⟩, e3, e4, e5, e6⟩

/-- a name is bound -/
theorem store_ok {A : Around} {s : Shared} {E : Value → Shared → Prop} (F : FSt C names env K W₀ W ρ vs σ s.heap) {n : Nat} {x : Str} {v : AV} {v' : Value} (ht : C.tab[n]? = some x) (hk : names.lookup x = some .local ∨ names.lookup x = some .cell)
    (r : VRel W ρ s.heap v v') {Q : Unit → Shared → Prop} (q : ∀ h' tk, FSt C names env K W₀ W ρ (setVar n v vs) σ h' → Mono W W ρ ρ s.heap h' → Q () { s with heap := h', toks := tk }) :
    wpAny (model C.prog C.w) A (storeName env x v') Q E s := by
  have vars : ∀ {h' : Heap}, Mono W W ρ ρ s.heap h' → Loads env names h' x v' → (∀ y u, y ≠ x → Loads env names s.heap y u → Loads env names h' y u) →
      ∀ m u, lk m (setVar n v vs) = some u → ∃ y v', C.tab[m]? = some y ∧ Loads env names h' y v' ∧ VRel W ρ h' u v' := fun {h'} mm lx ly m u e => by
    rw [lk_setVar] at e
    split at e
    · rename_i hm
      subst hm
      cases e
      exact ⟨x, v', ht, lx, r.mono mm⟩
    · rename_i hm
      obtain ⟨y, u', e1, e2, e3⟩ := F.frm.vars m u e
      exact ⟨y, u', e1, ly y u' (fun q => hm (F.inj _ _ _ (q ▸ e1) ht)) e2, e3.mono mm⟩
  rcases hk with hk | hk
  · obtain ⟨m, hn⟩ := F.ns
    refine wpAny_storeName_local ((F.frm.kinds x).trans hk) hn (fun h' hn' hs' => ?_) (by rw [F.frm.kind]; rfl)
    have k : ∀ b o, b ≠ env.locals → s.heap.get? b = some o → h'.get? b = some o := fun b o hb e => hs'.extBut b o hb e
    have mm : Mono W W ρ ρ s.heap h' := Rel.mono_but F.ownL.1 k
    refine q h' _ ⟨F.rel.but F.ownL.1 F.ownL.2.1 F.ownL.2.2 k (let ⟨o, _, _, e, _⟩ := hn'; ⟨o, e⟩), ⟨F.frm.kind, F.frm.kinds, F.frm.glob, F.frm.blt, vars mm (.inl ⟨hk, _, hn', by simp⟩) fun y u hy l => ?_⟩, F.ownL, ⟨_, hn'⟩, fun y e => ?_, F.apart, F.nofree, F.inj⟩ mm
    · rcases l with ⟨f1, m', f2, f3⟩ | ⟨f1, c, f2, f3⟩
      · refine .inl ⟨f1, _, hn', ?_⟩
        have : m y = m' y := by
          obtain ⟨o, es, ep, a1, a2, a3, a4⟩ := hn
          obtain ⟨o', es', ep', b1, b2, b3, b4⟩ := f2
          rw [a1] at b1; cases b1
          rw [a2] at b2; cases b2
          rw [← a4 y, ← b4 y]
        simp only [hy, if_false, this]
        exact f3
      · rcases f1 with f1 | f1
        · obtain ⟨c', g1, _, _, _, _, g6⟩ := F.cells y f1
          rw [f2] at g1; cases g1
          exact .inr ⟨.inl f1, c, f2, cell_keep f3 fun o e => k _ _ g6 e⟩
        · exact absurd f1 (F.nofree y)
    · obtain ⟨c, e1, ⟨v, e2⟩, e3, e4, e5, e6⟩ := F.cells y e
      exact ⟨c, e1, ⟨v, cell_keep e2 fun o e => k _ _ e6 e⟩, e3, e4, e5, e6⟩
  · obtain ⟨c, hc, ⟨v₀, hv⟩, hW, hK, hr, hL⟩ := F.cells x hk
    refine wpAny_storeName_cell F.frm.kind ((F.frm.kinds x).trans hk) hc hv fun h' hc' hs' => ?_
    have k : ∀ b o, b ≠ c → s.heap.get? b = some o → h'.get? b = some o := fun b o hb e => hs'.extBut b o hb e
    have mm : Mono W W ρ ρ s.heap h' := Rel.mono_but hW k
    have e0 : ({ s with heap := h', toks := s.toks } : Shared) = { s with heap := h' } := rfl
    rw [← e0]
    refine q h' _ ⟨F.rel.but hW hK hr k (let ⟨o, e, _⟩ := hc'; ⟨o, e⟩), ⟨F.frm.kind, F.frm.kinds, F.frm.glob, F.frm.blt, vars mm (.inr ⟨.inl hk, c, hc, hc'⟩) fun y u hy l => ?_⟩, F.ownL, let ⟨m, n⟩ := F.ns; ⟨m, n.at' fun o e => k _ _ (Ne.symm hL) e⟩, fun y e => ?_, F.apart, F.nofree, F.inj⟩ mm
    · rcases l with ⟨f1, m', f2, f3⟩ | ⟨f1, d, f2, f3⟩
      · exact .inl ⟨f1, m', f2.at' fun o e => k _ _ (Ne.symm hL) e, f3⟩
      · rcases f1 with f1 | f1
        · refine .inr ⟨.inl f1, d, f2, cell_keep f3 fun o e => k _ _ (fun q => hy ?_) e⟩
          subst q
          exact F.apart _ _ _ f1 hk f2 hc
        · exact absurd f1 (F.nofree y)
    · by_cases hy : y = x
      · subst hy
        exact ⟨c, hc, ⟨_, hc'⟩, hW, hK, hr, hL⟩
      · obtain ⟨d, e1, ⟨v, e2⟩, e3, e4, e5, e6⟩ := F.cells y e
        exact ⟨d, e1, ⟨v, cell_keep e2 fun o e' => k _ _ (fun q => hy (F.apart _ _ _ e hk (q ▸ e1) hc)) e'⟩, e3, e4, e5, e6⟩
end

section
variable {C : Cx} {names : List (Str × NameKind)} {A : Around} {env : Env} {K : Addr → Obj → Prop} {W₀ W : Addr → Prop} {ρ : List Addr} {vs : Vars} {σ : Hp} {s : Shared} {E : Value → Shared → Prop}
theorem EvOK.go {e : Expr} {p : PE} (h : EvOK C names e p) (hA : AOk C.k A) (H : Rel C.prog C.w C.h₁ K W₀ W ρ σ s.heap) (F : Frm C.tab names env W ρ vs s.heap) {v : AV} (ev : evP C.F p vs σ = some v) {Q : Value → Shared → Prop}
    (q : ∀ v' h' t, (∀ b o, s.heap.get? b = some o → h'.get? b = some o) → VRel W ρ h' v v' → Q v' { s with heap := h', toks := t }) : wpAny (model C.prog C.w) A (eval e env) Q E s :=
  h A env K W₀ W ρ vs σ s hA H F v ev Q E fun v' s' k r => by obtain ⟨h', t, kk⟩ := k; exact q v' h' t kk r
theorem EvsOK.go {es : List Expr} {p : PE} {pos : Pos} (h : EvsOK C names es p) (hA : AOk C.k A) (H : Rel C.prog C.w C.h₁ K W₀ W ρ σ s.heap) (F : Frm C.tab names env W ρ vs s.heap) {xs : List AV} (ev : evP C.F p vs σ = some (.lst xs)) {Q : List Value → Shared → Prop}
    (q : ∀ vals h' t, xs.length ≤ 100000 → (∀ b o, s.heap.get? b = some o → h'.get? b = some o) → VRels W ρ h' xs vals → Q vals { s with heap := h', toks := t }) : wpAny (model C.prog C.w) A (spliced (backTo pos (starEach es env))) Q E s :=
  h A env K W₀ W ρ vs σ s pos hA H F _ ev Q E fun ys vals s' e hl k r => by obtain ⟨h', t, kk⟩ := k; cases e; exact q vals h' t hl kk r
theorem TrOK.go {e : Expr} {p : PE} (h : TrOK C names e p) (hA : AOk C.k A) (H : Rel C.prog C.w C.h₁ K W₀ W ρ σ s.heap) (F : Frm C.tab names env W ρ vs s.heap) {v : Bool} (ev : otru (evP C.F p vs σ) = some v) {Q : Bool → Shared → Prop}
    (q : ∀ h' t, (∀ b o, s.heap.get? b = some o → h'.get? b = some o) → Q v { s with heap := h', toks := t }) : wpAny (model C.prog C.w) A (isTrue e env (eval e env)) Q E s :=
  h A env K W₀ W ρ vs σ s hA H F v ev Q E fun s' k => by obtain ⟨h', t, kk⟩ := k; exact q h' t kk
theorem XsOK.go {ss : List Stmt} {p : PS} (h : XsOK C names ss p) (hA : AOk C.k A) (F : FSt C names env K W₀ W ρ vs σ s.heap) {r : St} (ev : exP C.F C.I p vs σ = some r) {Q : Flow → Shared → Prop}
    (q : ∀ f W' ρ' h' tk, FSt C names env K W₀ W' ρ' r.2.1 r.2.2 h' → Mono W W' ρ ρ' s.heap h' → FlRel W' ρ' h' r.1 f → Q f { s with heap := h', toks := tk }) : wpAny (model C.prog C.w) A (execs ss env) Q E s :=
  h A env K W₀ W ρ vs σ s hA F r ev Q E fun f s' P => P.elim fun W' ρ' h' tk F m fl => q f W' ρ' h' tk F m fl
end

section
variable {C : Cx} {names : List (Str × NameKind)}

theorem FlRel.next_inv {W : Addr → Prop} {ρ : List Addr} {h : Heap} {f : Flow} (r : FlRel W ρ h .next f) : f = .next := by cases r; rfl
theorem FlRel.brk_inv {W : Addr → Prop} {ρ : List Addr} {h : Heap} {f : Flow} (r : FlRel W ρ h .brk f) : f = .brk := by cases r; rfl
theorem FlRel.ret_inv {W : Addr → Prop} {ρ : List Addr} {h : Heap} {f : Flow} {v : AV} (r : FlRel W ρ h (.ret v) f) : ∃ v', f = .ret v' ∧ VRel W ρ h v v' := by cases r with | ret x => exact ⟨_, rfl, x⟩
theorem flow_inv {r r' : St} {k : Vars → Hp → Option St} (e : flowF r k = some r') : (r.1 = .next ∧ k r.2.1 r.2.2 = some r') ∨ (r' = r ∧ (r.1 = .brk ∨ ∃ v, r.1 = .ret v)) := by
  obtain ⟨f, vs, σ⟩ := r
  cases f with
  | next => exact .inl ⟨rfl, e⟩
  | brk => exact .inr ⟨(Option.some.inj e).symm, .inl rfl⟩
  | ret v => exact .inr ⟨(Option.some.inj e).symm, .inr ⟨v, rfl⟩⟩
theorem loop_inv {r r' : St} {k : Vars → Hp → Option St} (e : loopF r k = some r') : (r.1 = .next ∧ k r.2.1 r.2.2 = some r') ∨ (r.1 = .brk ∧ r' = (.next, r.2)) ∨ (r' = r ∧ ∃ v, r.1 = .ret v) := by
  obtain ⟨f, vs, σ⟩ := r
  cases f with
  | next => exact .inl ⟨rfl, e⟩
  | brk => exact .inr (.inl ⟨rfl, (Option.some.inj e).symm⟩)
  | ret v => exact .inr (.inr ⟨(Option.some.inj e).symm, v, rfl⟩)
theorem XsOK.nil : XsOK C names [] .skip := by
  intro A env K W₀ W ρ vs σ s hA F r e Q E q
  cases e
  exact wpAny_execs_nil (q _ _ ⟨W, ρ, s.heap, s.toks, F, .refl, .next⟩)
theorem XsOK.cons {st : Stmt} {ss : List Stmt} {p q : PS} (h : XOK C names st p) (hs : XsOK C names ss q) : XsOK C names (st :: ss) (.seq p q) := by
  intro A env K W₀ W ρ vs σ s hA F r e Q E qq
  obtain ⟨r₀, e1, e2⟩ := bind_inv e
  refine wpAny_execs_cons (h A env K W₀ W ρ vs σ s hA F r₀ e1 _ _ fun f s' P => ?_)
  rcases flow_inv e2 with ⟨e3, e4⟩ | ⟨rfl, e3⟩
  · have ef : f = .next := P.elim (P := fun _ => f = .next) fun _ _ _ _ _ _ fl => by rw [e3] at fl; exact fl.next_inv
    subst ef
    exact P.elim (P := fun s' => wpAny (model C.prog C.w) A (execs ss env) Q E s') fun W' ρ' h' tk F' m fl => hs A env K W₀ W' ρ' _ _ _ hA F' r e4 _ _ fun f s'' P => qq f s'' (P.trans m)
  · have nn : f ≠ .next := fun q => by
      refine P.elim (P := fun _ => False) fun _ _ _ _ _ _ fl => ?_
      rcases e3 with e3 | ⟨v, e3⟩
      · rw [e3] at fl; cases fl.brk_inv; cases q
      · rw [e3] at fl; obtain ⟨_, rfl, _⟩ := fl.ret_inv; cases q
    cases f with
    | next => exact absurd rfl nn
    | _ => exact qq _ _ P
theorem XOK.asg {x : Str} {px pos : Pos} {e : Expr} {n : Nat} {p : PE} (h : EvOK C names e p) (ht : C.tab[n]? = some x) (hk : names.lookup x = some .local ∨ names.lookup x = some .cell)
    (hs : ∀ env : Env, (∀ y, env.kindOf y = names.lookup y) → swapsWith e (some (.Name x px)) pos.line env = pure false := by intro _ _; exact swaps_none rfl) : XOK C names (.Assign [.Name x px] e pos) (.asg n p) := by
  intro A env K W₀ W ρ vs σ s hA F r ee Q E q
  obtain ⟨v, ev, ee⟩ := bind_inv ee
  cases ee
  refine wpAny_Assign_Name (h.go hA F.rel F.frm ev fun v' h₁ t₁ kk r₁ => ?_) (hs env F.frm.kinds)
  exact store_ok (s := { s with heap := h₁, toks := t₁ }) (F.grow kk) ht hk r₁ fun h' tk F' m => q _ _ ⟨W, ρ, h', tk, F', (Mono.keeps kk).trans m, .next⟩

theorem XOK.ret {e : Expr} {p : PE} {pos : Pos} (h : EvOK C names e p) : XOK C names (.Return (some e) pos) (.ret p) := by
  intro A env K W₀ W ρ vs σ s hA F r ee Q E q
  obtain ⟨v, ev, ee⟩ := bind_inv ee
  cases ee
  refine wpAny_Return_some (h.go hA F.rel F.frm ev fun v' h₁ t₁ kk r₁ => ?_)
  exact q _ _ ⟨W, ρ, h₁, t₁, F.grow kk, .keeps kk, .ret r₁⟩
theorem XOK.brk {pos : Pos} : XOK C names (.Break pos) .brk := by
  intro A env K W₀ W ρ vs σ s hA F r ee Q E q
  cases ee
  exact PySem.wpAny_Break (q _ _ ⟨W, ρ, s.heap, s.toks, F, .refl, .brk⟩)

theorem XOK.ite {c : Expr} {a b : List Stmt} {pc : PE} {pa pb : PS} {pos : Pos} (hc : TrOK C names c pc) (ha : XsOK C names a pa) (hb : XsOK C names b pb) : XOK C names (.If c a b pos) (.ite pc pa pb) := by
  intro A env K W₀ W ρ vs σ s hA F r ee Q E q
  rcases oI_some ee with ⟨e1, e2⟩ | ⟨e1, e2⟩
  · refine wpAny_If (hc.go hA F.rel F.frm e1 fun h₁ t₁ kk => ?_)
    exact ha A env K W₀ W ρ vs σ _ hA (F.grow kk) r e2 _ _ fun f s' P => q f s' (P.trans (.keeps kk))
  · refine wpAny_If (hc.go hA F.rel F.frm e1 fun h₁ t₁ kk => ?_)
    exact hb A env K W₀ W ρ vs σ _ hA (F.grow kk) r e2 _ _ fun f s' P => q f s' (P.trans (.keeps kk))

inductive WInv (C : Cx) (names : List (Str × NameKind)) (env : Env) (K : Addr → Obj → Prop) (W₀ W : Addr → Prop) (ρ : List Addr) (s : Shared) (g : Nat → Vars → Hp → Option St) (r : St) (n : Nat) : Shared → Prop
  | mk (W' : Addr → Prop) (ρ' : List Addr) (vs' : Vars) (σ' : Hp) (h' : Heap) (tk : Nat) : FSt C names env K W₀ W' ρ' vs' σ' h' → Mono W W' ρ ρ' s.heap h' → g n vs' σ' = some r → WInv C names env K W₀ W ρ s g r n { s with heap := h', toks := tk }
theorem WInv.elim {C : Cx} {names : List (Str × NameKind)} {env : Env} {K : Addr → Obj → Prop} {W₀ W : Addr → Prop} {ρ : List Addr} {s : Shared} {g : Nat → Vars → Hp → Option St} {r : St} {n : Nat} {s' : Shared} (p : WInv C names env K W₀ W ρ s g r n s')
    {P : Shared → Prop} (h : ∀ W' ρ' vs' σ' h' tk, FSt C names env K W₀ W' ρ' vs' σ' h' → Mono W W' ρ ρ' s.heap h' → g n vs' σ' = some r → P { s with heap := h', toks := tk }) : P s' := by
  obtain ⟨W', ρ', vs', σ', h', tk, F, m, g⟩ := p
  exact h W' ρ' vs' σ' h' tk F m g
theorem XOK.whl {c : Expr} {b : List Stmt} {pc : PE} {pb : PS} {pos : Pos} (hc : TrOK C names c pc) (hb : XsOK C names b pb) : XOK C names (.While c b [] pos) (.whl pc pb) := by
  intro A env K W₀ W ρ vs σ s hA F r ee Q E q
  refine wpAny_While (codeAny_whileLoop (WInv C names env K W₀ W ρ s (whL (fun vs σ => otru (evP C.F pc vs σ)) (exP C.F C.I pb)) r) ?_ 100 ⟨W, ρ, vs, σ, s.heap, s.toks, F, .refl, ee⟩)
  intro n s' I
  refine I.elim fun W' ρ' vs' σ' h' tk F' m' e' => ?_
  cases n with
  | zero => cases e'
  | succ n =>
    obtain ⟨t, e1, e2⟩ := bind_inv e'
    refine hc.go (s := { s with heap := h', toks := tk }) hA F'.rel F'.frm e1 fun h₁ t₁ kk => ?_
    have mm := m'.trans (.keeps kk)
    cases t with
    | false =>
      rw [if_neg Bool.false_ne_true]
      cases e2
      exact wpAny_execs_nil (q _ _ ⟨W', ρ', h₁, t₁, F'.grow kk, mm, .next⟩)
    | true =>
      rw [if_pos rfl]
      obtain ⟨r₀, e3, e4⟩ := bind_inv e2
      refine hb.go (s := { s with heap := h₁, toks := t₁ }) hA (F'.grow kk) e3 fun f W₂ ρ₂ h₂ t₂ F₂ m₂ fl => ?_
      rcases loop_inv e4 with ⟨e5, e6⟩ | ⟨e5, rfl⟩ | ⟨rfl, v, e5⟩
      · rw [e5] at fl
        cases fl.next_inv
        exact ⟨n, Nat.lt_succ_self n, W₂, ρ₂, _, _, h₂, t₂, F₂, mm.trans m₂, e6⟩
      · rw [e5] at fl
        cases fl.brk_inv
        exact q _ _ ⟨W₂, ρ₂, h₂, t₂, F₂, mm.trans m₂, .next⟩
      · have fl' := fl
        rw [e5] at fl
        obtain ⟨v', rfl, _⟩ := fl.ret_inv
        exact q _ _ ⟨W₂, ρ₂, h₂, t₂, F₂, mm.trans m₂, fl'⟩
end
end Mine
end

section
open PySem PySem.Calls PyProof.Rows PySem.W
set_option linter.unusedVariables false
namespace Mine

section
variable {prog : Program} {w : World} {A : Around} {E : Value → Shared → Prop} {s : Shared}
/-- a place of a plain list is stored into -/
theorem setPlain_ok {l : Addr} {items : Array Value} {k : Int} {t : Tok} {v : Value} {Q : Unit → Shared → Prop} (hl : s.heap.PlainList l items) (h0 : 0 ≤ k) (hfit : k < 2 ^ 63) (hn : k < items.size)
    (hQ : ∀ h', h'.PlainList l (items.setIfInBounds k.toNat v) → Heap.SameBut l s.heap h' → Q () { s with heap := h' }) : wpAny (model prog w) A (setItem (.ref l) (.int k t) v) Q E s := by
  obtain ⟨c, ho⟩ := hl
  have hT : s.TypeIs (.ref l) "list" := ⟨_, ho, rfl⟩
  have fin : ∀ j : Nat, j = k.toNat → Q () { s with heap := s.heap.update l (Obj.mapSeq (·.setIfInBounds j v)) } := fun j hj => by
    subst hj
    refine hQ _ ⟨?c, ?_⟩ (Heap.SameBut.update ..)
    rotate_left
    · rw [Heap.get?_update_self _ ho rfl]; rfl
  have hfl := fitsIndex_of h0 hfit
  unfold setItem
  try with_reducible refine wpAny_holding ?_
  first | refine wpAny_bind (wpAny_pure ?_) | skip
  refine wpAny_bind (wpAny_sequenceKey hT (by decide) ?_)
  refine wpAny_bind (wpAny_callSpecial?_slot (name := Str.ofString "__setitem__") hT PySem.slot_list_setitem (wpAny_call_entry PySem.slot_list_setitem hT PySem.entry_list_setitem ?_ (PySem.args_list_setitem _ _ _)))
  show wpAny _ _ (Builtin.List.listSubscript? (.int k t) >>= _) _ _ s
  refine wpAny_bind (wpAny_listSubscript_int hfl ?_)
  clear hfl hfit
  obtain ⟨j, rfl⟩ := Int.eq_ofNat_of_zero_le h0
  have hj : j < items.size := by omega
  have hx : items[j]? = some items[j] := Array.getElem?_eq_getElem hj
  show wpAny _ _ ((seqItemAt l j >>= fun r => pure (r.map (j, ·))) >>= _) _ _ s
  refine wpAny_bind (wpAny_bind (wpAny_seqItemAt ho rfl (wpAny_pure ?_)))
  rw [hx]
  show wpAny _ _ (setSeqItemAt l j v >>= _) _ _ s
  refine wpAny_bind (wpAny_setSeqItemAt ho rfl ?_)
  first
    | exact wpAny_bind (wpAny_pure (wpAny_pure ⟨.none, rfl, wpAny_pure (fin j rfl)⟩))
    | exact wpAny_pure ⟨.none, rfl, wpAny_pure (fin j rfl)⟩

theorem extendPlain_ok {D b : Addr} {ys zs : List Value} {Q : Value → Shared → Prop} (hD : s.heap.PlainList D ys.toArray) (hb : s.heap.PlainList b zs.toArray) (hz : ys.length + zs.length ≤ sizeLine)
    (hQ : ∀ h', h'.PlainList D (ys ++ zs).toArray → Heap.SameBut D s.heap h' → Q .none { s with heap := h' }) : wpAny (model prog w) A (call (.builtin "list.extend") [.ref D, .ref b]) Q E s := by
  obtain ⟨n, hD⟩ := hD
  obtain ⟨n2, hb⟩ := hb
  have hz' : ys.toArray.size + zs.toArray.size ≤ sizeLine := by simpa using hz
  refine call_meets PySem.F.slot_list_extend ⟨_, hD, rfl⟩ PySem.F.entry_list_extend (PySem.F.args_list_extend_2 _ _) (AutoSeq1.list_extend_list_list_0 D ys.toArray n b zs.toArray n2 (extend_door hz') (Nat.le_trans (Nat.le_add_right _ _) hz') (Nat.le_trans hz' (Nat.le_succ _))) ⟨hD, hb, ?_⟩
  have ho' : (s.heap.update D (Obj.mapSeq fun x => x ++ zs.toArray)).get? D = some { cls := .type "list", data := .seq (ys ++ zs).toArray (if (ys.toArray ++ zs.toArray).size == ys.toArray.size then n else n + 1) } := by
    rw [Heap.get?_update_self _ hD (by rw [mapSeq_app]; rfl), mapSeq_app, show ys.toArray ++ zs.toArray = (ys ++ zs).toArray by simp]
  exact hQ _ ⟨_, ho'⟩ (Heap.SameBut.update ..)
end

theorem bl1 {o : Option AV} {xs : List AV} (e : o.bind l1 = some xs) : o = some (.lst xs) := by
  obtain ⟨a, e1, e2⟩ := bind_inv e
  cases l1_inv e2
  exact e1
theorem bi1 {o : Option AV} {i : Int} (e : o.bind i1 = some i) : o = some (.int i) := by
  obtain ⟨a, e1, e2⟩ := bind_inv e
  cases i1_eq e2
  exact e1
theorem lkL_some {n i : Nat} {vs : Vars} (e : lkL n vs = some i) : lk n vs = some (.loc i) := by
  obtain ⟨a, e1, e2⟩ := bind_inv e
  cases loc_inv' e2
  exact e1
theorem pairA_some {a : AV} {p : AV × AV} (e : pairA a = some p) : a = .tup [p.1, p.2] := by
  cases a with
  | tup xs =>
    cases xs with
    | nil => cases e
    | cons x r => cases r with
      | nil => cases e
      | cons y r => cases r with
        | nil => cases e; rfl
        | cons => cases e
  | _ => cases e
theorem cond_inv {α : Type} {c : Bool} {x : Option α} {y : α} (e : (if c = true then x else none) = some y) : c = true ∧ x = some y := by
  cases c with
  | false => cases e
  | true => exact ⟨rfl, e⟩
theorem iterAt_some {σ : Hp} {i : Nat} {xs : List AV} {k : Nat} (h : iterAt σ i = some (xs, k)) : σ[i]? = some (.iter xs k) := by
  unfold iterAt at h
  split at h
  · rename_i e; cases h; exact e
  · cases h
theorem listAt_some {σ : Hp} {i : Nat} {xs : List AV} (h : listAt σ i = some xs) : σ[i]? = some (.list xs) := by
  unfold listAt at h
  split at h
  · rename_i e; cases h; exact e
  · cases h

section
variable {C : Cx} {names : List (Str × NameKind)} {env : Env} {K : Addr → Obj → Prop} {W₀ W : Addr → Prop} {ρ : List Addr} {vs : Vars} {σ : Hp} {s : Shared}
/-- a new object of ours is bound -/
theorem bind_new {A : Around} {E : Value → Shared → Prop} (F : FSt C names env K W₀ W ρ vs σ s.heap) {h₁ h₂ : Heap} {t : Nat} {n : Nat} {x : Str} {y : AObj} (kk : ∀ b o, s.heap.get? b = some o → h₁.get? b = some o) (kp : ∀ b o, h₁.get? b = some o → h₂.get? b = some o)
    (r : ORel C.prog C.w (Rel.with' W h₁.objs.size) (ρ ++ [h₁.objs.size]) y h₂ h₁.objs.size) (ht : C.tab[n]? = some x) (hk : names.lookup x = some .local ∨ names.lookup x = some .cell) {Q : Unit → Shared → Prop}
    (q : ∀ f s', Post C names env K W₀ W ρ s (.next, setVar n (.loc σ.length) vs, σ ++ [y]) f s' → f = .next → Q () s') : wpAny (model C.prog C.w) A (storeName env x (.ref h₁.objs.size)) Q E { s with heap := h₂, toks := t } := by
  have F₁ := (F.grow kk).alloc kp (fresh_size h₁) r
  have hlen : (ρ ++ [h₁.objs.size])[σ.length]? = some h₁.objs.size := by rw [← F.rel.len]; simp
  exact store_ok (s := { s with heap := h₂, toks := t }) F₁ ht hk (.loc hlen) fun h' tk F' m' => q _ _ ⟨_, _, h', tk, F', ((Mono.keeps kk).trans (Rel.mono_alloc (fresh_size h₁) kp)).trans m', .next⟩ rfl
end

section
variable {C : Cx} {names : List (Str × NameKind)}

theorem XOK.newl {x : Str} {px lp pos : Pos} {es : List Expr} {n : Nat} {p : PE} (h : EvsOK C names es p) (ht : C.tab[n]? = some x) (hk : names.lookup x = some .local ∨ names.lookup x = some .cell) :
    XOK C names (.Assign [.Name x px] (.List es lp) pos) (.newl n p) := by
  intro A env K W₀ W ρ vs σ s hA F r ee Q E q
  obtain ⟨xs, ev, ee⟩ := bind_inv ee
  cases ee
  refine wpAny_Assign_Name (PySem.wpAny_List (h.go hA F.rel F.frm (bl1 ev) fun vals h₁ t₁ hl kk r₁ => ?_))
  have hz : vals.length ≤ sizeLine := Nat.le_trans (by rw [← r₁.length]; exact hl) sizeLine_big
  have kp : ∀ b o, h₁.get? b = some o → (h₁.push { cls := .type "list", data := .seq vals.toArray }).get? b = some o := fun b o e => Heap.get?_push_of_some _ e
  exact ⟨hz, bind_new F kk kp (y := .list xs) ⟨vals, ⟨0, Heap.get?_push_size _ rfl⟩, hz, r₁.mono (Rel.mono_alloc (fresh_size h₁) kp)⟩ ht hk fun f s' P e => by subst e; exact q _ _ P⟩

theorem XOK.rows4 {x : Str} {px lp pos p1 p2 p3 p4 : Pos} {n : Nat} (ht : C.tab[n]? = some x) (hk : names.lookup x = some .local ∨ names.lookup x = some .cell) :
    XOK C names (.Assign [.Name x px] (.List [.List [] p1, .List [] p2, .List [] p3, .List [] p4] lp) pos) (.rows4 n) := by
  intro A env K W₀ W ρ vs σ s hA F r ee Q E q
  cases ee
  refine wpAny_Assign_Name (PySem.wpAny_List ?_)
  have one : ∀ {W : Addr → Prop} {ρ : List Addr} {σ : Hp} {s : Shared} {lp : Pos} (Q : Value → Shared → Prop), FSt C names env K W₀ W ρ vs σ s.heap →
      (∀ h', FSt C names env K W₀ (Rel.with' W s.heap.objs.size) (ρ ++ [s.heap.objs.size]) vs (σ ++ [.list []]) h' → Mono W (Rel.with' W s.heap.objs.size) ρ (ρ ++ [s.heap.objs.size]) s.heap h' → Q (.ref s.heap.objs.size) { s with heap := h' }) →
      wpAny (model C.prog C.w) A (eval (.List [] lp) env) Q E s := fun {W ρ σ s lp} Q F q => by
    refine PySem.wpAny_List (wpAny_items_nil ⟨Nat.zero_le _, ?_⟩)
    have kp : ∀ b o, s.heap.get? b = some o → (s.heap.push { cls := .type "list", data := .seq ([] : List Value).toArray }).get? b = some o := fun b o e => Heap.get?_push_of_some _ e
    exact q _ (F.alloc kp (fresh_size _) (x := .list []) ⟨[], ⟨0, Heap.get?_push_size _ rfl⟩, Nat.zero_le _, .nil⟩) (Rel.mono_alloc (fresh_size _) kp)
  refine wpAny_items_cons (one _ F fun h₁ F₁ m₁ => ?_)
  refine wpAny_items_cons (one _ F₁ fun h₂ F₂ m₂ => ?_)
  refine wpAny_items_cons (one _ F₂ fun h₃ F₃ m₃ => ?_)
  refine wpAny_items_cons (one _ F₃ fun h₄ F₄ m₄ => ?_)
  refine wpAny_items_nil ⟨by rw [sizeLine_eq]; show (4 : Nat) ≤ 16777216; omega, ?_⟩
  dsimp only at *
  generalize ea : s.heap.objs.size = a at *
  generalize eb : h₁.objs.size = b at *
  generalize ec : h₂.objs.size = c at *
  generalize ed : h₃.objs.size = d at *
  have hl := F.rel.len
  have ga : (((ρ ++ [a]) ++ [b]) ++ [c] ++ [d])[σ.length]? = some a := by rw [← hl]; simp
  have gb : (((ρ ++ [a]) ++ [b]) ++ [c] ++ [d])[σ.length + 1]? = some b := by rw [← hl]; simp [List.getElem?_append]
  have gc : (((ρ ++ [a]) ++ [b]) ++ [c] ++ [d])[σ.length + 2]? = some c := by rw [← hl]; simp [List.getElem?_append]
  have gd : (((ρ ++ [a]) ++ [b]) ++ [c] ++ [d])[σ.length + 3]? = some d := by rw [← hl]; simp [List.getElem?_append]
  have z := new_list (s := { s with heap := h₄ }) F₄.rel s.toks 0 (xs := [.loc σ.length, .loc (σ.length + 1), .loc (σ.length + 2), .loc (σ.length + 3)]) (vs := [.ref a, .ref b, .ref c, .ref d]) (by rw [sizeLine_eq]; show (4 : Nat) ≤ 16777216; omega) (.cons (.loc ga) (.cons (.loc gb) (.cons (.loc gc) (.cons (.loc gd) .nil))))
  have es : σ ++ [AObj.list []] ++ [AObj.list []] ++ [AObj.list []] ++ [AObj.list []] = σ ++ [AObj.list [], AObj.list [], AObj.list [], AObj.list []] := by simp
  rw [es] at F₄
  have F₅ := F₄.grow (h' := h₄.push { cls := .type "list", data := .seq [Value.ref a, .ref b, .ref c, .ref d].toArray }) fun b o e => Heap.get?_push_of_some _ e
  refine store_ok F₅ ht hk z.2 fun h' tk F' m' => q _ _ ⟨_, _, h', tk, F', ((((m₁.trans m₂).trans m₃).trans m₄).trans (.keeps fun b o e => Heap.get?_push_of_some _ e)).trans m', .next⟩

theorem XOK.iter {x f : Str} {px fp cp pos : Pos} {e : Expr} {n : Nat} {p : PE} (hC : Stat C) (hf : names.lookup f = some .globalImplicit) (hv : C.mg f = none ∧ C.mb f = some (.builtin "iter")) (h : EvOK C names e p) (ht : C.tab[n]? = some x)
    (hk : names.lookup x = some .local ∨ names.lookup x = some .cell) (he : ∀ env, starEach [e] env = (false, eval e env) :: starEach [] env := by intro _; exact star_cons rfl) (hd : (f == ("__debug__" : Str)) = false := by decide +kernel) :
    XOK C names (.Assign [.Name x px] (.Call (.Name f fp) [e] [] cp) pos) (.iter n p) := by
  intro A env K W₀ W ρ vs σ s hA F r ee Q E q
  obtain ⟨xs, ev, ee⟩ := bind_inv ee
  cases ee
  refine wpAny_Assign_Name (callN_ok hC hA F.rel F.frm hf (.inr hv) hd (.inl ⟨_, rfl⟩) (EvsOK.cons h EvsOK.nil he) he (fun _ => rfl) (ev1 (bl1 ev)) fun vals s₁ k₁ r₁ => ?_)
  obtain ⟨h₁, t₁, kk⟩ := k₁
  obtain ⟨u, rfl, r₂⟩ := rels1 r₁
  obtain ⟨l, us, rfl, hw, hp, hz, rr⟩ := r₂.lst_inv
  refine iterCall_ok hp.isList ?_
  have kp : ∀ b o, h₁.get? b = some o → (h₁.push { cls := .type "list_iterator", data := .fields #[.ref l, .int 0 0] }).get? b = some o := fun b o e => Heap.get?_push_of_some _ e
  have m := Rel.mono_alloc (W := W) (ρ := ρ) (fresh_size h₁) kp
  obtain ⟨c, hp'⟩ := id hp
  exact bind_new F kk kp (y := .iter xs 0) ⟨l, us, ⟨_, Heap.get?_push_size _ rfl, rfl, rfl⟩, m.off _ _ hp' hw, hp.at fun o e => kp _ _ e, hz, rr.mono m⟩ ht hk fun f s' P e => by subst e; exact q _ _ P

theorem EvOK.vars {A : Around} {env : Env} {K : Addr → Obj → Prop} {W₀ W : Addr → Prop} {ρ : List Addr} {vs : Vars} {σ : Hp} {s : Shared} (F : FSt C names env K W₀ W ρ vs σ s.heap) {x : Str} {n : Nat} {v : AV} {pos : Pos} (ht : C.tab[n]? = some x)
    (e : lk n vs = some v) (hd : (x == ("__debug__" : Str)) = false) {Q : Value → Shared → Prop} {E : Value → Shared → Prop} (q : ∀ v', VRel W ρ s.heap v v' → Q v' s) : wpAny (model C.prog C.w) A (eval (.Name x pos) env) Q E s := by
  obtain ⟨x', v', e1, e2, e3⟩ := F.frm.vars n v e
  rw [ht] at e1; cases e1
  refine wpAny_Name ?_ hd
  rcases e2 with ⟨h1, m, h2, h3⟩ | ⟨h1, c, h2, h3⟩
  · exact wpAny_loadName_local F.frm.kind ((F.frm.kinds x).trans h1) h2 h3 (q _ e3)
  · rcases h1 with h1 | h1
    · exact wpAny_loadName_cell F.frm.kind ((F.frm.kinds x).trans h1) h2 h3 (q _ e3)
    · exact absurd h1 (F.nofree x)

theorem args_name {x : Str} {pos : Pos} : ∀ env, starEach [.Name x pos] env = (false, eval (.Name x pos) env) :: starEach [] env := fun _ => rfl

theorem XOK.next {x f y : Str} {px fp yp cp pos : Pos} {n m : Nat} (hC : Stat C) (hf : names.lookup f = some .globalImplicit) (hv : C.mg f = none ∧ C.mb f = some (.builtin "next")) (ht : C.tab[n]? = some x)
    (hk : names.lookup x = some .local ∨ names.lookup x = some .cell) (hy : C.tab[m]? = some y) (hd : (f == ("__debug__" : Str)) = false := by decide +kernel) (hdy : (y == ("__debug__" : Str)) = false := by decide +kernel) (hcy : (y == ("__classdict__" : Str)) = false := by decide +kernel) :
    XOK C names (.Assign [.Name x px] (.Call (.Name f fp) [.Name y yp] [] cp) pos) (.next n m) := by
  intro A env K W₀ W ρ vs σ s hA F r ee Q E q
  obtain ⟨i, hm, ee⟩ := bind_inv ee
  obtain ⟨⟨xs, k⟩, hi, ee⟩ := bind_inv ee
  obtain ⟨v, hx, ee⟩ := bind_inv ee
  cases ee
  have hi := iterAt_some hi
  have hm := lkL_some hm
  refine wpAny_Assign_Name (callN_ok (p := .cons (.var m) .nil) (xs := [.loc i]) hC hA F.rel F.frm hf (.inr hv) hd (.inl ⟨_, rfl⟩) (EvsOK.cons (EvOK.var hy hdy hcy) EvsOK.nil args_name) args_name (fun _ => rfl) (ev1 hm) fun vals s₁ k₁ r₁ => ?_)
  obtain ⟨h₁, t₁, kk⟩ := k₁
  obtain ⟨u, rfl, r₂⟩ := rels1 r₁
  obtain ⟨it, rfl, hl⟩ := r₂.loc_inv
  have F₁ := F.grow kk
  obtain ⟨l, us, hit, hw, hp, hz, rr⟩ := F₁.rel.obj _ _ _ hl hi
  obtain ⟨v', hv', rv⟩ := rr.get hx
  refine nextCall_ok hit hp.isList (by simpa using hv') fun h₂ hit₂ hs₂ => ?_
  have kp : ∀ b o, b ≠ it → h₁.get? b = some o → h₂.get? b = some o := fun b o hb e => hs₂.extBut b o hb e
  have hwit := (F₁.rel.own it (List.mem_of_getElem? hl)).1
  have hlit : l ≠ it := fun q => hw (q ▸ hwit)
  have mm : Mono W W ρ ρ h₁ h₂ := Rel.mono_but hwit kp
  obtain ⟨F₂, m₂⟩ := F₁.put (x := .iter xs (k + 1)) (h' := h₂) hl kp ⟨l, us, hit₂, hw, hp.at fun o e => kp _ o hlit e, hz, rr.mono mm⟩
  exact store_ok (s := { s with heap := h₂, toks := t₁ }) F₂ ht hk (rv.mono m₂) fun h' tk F' m' => q _ _ ⟨_, _, h', tk, F', ((Mono.keeps kk).trans m₂).trans m', .next⟩

theorem XOK.callI {x f y : Str} {px fp yp cp pos : Pos} {n g m : Nat} {a : Addr} {o : Obj} {fd : FuncData} (hC : Stat C) (hf : names.lookup f = some .globalImplicit) (hv : C.mg f = some (.ref a)) (ho : C.h₁.get? a = some o) (hfd : o.data = .func fd)
    (hc : IterOK C C.k a (C.I g)) (ht : C.tab[n]? = some x) (hk : names.lookup x = some .local ∨ names.lookup x = some .cell) (hy : C.tab[m]? = some y)
    (hd : (f == ("__debug__" : Str)) = false := by decide +kernel) (hdy : (y == ("__debug__" : Str)) = false := by decide +kernel) (hcy : (y == ("__classdict__" : Str)) = false := by decide +kernel) :
    XOK C names (.Assign [.Name x px] (.Call (.Name f fp) [.Name y yp] [] cp) pos) (.callI n g m) := by
  intro A env K W₀ W ρ vs σ s hA F r ee Q E q
  obtain ⟨i, hm, ee⟩ := bind_inv ee
  obtain ⟨⟨xs, k⟩, hi, ee⟩ := bind_inv ee
  obtain ⟨hall, ee⟩ := cond_inv ee
  obtain ⟨⟨v, xs', k'⟩, hI, ee⟩ := bind_inv ee
  obtain ⟨hat, ee⟩ := if_inv ee
  cases ee
  have hi := iterAt_some hi
  have hm := lkL_some hm
  refine wpAny_Assign_Name (callN_ok (p := .cons (.var m) .nil) (xs := [.loc i]) hC hA F.rel F.frm hf (.inl hv) hd (.inr (.inr ⟨a, o, fd, rfl, ho, hfd⟩)) (EvsOK.cons (EvOK.var hy hdy hcy) EvsOK.nil args_name) args_name (fun _ => rfl) (ev1 hm) fun vals s₁ k₁ r₁ => ?_)
  obtain ⟨h₁, t₁, kk⟩ := k₁
  obtain ⟨u, rfl, r₂⟩ := rels1 r₁
  obtain ⟨it, rfl, hl⟩ := r₂.loc_inv
  have F₁ := F.grow kk
  obtain ⟨l, us, hit, hw, hp, hz, rr⟩ := F₁.rel.obj _ _ _ hl hi
  have own := F₁.rel.own it (List.mem_of_getElem? hl)
  have hnone : C.h₁.get? it = none := by
    cases e : C.h₁.get? it with
    | none => rfl
    | some o => exact absurd (F₁.rel.base _ _ e) (own.2.2 o)
  refine hc A W it _ hA F₁.rel.heap F₁.rel.dom hnone own.1 l us xs k hit hw hp hz (rr.of_all (fun _ _ => VRel.atom) hall) v xs' k' hI _ _ fun v' h₂ tk₂ keep₂ ob rv => ?_
  obtain ⟨F₂, m₂⟩ := F₁.put (x := .iter xs' k') (h' := h₂) hl keep₂ (by obtain ⟨l', us', hit₂, hw', hp', hz', rr'⟩ := ob; exact ⟨l', us', hit₂, hw', hp', hz', rr' ρ⟩)
  exact store_ok (s := { s with heap := h₂, toks := tk₂ }) F₂ ht hk (rv.atom hat) fun h' tk F' m' => q _ _ ⟨_, _, h', tk, F', ((Mono.keeps kk).trans m₂).trans m', .next⟩

theorem XOK.asg2 {x y f : Str} {px py tp fp cp pos : Pos} {kx : Nat} {args : List Expr} {n m : Nat} {p : PE} (h : EvOK C names (.Call (.Name f fp) args [] cp) p) (hx : C.tab[n]? = some x) (hkx : names.lookup x = some .local ∨ names.lookup x = some .cell)
    (hy : C.tab[m]? = some y) (hky : names.lookup y = some .local ∨ names.lookup y = some .cell) : XOK C names (.Assign [.Tuple [.Name x px, .Name y py] kx tp] (.Call (.Name f fp) args [] cp) pos) (.asg2 n m p) := by
  intro A env K W₀ W ρ vs σ s hA F r ee Q E q
  obtain ⟨p₂, ev, ee⟩ := bind_inv ee
  obtain ⟨b₂, ev, e₂⟩ := bind_inv ev
  cases pairA_some e₂
  cases ee
  refine Assign_Tuple (h.go hA F.rel F.frm ev fun v' h₁ t₁ kk r₁ => ?_)
  obtain ⟨t, us, rfl, hw, hp, hz, rr⟩ := r₁.tup_inv
  obtain ⟨u, u', rfl, ra, rb⟩ := rels2 rr
  refine assign_Tuple_tuple (t := t) (items := [u, u'].toArray) hA.1 hp (by rfl) (by rfl) fun h₂ he => ?_
  have k2 : ∀ b o, h₁.get? b = some o → h₂.get? b = some o := fun b o e => he b o (fun q => by rw [q, fresh_size] at e; cases e) e
  have F₂ := (F.grow kk).grow k2
  show wpAny (model C.prog C.w) A (do holding [u'] (assign (.Name x px) env u); assignInOrder [assign (.Name y py) env] [u']) _ _ _
  refine wpAny_bind (wpAny_holding (PyProof.Rows.assign_Name (store_ok F₂ hx hkx (ra.up k2) fun h₃ t₃ F₃ m₃ => ?_)))
  show wpAny (model C.prog C.w) A (do holding [] (assign (.Name y py) env u'); assignInOrder [] []) _ _ _
  refine wpAny_bind (wpAny_holding (PyProof.Rows.assign_Name (store_ok (s := { s with heap := h₃, toks := t₃ }) F₃ hy hky ((rb.up k2).mono m₃) fun h₄ t₄ F₄ m₄ => ?_)))
  exact wpAny_pure (q _ _ ⟨_, _, h₄, t₄, F₄, (((Mono.keeps kk).trans (.keeps k2)).trans m₃).trans m₄, .next⟩)

theorem XOK.seti {o i v : Str} {op ip vp sp pos : Pos} {no ni nv : Nat} (ho : C.tab[no]? = some o) (hi : C.tab[ni]? = some i) (hv : C.tab[nv]? = some v)
    (hdo : (o == ("__debug__" : Str)) = false := by decide +kernel) (hdi : (i == ("__debug__" : Str)) = false := by decide +kernel) (hdv : (v == ("__debug__" : Str)) = false := by decide +kernel) :
    XOK C names (.Assign [.Subscript (.Name o op) (.Name i ip) sp] (.Name v vp) pos) (.seti no ni nv) := by
  intro A env K W₀ W ρ vs σ s hA F r ee Q E q
  obtain ⟨x, ex, ee⟩ := bind_inv ee
  obtain ⟨l, el, ee⟩ := bind_inv ee
  obtain ⟨k, ek, ee⟩ := bind_inv ee
  obtain ⟨xs, exs, ee⟩ := bind_inv ee
  obtain ⟨hk, ee⟩ := if_inv ee
  cases ee
  obtain ⟨h0, h1⟩ := and_inv hk
  have h0 := of_decide_eq_true h0
  have h1 := of_decide_eq_true h1
  refine wpAny_Assign_Subscript (EvOK.vars F hv ex hdv fun v' rv => EvOK.vars F ho (lkL_some el) hdo fun lo rl => EvOK.vars F hi (bi1 ek) hdi fun ki rk => ?_)
  obtain ⟨a, rfl, ha⟩ := rl.loc_inv
  obtain ⟨t, rfl⟩ := rk.int_inv
  obtain ⟨us, hp, hz, rr⟩ := F.rel.obj _ _ _ ha (listAt_some exs)
  have hlen := rr.length
  have hlt : k < us.toArray.size := by rw [List.size_toArray, ← hlen]; exact h1
  have hz' := hz
  rw [sizeLine_eq] at hz'
  refine setPlain_ok hp h0 (by rw [List.size_toArray] at hlt; omega) hlt fun h₂ hp₂ hs₂ => ?_
  have own := F.rel.own a (List.mem_of_getElem? ha)
  have kp : ∀ b o, b ≠ a → s.heap.get? b = some o → h₂.get? b = some o := fun b o hb e => hs₂.extBut b o hb e
  have mm : Mono W W ρ ρ s.heap h₂ := Rel.mono_but own.1 kp
  have e2 : us.toArray.setIfInBounds k.toNat v' = (us.set k.toNat v').toArray := by simp
  rw [e2] at hp₂
  obtain ⟨F₂, m₂⟩ := F.put (x := .list (xs.set k.toNat x)) (h' := h₂) ha kp ⟨us.set k.toNat v', hp₂, by rw [List.length_set]; exact hz, VRels.set (rv.mono mm) (rr.mono mm) _⟩
  exact q _ _ ⟨_, _, h₂, s.toks, F₂, m₂, .next⟩

theorem XOK.app {x : Str} {xp ap cp pos : Pos} {e : Expr} {n : Nat} {p : PE} (h : EvOK C names e p) (hx : C.tab[n]? = some x) (hd : (x == ("__debug__" : Str)) = false := by decide +kernel)
    (hline : (ap.endLine == cp.line) = true := by rfl) (htrees : ∀ env, backTo cp (starEach [e] env) = [(false, eval e env)] := by intro _; rfl) :
    XOK C names (.Expr (.Call (.Attribute (.Name x xp) "append" ap) [e] [] cp) pos) (.app n p) := by
  intro A env K W₀ W ρ vs σ s hA F r ee Q E q
  obtain ⟨l, el, ee⟩ := bind_inv ee
  obtain ⟨v, ev, ee⟩ := bind_inv ee
  obtain ⟨xs, exs, ee⟩ := bind_inv ee
  obtain ⟨hs, ee⟩ := if_inv ee
  cases ee
  have hs := of_decide_eq_true hs
  have exs := listAt_some exs
  refine wpAny_Expr_any ?_ (by unfold interactive; rw [F.frm.kind]; rfl)
  refine wpAny_Call_method1_late rfl hline (htrees env) (EvOK.vars F hx (lkL_some el) hd fun lo rl => ?_)
  obtain ⟨a, rfl, ha⟩ := rl.loc_inv
  refine ⟨"list", "list.append", PySem.F.plainAttrs_list, PySem.F.slot_list_append, PySem.F.type_list_append, ?_, fun b eb => by cases eb; obtain ⟨us, ⟨c, hp⟩, _, _⟩ := F.rel.obj _ _ _ ha exs; exact ⟨_, hp, rfl⟩, ?_⟩
  · obtain ⟨us, ⟨c, hp⟩, _, _⟩ := F.rel.obj _ _ _ ha exs
    exact ⟨_, hp, rfl⟩
  refine callWith_builtin rfl (evalArgs_plain (spliced_cons (h.go hA F.rel F.frm ev fun v' h₁ t₁ kk r₁ => spliced_nil ?_)))
  have F₁ := F.grow kk
  obtain ⟨us, hp, hz, rr⟩ := F₁.rel.obj _ _ _ ha exs
  have hlen := rr.length
  refine wpAny_list_append_plain (hsz := by simpa using hz) hp fun h₂ hp₂ hs₂ => ?_
  have own := F₁.rel.own a (List.mem_of_getElem? ha)
  have kp : ∀ b o, b ≠ a → h₁.get? b = some o → h₂.get? b = some o := fun b o hb e => hs₂.extBut b o hb e
  have mm : Mono W W ρ ρ h₁ h₂ := Rel.mono_but own.1 kp
  have e2 : us.toArray.push v' = (us ++ [v']).toArray := by simp
  rw [e2] at hp₂
  obtain ⟨F₂, m₂⟩ := F₁.put (x := .list (xs ++ [v])) (h' := h₂) ha kp ⟨us ++ [v'], hp₂, Nat.le_trans (by simp; omega) sizeLine_big, (rr.mono mm).snoc (r₁.mono mm)⟩
  exact q _ _ ⟨_, _, h₂, t₁, F₂, (Mono.keeps kk).trans m₂, .next⟩

theorem XOK.ext {x : Str} {xp ap cp pos : Pos} {e : Expr} {n : Nat} {p : PE} (h : EvOK C names e p) (hx : C.tab[n]? = some x) (hd : (x == ("__debug__" : Str)) = false := by decide +kernel)
    (hline : (ap.endLine == cp.line) = true := by rfl) (htrees : ∀ env, backTo cp (starEach [e] env) = [(false, eval e env)] := by intro _; rfl) :
    XOK C names (.Expr (.Call (.Attribute (.Name x xp) "extend" ap) [e] [] cp) pos) (.ext n p) := by
  intro A env K W₀ W ρ vs σ s hA F r ee Q E q
  obtain ⟨l, el, ee⟩ := bind_inv ee
  obtain ⟨ys, ev, ee⟩ := bind_inv ee
  obtain ⟨xs, exs, ee⟩ := bind_inv ee
  obtain ⟨hs, ee⟩ := if_inv ee
  cases ee
  have hs := of_decide_eq_true hs
  have exs := listAt_some exs
  refine wpAny_Expr_any ?_ (by unfold interactive; rw [F.frm.kind]; rfl)
  refine wpAny_Call_method1_late rfl hline (htrees env) (EvOK.vars F hx (lkL_some el) hd fun lo rl => ?_)
  obtain ⟨a, rfl, ha⟩ := rl.loc_inv
  refine ⟨"list", "list.extend", PySem.F.plainAttrs_list, PySem.F.slot_list_extend, PySem.F.type_list_extend, ?_, fun b eb => by cases eb; obtain ⟨us, ⟨c, hp⟩, _, _⟩ := F.rel.obj _ _ _ ha exs; exact ⟨_, hp, rfl⟩, ?_⟩
  · obtain ⟨us, ⟨c, hp⟩, _, _⟩ := F.rel.obj _ _ _ ha exs
    exact ⟨_, hp, rfl⟩
  refine callWith_builtin rfl (evalArgs_plain (spliced_cons (h.go hA F.rel F.frm (bl1 ev) fun v' h₁ t₁ kk r₁ => spliced_nil ?_)))
  have F₁ := F.grow kk
  obtain ⟨us, hp, hz, rr⟩ := F₁.rel.obj _ _ _ ha exs
  obtain ⟨b, zs, rfl, hw, hb, hzb, rb⟩ := r₁.lst_inv
  have hlen := rr.length
  have hlen' := rb.length
  have hsum : us.length + zs.length ≤ sizeLine := Nat.le_trans (by omega) sizeLine_big
  refine extendPlain_ok hp hb hsum fun h₂ hp₂ hs₂ => ?_
  have own := F₁.rel.own a (List.mem_of_getElem? ha)
  have kp : ∀ b o, b ≠ a → h₁.get? b = some o → h₂.get? b = some o := fun b o hb e => hs₂.extBut b o hb e
  have mm : Mono W W ρ ρ h₁ h₂ := Rel.mono_but own.1 kp
  obtain ⟨F₂, m₂⟩ := F₁.put (x := .list (xs ++ ys)) (h' := h₂) ha kp ⟨us ++ zs, hp₂, by rw [List.length_append]; exact hsum, (rr.mono mm).append (rb.mono mm)⟩
  exact q _ _ ⟨_, _, h₂, t₁, F₂, (Mono.keeps kk).trans m₂, .next⟩

theorem XOK.aug {x : Str} {px pos : Pos} {op : Operator} {e : Expr} {n : Nat} {p : PE} (h : EvOK C names e p) (ht : C.tab[n]? = some x) (hk : names.lookup x = some .local ∨ names.lookup x = some .cell) :
    XOK C names (.AugAssign (.Name x px) op e pos) (.aug n op p) := by
  intro A env K W₀ W ρ vs σ s hA F r ee Q E q
  obtain ⟨a, ea, ee⟩ := bind_inv ee
  obtain ⟨b, eb, ee⟩ := bind_inv ee
  obtain ⟨v, hv, ee⟩ := bind_inv ee
  cases ee
  obtain ⟨x', v', e1, e2, e3⟩ := F.frm.vars n _ (bi1 ea)
  rw [ht] at e1; cases e1
  have ld : ∀ Q' : Value → Shared → Prop, (∀ v', VRel W ρ s.heap (.int a) v' → Q' v' s) → wpAny (model C.prog C.w) A (loadName env x) Q' E s := fun Q' q' => by
    rcases e2 with ⟨h1, m, h2, h3⟩ | ⟨h1, c, h2, h3⟩
    · exact wpAny_loadName_local F.frm.kind ((F.frm.kinds x).trans h1) h2 h3 (q' _ e3)
    · rcases h1 with h1 | h1
      · exact wpAny_loadName_cell F.frm.kind ((F.frm.kinds x).trans h1) h2 h3 (q' _ e3)
      · exact absurd h1 (F.nofree x)
  clear e2 e3
  refine wpAny_AugAssign_Name (ld _ fun va ra => h.go hA F.rel F.frm (bi1 eb) fun vb h₁ t₁ kk rb => ?_)
  obtain ⟨t, rfl⟩ := ra.int_inv
  obtain ⟨u, rfl⟩ := rb.int_inv
  have fin : ∀ (w : Value) (tk : Nat), VRel W ρ h₁ v w → wpAny (model C.prog C.w) A (storeName env x w) (fun _ s' => Q .next s') E { s with heap := h₁, toks := tk } := fun w tk rv =>
    store_ok (s := { s with heap := h₁, toks := tk }) (F.grow kk) ht hk rv fun h' tk F' m' => q _ _ ⟨_, _, h', tk, F', (Mono.keeps kk).trans m', .next⟩
  clear ld q
  cases op with
  | LShift =>
    have hv' : (if (decide (0 ≤ b) && decide (b ≤ 1000) && smallI a) = true then some (AV.int (a * 2 ^ b.toNat)) else none) = some v := hv
    obtain ⟨hs, rfl⟩ := if_inv hv'
    obtain ⟨h1, h2⟩ := and_inv hs
    have h0 := of_decide_eq_true (and_inv h1).1
    have h1 := of_decide_eq_true (and_inv h1).2
    have h2 := small_inv h2
    exact PyProof.Rows.ilshift_int_small (by omega) (by omega) (by omega) (fin _ _ (.int _ _))
  | BitOr =>
    cases hv
    exact PyProof.Rows.ior_int (fin _ _ (.int _ _))
  | _ => cases hv
end
end Mine
end

section
open PySem PySem.Calls PyProof.Rows PySem.W
set_option linter.unusedVariables false
namespace Mine

section
variable {C : Cx} {names : List (Str × NameKind)} {env : Env} {K : Addr → Obj → Prop} {W₀ W : Addr → Prop} {ρ : List Addr} {vs : Vars} {σ : Hp} {h h' : Heap}

/-- a new address that data may not use -/
theorem FSt.enter (F : FSt C names env K W₀ W ρ vs σ h) {L : Addr} {o : Obj} (hn : h.get? L = none) (k : ∀ b o, h.get? b = some o → h'.get? b = some o) (hL : h'.get? L = some o) :
    FSt C names env K W₀ (Rel.with' W L) ρ vs σ h' ∧ Mono W (Rel.with' W L) ρ ρ h h' := by
  have m : Mono W (Rel.with' W L) ρ ρ h h' := Rel.mono_with hn k
  refine ⟨⟨F.rel.enter hn k hL, ⟨F.frm.kind, F.frm.kinds, F.frm.glob, F.frm.blt, fun n v e => ?_⟩, ⟨.inl F.ownL.1, F.ownL.2⟩, let ⟨m, n⟩ := F.ns; ⟨m, n.keeps k⟩, fun x e => ?_, F.apart, F.nofree, F.inj⟩, m⟩
  · obtain ⟨x, v', e1, e2, e3⟩ := F.frm.vars n v e
    exact ⟨x, v', e1, e2.at (fun o e => k _ _ e) (fun c o _ e => k _ _ e), e3.mono m⟩
  · obtain ⟨c, e1, ⟨v, e2⟩, e3, e4⟩ := F.cells x e
    exact ⟨c, e1, ⟨v, cell_keep e2 fun o e => k _ _ e⟩, .inl e3, e4⟩

/-- an iterator apart from all that is ours -/
structure Aside (names : List (Str × NameKind)) (env : Env) (K : Addr → Obj → Prop) (W : Addr → Prop) (ρ : List Addr) (I : Addr) : Prop where
  w : W I
  k : ∀ o, ¬ K I o
  r : I ∉ ρ
  l : env.locals ≠ I
  c : ∀ x c, names.lookup x = some .cell → env.cells.lookup x = some c → c ≠ I

theorem FSt.but (F : FSt C names env K W₀ W ρ vs σ h) {I : Addr} (z : Aside names env K W ρ I) (k : ∀ b o, b ≠ I → h.get? b = some o → h'.get? b = some o) (hI : ∃ o, h'.get? I = some o) :
    FSt C names env K W₀ W ρ vs σ h' ∧ Mono W W ρ ρ h h' := by
  have m : Mono W W ρ ρ h h' := Rel.mono_but z.w k
  refine ⟨⟨F.rel.but z.w z.k z.r k hI, ⟨F.frm.kind, F.frm.kinds, F.frm.glob, F.frm.blt, fun n v e => ?_⟩, F.ownL, let ⟨m, n⟩ := F.ns; ⟨m, n.at' fun o e => k _ _ z.l e⟩, fun x e => ?_, F.apart, F.nofree, F.inj⟩, m⟩
  · obtain ⟨x, v', e1, e2, e3⟩ := F.frm.vars n v e
    refine ⟨x, v', e1, ?_, e3.mono m⟩
    rcases e2 with ⟨f1, m', f2, f3⟩ | ⟨f1, c, f2, f3⟩
    · exact .inl ⟨f1, m', f2.at' fun o e => k _ _ z.l e, f3⟩
    · rcases f1 with f1 | f1
      · exact .inr ⟨.inl f1, c, f2, cell_keep f3 fun o e => k _ _ (z.c x c f1 f2) e⟩
      · exact absurd f1 (F.nofree x)
  · obtain ⟨c, e1, ⟨v, e2⟩, e3, e4⟩ := F.cells x e
    exact ⟨c, e1, ⟨v, cell_keep e2 fun o e' => k _ _ (z.c x c e e1) e'⟩, e3, e4⟩

/-- the iterator is let go -/
theorem FSt.gone (F : FSt C names env K W₀ W ρ vs σ h) {I : Addr} (z : Aside names env K W ρ I) (h0 : ¬ W₀ I) (k : ∀ b o, b ≠ I → h.get? b = some o → h'.get? b = some o) :
    FSt C names env K W₀ (fun a => W a ∧ a ≠ I) ρ vs σ h' ∧ Mono W (fun a => W a ∧ a ≠ I) ρ ρ h h' := by
  have m : Mono W (fun a => W a ∧ a ≠ I) ρ ρ h h' := ⟨fun b o e hw => k b o (fun q => hw (q ▸ z.w)) e, fun b o e hw q => hw q.1, List.prefix_refl _⟩
  have kL : ∀ o, h.get? env.locals = some o → h'.get? env.locals = some o := fun o e => k _ _ z.l e
  refine ⟨⟨⟨F.rel.base, fun b o e => k b o (fun q => z.k o (q ▸ e)) (F.rel.keep b o e), fun a wa => ⟨F.rel.sub a wa, fun q => h0 (q ▸ wa)⟩, fun a wa => let ⟨o, e⟩ := F.rel.dom a wa.1; ⟨o, k a o wa.2 e⟩,
      fun a ha => ⟨⟨(F.rel.own a ha).1, fun q => z.r (q ▸ ha)⟩, (F.rel.own a ha).2⟩, F.rel.nodup, F.rel.len, fun i a o e1 e2 => (F.rel.obj i a o e1 e2).mono m fun o e => k _ _ (fun q => z.r (q ▸ List.mem_of_getElem? e1)) e⟩,
    ⟨F.frm.kind, F.frm.kinds, F.frm.glob, F.frm.blt, fun n v e => ?_⟩, ⟨⟨F.ownL.1, z.l⟩, F.ownL.2⟩, let ⟨m, n⟩ := F.ns; ⟨m, n.at' kL⟩, fun x e => ?_, F.apart, F.nofree, F.inj⟩, m⟩
  · obtain ⟨x, v', e1, e2, e3⟩ := F.frm.vars n v e
    refine ⟨x, v', e1, ?_, e3.mono m⟩
    rcases e2 with ⟨f1, m', f2, f3⟩ | ⟨f1, c, f2, f3⟩
    · exact .inl ⟨f1, m', f2.at' kL, f3⟩
    · rcases f1 with f1 | f1
      · exact .inr ⟨.inl f1, c, f2, cell_keep f3 fun o e => k _ _ (z.c x c f1 f2) e⟩
      · exact absurd f1 (F.nofree x)
  · obtain ⟨c, e1, ⟨v, e2⟩, e3, e4⟩ := F.cells x e
    exact ⟨c, e1, ⟨v, cell_keep e2 fun o e' => k _ _ (z.c x c e e1) e'⟩, ⟨e3, z.c x c e e1⟩, e4⟩

theorem FSt.addK (F : FSt C names env K W₀ W ρ vs σ h) {I : Addr} {o : Obj} (z : Aside names env K W ρ I) (hI : h.get? I = some o) : FSt C names env (fun b o' => K b o' ∨ (b = I ∧ o' = o)) (Rel.with' W₀ I) W ρ vs σ h := by
  refine ⟨⟨fun b o e => .inl (F.rel.base b o e), fun b o' e => e.elim (F.rel.keep b o') fun q => by rw [q.1, q.2]; exact hI, fun a q => q.elim (F.rel.sub a) fun q => q ▸ z.w, F.rel.dom,
      fun a ha => ⟨(F.rel.own a ha).1, fun q => q.elim (F.rel.own a ha).2.1 fun q => z.r (q ▸ ha), fun o' q => q.elim ((F.rel.own a ha).2.2 o') fun q => z.r (q.1 ▸ ha)⟩, F.rel.nodup, F.rel.len, F.rel.obj⟩,
    F.frm, ⟨F.ownL.1, fun o' q => q.elim (F.ownL.2.1 o') fun q => z.l q.1, F.ownL.2.2⟩, F.ns, fun x e => ?_, F.apart, F.nofree, F.inj⟩
  obtain ⟨c, e1, e2, e3, e4, e5⟩ := F.cells x e
  exact ⟨c, e1, e2, e3, fun o' q => q.elim (e4 o') fun q => z.c x c e e1 q.1, e5⟩

theorem FSt.dropK {I : Addr} {o : Obj} (hb : ∀ b o, C.h₁.get? b = some o → K b o) (hK : ∀ o, ¬ K I o) (F : FSt C names env (fun b o' => K b o' ∨ (b = I ∧ o' = o)) (Rel.with' W₀ I) W ρ vs σ h) : FSt C names env K W₀ W ρ vs σ h ∧ Aside names env K W ρ I := by
  refine ⟨⟨⟨hb, fun b o' e => F.rel.keep b o' (.inl e), fun a q => F.rel.sub a (.inl q), F.rel.dom, fun a ha => ⟨(F.rel.own a ha).1, fun q => (F.rel.own a ha).2.1 (.inl q), fun o' q => (F.rel.own a ha).2.2 o' (.inl q)⟩, F.rel.nodup, F.rel.len, F.rel.obj⟩,
    F.frm, ⟨F.ownL.1, fun o' q => F.ownL.2.1 o' (.inl q), F.ownL.2.2⟩, F.ns, fun x e => ?_, F.apart, F.nofree, F.inj⟩, ⟨F.rel.sub I (.inr rfl), hK, fun q => (F.rel.own I q).2.2 o (.inr ⟨rfl, rfl⟩), fun q => F.ownL.2.1 o (.inr ⟨q, rfl⟩), fun x c e e1 q => ?_⟩⟩
  · obtain ⟨c, e1, e2, e3, e4, e5⟩ := F.cells x e
    exact ⟨c, e1, e2, e3, fun o' q => e4 o' (.inl q), e5⟩
  · obtain ⟨c', f1, _, _, e4, _⟩ := F.cells x e
    rw [e1] at f1; cases f1
    exact e4 o (.inr ⟨q, rfl⟩)
end

section
variable {C : Cx} {names : List (Str × NameKind)}

theorem frozen_iter {σ : Hp} {a : AV} {xs : List AV} (h : frozenA a = some xs) : iterA σ a = some xs := by
  cases a <;> first | exact h | cases h

inductive LInv (C : Cx) (names : List (Str × NameKind)) (env : Env) (K : Addr → Obj → Prop) (W₀ W : Addr → Prop) (ρ : List Addr) (s : Shared) (h₁ : Heap) (xs : List AV) (g : List AV → Vars → Hp → Option St) (r : St) (I : Addr) (St' : Nat → Heap → Prop) (j : Nat) : Shared → Prop
  | mk (i : Nat) (W' : Addr → Prop) (ρ' : List Addr) (vs' : Vars) (σ' : Hp) (h' : Heap) (tk : Nat) : j = xs.length + 1 - i → i ≤ xs.length → FSt C names env K W₀ W' ρ' vs' σ' h' → Mono W W' ρ ρ' h₁ h' → St' i h' → Aside names env K W' ρ' I →
    g (xs.drop i) vs' σ' = some r → LInv C names env K W₀ W ρ s h₁ xs g r I St' j { s with heap := h', toks := tk }

theorem loop_back {C : Cx} {names : List (Str × NameKind)} {prog : Program} {w : World} {A : Around} {env : Env} {K : Addr → Obj → Prop} {W₀ W W' W'' : Addr → Prop} {ρ ρ' ρ'' : List Addr} {xs : List AV} {h₁ h₂ h₅ h'' : Heap} {I : Addr} {fp : List Addr} {P : Nat → Value → Prop} {St' : Nat → Heap → Prop} {i : Nat} {vs'' : Vars} {σ'' : Hp} {o₅ : Obj}
    (S : Src prog w A W ρ xs h₁ h₂ I fp P St') (hfp : ∀ b ∈ fp, ¬ W b ∨ b = I) (hbase : ∀ b o, C.h₁.get? b = some o → K b o) (hnoK : ∀ o, ¬ K I o) (st₅ : St' (i + 1) h₅) (ho₅ : h₅.get? I = some o₅) (m5 : Mono W W' ρ ρ' h₁ h₅)
    (G : FSt C names env (fun b o' => K b o' ∨ (b = I ∧ o' = o₅)) (Rel.with' W₀ I) W'' ρ'' vs'' σ'' h'') (mm : Mono W' W'' ρ' ρ'' h₅ h'') :
    FSt C names env K W₀ W'' ρ'' vs'' σ'' h'' ∧ Aside names env K W'' ρ'' I ∧ St' (i + 1) h'' ∧ Mono W W'' ρ ρ'' h₁ h'' := by
  obtain ⟨G', z''⟩ := G.dropK hbase hnoK
  refine ⟨G', z'', S.walks.frame _ _ _ st₅ fun b hb o e => ?_, m5.trans mm⟩
  rcases S.fpOk b hb with rfl | ⟨hne, o', e0⟩
  · rw [ho₅] at e; cases e
    exact G.rel.keep _ _ (.inr ⟨rfl, rfl⟩)
  · have hw : ¬ W b := (hfp b hb).elim id fun q => absurd q hne
    exact mm.keep b o e (m5.off b o' e0 hw)

theorem aside_of {C : Cx} {names : List (Str × NameKind)} {env : Env} {K : Addr → Obj → Prop} {W₀ W : Addr → Prop} {ρ : List Addr} {vs : Vars} {σ : Hp} {h : Heap} (F : FSt C names env K W₀ W ρ vs σ h) {I : Addr} (fr : h.get? I = none) : Aside names env K (Rel.with' W I) ρ I := by
  refine ⟨.inr rfl, fun o q => ?_, fun q => ?_, fun q => ?_, fun x c e1 e2 q => ?_⟩
  · have e := F.rel.keep I o q; rw [fr] at e; cases e
  · obtain ⟨o, e⟩ := F.rel.dom I (F.rel.own I q).1
    rw [fr] at e; cases e
  · obtain ⟨m, o, _, _, e, _⟩ := F.ns
    rw [q, fr] at e; cases e
  · obtain ⟨c', f1, ⟨v, o, f2, _⟩, _⟩ := F.cells x e1
    rw [e2] at f1; cases f1
    rw [q, fr] at f2; cases f2

theorem XOK.loop {x : Str} {px pos : Pos} {e : Expr} {b : List Stmt} {n : Nat} {p : PE} {pb : PS} (h : EvOK C names e p) (hb : XsOK C names b pb) (ht : C.tab[n]? = some x) (hk : names.lookup x = some .local ∨ names.lookup x = some .cell)
    (hfs : ∀ env v, foldedSetIterable e env v = pure v := by intro _ _; exact fsi_ok rfl) : XOK C names (.For (.Name x px) e b [] pos) (.loop n p pb) := by
  intro A env K W₀ W ρ vs σ s hA F r ee Q E q
  obtain ⟨xs, ea, ee⟩ := bind_inv ee
  obtain ⟨a, ea, exs⟩ := bind_inv ea
  refine wpAny_For (h.go hA F.rel F.frm ea fun va h₁ t₁ kk r₁ => ?_) (fun v => hfs env v)
  have F₁ := F.grow kk
  refine iter_ok (s := { s with heap := h₁, toks := t₁ }) hA.1 F₁.rel r₁ (frozen_iter exs) fun I fp P St s₂ k₂ S hfp => ?_
  obtain ⟨h₂, t₂, kk₂⟩ := k₂
  have hfp := hfp exs
  obtain ⟨oI, hoI⟩ := S.stands _ _ S.st
  obtain ⟨F₂, m₂⟩ := F₁.enter S.fresh kk₂ hoI
  have z₂ := aside_of F₁ S.fresh
  have hnoK := z₂.k
  have h0 : ¬ W₀ I := fun q => by
    obtain ⟨o, e⟩ := F₁.rel.dom I (F₁.rel.sub I q)
    rw [S.fresh] at e; cases e
  have q' : ∀ W' ρ' h' tk f, FSt C names env K W₀ W' ρ' r.2.1 r.2.2 h' → Mono W W' ρ ρ' h₁ h' → FlRel W' ρ' h' r.1 f → Q f { s with heap := h', toks := tk } := fun W' ρ' h' tk f F m fl => q _ _ ⟨W', ρ', h', tk, F, (Mono.keeps kk).trans m, fl⟩
  have hbase := F₁.rel.base
  clear q r₁ F₁ F
  refine codeAny_forLoop (LInv C names env K W₀ W ρ s h₁ xs (forL n (exP C.F C.I pb)) r I St) ?_ (xs.length + 1)
    (.mk 0 _ ρ vs σ h₂ t₂ (by omega) (Nat.zero_le _) F₂ m₂ S.st z₂ ee)
  intro j s' inv
  obtain ⟨i, W', ρ', vs', σ', h', tk, rfl, hi, F', m', st', z', e'⟩ := inv
  by_cases hlt : i < xs.length
  · refine S.walks.item i _ _ _ hlt st' fun v h₅ tk₅ hPv st₅ keep₅ => ?_
    have hxi : xs[i]? = some xs[i] := by simp [hlt]
    have rv := S.item i v _ hPv hxi
    obtain ⟨o₅, ho₅⟩ := S.stands _ _ st₅
    obtain ⟨F₅, m₅⟩ := F'.but z' (fun b o hb e => keep₅ b o (fun q => hb (List.mem_singleton.mp q)) e) ⟨o₅, ho₅⟩
    have m5 := m'.trans m₅
    rw [List.drop_eq_getElem_cons hlt] at e'
    obtain ⟨r₀, e8, e9⟩ := bind_inv e'
    refine wpAny_assign_Name (store_ok (s := { s with heap := h₅, toks := tk₅ }) (F₅.addK z' ho₅) ht hk (rv.mono m5) fun h₇ tk₇ F₇ m₇ => ?_)
    refine hb.go (s := { s with heap := h₇, toks := tk₇ }) hA F₇ e8 fun f W₈ ρ₈ h₈ tk₈ F₈ m₈ fl => ?_
    obtain ⟨G, z, st, mm⟩ := loop_back S hfp hbase hnoK st₅ ho₅ m5 F₈ (m₇.trans m₈)
    clear F₈ m₈ F₇ m₇ F₅ m₅ m5 rv S
    rcases loop_inv e9 with ⟨e1, e2⟩ | ⟨e1, e2⟩ | ⟨e2, u, e1⟩
    · rw [e1] at fl
      cases fl.next_inv
      exact ⟨xs.length + 1 - (i + 1), by omega, .mk (i + 1) W₈ ρ₈ _ _ h₈ tk₈ rfl hlt G mm st z e2⟩
    · rw [e1] at fl
      cases fl.brk_inv
      subst e2
      exact q' W₈ ρ₈ h₈ tk₈ _ G mm .next
    · subst e2
      have fl' := fl
      rw [e1] at fl
      obtain ⟨v', rfl, _⟩ := fl.ret_inv
      exact q' W₈ ρ₈ h₈ tk₈ _ G mm fl'
  · have hin : i = xs.length := by omega
    subst hin
    refine S.walks.done _ _ _ st' fun h₅ tk₅ keep₅ => ?_
    rw [List.drop_length] at e'
    cases e'
    obtain ⟨F₅, m₅⟩ := F'.gone z' h0 (fun b o hb e => keep₅ b o (fun q => hb (List.mem_singleton.mp q)) e)
    exact wpAny_execs_nil (q' _ ρ' h₅ tk₅ _ F₅ (m'.trans m₅) .next)
end
end Mine
end

section
open PySem PySem.Calls PyProof.Rows PySem.W
set_option linter.unusedVariables false
namespace Mine

theorem bindL_other {f : Str → Option NameKind} {x : Str} : ∀ {bs : List (Str × Value)} {m : Str → Option Value}, x ∉ bs.map (·.1) → bindL f bs m x = m x
  | [], m, _ => rfl
  | (y, u) :: r, m, h => by
    simp only [List.map_cons, List.mem_cons, not_or] at h
    unfold bindL
    rw [bindL_other h.2]
    split
    · simp [h.1]
    · rfl
theorem bindL_get {f : Str → Option NameKind} {x : Str} {v : Value} (hx : f x = some .local) : ∀ {bs : List (Str × Value)} {m : Str → Option Value}, (bs.map (·.1)).Nodup → (x, v) ∈ bs → bindL f bs m x = some v
  | [], m, _, h => by cases h
  | (y, u) :: r, m, hn, h => by
    simp only [List.map_cons, List.nodup_cons] at hn
    unfold bindL
    rcases List.mem_cons.mp h with e | h
    · cases e
      rw [bindL_other hn.1, if_pos hx]; simp
    · exact bindL_get hx hn.2 h
theorem bindC_other {f : Str → Option NameKind} {x : Str} : ∀ {bs : List (Str × Value)} {m : Str → Option Value}, x ∉ bs.map (·.1) → bindC f bs m x = m x
  | [], m, _ => rfl
  | (y, u) :: r, m, h => by
    simp only [List.map_cons, List.mem_cons, not_or] at h
    unfold bindC
    rw [bindC_other h.2]
    split
    · rfl
    · simp [h.1]
theorem bindC_get {f : Str → Option NameKind} {x : Str} {v : Value} (hx : f x = some .cell) : ∀ {bs : List (Str × Value)} {m : Str → Option Value}, (bs.map (·.1)).Nodup → (x, v) ∈ bs → bindC f bs m x = some v
  | [], m, _, h => by cases h
  | (y, u) :: r, m, hn, h => by
    simp only [List.map_cons, List.nodup_cons] at hn
    unfold bindC
    rcases List.mem_cons.mp h with e | h
    · cases e
      rw [bindC_other hn.1, if_neg (by rw [hx]; decide)]; simp
    · exact bindC_get hx hn.2 h

/-- parameters: their numbers and names -/
inductive Pars (tab : List Str) : List Nat → List Str → Prop
  | nil : Pars tab [] []
  | cons {n : Nat} {x : Str} {ns : List Nat} {xs : List Str} : tab[n]? = some x → Pars tab ns xs → Pars tab (n :: ns) (x :: xs)

theorem bindA_len {tab : List Str} {ps : List Nat} {xs : List Str} (hp : Pars tab ps xs) : ∀ {as : List AV} {vs : Vars}, bindA ps as = some vs → as.length = xs.length := by
  induction hp with
  | nil => intro as vs e; cases as with
    | nil => rfl
    | cons => cases e
  | cons _ _ ih => intro as vs e; cases as with
    | nil => cases e
    | cons a as => obtain ⟨c, e, _⟩ := map_inv e; exact congrArg Nat.succ (ih e)
theorem bindA_get {tab : List Str} {W : Addr → Prop} {ρ : List Addr} {h : Heap} {ps : List Nat} {xs : List Str} (hp : Pars tab ps xs) : ∀ {as : List AV} {vals : List Value} {vs : Vars}, bindA ps as = some vs → VRels W ρ h as vals →
    ∀ {n : Nat} {v : AV}, lk n vs = some v → ∃ x v', tab[n]? = some x ∧ (x, v') ∈ xs.zip vals ∧ VRel W ρ h v v' := by
  induction hp with
  | nil => intro as vals vs e r n v l; cases as with
    | nil => cases e; cases l
    | cons => cases e
  | @cons p x ps xs ht hp ih =>
    intro as vals vs e r n v l
    cases as with
    | nil => cases e
    | cons a as =>
      obtain ⟨u, us, rfl, r, rs⟩ := r.cons_inv
      obtain ⟨c, e', rfl⟩ := map_inv e
      by_cases hn : n = p
      · subst hn
        have l' : (if n = n then some a else lk n c) = some v := l
        rw [if_pos rfl] at l'
        cases l'
        exact ⟨x, u, ht, List.mem_cons_self, r⟩
      · have l' : (if n = p then some a else lk n c) = some v := l
        rw [if_neg hn] at l'
        obtain ⟨x', v', h1, h2, h3⟩ := ih e' rs l'
        exact ⟨x', v', h1, List.mem_cons_of_mem _ h2, h3⟩

theorem zip_fst_sub : ∀ {xs : List Str} {vals : List Value}, ((xs.zip vals).map (·.1)).Sublist xs
  | [], _ => by simp
  | x :: xs, [] => by simp
  | x :: xs, v :: vs => by simp only [List.zip_cons_cons, List.map_cons]; exact (zip_fst_sub).cons_cons x

/-- facts of a top def -/
structure FnAt (C : Cx) (a : Addr) (ps : List Nat) (body : List Stmt) (names : List (Str × NameKind)) : Prop where
  fn : ∃ (o : Obj) (fd : FuncData) (xs : List Str), C.h₁.get? a = some o ∧ o.data = .func fd ∧ C.h₁.CodeRec fd.code fd.qualname ∧ fd.body = .stmts body ∧ fd.closure = [] ∧ fd.scope.names = names ∧ fd.scope.kind = .function ∧ fd.globals = mainGlobals ∧ fd.builtins = builtinsNs ∧
    fd.scope.isCoroutine = false ∧ fd.scope.isGenerator = false ∧ Pars C.tab ps xs ∧ xs.Nodup ∧ (∀ x ∈ xs, names.lookup x = some .local ∨ names.lookup x = some .cell) ∧ (∀ vals : List Value, vals.length = xs.length → bindArgs fd ⟨vals, []⟩ = pure (xs.zip vals))
  nofree : ∀ x, names.lookup x ≠ some .free

/-- the frame of a call -/
theorem call_frame {C : Cx} {a : Addr} {ps : List Nat} {body : List Stmt} {names : List (Str × NameKind)} {pb : PS} {k : Nat} (hC : Stat C) (hi : ∀ (i j : Nat) (x : Str), C.tab[i]? = some x → C.tab[j]? = some x → i = j) (fn : FnAt C a ps body names) (hb : XsOK C names body pb)
    {A : Around} {s : Shared} {E : Value → Shared → Prop} (hA : AOk (C.k + 1) A) {K : Addr → Obj → Prop} {W₀ W : Addr → Prop} {ρ : List Addr} {σ : Hp} (H : Rel C.prog C.w C.h₁ K W₀ W ρ σ s.heap) (hK : ∀ b o, K b o → s.heap.get? b = some o)
    {as : List AV} {vals : List Value} (r : VRels W ρ s.heap as vals) {vs : Vars} (hvs : bindA ps as = some vs) {fl : AFl} {vs' : Vars} {σ' : Hp} (ev : exP C.F C.I pb vs σ = some (fl, vs', σ')) {Q : Value → Shared → Prop}
    (q : ∀ (f : Flow) (W' : Addr → Prop) (ρ' : List Addr) (h' : Heap) (tk : Nat), Rel C.prog C.w C.h₁ K W₀ W' ρ' σ' h' → Mono W W' ρ ρ' s.heap h' → FlRel W' ρ' h' fl f → Q (match f with | .ret v => v | _ => .none) { s with heap := h', toks := tk }) :
    wpAny (model C.prog C.w) A (call (.ref a) vals) Q E s := by
  obtain ⟨o, fd, xs, h1, h2, h3, h4, h5, h6, h7, h8, h9, h10, h11, h12, h13, h14, h15⟩ := fn.fn
  have hlen : vals.length = xs.length := r.length.symm.trans (bindA_len h12 hvs)
  have hbs := h15 vals hlen
  have hmem : ∀ x ∈ xs.zip vals, x.1 ∈ xs := fun x hx => (List.of_mem_zip (show (x.1, x.2) ∈ xs.zip vals from hx)).1
  have hcellLk : ∀ x, names.lookup x = some .cell → ∃ c, (cellsFrom (s.heap.objs.size + 1) fd.scope.names []).lookup x = some c := fun x hx => cellsFrom_has _ _ x (h6 ▸ mem_of_lookup hx)
  refine wpAny_call (codeAny_call_cells (binds := xs.zip vals) (fd := fd) (o := o) (body := body) (by have := hA.2.1; omega) (H.heap _ _ h1) h2 (hC.nolimit.keeps H.heap) (h3.keeps H.heap) h4 hbs h5 (fun x hx => ?_) (fun s₁ X => ?_) h10 h11 h7)
  · rw [h6]
    rcases h14 x.1 (hmem x hx) with h | h
    · exact .inl h
    · obtain ⟨c, hc⟩ := hcellLk x.1 h
      exact .inr ⟨h, by rw [← h6, hc]; rfl⟩
  · generalize he : callEnvC fd s.heap.objs.size a = env at X
    have eL : env.locals = s.heap.objs.size := by rw [← he]; rfl
    have eC : env.cells = cellsFrom (s.heap.objs.size + 1) fd.scope.names [] := by rw [← he]; rfl
    have eK : ∀ x, env.kindOf x = names.lookup x := fun x => by rw [← he, ← h6]; rfl
    have eS : env.scope.kind = .function := by rw [← he]; exact h7
    have eG : env.globals = mainGlobals := by rw [← he]; exact h8
    have eB : env.builtins = builtinsNs := by rw [← he]; exact h9
    obtain ⟨h', tk', rfl⟩ := X.toInCall.same
    have keep : ∀ b o, s.heap.get? b = some o → h'.get? b = some o := X.toInCall.keep
    let W' : Addr → Prop := fun b => W b ∨ b = env.locals ∨ ∃ x, env.cells.lookup x = some b
    have fresh : ∀ b, s.heap.objs.size ≤ b → s.heap.get? b = none := fun b hb => Heap.get?_none_of_le hb
    have cellGe : ∀ x c, env.cells.lookup x = some c → s.heap.objs.size ≤ c := fun x c hc => by
      have := X.above x c (mem_of_lookup hc)
      rw [eL] at this
      exact Nat.le_of_lt this
    have hW2 : ∀ b, W' b → ¬ W b → s.heap.get? b = none := fun b h hn => by
      rcases h with h | rfl | ⟨x, h⟩
      · exact absurd h hn
      · exact fresh _ (by rw [eL]; exact Nat.le_refl _)
      · exact fresh _ (cellGe x b h)
    have dom : ∀ b, W' b → ∃ o, h'.get? b = some o := fun b h => by
      rcases h with h | rfl | ⟨x, h⟩
      · obtain ⟨o, e⟩ := H.dom b h; exact ⟨o, keep _ _ e⟩
      · obtain ⟨o, _, _, e, _⟩ := X.toInCall.ns; exact ⟨o, e⟩
      · obtain ⟨o, e, _⟩ := X.cell x b h; exact ⟨o, e⟩
    have m : Mono W W' ρ ρ s.heap h' := mono_widen keep hW2
    have H' : Rel C.prog C.w C.h₁ K W₀ W' ρ σ h' := H.widen keep (fun _ h => .inl h) hW2 dom
    have notIn : ∀ {b}, s.heap.get? b = none → b ∉ ρ := fun {b} hb q => by obtain ⟨o, e⟩ := H.dom b (H.own b q).1; rw [hb] at e; cases e
    have notK : ∀ {b}, s.heap.get? b = none → ∀ o, ¬ K b o := fun {b} hb o q => by have := hK b o q; rw [hb] at this; cases this
    have FF : FSt C names env K W₀ W' ρ vs σ h' := by
      refine ⟨H', ⟨eS, eK, eG, eB, fun n v l => ?_⟩, ⟨.inr (.inl rfl), notK (fresh _ (by rw [eL]; exact Nat.le_refl _)), notIn (fresh _ (by rw [eL]; exact Nat.le_refl _))⟩, ⟨_, X.toInCall.ns⟩, fun x hx => ?_, fun x y c hx hy h1 h2 => name_of_addr X.apart (mem_of_lookup h1) (mem_of_lookup h2), fn.nofree, hi⟩
      · obtain ⟨x, v', e1, e2, e3⟩ := bindA_get h12 hvs r l
        refine ⟨x, v', e1, ?_, e3.mono m⟩
        have hnd : ((xs.zip vals).map (·.1)).Nodup := zip_fst_sub.nodup h13
        rcases h14 x (hmem _ e2) with h | h
        · exact .inl ⟨h, _, X.toInCall.ns, bindL_get ((eK x).trans h) hnd e2⟩
        · obtain ⟨c, hc⟩ := hcellLk x h
          refine .inr ⟨.inl h, c, by rw [eC]; exact hc, ?_⟩
          have := X.cell x c (by rw [eC]; exact hc)
          rwa [bindC_get ((eK x).trans h) hnd e2] at this
      · obtain ⟨c, hc⟩ := hcellLk x hx
        have hc' : env.cells.lookup x = some c := by rw [eC]; exact hc
        have hn := fresh c (cellGe x c hc')
        exact ⟨c, hc', ⟨_, X.cell x c hc'⟩, .inr (.inr ⟨x, hc'⟩), notK hn, notIn hn, Nat.ne_of_gt (X.above x c (mem_of_lookup hc'))⟩
    have hA' : AOk C.k (A.deeper env) := ⟨hA.1, by show A.depth + 1 + C.k < _; have := hA.2.1; omega, by show A.units + 3 + 64 + 4 * C.k + 4 < _; have := hA.2.2; omega⟩
    exact hb.go (s := { s with heap := h', toks := tk' }) hA' FF ev fun f W'' ρ'' h'' tk'' F'' m'' fl => q f W'' ρ'' h'' tk'' F''.rel (m.trans m'') fl

theorem frz0_ok {prog : Program} {w : World} {h₁ : Heap} {K : Addr → Obj → Prop} {W₀ W : Addr → Prop} {ρ ρ' : List Addr} {σ : Hp} {h : Heap} (H : Rel prog w h₁ K W₀ W ρ σ h) {v u : AV} {v' : Value} (r : VRel W ρ h v v') (e : frz0 σ v = some u) : VRel W₀ ρ' h u v' := by
  have fl : ∀ v, VRel W ρ h v v' → (if Mine.flat v = true then some v else none) = some u → VRel W₀ ρ' h u v' := fun v r e => by
    obtain ⟨hfl, rfl⟩ := if_inv e
    cases v with
    | lst xs =>
      obtain ⟨l, vs, rfl, hw, hp, hs, r⟩ := r.lst_inv
      exact .lst (fun q => hw (H.sub _ q)) hp hs (r.of_all (fun _ _ => VRel.atom) hfl)
    | _ => exact r.atom hfl
  cases v with
  | loc i =>
    obtain ⟨xs, hx, e⟩ := bind_inv e
    obtain ⟨hall, rfl⟩ := if_inv e
    obtain ⟨a, rfl, ha⟩ := r.loc_inv
    obtain ⟨vs, hp, hz, rr⟩ := H.obj _ _ _ ha (listAt_some hx)
    exact .lst (H.own a (List.mem_of_getElem? ha)).2.1 hp hz (rr.of_all (fun _ _ => VRel.atom) hall)
  | _ => exact fl _ r e
theorem frzs_ok {prog : Program} {w : World} {h₁ : Heap} {K : Addr → Obj → Prop} {W₀ W : Addr → Prop} {ρ ρ' : List Addr} {σ : Hp} {h : Heap} (H : Rel prog w h₁ K W₀ W ρ σ h) : ∀ {xs ys : List AV} {vs : List Value}, VRels W ρ h xs vs → mapO (frz0 σ) xs = some ys → VRels W₀ ρ' h ys vs := by
  intro xs
  induction xs with
  | nil => intro ys vs r e; cases r.nil_inv; cases e; exact .nil
  | cons x xs ih =>
    intro ys vs r e
    obtain ⟨v, us, rfl, r, rs⟩ := r.cons_inv
    cases hb : frz0 σ x with
    | none => simp only [mapO, hb] at e; cases e
    | some b =>
      cases hbs : mapO (frz0 σ) xs with
      | none => simp only [mapO, hb, hbs] at e; cases e
      | some bs =>
        simp only [mapO, hb, hbs] at e
        cases e
        exact .cons (frz0_ok H r hb) (ih rs hbs)
theorem frz_ok {prog : Program} {w : World} {h₁ : Heap} {K : Addr → Obj → Prop} {W₀ W : Addr → Prop} {ρ ρ' : List Addr} {σ : Hp} {h : Heap} (H : Rel prog w h₁ K W₀ W ρ σ h) {v u : AV} {v' : Value} (r : VRel W ρ h v v') (e : frz σ v = some u) : VRel W₀ ρ' h u v' := by
  cases v with
  | lst xs =>
    obtain ⟨ys, hy, e⟩ := bind_inv e
    cases e
    obtain ⟨l, vs, rfl, hw, hp, hs, r⟩ := r.lst_inv
    exact .lst (fun q => hw (H.sub _ q)) hp hs (frzs_ok H r hy)
  | tup xs =>
    obtain ⟨ys, hy, e⟩ := bind_inv e
    cases e
    obtain ⟨l, vs, rfl, hw, hp, hs, r⟩ := r.tup_inv
    exact .tup (fun q => hw (H.sub _ q)) hp hs (frzs_ok H r hy)
  | _ => exact frz0_ok H r e

theorem CallOK.of {C : Cx} {a : Addr} {ps : List Nat} {body : List Stmt} {names : List (Str × NameKind)} {pb : PS} (hC : Stat C) (hi : ∀ (i j : Nat) (x : Str), C.tab[i]? = some x → C.tab[j]? = some x → i = j) (fn : FnAt C a ps body names) (hb : XsOK C names body pb) {k : Nat} (hk : C.k + 1 ≤ k)
    {f : List AV → Option AV} (hf : ∀ as v, f as = some v → runF C.F C.I ps pb as = some v) : CallOK C k a f := by
  intro A W s hA hh dom as vals r v e Q E q
  have e := hf as v e
  have hA' : AOk (C.k + 1) A := ⟨hA.1, by have := hA.2.1; omega, by have := hA.2.2; omega⟩
  obtain ⟨vs, hvs, e⟩ := bind_inv e
  obtain ⟨⟨fl, vs', σ'⟩, ev, e⟩ := bind_inv e
  have H : Rel C.prog C.w C.h₁ (fun b o => s.heap.get? b = some o) W W [] [] s.heap := ⟨hh, fun _ _ e => e, fun _ h => h, dom, fun _ h => (nomatch h), List.nodup_nil, rfl, fun i a o e => (nomatch e)⟩
  refine call_frame (k := k) hC hi fn hb hA' H (fun _ _ e => e) r hvs ev fun f W' ρ' h' tk H' m fl => ?_
  cases fl with
  | ret rv => exact q _ _ ⟨h', tk, H'.keep⟩ (frz_ok H' rv e)
  | next => cases e; exact q _ _ ⟨h', tk, H'.keep⟩ .none
  | brk => cases e

theorem IterOK.of {C : Cx} {a : Addr} {p : Nat} {body : List Stmt} {names : List (Str × NameKind)} {pb : PS} (hC : Stat C) (hi : ∀ (i j : Nat) (x : Str), C.tab[i]? = some x → C.tab[j]? = some x → i = j) (fn : FnAt C a [p] body names) (hb : XsOK C names body pb) {k : Nat} (hk : C.k + 1 ≤ k)
    {f : List AV → Nat → Option (AV × List AV × Nat)} (hf : ∀ xs i r, f xs i = some r → runI C.F C.I p pb xs i = some r) : IterOK C k a f := by
  intro A W it s hA hh dom hnone hW l us xs i hit hw hp hz rr v xs' j e Q E q
  have e := hf xs i _ e
  have hA' : AOk (C.k + 1) A := ⟨hA.1, by have := hA.2.1; omega, by have := hA.2.2; omega⟩
  obtain ⟨⟨fl, vs', σ'⟩, ev, e⟩ := bind_inv e
  obtain ⟨v', e1, e⟩ := bind_inv e
  obtain ⟨⟨xs'', k''⟩, hi', e⟩ := bind_inv e
  obtain ⟨hat, e⟩ := if_inv e
  obtain ⟨hat1, hat2⟩ := and_inv hat
  cases e
  have H : Rel C.prog C.w C.h₁ (fun b o => s.heap.get? b = some o ∧ b ≠ it) (fun b => W b ∧ b ≠ it) W [it] [.iter xs i] s.heap := by
    refine ⟨fun b o e => ⟨hh b o e, fun q => by rw [q, hnone] at e; cases e⟩, fun _ _ e => e.1, fun _ h => h.1, dom, fun a ha => ?_, by simp, rfl, fun i' a o e1 e2 => ?_⟩
    · rw [List.mem_singleton.mp ha]; exact ⟨hW, fun q => q.2 rfl, fun o q => q.2 rfl⟩
    · cases i' with
      | zero =>
        cases e1; cases e2
        exact ⟨l, us, hit, hw, hp, hz, rr.mono ⟨fun _ _ e _ => e, fun _ _ _ x => x, pre_nil⟩⟩
      | succ n => cases e1
  refine call_frame (k := k) hC hi fn hb hA' H (fun _ _ e => e.1) (as := [.loc 0]) (vals := [.ref it]) (.cons (.loc rfl) .nil) (vs := [(p, .loc 0)]) rfl ev fun f W' ρ' h' tk H' m fl => ?_
  cases fl with
  | next => cases e1
  | brk => cases e1
  | ret rv =>
    cases e1
    have h0 : ρ'[0]? = some it := pre_get m.pre rfl
    have nl : ∀ {b : Addr} {o : Obj}, h'.get? b = some o → ¬ W' b → ¬ W b := fun {b o} eb hb q => by
      by_cases hbi : b = it
      · subst hbi; exact hb (H'.own _ (List.mem_of_getElem? h0)).1
      · exact hb (H'.sub b ⟨q, hbi⟩)
    refine q _ h' tk (fun b o hb e => H'.keep b o ⟨e, hb⟩) ?_ (rv.atom hat1)
    obtain ⟨l', us', g1, g2, g3, g4, g5⟩ := H'.obj 0 it _ h0 (iterAt_some hi')
    refine ⟨l', us', g1, ?_, g3, g4, fun ρ => g5.of_all (fun _ _ => VRel.atom) hat2⟩
    obtain ⟨n, e⟩ := g3
    exact nl e g2
end Mine
end

section
open PySem PySem.Calls PyProof.Rows PySem.W
set_option linter.unusedVariables false
namespace Mine

noncomputable def isK (k : Option NameKind) (j : NameKind) : Bool := match k with
  | some k => k == j
  | none => false
theorem isK_eq {k : Option NameKind} {j : NameKind} (h : isK k j = true) : k = some j := by
  unfold isK at h
  split at h
  · rename_i k; rw [beq_iff_eq.mp h]
  · cases h
noncomputable def hasN (ns : List (Str × NameKind)) (x : Str) (j : NameKind) : Bool := ns.any fun y => y.1 == x && y.2 == j
theorem hasN_mem {ns : List (Str × NameKind)} {x : Str} {j : NameKind} (h : hasN ns x j = true) : (x, j) ∈ ns := by
  unfold hasN at h
  obtain ⟨y, hy, e⟩ := List.any_eq_true.mp h
  simp only [Bool.and_eq_true, beq_iff_eq] at e
  rw [← e.1, ← e.2]; exact hy
theorem hasN_not {ns : List (Str × NameKind)} {x : Str} {j : NameKind} (h : hasN ns x j = false) : (x, j) ∉ ns := fun q => by
  unfold hasN at h
  have := List.any_eq_false.mp h _ q
  simp at this

noncomputable def tabIs (tab : List Str) (n : Nat) (x : Str) : Bool := match tab[n]? with
  | some y => y == x
  | none => false
theorem tabIs_eq {tab : List Str} {n : Nat} {x : Str} (h : tabIs tab n x = true) : tab[n]? = some x := by
  unfold tabIs at h
  split at h
  · rename_i y e; rw [← beq_iff_eq.mp h]; exact e
  · cases h

noncomputable def cnOk (tab : List Str) (ns names : List (Str × NameKind)) (x : Str) (nx : Nat) (caps : List Nat) : Bool :=
  tabIs tab nx x && (isK ((relN ns names).lookup x) .local || (hasN ns x .cell && isK ((relN ns names).lookup x) .cell)) &&
  (caps.all fun n => match tab[n]? with
    | some y => hasN ns y .free && !hasN ns y .cell && (isK ((relN ns names).lookup y) .cell || isK ((relN ns names).lookup y) .free) && (isK (names.lookup y) .cell || isK (names.lookup y) .free)
    | none => false) &&
  (ns.all fun y => y.2 != .free || caps.any fun n => tabIs tab n y.1) && (ns.all fun y => y.2 != .local || isK (ns.lookup y.1) .local)

theorem CompNames.of {tab : List Str} {ns names : List (Str × NameKind)} {x : Str} {nx : Nat} {caps : List Nat} (h : cnOk tab ns names x nx caps = true) : CompNames tab ns names x nx caps := by
  unfold cnOk at h
  simp only [Bool.and_eq_true, Bool.or_eq_true, List.all_eq_true, List.any_eq_true, bne_iff_ne, ne_eq] at h
  obtain ⟨⟨⟨⟨h1, h2⟩, h3⟩, h4⟩, h5⟩ := h
  refine ⟨tabIs_eq h1, h2.elim (fun h => .inl (isK_eq h)) fun h => .inr ⟨hasN_mem h.1, isK_eq h.2⟩, fun n hn => ?_, fun y hy hf => ?_, fun y hy hl => ?_⟩
  · have := h3 n hn
    split at this
    · rename_i y e
      simp only [Bool.and_eq_true, Bool.or_eq_true, Bool.not_eq_true'] at this
      exact ⟨y, e, hasN_mem this.1.1.1, hasN_not this.1.1.2, this.1.2.elim (fun h => .inl (isK_eq h)) fun h => .inr (isK_eq h), this.2.elim (fun h => .inl (isK_eq h)) fun h => .inr (isK_eq h)⟩
    · cases this
  · rcases h4 y hy with h | ⟨n, hn, e⟩
    · exact absurd hf h
    · exact ⟨n, hn, tabIs_eq e⟩
  · rcases h5 y hy with h | h
    · exact absurd hl h
    · exact isK_eq h

theorem kind_of {names : List (Str × NameKind)} {x : Str} {j : NameKind} (h : isK (names.lookup x) j = true) : names.lookup x = some j := isK_eq h
theorem stor_of {names : List (Str × NameKind)} {x : Str} (h : (isK (names.lookup x) .local || isK (names.lookup x) .cell) = true) : names.lookup x = some .local ∨ names.lookup x = some .cell := by
  simp only [Bool.or_eq_true] at h
  exact h.elim (fun h => .inl (isK_eq h)) fun h => .inr (isK_eq h)

section
variable {names : List (Str × NameKind)}
theorem swaps_f {elt : Expr} {gens : List Comprehension} {scope : Scope} {cpos py : Pos} {y : Str} {line : Nat} (h : isK (names.lookup y) .cell = true) : ∀ env : Env, (∀ y, env.kindOf y = names.lookup y) → swapsWith (.ListComp elt gens scope cpos) (some (.Name y py)) line env = pure false := by
  intro env hn
  have e := isK_eq h
  show (do return env.blockKind == .function && env.kindOf y == some .local && _ && _ : Sem Bool) = _
  rw [hn y, e]
  show (pure _ : Sem Bool) = _
  congr 1
  simp
end

section
variable {C : Cx} {names : List (Str × NameKind)}

theorem comp_assign {A : Around} {env : Env} {K : Addr → Obj → Prop} {W₀ W W' : Addr → Prop} {ρ : List Addr} {vs : Vars} {σ : Hp} {s : Shared} {E : Value → Shared → Prop} (F : FSt C names env K W₀ W ρ vs σ s.heap) {Q : Flow → Shared → Prop} {ys : List AV} {us : List Value} {D L : Addr} {h : Heap} {tk : Nat} {m : Str → Option Value}
    {n : Nat} {y : Str} {py : Pos} (ht : C.tab[n]? = some y) (hk : names.lookup y = some .local ∨ names.lookup y = some .cell) (keep : ∀ b o, s.heap.get? b = some o → h.get? b = some o) (hD : s.heap.get? D = none) (hL : s.heap.get? L = none) (hDL : D ≠ L)
    (hW1 : ∀ a, W a → W' a) (hWL : W' L) (hp : h.PlainList D us.toArray) (hz : us.length ≤ sizeLine) (r : VRels W' ρ h ys us) (hn : h.Ns L m)
    (q : ∀ f s', Post C names env K W₀ W ρ s (.next, setVar n (.lst ys) vs, σ) f s' → Q f s') : compPost (model C.prog C.w) A E (some (assign (.Name y py) env)) (fun _ s' => Q .next s') (.ref D) L (.ok .next) { s with heap := h, toks := tk } := by
  obtain ⟨oL, hoL⟩ : ∃ o, h.get? L = some o := let ⟨o, _, _, e, _⟩ := hn; ⟨o, e⟩
  obtain ⟨F₁, m₁⟩ := F.enter hL keep hoL
  have z := aside_of F hL
  have noK := z.k
  have h0 : ¬ W₀ L := fun q => by obtain ⟨o, e⟩ := F.rel.dom L (F.rel.sub L q); rw [hL] at e; cases e
  have rD : VRel (Rel.with' W L) ρ h (.lst ys) (.ref D) := by
    refine .lst (fun q => q.elim (fun q => by obtain ⟨o, e⟩ := F.rel.dom D q; rw [hD] at e; cases e) fun q => hDL q) hp hz (r.mono ⟨fun b o e _ => e, fun b o e hw q => q.elim (fun q => hw (hW1 b q)) fun q => hw (q ▸ hWL), List.prefix_refl _⟩)
  have F₂ := F₁.addK z hoL
  show wpAny _ A (assign (.Name y py) env (.ref D)) _ _ _
  refine wpAny_assign_Name (store_ok (s := { s with heap := h, toks := tk }) F₂ ht hk rD fun h₃ t₃ F₃ m₃ => ?_)
  have hL3 : h₃.get? L = some oL := F₃.rel.keep L oL (.inr ⟨rfl, rfl⟩)
  refine ⟨m, hn.at' fun o e => by rw [hoL] at e; cases e; exact hL3, fun h₄ hs₄ => ?_⟩
  obtain ⟨F₄, z₄⟩ := F₃.dropK F.rel.base noK
  obtain ⟨F₅, m₅⟩ := F₄.gone z₄ h0 (fun b o hb e => hs₄.extBut b o hb e)
  exact q _ _ ⟨_, ρ, h₄, t₃, F₅, (m₁.trans m₃).trans m₅, .next⟩

theorem swaps_t {elt : Expr} {gens : List Comprehension} {scope : Scope} {cpos py : Pos} {y : Str} {line : Nat} (h : isK (names.lookup y) .local = true) (hl : (py.line == cpos.line) = true) (ha : (scope.names.any fun x => x.1 == y && (x.2 == .local || x.2 == .cell)) = false) :
    ∀ env : Env, env.scope.kind = .function → (∀ y, env.kindOf y = names.lookup y) → swapsWith (.ListComp elt gens scope cpos) (some (.Name y py)) line env = pure true := by
  intro env hk hn
  have e := isK_eq h
  show (do return env.blockKind == .function && env.kindOf y == some .local && py.line == cpos.line && !(scope.names.any fun x => x.1 == y && (x.2 == .local || x.2 == .cell)) : Sem Bool) = _
  rw [hn y, e, hl, ha]
  have : env.blockKind = .function := by unfold Env.blockKind; rw [hk]; rfl
  rw [this]
  rfl

theorem XOK.asgComp {elt iter : Expr} {x y : Str} {px py cpos pos : Pos} {scope : Scope} {n nx : Nat} {caps : List Nat} {pit pelt : PE} (hN : CompNames C.tab scope.names names x nx caps) (hit : EvOK C names iter pit) (helt : EvOK C (relN scope.names names) elt pelt)
    (ht : C.tab[n]? = some y) (hk : isK (names.lookup y) .local = true) (hl : (py.line == cpos.line) = true := by rfl) (ha : (scope.names.any fun x => x.1 == y && (x.2 == .local || x.2 == .cell)) = false := by decide +kernel)
    (hkind : scope.kind = .function := by rfl) (hfs : ∀ env x, foldedSetIterable iter env x = pure x := by intro _ _; exact fsi_ok rfl) : XOK C names (.Assign [.Name y py] (.ListComp elt [⟨.Name x px, iter, [], 0⟩] scope cpos) pos) (.asg n (.comp nx caps pit pelt)) := by
  intro A env K W₀ W ρ vs σ s hA F r ee Q E q
  obtain ⟨v, ev, ee⟩ := bind_inv ee
  cases ee
  obtain ⟨a, xs, cv, ys, ea, exs, hcv, hys, rfl⟩ := evP_comp ev
  rw [exec_Assign_Name_used _ _ _ _ (swaps_t hk hl ha env F.frm.kind F.frm.kinds)]
  refine wpAny_bind (wpAny_standAt (wpAny_bind ?_))
  show wpAny _ A (do let _ ← comprehension (.ListComp elt [⟨.Name x px, iter, [], 0⟩] scope cpos) scope env _ (newList []) false (eval iter env) (some (assign (.Name y py) env))) _ _ s
  refine wpAny_bind (wpAny_mono (comp_ev (Q := fun _ s' => Q .next s') (E := E) hA F.rel F.frm hkind hN hcv hit hfs ea exs (ct := fun _ => some true) (fun W' cenv s' b t _ _ et Q E q => ?_) helt hys (some (assign (.Name y py) env)) ?_) (fun _ s' hq => wpAny_pure (wpAny_pure hq)) fun _ _ e => e)
  · cases et
    exact tests0 (q _ (keeps_refl _))
  · exact fun D L W' h tk us m keep hD hL hDL hW1 hW2 hWL hp hz r hn => comp_assign F ht (.inl (isK_eq hk)) keep hD hL hDL hW1 hWL hp hz r hn q
end
end Mine
end

section
open PySem PySem.Calls PyProof.Rows PySem.W
set_option linter.unusedVariables false
namespace Mine
noncomputable def tabN : List Str := [Str.ofString "r", Str.ofString "g", Str.ofString "b", Str.ofString "s", Str.ofString "l", Str.ofString "h", Str.ofString "maxc", Str.ofString "bc", Str.ofString "gc", Str.ofString "rc", Str.ofString "rangec", Str.ofString "sumc", Str.ofString "minc", Str.ofString "v", Str.ofString "iterator", Str.ofString "val", Str.ofString "x", Str.ofString "script", Str.ofString "given", Str.ofString "k", Str.ofString "drawn", Str.ofString "rows", Str.ofString "at", Str.ofString "again", Str.ofString "size", Str.ofString "total", Str.ofString "number", Str.ofString "octets", Str.ofString "tape", Str.ofString "word", Str.ofString "letters", Str.ofString "table", Str.ofString "row", Str.ofString "bumped", Str.ofString "greater", Str.ofString "letter", Str.ofString "pattern", Str.ofString "fresh", Str.ofString "least", Str.ofString "greatest", Str.ofString "j", Str.ofString "below", Str.ofString "above", Str.ofString "other", Str.ofString "first", Str.ofString "told", Str.ofString "heard"]
/-- the compiled body of the 1th statement of the top -/
noncomputable def p_hls : PS := .seq (.asg 6 (.max3 (.var 0) (.var 1) (.var 2))) (.seq (.asg 12 (.min3 (.var 0) (.var 1) (.var 2))) (.seq (.asg 11 (.bin .Add (.var 6) (.var 12))) (.seq (.asg 10 (.bin .Sub (.var 6) (.var 12))) (.seq (.asg 4 (.bin .Div (.var 11) (.cst (.flt 0x4000000000000000)))) (.seq (.ite (.cmp .Eq (.var 12) (.var 6)) (.seq (.ret (.tup (.cons (.cst (.flt 0x0000000000000000)) (.cons (.var 4) (.cons (.cst (.flt 0x0000000000000000)) (.nil)))))) (.skip)) (.skip)) (.seq (.ite (.cmp .LtE (.var 4) (.cst (.flt 0x3fe0000000000000))) (.seq (.asg 3 (.bin .Div (.var 10) (.var 11))) (.skip)) (.seq (.asg 3 (.bin .Div (.var 10) (.bin .Sub (.bin .Sub (.cst (.flt 0x4000000000000000)) (.var 6)) (.var 12)))) (.skip))) (.seq (.asg 9 (.bin .Div (.bin .Sub (.var 6) (.var 0)) (.var 10))) (.seq (.asg 8 (.bin .Div (.bin .Sub (.var 6) (.var 1)) (.var 10))) (.seq (.asg 7 (.bin .Div (.bin .Sub (.var 6) (.var 2)) (.var 10))) (.seq (.ite (.cmp .Eq (.var 0) (.var 6)) (.seq (.asg 5 (.bin .Sub (.var 7) (.var 8))) (.skip)) (.seq (.ite (.cmp .Eq (.var 1) (.var 6)) (.seq (.asg 5 (.bin .Sub (.bin .Add (.cst (.flt 0x4000000000000000)) (.var 9)) (.var 7))) (.skip)) (.seq (.asg 5 (.bin .Sub (.bin .Add (.cst (.flt 0x4010000000000000)) (.var 8)) (.var 9))) (.skip))) (.skip))) (.seq (.asg 5 (.bin .Mod (.bin .Div (.var 5) (.cst (.flt 0x4018000000000000))) (.cst (.flt 0x3ff0000000000000)))) (.seq (.ret (.tup (.cons (.var 5) (.cons (.var 4) (.cons (.var 3) (.nil)))))) (.skip)))))))))))))
/-- the compiled body of the 2th statement of the top -/
noncomputable def p_hsv : PS := .seq (.asg 6 (.max3 (.var 0) (.var 1) (.var 2))) (.seq (.asg 12 (.min3 (.var 0) (.var 1) (.var 2))) (.seq (.asg 10 (.bin .Sub (.var 6) (.var 12))) (.seq (.asg 13 (.var 6)) (.seq (.ite (.cmp .Eq (.var 12) (.var 6)) (.seq (.ret (.tup (.cons (.cst (.flt 0x0000000000000000)) (.cons (.cst (.flt 0x0000000000000000)) (.cons (.var 13) (.nil)))))) (.skip)) (.skip)) (.seq (.asg 3 (.bin .Div (.var 10) (.var 6))) (.seq (.asg 9 (.bin .Div (.bin .Sub (.var 6) (.var 0)) (.var 10))) (.seq (.asg 8 (.bin .Div (.bin .Sub (.var 6) (.var 1)) (.var 10))) (.seq (.asg 7 (.bin .Div (.bin .Sub (.var 6) (.var 2)) (.var 10))) (.seq (.ite (.cmp .Eq (.var 0) (.var 6)) (.seq (.asg 5 (.bin .Sub (.var 7) (.var 8))) (.skip)) (.seq (.ite (.cmp .Eq (.var 1) (.var 6)) (.seq (.asg 5 (.bin .Sub (.bin .Add (.cst (.flt 0x4000000000000000)) (.var 9)) (.var 7))) (.skip)) (.seq (.asg 5 (.bin .Sub (.bin .Add (.cst (.flt 0x4010000000000000)) (.var 8)) (.var 9))) (.skip))) (.skip))) (.seq (.asg 5 (.bin .Mod (.bin .Div (.var 5) (.cst (.flt 0x4018000000000000))) (.cst (.flt 0x3ff0000000000000)))) (.seq (.ret (.tup (.cons (.var 5) (.cons (.var 3) (.cons (.var 13) (.nil)))))) (.skip))))))))))))
/-- the compiled body of the 4th statement of the top -/
noncomputable def p_vint : PS := .seq (.next 2 14) (.seq (.asg 15 (.bin .BitAnd (.var 2) (.cst (.int 63)))) (.seq (.whl (.bin .BitAnd (.var 2) (.cst (.int 64))) (.seq (.aug 15 .LShift (.cst (.int 6))) (.seq (.next 2 14) (.seq (.aug 15 .BitOr (.bin .BitAnd (.var 2) (.cst (.int 63)))) (.skip))))) (.seq (.ret (.var 15)) (.skip))))
/-- the compiled body of the 57th statement of the top -/
noncomputable def p_nont : PS := .seq (.ret (.cmp .GtE (.var 16) (.cst (.int 256)))) (.skip)
/-- the compiled body of the 58th statement of the top -/
noncomputable def p_eof : PS := .seq (.ret (.cmp .Eq (.var 16) (.cst (.int 0)))) (.skip)
/-- the compiled body of the 60th statement of the top -/
noncomputable def p_drawn : PS := .seq (.asg 18 (.comp 16 [] (.slice (.var 17) (.cst .none) (.cst (.int 63)) (.cst .none)) (.bin .Mod (.var 16) (.cst (.int 1000000))))) (.seq (.ret (.comp 19 [18] (.rng1 (.cst (.int 8))) (.bin .Add (.item (.cons (.cst (.int 2)) (.cons (.cst (.int 0)) (.cons (.cst (.int 1)) (.cons (.cst (.int 3)) (.cons (.cst (.int 0)) (.cons (.cst (.int 5602)) (.cons (.cst (.int 1)) (.cons (.cst (.int 1)) (.nil))))))))) (.var 19)) (.sum (.slice (.var 18) (.var 19) (.cst .none) (.cst (.int 8))))))) (.skip))
/-- the compiled body of the 61th statement of the top -/
noncomputable def p_plan : PS := .seq (.asg 25 (.sum (.var 20))) (.seq (.asg 24 (.item (.cons (.cst (.int 4)) (.cons (.cst (.int 3)) (.cons (.cst (.int 4)) (.cons (.cst (.int 2)) (.nil))))) (.bin .Mod (.var 25) (.cst (.int 4))))) (.seq (.asg 21 (.item (.cons (.cons (.cst (.int 1)) (.nil)) (.cons (.cons (.cst (.int 1)) (.cons (.cst (.int 2)) (.cons (.cst (.int 1)) (.nil)))) (.cons (.cons (.cst (.int 1)) (.cons (.cst (.int 2)) (.cons (.cst (.int 1)) (.cons (.cst (.int 3)) (.cons (.cst (.int 2)) (.cons (.cst (.int 1)) (.nil))))))) (.nil)))) (.bin .Sub (.var 24) (.cst (.int 2))))) (.seq (.ite (.cmp .Eq (.bin .Mod (.bin .FloorDiv (.var 25) (.cst (.int 4))) (.cst (.int 2))) (.cst (.int 1))) (.seq (.asg 21 (.slice (.var 21) (.cst .none) (.cst .none) (.neg (.cst (.int 1))))) (.skip)) (.skip)) (.seq (.asg 23 (.bin .Add (.cst (.int 1)) (.bin .Mod (.bin .FloorDiv (.var 25) (.cst (.int 8))) (.cst (.int 3))))) (.seq (.asg 22 (.bin .Mod (.bin .FloorDiv (.var 25) (.cst (.int 24))) (.bin .Add (.len (.var 21)) (.cst (.int 1))))) (.seq (.ret (.tup (.cons (.var 24) (.cons (.bin .Add (.bin .Add (.slice (.var 21) (.cst .none) (.var 22) (.cst .none)) (.cons (.var 23) (.cons (.var 23) (.nil)))) (.slice (.var 21) (.var 22) (.cst .none) (.cst .none))) (.nil))))) (.skip)))))))
/-- the compiled body of the 62th statement of the top -/
noncomputable def p_octs : PS := .seq (.newl 27 (.cons (.bin .Mod (.var 26) (.cst (.int 64))) (.nil))) (.seq (.whl (.cmp .Gt (.var 26) (.cst (.int 63))) (.seq (.asg 26 (.bin .FloorDiv (.var 26) (.cst (.int 64)))) (.seq (.app 27 (.bin .Add (.cst (.int 64)) (.bin .Mod (.var 26) (.cst (.int 64))))) (.skip)))) (.seq (.ret (.slice (.var 27) (.cst .none) (.cst .none) (.neg (.cst (.int 1))))) (.skip)))
/-- the compiled body of the 63th statement of the top -/
noncomputable def p_tape : PS := .seq (.newl 28 (.nil)) (.seq (.loop 19 (.rng1 (.cst (.int 8))) (.seq (.ext 28 (.call 6 (.cons (.bin .Add (.cst (.int 14)) (.bin .Mod (.item (.var 20) (.var 19)) (.cst (.int 4)))) (.nil)))) (.seq (.ite (.cmp .Lt (.var 19) (.len (.var 21))) (.seq (.ext 28 (.call 6 (.cons (.bin .Add (.bin .Add (.cst (.int 255)) (.item (.var 21) (.var 19))) (.bin .Mult (.bin .FloorDiv (.item (.var 20) (.var 19)) (.cst (.int 4))) (.cst (.int 3)))) (.nil)))) (.skip)) (.skip)) (.skip)))) (.seq (.ret (.bin .Add (.var 28) (.cons (.cst (.int 0)) (.nil)))) (.skip)))
/-- the compiled body of the 64th statement of the top -/
noncomputable def p_read : PS := .seq (.tab 30) (.seq (.iter 14 (.var 28)) (.seq (.newl 29 (.nil)) (.seq (.newl 21 (.nil)) (.seq (.callI 26 0 14) (.seq (.whl (.not (.call 3 (.cons (.var 26) (.nil)))) (.seq (.ite (.call 2 (.cons (.var 26) (.nil))) (.seq (.app 21 (.bin .Add (.cst (.int 1)) (.bin .Mod (.bin .Sub (.var 26) (.cst (.int 256))) (.cst (.int 3))))) (.skip)) (.seq (.app 29 (.get (.var 30) (.var 26) (.cst (.int 0)))) (.skip))) (.seq (.callI 26 0 14) (.skip)))) (.seq (.ret (.tup (.cons (.var 29) (.cons (.var 21) (.nil))))) (.skip)))))))
/-- the compiled body of the 65th statement of the top -/
noncomputable def p_patt : PS := .seq (.rows4 31) (.seq (.loop 35 (.var 29) (.seq (.asg 33 (.var 35)) (.seq (.loop 32 (.var 31) (.seq (.asg 22 (.len (.compIf 16 [33] (.var 32) (.cmp .LtE (.var 16) (.var 33)) (.var 16)))) (.seq (.ite (.cmp .Eq (.var 22) (.len (.var 32))) (.seq (.app 32 (.var 33)) (.seq (.brk) (.skip))) (.skip)) (.seq (.asg 34 (.item (.var 32) (.var 22))) (.seq (.seti 32 22 33) (.seq (.asg 33 (.var 34)) (.skip))))))) (.skip)))) (.seq (.ret (.comp 19 [31] (.rng2 (.cst (.int 1)) (.cst (.int 5))) (.comp 32 [19] (.slice (.var 31) (.cst .none) (.var 19) (.cst .none)) (.len (.compIf 16 [19] (.var 32) (.cmp .LtE (.var 16) (.var 19)) (.var 16)))))) (.skip)))
/-- the compiled body of the 66th statement of the top -/
noncomputable def p_led : PS := .seq (.asg 42 (.comp 16 [] (.item (.var 36) (.var 19)) (.bin .Div (.var 16) (.cst (.int 16))))) (.seq (.asg 41 (.ife (.cmp .Gt (.var 19) (.cst (.int 1))) (.bin .Add (.bin .Add (.cons (.cst (.flt 0x3ff0000000000000)) (.nil)) (.comp 16 [] (.item (.var 36) (.bin .Sub (.var 19) (.cst (.int 2)))) (.bin .Div (.var 16) (.cst (.int 16))))) (.cons (.cst (.flt 0x0000000000000000)) (.nil))) (.cons (.cst (.flt 0x3ff0000000000000)) (.cons (.cst (.flt 0x0000000000000000)) (.nil))))) (.seq (.newl 37 (.nil)) (.seq (.loop 40 (.rng1 (.var 19)) (.seq (.asg 38 (.bin .Sub (.bin .Mult (.cst (.int 2)) (.item (.call 0 (.cons (.item (.var 42) (.var 40)) (.cons (.item (.var 41) (.var 40)) (.cons (.cst (.flt 0x3ff0000000000000)) (.nil))))) (.cst (.int 1)))) (.cst (.int 1)))) (.seq (.asg 39 (.item (.call 1 (.cons (.item (.var 42) (.bin .Add (.var 40) (.cst (.int 1)))) (.cons (.item (.var 41) (.bin .Add (.var 40) (.cst (.int 1)))) (.cons (.cst (.flt 0x0000000000000000)) (.nil))))) (.cst (.int 2)))) (.seq (.app 37 (.bin .Sub (.trunc (.bin .Add (.bin .Mult (.cst (.int 16)) (.var 38)) (.bin .Mult (.cst (.int 16)) (.var 39)))) (.item (.item (.var 36) (.bin .Sub (.var 19) (.cst (.int 1)))) (.var 40)))) (.skip))))) (.seq (.ret (.bin .Add (.bin .Add (.slice (.var 36) (.cst .none) (.bin .Sub (.var 19) (.cst (.int 1))) (.cst .none)) (.cons (.var 37) (.nil))) (.slice (.var 36) (.var 19) (.cst .none) (.cst .none)))) (.skip)))))
/-- the compiled body of the 67th statement of the top -/
noncomputable def p_law : PS := .seq (.asg 20 (.call 4 (.cons (.var 17) (.nil)))) (.seq (.asg 29 (.comp 26 [] (.var 20) (.bin .Add (.cst (.int 1)) (.bin .Mod (.var 26) (.cst (.int 4)))))) (.seq (.asg2 24 21 (.call 5 (.cons (.var 20) (.nil)))) (.seq (.asg2 46 45 (.call 9 (.cons (.call 8 (.cons (.var 20) (.cons (.var 21) (.nil)))) (.nil)))) (.seq (.ite (.cmp .NotEq (.var 46) (.var 29)) (.seq (.ret (.cst (.bool false))) (.skip)) (.skip)) (.seq (.asg 44 (.call 7 (.cons (.var 29) (.nil)))) (.seq (.asg 36 (.var 44)) (.seq (.loop 19 (.var 45) (.seq (.asg 36 (.call 10 (.cons (.var 36) (.cons (.var 19) (.nil))))) (.skip))) (.seq (.asg 43 (.slice (.compIf 35 [24] (.var 29) (.cmp .LtE (.var 35) (.var 24)) (.bin .Sub (.bin .Add (.var 24) (.cst (.int 1))) (.var 35))) (.cst .none) (.cst .none) (.neg (.cst (.int 1))))) (.seq (.ret (.cmp .Eq (.var 36) (.bin .Add (.slice (.call 7 (.cons (.var 43) (.nil))) (.cst .none) (.var 24) (.cst .none)) (.slice (.var 44) (.var 24) (.cst .none) (.cst .none))))) (.skip))))))))))

noncomputable def F0 : Fns := fun _ _ => none
noncomputable def I0 : Its := fun _ _ _ => none
noncomputable def F1 : Fns := fun n => match n with
  | 0 => runF F0 I0 [0, 1, 2] p_hls
  | 1 => runF F0 I0 [0, 1, 2] p_hsv
  | 2 => runF F0 I0 [16] p_nont
  | 3 => runF F0 I0 [16] p_eof
  | 4 => runF F0 I0 [17] p_drawn
  | 5 => runF F0 I0 [20] p_plan
  | 6 => runF F0 I0 [26] p_octs
  | 7 => runF F0 I0 [29] p_patt
  | _ => fun _ => none
noncomputable def I1 : Its := fun n => match n with
  | 0 => runI F0 I0 14 p_vint
  | _ => fun _ _ => none
noncomputable def F2 : Fns := fun n => match n with
  | 8 => runF F1 I1 [20, 21] p_tape
  | 9 => runF F1 I1 [28] p_read
  | 10 => runF F1 I1 [36, 19] p_led
  | n => F1 n

set_option genSizeOfSpec false in
set_option genInjectivity false in
structure Bs where
  prog : Program
  w : World
  h₁ : Heap
  mg : Str → Option Value
  mb : Str → Option Value
noncomputable def Bs.cx (b : Bs) (F : Fns) (I : Its) (k : Nat) : Cx := ⟨b.prog, b.w, b.h₁, tabN, b.mg, b.mb, F, I, k⟩

structure Glb (b : Bs) : Prop where
  gg : b.h₁.Ns mainGlobals b.mg
  bb : b.h₁.Ns builtinsNs b.mb
  nolimit : b.h₁.NoLimit
  len : b.mg (Str.ofString "len") = none ∧ b.mb (Str.ofString "len") = some (.builtin "len")
  sum : b.mg (Str.ofString "sum") = none ∧ b.mb (Str.ofString "sum") = some (.builtin "sum")
  range : b.mg (Str.ofString "range") = none ∧ b.mb (Str.ofString "range") = some (.type "range")
  max : b.mg (Str.ofString "max") = none ∧ b.mb (Str.ofString "max") = some (.builtin "max")
  min : b.mg (Str.ofString "min") = none ∧ b.mb (Str.ofString "min") = some (.builtin "min")
  int : b.mg (Str.ofString "int") = none ∧ b.mb (Str.ofString "int") = some (.type "int")
  iter : b.mg (Str.ofString "iter") = none ∧ b.mb (Str.ofString "iter") = some (.builtin "iter")
  next : b.mg (Str.ofString "next") = none ∧ b.mb (Str.ofString "next") = some (.builtin "next")
  enumerate : b.mg (Str.ofString "enumerate") = none ∧ b.mb (Str.ofString "enumerate") = some (.type "enumerate")
  nt : ∃ t, b.mg (Str.ofString "NT_OFFSET") = some (.int 256 t)
  em : ∃ t, b.mg (Str.ofString "ENDMARKER") = some (.int 0 t)
theorem Glb.st {b : Bs} {F : Fns} {I : Its} {k : Nat} (G : Glb b) : Stat (b.cx F I k) := ⟨G.gg, G.bb, G.nolimit⟩


set_option genSizeOfSpec false in
set_option genInjectivity false in
structure FAd (b : Bs) (x : Str) where
  a : Addr
  ob : Obj
  fd : FuncData
  v : b.mg x = some (.ref a)
  o : b.h₁.get? a = some ob
  f : ob.data = .func fd

noncomputable def itemAt (k : Nat) : DefItem := match PySem.Challenge.pw_sl0014_01.main.body[k]? with
  | some (.FunctionDef name args body _ _ _ scope _ _ pos) => ⟨name, args, body, scope, pos⟩
  | _ => ⟨Str.ofString "", ⟨[], [], none, [], [], none, []⟩, [], default, default⟩
theorem CN {b : Bs} {F : Fns} {I : Its} {k : Nat} {ns names : List (Str × NameKind)} {x : Str} {nx : Nat} {caps : List Nat} (h : cnOk tabN ns names x nx caps = true) : CompNames (b.cx F I k).tab ns names x nx caps := CompNames.of h

noncomputable abbrev namesAt (k : Nat) : List (Str × NameKind) := (itemAt k).scope.names
noncomputable abbrev bodyAt (k : Nat) : List Stmt := (itemAt k).body

set_option maxHeartbeats 4000000 in
theorem ok_hls (b : Bs) (G : Glb b) : XsOK (b.cx F0 I0 0) (namesAt 1) (bodyAt 1) p_hls := by
  refine XsOK.cons ?_ ?_
  · refine XOK.asg ?_ ?_ ?_
    · refine EvOK.max3 ?_ ?_ ?_ ?_ ?_ ?_
      · exact G.st
      · exact (kind_of (by decide +kernel))
      · exact G.max
      · refine EvOK.var ?_
        exact rfl
      · refine EvOK.var ?_
        exact rfl
      · refine EvOK.var ?_
        exact rfl
    · exact rfl
    · exact (stor_of (by decide +kernel))
  · refine XsOK.cons ?_ ?_
    · refine XOK.asg ?_ ?_ ?_
      · refine EvOK.min3 ?_ ?_ ?_ ?_ ?_ ?_
        · exact G.st
        · exact (kind_of (by decide +kernel))
        · exact G.min
        · refine EvOK.var ?_
          exact rfl
        · refine EvOK.var ?_
          exact rfl
        · refine EvOK.var ?_
          exact rfl
      · exact rfl
      · exact (stor_of (by decide +kernel))
    · refine XsOK.cons ?_ ?_
      · refine XOK.asg ?_ ?_ ?_
        · refine EvOK.bin ?_ ?_
          · refine EvOK.var ?_
            exact rfl
          · refine EvOK.var ?_
            exact rfl
        · exact rfl
        · exact (stor_of (by decide +kernel))
      · refine XsOK.cons ?_ ?_
        · refine XOK.asg ?_ ?_ ?_
          · refine EvOK.bin ?_ ?_
            · refine EvOK.var ?_
              exact rfl
            · refine EvOK.var ?_
              exact rfl
          · exact rfl
          · exact (stor_of (by decide +kernel))
        · refine XsOK.cons ?_ ?_
          · refine XOK.asg ?_ ?_ ?_
            · refine EvOK.bin ?_ ?_
              · refine EvOK.var ?_
                exact rfl
              · exact EvOK.cflt
            · exact rfl
            · exact (stor_of (by decide +kernel))
          · refine XsOK.cons ?_ ?_
            · refine XOK.ite ?_ ?_ ?_
              · refine TrOK.cmp ?_ ?_
                · refine EvOK.var ?_
                  exact rfl
                · refine EvOK.var ?_
                  exact rfl
              · refine XsOK.cons ?_ ?_
                · refine XOK.ret ?_
                  refine EvOK.tup ?_
                  refine EvsOK.cons ?_ ?_
                  · exact EvOK.cflt
                  · refine EvsOK.cons ?_ ?_
                    · refine EvOK.var ?_
                      exact rfl
                    · refine EvsOK.cons ?_ ?_
                      · exact EvOK.cflt
                      · exact EvsOK.nil
                · exact XsOK.nil
              · exact XsOK.nil
            · refine XsOK.cons ?_ ?_
              · refine XOK.ite ?_ ?_ ?_
                · refine TrOK.cmp ?_ ?_
                  · refine EvOK.var ?_
                    exact rfl
                  · exact EvOK.cflt
                · refine XsOK.cons ?_ ?_
                  · refine XOK.asg ?_ ?_ ?_
                    · refine EvOK.bin ?_ ?_
                      · refine EvOK.var ?_
                        exact rfl
                      · refine EvOK.var ?_
                        exact rfl
                    · exact rfl
                    · exact (stor_of (by decide +kernel))
                  · exact XsOK.nil
                · refine XsOK.cons ?_ ?_
                  · refine XOK.asg ?_ ?_ ?_
                    · refine EvOK.bin ?_ ?_
                      · refine EvOK.var ?_
                        exact rfl
                      · refine EvOK.bin ?_ ?_
                        · refine EvOK.bin ?_ ?_
                          · exact EvOK.cflt
                          · refine EvOK.var ?_
                            exact rfl
                        · refine EvOK.var ?_
                          exact rfl
                    · exact rfl
                    · exact (stor_of (by decide +kernel))
                  · exact XsOK.nil
              · refine XsOK.cons ?_ ?_
                · refine XOK.asg ?_ ?_ ?_
                  · refine EvOK.bin ?_ ?_
                    · refine EvOK.bin ?_ ?_
                      · refine EvOK.var ?_
                        exact rfl
                      · refine EvOK.var ?_
                        exact rfl
                    · refine EvOK.var ?_
                      exact rfl
                  · exact rfl
                  · exact (stor_of (by decide +kernel))
                · refine XsOK.cons ?_ ?_
                  · refine XOK.asg ?_ ?_ ?_
                    · refine EvOK.bin ?_ ?_
                      · refine EvOK.bin ?_ ?_
                        · refine EvOK.var ?_
                          exact rfl
                        · refine EvOK.var ?_
                          exact rfl
                      · refine EvOK.var ?_
                        exact rfl
                    · exact rfl
                    · exact (stor_of (by decide +kernel))
                  · refine XsOK.cons ?_ ?_
                    · refine XOK.asg ?_ ?_ ?_
                      · refine EvOK.bin ?_ ?_
                        · refine EvOK.bin ?_ ?_
                          · refine EvOK.var ?_
                            exact rfl
                          · refine EvOK.var ?_
                            exact rfl
                        · refine EvOK.var ?_
                          exact rfl
                      · exact rfl
                      · exact (stor_of (by decide +kernel))
                    · refine XsOK.cons ?_ ?_
                      · refine XOK.ite ?_ ?_ ?_
                        · refine TrOK.cmp ?_ ?_
                          · refine EvOK.var ?_
                            exact rfl
                          · refine EvOK.var ?_
                            exact rfl
                        · refine XsOK.cons ?_ ?_
                          · refine XOK.asg ?_ ?_ ?_
                            · refine EvOK.bin ?_ ?_
                              · refine EvOK.var ?_
                                exact rfl
                              · refine EvOK.var ?_
                                exact rfl
                            · exact rfl
                            · exact (stor_of (by decide +kernel))
                          · exact XsOK.nil
                        · refine XsOK.cons ?_ ?_
                          · refine XOK.ite ?_ ?_ ?_
                            · refine TrOK.cmp ?_ ?_
                              · refine EvOK.var ?_
                                exact rfl
                              · refine EvOK.var ?_
                                exact rfl
                            · refine XsOK.cons ?_ ?_
                              · refine XOK.asg ?_ ?_ ?_
                                · refine EvOK.bin ?_ ?_
                                  · refine EvOK.bin ?_ ?_
                                    · exact EvOK.cflt
                                    · refine EvOK.var ?_
                                      exact rfl
                                  · refine EvOK.var ?_
                                    exact rfl
                                · exact rfl
                                · exact (stor_of (by decide +kernel))
                              · exact XsOK.nil
                            · refine XsOK.cons ?_ ?_
                              · refine XOK.asg ?_ ?_ ?_
                                · refine EvOK.bin ?_ ?_
                                  · refine EvOK.bin ?_ ?_
                                    · exact EvOK.cflt
                                    · refine EvOK.var ?_
                                      exact rfl
                                  · refine EvOK.var ?_
                                    exact rfl
                                · exact rfl
                                · exact (stor_of (by decide +kernel))
                              · exact XsOK.nil
                          · exact XsOK.nil
                      · refine XsOK.cons ?_ ?_
                        · refine XOK.asg ?_ ?_ ?_
                          · refine EvOK.bin ?_ ?_
                            · refine EvOK.bin ?_ ?_
                              · refine EvOK.var ?_
                                exact rfl
                              · exact EvOK.cflt
                            · exact EvOK.cflt
                          · exact rfl
                          · exact (stor_of (by decide +kernel))
                        · refine XsOK.cons ?_ ?_
                          · refine XOK.ret ?_
                            refine EvOK.tup ?_
                            refine EvsOK.cons ?_ ?_
                            · refine EvOK.var ?_
                              exact rfl
                            · refine EvsOK.cons ?_ ?_
                              · refine EvOK.var ?_
                                exact rfl
                              · refine EvsOK.cons ?_ ?_
                                · refine EvOK.var ?_
                                  exact rfl
                                · exact EvsOK.nil
                          · exact XsOK.nil

set_option maxHeartbeats 4000000 in
theorem ok_hsv (b : Bs) (G : Glb b) : XsOK (b.cx F0 I0 0) (namesAt 2) (bodyAt 2) p_hsv := by
  refine XsOK.cons ?_ ?_
  · refine XOK.asg ?_ ?_ ?_
    · refine EvOK.max3 ?_ ?_ ?_ ?_ ?_ ?_
      · exact G.st
      · exact (kind_of (by decide +kernel))
      · exact G.max
      · refine EvOK.var ?_
        exact rfl
      · refine EvOK.var ?_
        exact rfl
      · refine EvOK.var ?_
        exact rfl
    · exact rfl
    · exact (stor_of (by decide +kernel))
  · refine XsOK.cons ?_ ?_
    · refine XOK.asg ?_ ?_ ?_
      · refine EvOK.min3 ?_ ?_ ?_ ?_ ?_ ?_
        · exact G.st
        · exact (kind_of (by decide +kernel))
        · exact G.min
        · refine EvOK.var ?_
          exact rfl
        · refine EvOK.var ?_
          exact rfl
        · refine EvOK.var ?_
          exact rfl
      · exact rfl
      · exact (stor_of (by decide +kernel))
    · refine XsOK.cons ?_ ?_
      · refine XOK.asg ?_ ?_ ?_
        · refine EvOK.bin ?_ ?_
          · refine EvOK.var ?_
            exact rfl
          · refine EvOK.var ?_
            exact rfl
        · exact rfl
        · exact (stor_of (by decide +kernel))
      · refine XsOK.cons ?_ ?_
        · refine XOK.asg ?_ ?_ ?_
          · refine EvOK.var ?_
            exact rfl
          · exact rfl
          · exact (stor_of (by decide +kernel))
        · refine XsOK.cons ?_ ?_
          · refine XOK.ite ?_ ?_ ?_
            · refine TrOK.cmp ?_ ?_
              · refine EvOK.var ?_
                exact rfl
              · refine EvOK.var ?_
                exact rfl
            · refine XsOK.cons ?_ ?_
              · refine XOK.ret ?_
                refine EvOK.tup ?_
                refine EvsOK.cons ?_ ?_
                · exact EvOK.cflt
                · refine EvsOK.cons ?_ ?_
                  · exact EvOK.cflt
                  · refine EvsOK.cons ?_ ?_
                    · refine EvOK.var ?_
                      exact rfl
                    · exact EvsOK.nil
              · exact XsOK.nil
            · exact XsOK.nil
          · refine XsOK.cons ?_ ?_
            · refine XOK.asg ?_ ?_ ?_
              · refine EvOK.bin ?_ ?_
                · refine EvOK.var ?_
                  exact rfl
                · refine EvOK.var ?_
                  exact rfl
              · exact rfl
              · exact (stor_of (by decide +kernel))
            · refine XsOK.cons ?_ ?_
              · refine XOK.asg ?_ ?_ ?_
                · refine EvOK.bin ?_ ?_
                  · refine EvOK.bin ?_ ?_
                    · refine EvOK.var ?_
                      exact rfl
                    · refine EvOK.var ?_
                      exact rfl
                  · refine EvOK.var ?_
                    exact rfl
                · exact rfl
                · exact (stor_of (by decide +kernel))
              · refine XsOK.cons ?_ ?_
                · refine XOK.asg ?_ ?_ ?_
                  · refine EvOK.bin ?_ ?_
                    · refine EvOK.bin ?_ ?_
                      · refine EvOK.var ?_
                        exact rfl
                      · refine EvOK.var ?_
                        exact rfl
                    · refine EvOK.var ?_
                      exact rfl
                  · exact rfl
                  · exact (stor_of (by decide +kernel))
                · refine XsOK.cons ?_ ?_
                  · refine XOK.asg ?_ ?_ ?_
                    · refine EvOK.bin ?_ ?_
                      · refine EvOK.bin ?_ ?_
                        · refine EvOK.var ?_
                          exact rfl
                        · refine EvOK.var ?_
                          exact rfl
                      · refine EvOK.var ?_
                        exact rfl
                    · exact rfl
                    · exact (stor_of (by decide +kernel))
                  · refine XsOK.cons ?_ ?_
                    · refine XOK.ite ?_ ?_ ?_
                      · refine TrOK.cmp ?_ ?_
                        · refine EvOK.var ?_
                          exact rfl
                        · refine EvOK.var ?_
                          exact rfl
                      · refine XsOK.cons ?_ ?_
                        · refine XOK.asg ?_ ?_ ?_
                          · refine EvOK.bin ?_ ?_
                            · refine EvOK.var ?_
                              exact rfl
                            · refine EvOK.var ?_
                              exact rfl
                          · exact rfl
                          · exact (stor_of (by decide +kernel))
                        · exact XsOK.nil
                      · refine XsOK.cons ?_ ?_
                        · refine XOK.ite ?_ ?_ ?_
                          · refine TrOK.cmp ?_ ?_
                            · refine EvOK.var ?_
                              exact rfl
                            · refine EvOK.var ?_
                              exact rfl
                          · refine XsOK.cons ?_ ?_
                            · refine XOK.asg ?_ ?_ ?_
                              · refine EvOK.bin ?_ ?_
                                · refine EvOK.bin ?_ ?_
                                  · exact EvOK.cflt
                                  · refine EvOK.var ?_
                                    exact rfl
                                · refine EvOK.var ?_
                                  exact rfl
                              · exact rfl
                              · exact (stor_of (by decide +kernel))
                            · exact XsOK.nil
                          · refine XsOK.cons ?_ ?_
                            · refine XOK.asg ?_ ?_ ?_
                              · refine EvOK.bin ?_ ?_
                                · refine EvOK.bin ?_ ?_
                                  · exact EvOK.cflt
                                  · refine EvOK.var ?_
                                    exact rfl
                                · refine EvOK.var ?_
                                  exact rfl
                              · exact rfl
                              · exact (stor_of (by decide +kernel))
                            · exact XsOK.nil
                        · exact XsOK.nil
                    · refine XsOK.cons ?_ ?_
                      · refine XOK.asg ?_ ?_ ?_
                        · refine EvOK.bin ?_ ?_
                          · refine EvOK.bin ?_ ?_
                            · refine EvOK.var ?_
                              exact rfl
                            · exact EvOK.cflt
                          · exact EvOK.cflt
                        · exact rfl
                        · exact (stor_of (by decide +kernel))
                      · refine XsOK.cons ?_ ?_
                        · refine XOK.ret ?_
                          refine EvOK.tup ?_
                          refine EvsOK.cons ?_ ?_
                          · refine EvOK.var ?_
                            exact rfl
                          · refine EvsOK.cons ?_ ?_
                            · refine EvOK.var ?_
                              exact rfl
                            · refine EvsOK.cons ?_ ?_
                              · refine EvOK.var ?_
                                exact rfl
                              · exact EvsOK.nil
                        · exact XsOK.nil

set_option maxHeartbeats 4000000 in
theorem ok_vint (b : Bs) (G : Glb b) : XsOK (b.cx F0 I0 0) (namesAt 4) (bodyAt 4) p_vint := by
  refine XsOK.cons ?_ ?_
  · refine XOK.next ?_ ?_ ?_ ?_ ?_ ?_
    · exact G.st
    · exact (kind_of (by decide +kernel))
    · exact G.next
    · exact rfl
    · exact (stor_of (by decide +kernel))
    · exact rfl
  · refine XsOK.cons ?_ ?_
    · refine XOK.asg ?_ ?_ ?_
      · refine EvOK.bin ?_ ?_
        · refine EvOK.var ?_
          exact rfl
        · exact EvOK.cint
      · exact rfl
      · exact (stor_of (by decide +kernel))
    · refine XsOK.cons ?_ ?_
      · refine XOK.whl ?_ ?_
        · refine TrOK.val ?_
          refine EvOK.bin ?_ ?_
          · refine EvOK.var ?_
            exact rfl
          · exact EvOK.cint
        · refine XsOK.cons ?_ ?_
          · refine XOK.aug ?_ ?_ ?_
            · exact EvOK.cint
            · exact rfl
            · exact (stor_of (by decide +kernel))
          · refine XsOK.cons ?_ ?_
            · refine XOK.next ?_ ?_ ?_ ?_ ?_ ?_
              · exact G.st
              · exact (kind_of (by decide +kernel))
              · exact G.next
              · exact rfl
              · exact (stor_of (by decide +kernel))
              · exact rfl
            · refine XsOK.cons ?_ ?_
              · refine XOK.aug ?_ ?_ ?_
                · refine EvOK.bin ?_ ?_
                  · refine EvOK.var ?_
                    exact rfl
                  · exact EvOK.cint
                · exact rfl
                · exact (stor_of (by decide +kernel))
              · exact XsOK.nil
      · refine XsOK.cons ?_ ?_
        · refine XOK.ret ?_
          refine EvOK.var ?_
          exact rfl
        · exact XsOK.nil

set_option maxHeartbeats 4000000 in
theorem ok_nont (b : Bs) (G : Glb b) : XsOK (b.cx F0 I0 0) (namesAt 57) (bodyAt 57) p_nont := by
  refine XsOK.cons ?_ ?_
  · refine XOK.ret ?_
    refine EvOK.cmp ?_ ?_
    · refine EvOK.var ?_
      exact rfl
    · refine EvOK.glob ?_ ?_ ?_
      · exact G.st
      · exact (kind_of (by decide +kernel))
      · exact G.nt
  · exact XsOK.nil

set_option maxHeartbeats 4000000 in
theorem ok_eof (b : Bs) (G : Glb b) : XsOK (b.cx F0 I0 0) (namesAt 58) (bodyAt 58) p_eof := by
  refine XsOK.cons ?_ ?_
  · refine XOK.ret ?_
    refine EvOK.cmp ?_ ?_
    · refine EvOK.var ?_
      exact rfl
    · refine EvOK.glob ?_ ?_ ?_
      · exact G.st
      · exact (kind_of (by decide +kernel))
      · exact G.em
  · exact XsOK.nil

set_option maxHeartbeats 4000000 in
theorem ok_drawn (b : Bs) (G : Glb b) : XsOK (b.cx F0 I0 0) (namesAt 60) (bodyAt 60) p_drawn := by
  refine XsOK.cons ?_ ?_
  · refine XOK.asg ?_ ?_ ?_ ?_
    · refine EvOK.comp ?_ ?_ ?_
      · exact (CN (by decide +kernel))
      · refine EvOK.slice ?_ ?_ ?_ ?_
        · refine EvOK.var ?_
          exact rfl
        · exact PartOK.none
        · refine PartOK.some ?_
          exact EvOK.cint
        · exact PartOK.none
      · refine EvOK.bin ?_ ?_
        · refine EvOK.var ?_
          exact rfl
        · exact EvOK.cint
    · exact rfl
    · exact (stor_of (by decide +kernel))
    · exact (swaps_f (by decide +kernel))
  · refine XsOK.cons ?_ ?_
    · refine XOK.ret ?_
      refine EvOK.comp ?_ ?_ ?_
      · exact (CN (by decide +kernel))
      · refine EvOK.rng1 ?_ ?_ ?_ ?_
        · exact G.st
        · exact (kind_of (by decide +kernel))
        · exact G.range
        · exact EvOK.cint
      · refine EvOK.bin ?_ ?_
        · refine EvOK.item ?_ ?_
          · refine EvOK.list ?_
            refine EvsOK.cons ?_ ?_
            · exact EvOK.cint
            · refine EvsOK.cons ?_ ?_
              · exact EvOK.cint
              · refine EvsOK.cons ?_ ?_
                · exact EvOK.cint
                · refine EvsOK.cons ?_ ?_
                  · exact EvOK.cint
                  · refine EvsOK.cons ?_ ?_
                    · exact EvOK.cint
                    · refine EvsOK.cons ?_ ?_
                      · exact EvOK.cint
                      · refine EvsOK.cons ?_ ?_
                        · exact EvOK.cint
                        · refine EvsOK.cons ?_ ?_
                          · exact EvOK.cint
                          · exact EvsOK.nil
          · refine EvOK.var ?_
            exact rfl
        · refine EvOK.sum ?_ ?_ ?_ ?_
          · exact G.st
          · exact (kind_of (by decide +kernel))
          · exact G.sum
          · refine EvOK.slice ?_ ?_ ?_ ?_
            · refine EvOK.var ?_
              exact rfl
            · refine PartOK.some ?_
              refine EvOK.var ?_
              exact rfl
            · exact PartOK.none
            · refine PartOK.some ?_
              exact EvOK.cint
    · exact XsOK.nil

set_option maxHeartbeats 4000000 in
theorem ok_plan (b : Bs) (G : Glb b) : XsOK (b.cx F0 I0 0) (namesAt 61) (bodyAt 61) p_plan := by
  refine XsOK.cons ?_ ?_
  · refine XOK.asg ?_ ?_ ?_
    · refine EvOK.sum ?_ ?_ ?_ ?_
      · exact G.st
      · exact (kind_of (by decide +kernel))
      · exact G.sum
      · refine EvOK.var ?_
        exact rfl
    · exact rfl
    · exact (stor_of (by decide +kernel))
  · refine XsOK.cons ?_ ?_
    · refine XOK.asg ?_ ?_ ?_
      · refine EvOK.item ?_ ?_
        · refine EvOK.list ?_
          refine EvsOK.cons ?_ ?_
          · exact EvOK.cint
          · refine EvsOK.cons ?_ ?_
            · exact EvOK.cint
            · refine EvsOK.cons ?_ ?_
              · exact EvOK.cint
              · refine EvsOK.cons ?_ ?_
                · exact EvOK.cint
                · exact EvsOK.nil
        · refine EvOK.bin ?_ ?_
          · refine EvOK.var ?_
            exact rfl
          · exact EvOK.cint
      · exact rfl
      · exact (stor_of (by decide +kernel))
    · refine XsOK.cons ?_ ?_
      · refine XOK.asg ?_ ?_ ?_
        · refine EvOK.item ?_ ?_
          · refine EvOK.list ?_
            refine EvsOK.cons ?_ ?_
            · refine EvOK.list ?_
              refine EvsOK.cons ?_ ?_
              · exact EvOK.cint
              · exact EvsOK.nil
            · refine EvsOK.cons ?_ ?_
              · refine EvOK.list ?_
                refine EvsOK.cons ?_ ?_
                · exact EvOK.cint
                · refine EvsOK.cons ?_ ?_
                  · exact EvOK.cint
                  · refine EvsOK.cons ?_ ?_
                    · exact EvOK.cint
                    · exact EvsOK.nil
              · refine EvsOK.cons ?_ ?_
                · refine EvOK.list ?_
                  refine EvsOK.cons ?_ ?_
                  · exact EvOK.cint
                  · refine EvsOK.cons ?_ ?_
                    · exact EvOK.cint
                    · refine EvsOK.cons ?_ ?_
                      · exact EvOK.cint
                      · refine EvsOK.cons ?_ ?_
                        · exact EvOK.cint
                        · refine EvsOK.cons ?_ ?_
                          · exact EvOK.cint
                          · refine EvsOK.cons ?_ ?_
                            · exact EvOK.cint
                            · exact EvsOK.nil
                · exact EvsOK.nil
          · refine EvOK.bin ?_ ?_
            · refine EvOK.var ?_
              exact rfl
            · exact EvOK.cint
        · exact rfl
        · exact (stor_of (by decide +kernel))
      · refine XsOK.cons ?_ ?_
        · refine XOK.ite ?_ ?_ ?_
          · refine TrOK.cmp ?_ ?_
            · refine EvOK.bin ?_ ?_
              · refine EvOK.bin ?_ ?_
                · refine EvOK.var ?_
                  exact rfl
                · exact EvOK.cint
              · exact EvOK.cint
            · exact EvOK.cint
          · refine XsOK.cons ?_ ?_
            · refine XOK.asg ?_ ?_ ?_
              · refine EvOK.slice ?_ ?_ ?_ ?_
                · refine EvOK.var ?_
                  exact rfl
                · exact PartOK.none
                · exact PartOK.none
                · refine PartOK.some ?_
                  refine EvOK.neg ?_
                  exact EvOK.cint
              · exact rfl
              · exact (stor_of (by decide +kernel))
            · exact XsOK.nil
          · exact XsOK.nil
        · refine XsOK.cons ?_ ?_
          · refine XOK.asg ?_ ?_ ?_
            · refine EvOK.bin ?_ ?_
              · exact EvOK.cint
              · refine EvOK.bin ?_ ?_
                · refine EvOK.bin ?_ ?_
                  · refine EvOK.var ?_
                    exact rfl
                  · exact EvOK.cint
                · exact EvOK.cint
            · exact rfl
            · exact (stor_of (by decide +kernel))
          · refine XsOK.cons ?_ ?_
            · refine XOK.asg ?_ ?_ ?_
              · refine EvOK.bin ?_ ?_
                · refine EvOK.bin ?_ ?_
                  · refine EvOK.var ?_
                    exact rfl
                  · exact EvOK.cint
                · refine EvOK.bin ?_ ?_
                  · refine EvOK.len ?_ ?_ ?_ ?_
                    · exact G.st
                    · exact (kind_of (by decide +kernel))
                    · exact G.len
                    · refine EvOK.var ?_
                      exact rfl
                  · exact EvOK.cint
              · exact rfl
              · exact (stor_of (by decide +kernel))
            · refine XsOK.cons ?_ ?_
              · refine XOK.ret ?_
                refine EvOK.tup ?_
                refine EvsOK.cons ?_ ?_
                · refine EvOK.var ?_
                  exact rfl
                · refine EvsOK.cons ?_ ?_
                  · refine EvOK.bin ?_ ?_
                    · refine EvOK.bin ?_ ?_
                      · refine EvOK.slice ?_ ?_ ?_ ?_
                        · refine EvOK.var ?_
                          exact rfl
                        · exact PartOK.none
                        · refine PartOK.some ?_
                          refine EvOK.var ?_
                          exact rfl
                        · exact PartOK.none
                      · refine EvOK.list ?_
                        refine EvsOK.cons ?_ ?_
                        · refine EvOK.var ?_
                          exact rfl
                        · refine EvsOK.cons ?_ ?_
                          · refine EvOK.var ?_
                            exact rfl
                          · exact EvsOK.nil
                    · refine EvOK.slice ?_ ?_ ?_ ?_
                      · refine EvOK.var ?_
                        exact rfl
                      · refine PartOK.some ?_
                        refine EvOK.var ?_
                        exact rfl
                      · exact PartOK.none
                      · exact PartOK.none
                  · exact EvsOK.nil
              · exact XsOK.nil

set_option maxHeartbeats 4000000 in
theorem ok_octs (b : Bs) (G : Glb b) : XsOK (b.cx F0 I0 0) (namesAt 62) (bodyAt 62) p_octs := by
  refine XsOK.cons ?_ ?_
  · refine XOK.newl ?_ ?_ ?_
    · refine EvsOK.cons ?_ ?_
      · refine EvOK.bin ?_ ?_
        · refine EvOK.var ?_
          exact rfl
        · exact EvOK.cint
      · exact EvsOK.nil
    · exact rfl
    · exact (stor_of (by decide +kernel))
  · refine XsOK.cons ?_ ?_
    · refine XOK.whl ?_ ?_
      · refine TrOK.cmp ?_ ?_
        · refine EvOK.var ?_
          exact rfl
        · exact EvOK.cint
      · refine XsOK.cons ?_ ?_
        · refine XOK.asg ?_ ?_ ?_
          · refine EvOK.bin ?_ ?_
            · refine EvOK.var ?_
              exact rfl
            · exact EvOK.cint
          · exact rfl
          · exact (stor_of (by decide +kernel))
        · refine XsOK.cons ?_ ?_
          · refine XOK.app ?_ ?_
            · refine EvOK.bin ?_ ?_
              · exact EvOK.cint
              · refine EvOK.bin ?_ ?_
                · refine EvOK.var ?_
                  exact rfl
                · exact EvOK.cint
            · exact rfl
          · exact XsOK.nil
    · refine XsOK.cons ?_ ?_
      · refine XOK.ret ?_
        refine EvOK.slice ?_ ?_ ?_ ?_
        · refine EvOK.var ?_
          exact rfl
        · exact PartOK.none
        · exact PartOK.none
        · refine PartOK.some ?_
          refine EvOK.neg ?_
          exact EvOK.cint
      · exact XsOK.nil

set_option maxHeartbeats 4000000 in
theorem ok_patt (b : Bs) (G : Glb b) : XsOK (b.cx F0 I0 0) (namesAt 65) (bodyAt 65) p_patt := by
  refine XsOK.cons ?_ ?_
  · refine XOK.rows4 ?_ ?_
    · exact rfl
    · exact (stor_of (by decide +kernel))
  · refine XsOK.cons ?_ ?_
    · refine XOK.loop ?_ ?_ ?_ ?_
      · refine EvOK.var ?_
        exact rfl
      · refine XsOK.cons ?_ ?_
        · refine XOK.asg ?_ ?_ ?_
          · refine EvOK.var ?_
            exact rfl
          · exact rfl
          · exact (stor_of (by decide +kernel))
        · refine XsOK.cons ?_ ?_
          · refine XOK.loop ?_ ?_ ?_ ?_
            · refine EvOK.var ?_
              exact rfl
            · refine XsOK.cons ?_ ?_
              · refine XOK.asg ?_ ?_ ?_
                · refine EvOK.len ?_ ?_ ?_ ?_
                  · exact G.st
                  · exact (kind_of (by decide +kernel))
                  · exact G.len
                  · refine EvOK.compIf ?_ ?_ ?_ ?_
                    · exact (CN (by decide +kernel))
                    · refine EvOK.var ?_
                      exact rfl
                    · refine TrOK.cmp ?_ ?_
                      · refine EvOK.var ?_
                        exact rfl
                      · refine EvOK.var ?_
                        exact rfl
                    · refine EvOK.var ?_
                      exact rfl
                · exact rfl
                · exact (stor_of (by decide +kernel))
              · refine XsOK.cons ?_ ?_
                · refine XOK.ite ?_ ?_ ?_
                  · refine TrOK.cmp ?_ ?_
                    · refine EvOK.var ?_
                      exact rfl
                    · refine EvOK.len ?_ ?_ ?_ ?_
                      · exact G.st
                      · exact (kind_of (by decide +kernel))
                      · exact G.len
                      · refine EvOK.var ?_
                        exact rfl
                  · refine XsOK.cons ?_ ?_
                    · refine XOK.app ?_ ?_
                      · refine EvOK.var ?_
                        exact rfl
                      · exact rfl
                    · refine XsOK.cons ?_ ?_
                      · exact XOK.brk
                      · exact XsOK.nil
                  · exact XsOK.nil
                · refine XsOK.cons ?_ ?_
                  · refine XOK.asg ?_ ?_ ?_
                    · refine EvOK.item ?_ ?_
                      · refine EvOK.var ?_
                        exact rfl
                      · refine EvOK.var ?_
                        exact rfl
                    · exact rfl
                    · exact (stor_of (by decide +kernel))
                  · refine XsOK.cons ?_ ?_
                    · refine XOK.seti ?_ ?_ ?_
                      · exact rfl
                      · exact rfl
                      · exact rfl
                    · refine XsOK.cons ?_ ?_
                      · refine XOK.asg ?_ ?_ ?_
                        · refine EvOK.var ?_
                          exact rfl
                        · exact rfl
                        · exact (stor_of (by decide +kernel))
                      · exact XsOK.nil
            · exact rfl
            · exact (stor_of (by decide +kernel))
          · exact XsOK.nil
      · exact rfl
      · exact (stor_of (by decide +kernel))
    · refine XsOK.cons ?_ ?_
      · refine XOK.ret ?_
        refine EvOK.comp ?_ ?_ ?_
        · exact (CN (by decide +kernel))
        · refine EvOK.rng2 ?_ ?_ ?_ ?_ ?_
          · exact G.st
          · exact (kind_of (by decide +kernel))
          · exact G.range
          · exact EvOK.cint
          · exact EvOK.cint
        · refine EvOK.comp ?_ ?_ ?_
          · exact (CN (by decide +kernel))
          · refine EvOK.slice ?_ ?_ ?_ ?_
            · refine EvOK.var ?_
              exact rfl
            · exact PartOK.none
            · refine PartOK.some ?_
              refine EvOK.var ?_
              exact rfl
            · exact PartOK.none
          · refine EvOK.len ?_ ?_ ?_ ?_
            · exact G.st
            · exact (kind_of (by decide +kernel))
            · exact G.len
            · refine EvOK.compIf ?_ ?_ ?_ ?_
              · exact (CN (by decide +kernel))
              · refine EvOK.var ?_
                exact rfl
              · refine TrOK.cmp ?_ ?_
                · refine EvOK.var ?_
                  exact rfl
                · refine EvOK.var ?_
                  exact rfl
              · refine EvOK.var ?_
                exact rfl
      · exact XsOK.nil

set_option maxHeartbeats 4000000 in
theorem ok_tape (b : Bs) (G : Glb b) (f_octs : FAd b (Str.ofString "_law_octets")) (c_octs : CallOK (b.cx F1 I1 1) 1 f_octs.a (F1 6)) : XsOK (b.cx F1 I1 1) (namesAt 63) (bodyAt 63) p_tape := by
  refine XsOK.cons ?_ ?_
  · refine XOK.newl ?_ ?_ ?_
    · exact EvsOK.nil
    · exact rfl
    · exact (stor_of (by decide +kernel))
  · refine XsOK.cons ?_ ?_
    · refine XOK.loop ?_ ?_ ?_ ?_
      · refine EvOK.rng1 ?_ ?_ ?_ ?_
        · exact G.st
        · exact (kind_of (by decide +kernel))
        · exact G.range
        · exact EvOK.cint
      · refine XsOK.cons ?_ ?_
        · refine XOK.ext ?_ ?_
          · refine EvOK.call (a := f_octs.a) (o := f_octs.ob) (fd := f_octs.fd) ?_ ?_ ?_ ?_ ?_ ?_ ?_
            · exact G.st
            · exact (kind_of (by decide +kernel))
            · exact f_octs.v
            · exact f_octs.o
            · exact f_octs.f
            · exact c_octs
            · refine EvsOK.cons ?_ ?_
              · refine EvOK.bin ?_ ?_
                · exact EvOK.cint
                · refine EvOK.bin ?_ ?_
                  · refine EvOK.item ?_ ?_
                    · refine EvOK.var ?_
                      exact rfl
                    · refine EvOK.var ?_
                      exact rfl
                  · exact EvOK.cint
              · exact EvsOK.nil
          · exact rfl
        · refine XsOK.cons ?_ ?_
          · refine XOK.ite ?_ ?_ ?_
            · refine TrOK.cmp ?_ ?_
              · refine EvOK.var ?_
                exact rfl
              · refine EvOK.len ?_ ?_ ?_ ?_
                · exact G.st
                · exact (kind_of (by decide +kernel))
                · exact G.len
                · refine EvOK.var ?_
                  exact rfl
            · refine XsOK.cons ?_ ?_
              · refine XOK.ext ?_ ?_
                · refine EvOK.call (a := f_octs.a) (o := f_octs.ob) (fd := f_octs.fd) ?_ ?_ ?_ ?_ ?_ ?_ ?_
                  · exact G.st
                  · exact (kind_of (by decide +kernel))
                  · exact f_octs.v
                  · exact f_octs.o
                  · exact f_octs.f
                  · exact c_octs
                  · refine EvsOK.cons ?_ ?_
                    · refine EvOK.bin ?_ ?_
                      · refine EvOK.bin ?_ ?_
                        · exact EvOK.cint
                        · refine EvOK.item ?_ ?_
                          · refine EvOK.var ?_
                            exact rfl
                          · refine EvOK.var ?_
                            exact rfl
                      · refine EvOK.bin ?_ ?_
                        · refine EvOK.bin ?_ ?_
                          · refine EvOK.item ?_ ?_
                            · refine EvOK.var ?_
                              exact rfl
                            · refine EvOK.var ?_
                              exact rfl
                          · exact EvOK.cint
                        · exact EvOK.cint
                    · exact EvsOK.nil
                · exact rfl
              · exact XsOK.nil
            · exact XsOK.nil
          · exact XsOK.nil
      · exact rfl
      · exact (stor_of (by decide +kernel))
    · refine XsOK.cons ?_ ?_
      · refine XOK.ret ?_
        refine EvOK.bin ?_ ?_
        · refine EvOK.var ?_
          exact rfl
        · refine EvOK.list ?_
          refine EvsOK.cons ?_ ?_
          · exact EvOK.cint
          · exact EvsOK.nil
      · exact XsOK.nil

set_option maxHeartbeats 4000000 in
theorem ok_read (b : Bs) (G : Glb b) (f_eof : FAd b (Str.ofString "ISEOF")) (c_eof : CallOK (b.cx F1 I1 1) 1 f_eof.a (F1 3)) (f_nont : FAd b (Str.ofString "ISNONTERMINAL")) (c_nont : CallOK (b.cx F1 I1 1) 1 f_nont.a (F1 2)) (f_vint : FAd b (Str.ofString "_parse_varint")) (c_vint : IterOK (b.cx F1 I1 1) 1 f_vint.a (I1 0)) (htab : XOK (b.cx F1 I1 1) (namesAt 64) ((bodyAt 64).headD (.Pass default)) (.tab 30)) : XsOK (b.cx F1 I1 1) (namesAt 64) (bodyAt 64) p_read := by
  refine XsOK.cons ?_ ?_
  · exact htab
  · refine XsOK.cons ?_ ?_
    · refine XOK.iter ?_ ?_ ?_ ?_ ?_ ?_
      · exact G.st
      · exact (kind_of (by decide +kernel))
      · exact G.iter
      · refine EvOK.var ?_
        exact rfl
      · exact rfl
      · exact (stor_of (by decide +kernel))
    · refine XsOK.cons ?_ ?_
      · refine XOK.newl ?_ ?_ ?_
        · exact EvsOK.nil
        · exact rfl
        · exact (stor_of (by decide +kernel))
      · refine XsOK.cons ?_ ?_
        · refine XOK.newl ?_ ?_ ?_
          · exact EvsOK.nil
          · exact rfl
          · exact (stor_of (by decide +kernel))
        · refine XsOK.cons ?_ ?_
          · refine XOK.callI (a := f_vint.a) (o := f_vint.ob) (fd := f_vint.fd) ?_ ?_ ?_ ?_ ?_ ?_ ?_ ?_ ?_
            · exact G.st
            · exact (kind_of (by decide +kernel))
            · exact f_vint.v
            · exact f_vint.o
            · exact f_vint.f
            · exact c_vint
            · exact rfl
            · exact (stor_of (by decide +kernel))
            · exact rfl
          · refine XsOK.cons ?_ ?_
            · refine XOK.whl ?_ ?_
              · refine TrOK.not ?_
                refine TrOK.val ?_
                refine EvOK.call (a := f_eof.a) (o := f_eof.ob) (fd := f_eof.fd) ?_ ?_ ?_ ?_ ?_ ?_ ?_
                · exact G.st
                · exact (kind_of (by decide +kernel))
                · exact f_eof.v
                · exact f_eof.o
                · exact f_eof.f
                · exact c_eof
                · refine EvsOK.cons ?_ ?_
                  · refine EvOK.var ?_
                    exact rfl
                  · exact EvsOK.nil
              · refine XsOK.cons ?_ ?_
                · refine XOK.ite ?_ ?_ ?_
                  · refine TrOK.val ?_
                    refine EvOK.call (a := f_nont.a) (o := f_nont.ob) (fd := f_nont.fd) ?_ ?_ ?_ ?_ ?_ ?_ ?_
                    · exact G.st
                    · exact (kind_of (by decide +kernel))
                    · exact f_nont.v
                    · exact f_nont.o
                    · exact f_nont.f
                    · exact c_nont
                    · refine EvsOK.cons ?_ ?_
                      · refine EvOK.var ?_
                        exact rfl
                      · exact EvsOK.nil
                  · refine XsOK.cons ?_ ?_
                    · refine XOK.app ?_ ?_
                      · refine EvOK.bin ?_ ?_
                        · exact EvOK.cint
                        · refine EvOK.bin ?_ ?_
                          · refine EvOK.bin ?_ ?_
                            · refine EvOK.var ?_
                              exact rfl
                            · exact EvOK.cint
                          · exact EvOK.cint
                      · exact rfl
                    · exact XsOK.nil
                  · refine XsOK.cons ?_ ?_
                    · refine XOK.app ?_ ?_
                      · refine EvOK.get ?_ ?_ ?_
                        · refine EvOK.var ?_
                          exact rfl
                        · refine EvOK.var ?_
                          exact rfl
                        · exact EvOK.cint
                      · exact rfl
                    · exact XsOK.nil
                · refine XsOK.cons ?_ ?_
                  · refine XOK.callI (a := f_vint.a) (o := f_vint.ob) (fd := f_vint.fd) ?_ ?_ ?_ ?_ ?_ ?_ ?_ ?_ ?_
                    · exact G.st
                    · exact (kind_of (by decide +kernel))
                    · exact f_vint.v
                    · exact f_vint.o
                    · exact f_vint.f
                    · exact c_vint
                    · exact rfl
                    · exact (stor_of (by decide +kernel))
                    · exact rfl
                  · exact XsOK.nil
            · refine XsOK.cons ?_ ?_
              · refine XOK.ret ?_
                refine EvOK.tup ?_
                refine EvsOK.cons ?_ ?_
                · refine EvOK.var ?_
                  exact rfl
                · refine EvsOK.cons ?_ ?_
                  · refine EvOK.var ?_
                    exact rfl
                  · exact EvsOK.nil
              · exact XsOK.nil

set_option maxHeartbeats 4000000 in
theorem ok_led (b : Bs) (G : Glb b) (f_hls : FAd b (Str.ofString "rgb_to_hls")) (c_hls : CallOK (b.cx F1 I1 1) 1 f_hls.a (F1 0)) (f_hsv : FAd b (Str.ofString "rgb_to_hsv")) (c_hsv : CallOK (b.cx F1 I1 1) 1 f_hsv.a (F1 1)) : XsOK (b.cx F1 I1 1) (namesAt 66) (bodyAt 66) p_led := by
  refine XsOK.cons ?_ ?_
  · refine XOK.asgComp ?_ ?_ ?_ ?_ ?_
    · exact (CN (by decide +kernel))
    · refine EvOK.item ?_ ?_
      · refine EvOK.var ?_
        exact rfl
      · refine EvOK.var ?_
        exact rfl
    · refine EvOK.bin ?_ ?_
      · refine EvOK.var ?_
        exact rfl
      · exact EvOK.cint
    · exact rfl
    · exact (by decide +kernel)
  · refine XsOK.cons ?_ ?_
    · refine XOK.asg ?_ ?_ ?_
      · refine EvOK.ife ?_ ?_ ?_
        · refine TrOK.cmp ?_ ?_
          · refine EvOK.var ?_
            exact rfl
          · exact EvOK.cint
        · refine EvOK.bin ?_ ?_
          · refine EvOK.bin ?_ ?_
            · refine EvOK.list ?_
              refine EvsOK.cons ?_ ?_
              · exact EvOK.cflt
              · exact EvsOK.nil
            · refine EvOK.comp ?_ ?_ ?_
              · exact (CN (by decide +kernel))
              · refine EvOK.item ?_ ?_
                · refine EvOK.var ?_
                  exact rfl
                · refine EvOK.bin ?_ ?_
                  · refine EvOK.var ?_
                    exact rfl
                  · exact EvOK.cint
              · refine EvOK.bin ?_ ?_
                · refine EvOK.var ?_
                  exact rfl
                · exact EvOK.cint
          · refine EvOK.list ?_
            refine EvsOK.cons ?_ ?_
            · exact EvOK.cflt
            · exact EvsOK.nil
        · refine EvOK.list ?_
          refine EvsOK.cons ?_ ?_
          · exact EvOK.cflt
          · refine EvsOK.cons ?_ ?_
            · exact EvOK.cflt
            · exact EvsOK.nil
      · exact rfl
      · exact (stor_of (by decide +kernel))
    · refine XsOK.cons ?_ ?_
      · refine XOK.newl ?_ ?_ ?_
        · exact EvsOK.nil
        · exact rfl
        · exact (stor_of (by decide +kernel))
      · refine XsOK.cons ?_ ?_
        · refine XOK.loop ?_ ?_ ?_ ?_
          · refine EvOK.rng1 ?_ ?_ ?_ ?_
            · exact G.st
            · exact (kind_of (by decide +kernel))
            · exact G.range
            · refine EvOK.var ?_
              exact rfl
          · refine XsOK.cons ?_ ?_
            · refine XOK.asg ?_ ?_ ?_
              · refine EvOK.bin ?_ ?_
                · refine EvOK.bin ?_ ?_
                  · exact EvOK.cint
                  · refine EvOK.item ?_ ?_
                    · refine EvOK.call (a := f_hls.a) (o := f_hls.ob) (fd := f_hls.fd) ?_ ?_ ?_ ?_ ?_ ?_ ?_
                      · exact G.st
                      · exact (kind_of (by decide +kernel))
                      · exact f_hls.v
                      · exact f_hls.o
                      · exact f_hls.f
                      · exact c_hls
                      · refine EvsOK.cons ?_ ?_
                        · refine EvOK.item ?_ ?_
                          · refine EvOK.var ?_
                            exact rfl
                          · refine EvOK.var ?_
                            exact rfl
                        · refine EvsOK.cons ?_ ?_
                          · refine EvOK.item ?_ ?_
                            · refine EvOK.var ?_
                              exact rfl
                            · refine EvOK.var ?_
                              exact rfl
                          · refine EvsOK.cons ?_ ?_
                            · exact EvOK.cflt
                            · exact EvsOK.nil
                    · exact EvOK.cint
                · exact EvOK.cint
              · exact rfl
              · exact (stor_of (by decide +kernel))
            · refine XsOK.cons ?_ ?_
              · refine XOK.asg ?_ ?_ ?_
                · refine EvOK.item ?_ ?_
                  · refine EvOK.call (a := f_hsv.a) (o := f_hsv.ob) (fd := f_hsv.fd) ?_ ?_ ?_ ?_ ?_ ?_ ?_
                    · exact G.st
                    · exact (kind_of (by decide +kernel))
                    · exact f_hsv.v
                    · exact f_hsv.o
                    · exact f_hsv.f
                    · exact c_hsv
                    · refine EvsOK.cons ?_ ?_
                      · refine EvOK.item ?_ ?_
                        · refine EvOK.var ?_
                          exact rfl
                        · refine EvOK.bin ?_ ?_
                          · refine EvOK.var ?_
                            exact rfl
                          · exact EvOK.cint
                      · refine EvsOK.cons ?_ ?_
                        · refine EvOK.item ?_ ?_
                          · refine EvOK.var ?_
                            exact rfl
                          · refine EvOK.bin ?_ ?_
                            · refine EvOK.var ?_
                              exact rfl
                            · exact EvOK.cint
                        · refine EvsOK.cons ?_ ?_
                          · exact EvOK.cflt
                          · exact EvsOK.nil
                  · exact EvOK.cint
                · exact rfl
                · exact (stor_of (by decide +kernel))
              · refine XsOK.cons ?_ ?_
                · refine XOK.app ?_ ?_
                  · refine EvOK.bin ?_ ?_
                    · refine EvOK.trunc ?_ ?_ ?_ ?_
                      · exact G.st
                      · exact (kind_of (by decide +kernel))
                      · exact G.int
                      · refine EvOK.bin ?_ ?_
                        · refine EvOK.bin ?_ ?_
                          · exact EvOK.cint
                          · refine EvOK.var ?_
                            exact rfl
                        · refine EvOK.bin ?_ ?_
                          · exact EvOK.cint
                          · refine EvOK.var ?_
                            exact rfl
                    · refine EvOK.item ?_ ?_
                      · refine EvOK.item ?_ ?_
                        · refine EvOK.var ?_
                          exact rfl
                        · refine EvOK.bin ?_ ?_
                          · refine EvOK.var ?_
                            exact rfl
                          · exact EvOK.cint
                      · refine EvOK.var ?_
                        exact rfl
                  · exact rfl
                · exact XsOK.nil
          · exact rfl
          · exact (stor_of (by decide +kernel))
        · refine XsOK.cons ?_ ?_
          · refine XOK.ret ?_
            refine EvOK.bin ?_ ?_
            · refine EvOK.bin ?_ ?_
              · refine EvOK.slice ?_ ?_ ?_ ?_
                · refine EvOK.var ?_
                  exact rfl
                · exact PartOK.none
                · refine PartOK.some ?_
                  refine EvOK.bin ?_ ?_
                  · refine EvOK.var ?_
                    exact rfl
                  · exact EvOK.cint
                · exact PartOK.none
              · refine EvOK.list ?_
                refine EvsOK.cons ?_ ?_
                · refine EvOK.var ?_
                  exact rfl
                · exact EvsOK.nil
            · refine EvOK.slice ?_ ?_ ?_ ?_
              · refine EvOK.var ?_
                exact rfl
              · refine PartOK.some ?_
                refine EvOK.var ?_
                exact rfl
              · exact PartOK.none
              · exact PartOK.none
          · exact XsOK.nil

set_option maxHeartbeats 4000000 in
theorem ok_law (b : Bs) (G : Glb b) (f_drawn : FAd b (Str.ofString "_law_drawn")) (c_drawn : CallOK (b.cx F2 I1 2) 2 f_drawn.a (F2 4)) (f_plan : FAd b (Str.ofString "_law_plan")) (c_plan : CallOK (b.cx F2 I1 2) 2 f_plan.a (F2 5)) (f_tape : FAd b (Str.ofString "_law_tape")) (c_tape : CallOK (b.cx F2 I1 2) 2 f_tape.a (F2 8)) (f_read : FAd b (Str.ofString "_law_read")) (c_read : CallOK (b.cx F2 I1 2) 2 f_read.a (F2 9)) (f_patt : FAd b (Str.ofString "_law_pattern")) (c_patt : CallOK (b.cx F2 I1 2) 2 f_patt.a (F2 7)) (f_led : FAd b (Str.ofString "_law_led")) (c_led : CallOK (b.cx F2 I1 2) 2 f_led.a (F2 10)) : XsOK (b.cx F2 I1 2) (namesAt 67) (bodyAt 67) p_law := by
  refine XsOK.cons ?_ ?_
  · refine XOK.asg ?_ ?_ ?_
    · refine EvOK.call (a := f_drawn.a) (o := f_drawn.ob) (fd := f_drawn.fd) ?_ ?_ ?_ ?_ ?_ ?_ ?_
      · exact G.st
      · exact (kind_of (by decide +kernel))
      · exact f_drawn.v
      · exact f_drawn.o
      · exact f_drawn.f
      · exact c_drawn
      · refine EvsOK.cons ?_ ?_
        · refine EvOK.var ?_
          exact rfl
        · exact EvsOK.nil
    · exact rfl
    · exact (stor_of (by decide +kernel))
  · refine XsOK.cons ?_ ?_
    · refine XOK.asgComp ?_ ?_ ?_ ?_ ?_
      · exact (CN (by decide +kernel))
      · refine EvOK.var ?_
        exact rfl
      · refine EvOK.bin ?_ ?_
        · exact EvOK.cint
        · refine EvOK.bin ?_ ?_
          · refine EvOK.var ?_
            exact rfl
          · exact EvOK.cint
      · exact rfl
      · exact (by decide +kernel)
    · refine XsOK.cons ?_ ?_
      · refine XOK.asg2 ?_ ?_ ?_ ?_ ?_
        · refine EvOK.call (a := f_plan.a) (o := f_plan.ob) (fd := f_plan.fd) ?_ ?_ ?_ ?_ ?_ ?_ ?_
          · exact G.st
          · exact (kind_of (by decide +kernel))
          · exact f_plan.v
          · exact f_plan.o
          · exact f_plan.f
          · exact c_plan
          · refine EvsOK.cons ?_ ?_
            · refine EvOK.var ?_
              exact rfl
            · exact EvsOK.nil
        · exact rfl
        · exact (stor_of (by decide +kernel))
        · exact rfl
        · exact (stor_of (by decide +kernel))
      · refine XsOK.cons ?_ ?_
        · refine XOK.asg2 ?_ ?_ ?_ ?_ ?_
          · refine EvOK.call (a := f_read.a) (o := f_read.ob) (fd := f_read.fd) ?_ ?_ ?_ ?_ ?_ ?_ ?_
            · exact G.st
            · exact (kind_of (by decide +kernel))
            · exact f_read.v
            · exact f_read.o
            · exact f_read.f
            · exact c_read
            · refine EvsOK.cons ?_ ?_
              · refine EvOK.call (a := f_tape.a) (o := f_tape.ob) (fd := f_tape.fd) ?_ ?_ ?_ ?_ ?_ ?_ ?_
                · exact G.st
                · exact (kind_of (by decide +kernel))
                · exact f_tape.v
                · exact f_tape.o
                · exact f_tape.f
                · exact c_tape
                · refine EvsOK.cons ?_ ?_
                  · refine EvOK.var ?_
                    exact rfl
                  · refine EvsOK.cons ?_ ?_
                    · refine EvOK.var ?_
                      exact rfl
                    · exact EvsOK.nil
              · exact EvsOK.nil
          · exact rfl
          · exact (stor_of (by decide +kernel))
          · exact rfl
          · exact (stor_of (by decide +kernel))
        · refine XsOK.cons ?_ ?_
          · refine XOK.ite ?_ ?_ ?_
            · refine TrOK.cmp ?_ ?_
              · refine EvOK.var ?_
                exact rfl
              · refine EvOK.var ?_
                exact rfl
            · refine XsOK.cons ?_ ?_
              · refine XOK.ret ?_
                exact EvOK.cbool
              · exact XsOK.nil
            · exact XsOK.nil
          · refine XsOK.cons ?_ ?_
            · refine XOK.asg ?_ ?_ ?_
              · refine EvOK.call (a := f_patt.a) (o := f_patt.ob) (fd := f_patt.fd) ?_ ?_ ?_ ?_ ?_ ?_ ?_
                · exact G.st
                · exact (kind_of (by decide +kernel))
                · exact f_patt.v
                · exact f_patt.o
                · exact f_patt.f
                · exact c_patt
                · refine EvsOK.cons ?_ ?_
                  · refine EvOK.var ?_
                    exact rfl
                  · exact EvsOK.nil
              · exact rfl
              · exact (stor_of (by decide +kernel))
            · refine XsOK.cons ?_ ?_
              · refine XOK.asg ?_ ?_ ?_
                · refine EvOK.var ?_
                  exact rfl
                · exact rfl
                · exact (stor_of (by decide +kernel))
              · refine XsOK.cons ?_ ?_
                · refine XOK.loop ?_ ?_ ?_ ?_
                  · refine EvOK.var ?_
                    exact rfl
                  · refine XsOK.cons ?_ ?_
                    · refine XOK.asg ?_ ?_ ?_
                      · refine EvOK.call (a := f_led.a) (o := f_led.ob) (fd := f_led.fd) ?_ ?_ ?_ ?_ ?_ ?_ ?_
                        · exact G.st
                        · exact (kind_of (by decide +kernel))
                        · exact f_led.v
                        · exact f_led.o
                        · exact f_led.f
                        · exact c_led
                        · refine EvsOK.cons ?_ ?_
                          · refine EvOK.var ?_
                            exact rfl
                          · refine EvsOK.cons ?_ ?_
                            · refine EvOK.var ?_
                              exact rfl
                            · exact EvsOK.nil
                      · exact rfl
                      · exact (stor_of (by decide +kernel))
                    · exact XsOK.nil
                  · exact rfl
                  · exact (stor_of (by decide +kernel))
                · refine XsOK.cons ?_ ?_
                  · refine XOK.asg ?_ ?_ ?_
                    · refine EvOK.slice ?_ ?_ ?_ ?_
                      · refine EvOK.compIf ?_ ?_ ?_ ?_
                        · exact (CN (by decide +kernel))
                        · refine EvOK.var ?_
                          exact rfl
                        · refine TrOK.cmp ?_ ?_
                          · refine EvOK.var ?_
                            exact rfl
                          · refine EvOK.var ?_
                            exact rfl
                        · refine EvOK.bin ?_ ?_
                          · refine EvOK.bin ?_ ?_
                            · refine EvOK.var ?_
                              exact rfl
                            · exact EvOK.cint
                          · refine EvOK.var ?_
                            exact rfl
                      · exact PartOK.none
                      · exact PartOK.none
                      · refine PartOK.some ?_
                        refine EvOK.neg ?_
                        exact EvOK.cint
                    · exact rfl
                    · exact (stor_of (by decide +kernel))
                  · refine XsOK.cons ?_ ?_
                    · refine XOK.ret ?_
                      refine EvOK.cmp ?_ ?_
                      · refine EvOK.var ?_
                        exact rfl
                      · refine EvOK.bin ?_ ?_
                        · refine EvOK.slice ?_ ?_ ?_ ?_
                          · refine EvOK.call (a := f_patt.a) (o := f_patt.ob) (fd := f_patt.fd) ?_ ?_ ?_ ?_ ?_ ?_ ?_
                            · exact G.st
                            · exact (kind_of (by decide +kernel))
                            · exact f_patt.v
                            · exact f_patt.o
                            · exact f_patt.f
                            · exact c_patt
                            · refine EvsOK.cons ?_ ?_
                              · refine EvOK.var ?_
                                exact rfl
                              · exact EvsOK.nil
                          · exact PartOK.none
                          · refine PartOK.some ?_
                            refine EvOK.var ?_
                            exact rfl
                          · exact PartOK.none
                        · refine EvOK.slice ?_ ?_ ?_ ?_
                          · refine EvOK.var ?_
                            exact rfl
                          · refine PartOK.some ?_
                            refine EvOK.var ?_
                            exact rfl
                          · exact PartOK.none
                          · exact PartOK.none
                    · exact XsOK.nil
end Mine
end

section
open PySem PySem.Calls PyProof.Rows PySem.W
set_option linter.unusedVariables false
namespace Mine

theorem fn_of {b : Bs} {k : Nat} {ps : List Nat} {xs : List Str} (F : Fns) (I : Its) (kk : Nat) (m : (itemAt k).Made 0 b.mg b.h₁) (he : (itemAt k).params.defaults = []) (hp : Pars tabN ps xs) (nd : xs.Nodup)
    (hk : ∀ x ∈ xs, (isK ((namesAt k).lookup x) .local || isK ((namesAt k).lookup x) .cell) = true)
    (hb : ∀ (pm cd doc : Value) (vals : List Value), vals.length = xs.length → bindArgs (docDef (itemAt k).name (itemAt k).params (itemAt k).body (itemAt k).scope pm cd doc) ⟨vals, []⟩ = pure (xs.zip vals))
    (h1 : (itemAt k).scope.kind = .function) (h2 : (itemAt k).scope.isCoroutine = false) (h3 : (itemAt k).scope.isGenerator = false) (h4 : ((namesAt k).all fun y => y.2 != .free) = true) :
    ∃ f : FAd b (itemAt k).name, FnAt (b.cx F I kk) f.a ps (bodyAt k) (namesAt k) := by
  obtain ⟨a, c', o, pm, doc, _, _, e1, e2, e3, e4⟩ := m.plain he
  refine ⟨⟨a, o, _, e1, e2, e3⟩, ⟨⟨o, _, xs, e2, e3, e4, rfl, rfl, rfl, h1, rfl, rfl, h2, h3, hp, nd, fun x hx => stor_of (hk x hx), hb pm (.ref c') doc⟩, fun x hx => ?_⟩⟩
  have := List.all_eq_true.mp h4 _ (mem_of_lookup hx)
  simp at this

theorem len1 {v : List Value} (h : v.length = 1) : ∃ a, v = [a] := by
  cases v with
  | nil => cases h
  | cons a r => cases r with
    | nil => exact ⟨a, rfl⟩
    | cons => cases h
theorem len2 {v : List Value} (h : v.length = 2) : ∃ a b, v = [a, b] := by
  cases v with
  | nil => cases h
  | cons a r => obtain ⟨b, rfl⟩ := len1 (Nat.succ.inj h); exact ⟨a, b, rfl⟩
theorem len3 {v : List Value} (h : v.length = 3) : ∃ a b c, v = [a, b, c] := by
  cases v with
  | nil => cases h
  | cons a r => obtain ⟨b, c, rfl⟩ := len2 (Nat.succ.inj h); exact ⟨a, b, c, rfl⟩
theorem tab_inj : ∀ (i j : Nat) (x : Str), tabN[i]? = some x → tabN[j]? = some x → i = j := by
  have hn : tabN.Nodup := by decide +kernel
  intro i j x hi hj
  obtain ⟨h1, e1⟩ := List.getElem?_eq_some_iff.mp hi
  obtain ⟨h2, e2⟩ := List.getElem?_eq_some_iff.mp hj
  rw [List.nodup_iff_pairwise_ne, List.pairwise_iff_getElem] at hn
  rcases Nat.lt_trichotomy i j with h | h | h
  · exact absurd (e1.trans e2.symm) (hn i j h1 h2 h)
  · exact h
  · exact absurd (e2.trans e1.symm) (hn j i h2 h1 h)

set_option maxRecDepth 100000
theorem fn_hls {b : Bs} (m : (itemAt 1).Made 0 b.mg b.h₁) : ∃ f : FAd b (Str.ofString "rgb_to_hls"), FnAt (b.cx F0 I0 0) f.a [0, 1, 2] (bodyAt 1) (namesAt 1) :=
  fn_of (k := 1) (xs := [Str.ofString "r", Str.ofString "g", Str.ofString "b"]) F0 I0 0 m rfl (.cons rfl (.cons rfl (.cons rfl .nil))) (by decide +kernel) (by decide +kernel) (fun pm cd doc vals h => by obtain ⟨a, b, c, rfl⟩ := len3 h; rfl) rfl rfl rfl (by decide +kernel)
theorem fn_hsv {b : Bs} (m : (itemAt 2).Made 0 b.mg b.h₁) : ∃ f : FAd b (Str.ofString "rgb_to_hsv"), FnAt (b.cx F0 I0 0) f.a [0, 1, 2] (bodyAt 2) (namesAt 2) :=
  fn_of (k := 2) (xs := [Str.ofString "r", Str.ofString "g", Str.ofString "b"]) F0 I0 0 m rfl (.cons rfl (.cons rfl (.cons rfl .nil))) (by decide +kernel) (by decide +kernel) (fun pm cd doc vals h => by obtain ⟨a, b, c, rfl⟩ := len3 h; rfl) rfl rfl rfl (by decide +kernel)
theorem fn_vint {b : Bs} (m : (itemAt 4).Made 0 b.mg b.h₁) : ∃ f : FAd b (Str.ofString "_parse_varint"), FnAt (b.cx F0 I0 0) f.a [14] (bodyAt 4) (namesAt 4) :=
  fn_of (k := 4) (xs := [Str.ofString "iterator"]) F0 I0 0 m rfl (.cons rfl .nil) (by decide +kernel) (by decide +kernel) (fun pm cd doc vals h => by obtain ⟨a, rfl⟩ := len1 h; rfl) rfl rfl rfl (by decide +kernel)
theorem fn_nont {b : Bs} (m : (itemAt 57).Made 0 b.mg b.h₁) : ∃ f : FAd b (Str.ofString "ISNONTERMINAL"), FnAt (b.cx F0 I0 0) f.a [16] (bodyAt 57) (namesAt 57) :=
  fn_of (k := 57) (xs := [Str.ofString "x"]) F0 I0 0 m rfl (.cons rfl .nil) (by decide +kernel) (by decide +kernel) (fun pm cd doc vals h => by obtain ⟨a, rfl⟩ := len1 h; rfl) rfl rfl rfl (by decide +kernel)
theorem fn_eof {b : Bs} (m : (itemAt 58).Made 0 b.mg b.h₁) : ∃ f : FAd b (Str.ofString "ISEOF"), FnAt (b.cx F0 I0 0) f.a [16] (bodyAt 58) (namesAt 58) :=
  fn_of (k := 58) (xs := [Str.ofString "x"]) F0 I0 0 m rfl (.cons rfl .nil) (by decide +kernel) (by decide +kernel) (fun pm cd doc vals h => by obtain ⟨a, rfl⟩ := len1 h; rfl) rfl rfl rfl (by decide +kernel)
theorem fn_drawn {b : Bs} (m : (itemAt 60).Made 0 b.mg b.h₁) : ∃ f : FAd b (Str.ofString "_law_drawn"), FnAt (b.cx F0 I0 0) f.a [17] (bodyAt 60) (namesAt 60) :=
  fn_of (k := 60) (xs := [Str.ofString "script"]) F0 I0 0 m rfl (.cons rfl .nil) (by decide +kernel) (by decide +kernel) (fun pm cd doc vals h => by obtain ⟨a, rfl⟩ := len1 h; rfl) rfl rfl rfl (by decide +kernel)
theorem fn_plan {b : Bs} (m : (itemAt 61).Made 0 b.mg b.h₁) : ∃ f : FAd b (Str.ofString "_law_plan"), FnAt (b.cx F0 I0 0) f.a [20] (bodyAt 61) (namesAt 61) :=
  fn_of (k := 61) (xs := [Str.ofString "drawn"]) F0 I0 0 m rfl (.cons rfl .nil) (by decide +kernel) (by decide +kernel) (fun pm cd doc vals h => by obtain ⟨a, rfl⟩ := len1 h; rfl) rfl rfl rfl (by decide +kernel)
theorem fn_octs {b : Bs} (m : (itemAt 62).Made 0 b.mg b.h₁) : ∃ f : FAd b (Str.ofString "_law_octets"), FnAt (b.cx F0 I0 0) f.a [26] (bodyAt 62) (namesAt 62) :=
  fn_of (k := 62) (xs := [Str.ofString "number"]) F0 I0 0 m rfl (.cons rfl .nil) (by decide +kernel) (by decide +kernel) (fun pm cd doc vals h => by obtain ⟨a, rfl⟩ := len1 h; rfl) rfl rfl rfl (by decide +kernel)
theorem fn_patt {b : Bs} (m : (itemAt 65).Made 0 b.mg b.h₁) : ∃ f : FAd b (Str.ofString "_law_pattern"), FnAt (b.cx F0 I0 0) f.a [29] (bodyAt 65) (namesAt 65) :=
  fn_of (k := 65) (xs := [Str.ofString "word"]) F0 I0 0 m rfl (.cons rfl .nil) (by decide +kernel) (by decide +kernel) (fun pm cd doc vals h => by obtain ⟨a, rfl⟩ := len1 h; rfl) rfl rfl rfl (by decide +kernel)
theorem fn_tape {b : Bs} (m : (itemAt 63).Made 0 b.mg b.h₁) : ∃ f : FAd b (Str.ofString "_law_tape"), FnAt (b.cx F1 I1 1) f.a [20, 21] (bodyAt 63) (namesAt 63) :=
  fn_of (k := 63) (xs := [Str.ofString "drawn", Str.ofString "rows"]) F1 I1 1 m rfl (.cons rfl (.cons rfl .nil)) (by decide +kernel) (by decide +kernel) (fun pm cd doc vals h => by obtain ⟨a, b, rfl⟩ := len2 h; rfl) rfl rfl rfl (by decide +kernel)
theorem fn_read {b : Bs} (m : (itemAt 64).Made 0 b.mg b.h₁) : ∃ f : FAd b (Str.ofString "_law_read"), FnAt (b.cx F1 I1 1) f.a [28] (bodyAt 64) (namesAt 64) :=
  fn_of (k := 64) (xs := [Str.ofString "tape"]) F1 I1 1 m rfl (.cons rfl .nil) (by decide +kernel) (by decide +kernel) (fun pm cd doc vals h => by obtain ⟨a, rfl⟩ := len1 h; rfl) rfl rfl rfl (by decide +kernel)
theorem fn_led {b : Bs} (m : (itemAt 66).Made 0 b.mg b.h₁) : ∃ f : FAd b (Str.ofString "_law_led"), FnAt (b.cx F1 I1 1) f.a [36, 19] (bodyAt 66) (namesAt 66) :=
  fn_of (k := 66) (xs := [Str.ofString "pattern", Str.ofString "k"]) F1 I1 1 m rfl (.cons rfl (.cons rfl .nil)) (by decide +kernel) (by decide +kernel) (fun pm cd doc vals h => by obtain ⟨a, b, rfl⟩ := len2 h; rfl) rfl rfl rfl (by decide +kernel)
theorem fn_law {b : Bs} (m : (itemAt 67).Made 0 b.mg b.h₁) : ∃ f : FAd b (Str.ofString "law"), FnAt (b.cx F2 I1 2) f.a [17] (bodyAt 67) (namesAt 67) :=
  fn_of (k := 67) (xs := [Str.ofString "script"]) F2 I1 2 m rfl (.cons rfl .nil) (by decide +kernel) (by decide +kernel) (fun pm cd doc vals h => by obtain ⟨a, rfl⟩ := len1 h; rfl) rfl rfl rfl (by decide +kernel)

noncomputable def Con (b : Bs) (F : Fns) (I : Its) (k kk : Nat) (x : Str) (g : List AV → Option AV) : Prop := ∃ f : FAd b x, CallOK (b.cx F I k) kk f.a g
theorem con_hls {b : Bs} (G : Glb b) (m : (itemAt 1).Made 0 b.mg b.h₁) : Con b F1 I1 1 1 (Str.ofString "rgb_to_hls") (F1 0) :=
  Exists.elim (fn_hls m) fun f a => ⟨f, CallOK.of (C := b.cx F0 I0 0) G.st tab_inj a (ok_hls b G) (Nat.le_of_ble_eq_true rfl) fun _ _ e => e⟩
theorem con_hsv {b : Bs} (G : Glb b) (m : (itemAt 2).Made 0 b.mg b.h₁) : Con b F1 I1 1 1 (Str.ofString "rgb_to_hsv") (F1 1) :=
  Exists.elim (fn_hsv m) fun f a => ⟨f, CallOK.of (C := b.cx F0 I0 0) G.st tab_inj a (ok_hsv b G) (Nat.le_of_ble_eq_true rfl) fun _ _ e => e⟩
theorem con_nont {b : Bs} (G : Glb b) (m : (itemAt 57).Made 0 b.mg b.h₁) : Con b F1 I1 1 1 (Str.ofString "ISNONTERMINAL") (F1 2) :=
  Exists.elim (fn_nont m) fun f a => ⟨f, CallOK.of (C := b.cx F0 I0 0) G.st tab_inj a (ok_nont b G) (Nat.le_of_ble_eq_true rfl) fun _ _ e => e⟩
theorem con_eof {b : Bs} (G : Glb b) (m : (itemAt 58).Made 0 b.mg b.h₁) : Con b F1 I1 1 1 (Str.ofString "ISEOF") (F1 3) :=
  Exists.elim (fn_eof m) fun f a => ⟨f, CallOK.of (C := b.cx F0 I0 0) G.st tab_inj a (ok_eof b G) (Nat.le_of_ble_eq_true rfl) fun _ _ e => e⟩
theorem con_drawn {b : Bs} (G : Glb b) (m : (itemAt 60).Made 0 b.mg b.h₁) : Con b F2 I1 2 2 (Str.ofString "_law_drawn") (F2 4) :=
  Exists.elim (fn_drawn m) fun f a => ⟨f, CallOK.of (C := b.cx F0 I0 0) G.st tab_inj a (ok_drawn b G) (Nat.le_of_ble_eq_true rfl) fun _ _ e => e⟩
theorem con_plan {b : Bs} (G : Glb b) (m : (itemAt 61).Made 0 b.mg b.h₁) : Con b F2 I1 2 2 (Str.ofString "_law_plan") (F2 5) :=
  Exists.elim (fn_plan m) fun f a => ⟨f, CallOK.of (C := b.cx F0 I0 0) G.st tab_inj a (ok_plan b G) (Nat.le_of_ble_eq_true rfl) fun _ _ e => e⟩
theorem con_octs {b : Bs} (G : Glb b) (m : (itemAt 62).Made 0 b.mg b.h₁) : Con b F1 I1 1 1 (Str.ofString "_law_octets") (F1 6) :=
  Exists.elim (fn_octs m) fun f a => ⟨f, CallOK.of (C := b.cx F0 I0 0) G.st tab_inj a (ok_octs b G) (Nat.le_of_ble_eq_true rfl) fun _ _ e => e⟩
theorem con_patt {b : Bs} (G : Glb b) (m : (itemAt 65).Made 0 b.mg b.h₁) : Con b F2 I1 2 2 (Str.ofString "_law_pattern") (F2 7) :=
  Exists.elim (fn_patt m) fun f a => ⟨f, CallOK.of (C := b.cx F0 I0 0) G.st tab_inj a (ok_patt b G) (Nat.le_of_ble_eq_true rfl) fun _ _ e => e⟩
theorem con_tape {b : Bs} (G : Glb b) (m : (itemAt 63).Made 0 b.mg b.h₁) (h : Con b F1 I1 1 1 (Str.ofString "_law_octets") (F1 6)) : Con b F2 I1 2 2 (Str.ofString "_law_tape") (F2 8) :=
  Exists.elim h fun f_octs c_octs => Exists.elim (fn_tape m) fun f a => ⟨f, CallOK.of (C := b.cx F1 I1 1) G.st tab_inj a (ok_tape b G f_octs c_octs) (Nat.le_of_ble_eq_true rfl) fun _ _ e => e⟩
theorem con_read {b : Bs} (G : Glb b) (m : (itemAt 64).Made 0 b.mg b.h₁) (m4 : (itemAt 4).Made 0 b.mg b.h₁) (h1 : Con b F1 I1 1 1 (Str.ofString "ISEOF") (F1 3)) (h2 : Con b F1 I1 1 1 (Str.ofString "ISNONTERMINAL") (F1 2))
    (htab : XOK (b.cx F1 I1 1) (namesAt 64) ((bodyAt 64).headD (.Pass default)) (.tab 30)) : Con b F2 I1 2 2 (Str.ofString "_law_read") (F2 9) :=
  Exists.elim h1 fun f1 c1 => Exists.elim h2 fun f2 c2 => Exists.elim (fn_vint m4) fun f3 a3 => Exists.elim (fn_read m) fun f a =>
    ⟨f, CallOK.of (C := b.cx F1 I1 1) G.st tab_inj a (ok_read b G f1 c1 f2 c2 f3 (IterOK.of (C := b.cx F0 I0 0) G.st tab_inj a3 (ok_vint b G) (Nat.le_of_ble_eq_true rfl) fun _ _ _ e => e) htab) (Nat.le_of_ble_eq_true rfl) fun _ _ e => e⟩
theorem con_led {b : Bs} (G : Glb b) (m : (itemAt 66).Made 0 b.mg b.h₁) (h1 : Con b F1 I1 1 1 (Str.ofString "rgb_to_hls") (F1 0)) (h2 : Con b F1 I1 1 1 (Str.ofString "rgb_to_hsv") (F1 1)) : Con b F2 I1 2 2 (Str.ofString "_law_led") (F2 10) :=
  Exists.elim h1 fun f1 c1 => Exists.elim h2 fun f2 c2 => Exists.elim (fn_led m) fun f a => ⟨f, CallOK.of (C := b.cx F1 I1 1) G.st tab_inj a (ok_led b G f1 c1 f2 c2) (Nat.le_of_ble_eq_true rfl) fun _ _ e => e⟩
theorem law_contract {b : Bs} (G : Glb b) (M : ∀ k ∈ [1, 2, 4, 57, 58, 60, 61, 62, 63, 64, 65, 66, 67], (itemAt k).Made 0 b.mg b.h₁) (htab : XOK (b.cx F1 I1 1) (namesAt 64) ((bodyAt 64).headD (.Pass default)) (.tab 30)) :
    ∃ f : FAd b (Str.ofString "law"), CallOK (b.cx F2 I1 2) 3 f.a (runF F2 I1 [17] p_law) :=
  Exists.elim (con_drawn G (M 60 (by decide))) fun f1 c1 => Exists.elim (con_plan G (M 61 (by decide))) fun f2 c2 => Exists.elim (con_tape G (M 63 (by decide)) (con_octs G (M 62 (by decide)))) fun f3 c3 =>
  Exists.elim (con_read G (M 64 (by decide)) (M 4 (by decide)) (con_eof G (M 58 (by decide))) (con_nont G (M 57 (by decide))) htab) fun f4 c4 => Exists.elim (con_patt G (M 65 (by decide))) fun f5 c5 =>
  Exists.elim (con_led G (M 66 (by decide)) (con_hls G (M 1 (by decide))) (con_hsv G (M 2 (by decide)))) fun f6 c6 => Exists.elim (fn_law (M 67 (by decide))) fun f a =>
    ⟨f, CallOK.of (C := b.cx F2 I1 2) G.st tab_inj a (ok_law b G f1 c1 f2 c2 f3 c3 f4 c4 f5 c5 f6 c6) (Nat.le_of_ble_eq_true rfl) fun _ _ e => e⟩
end Mine
end

section
open PySem PySem.Calls PyProof.Rows PySem.W PySem.Spec
set_option linter.unusedVariables false
set_option maxRecDepth 100000
namespace Mine

noncomputable abbrev GLT (mg mb : Str → Option Value) (h : Heap) : Prop := Glob 0 mg mb (List.map itemOf (recsOf hview)) (scalarsOf [] ++ constsW hview) [] (namesW hview [Str.ofString "EXACT_TOKEN_TYPES"]) h
theorem glt_of {v : Program} {mg mb : Str → Option Value} {h : Heap} (e : v = hview) (GL : Glob 0 mg mb (List.map itemOf (recsOf v)) (scalarsOf [] ++ constsW v) [] (namesW v [Str.ofString "EXACT_TOKEN_TYPES"]) h) : GLT mg mb h := by
  subst e
  exact GL
theorem mem_1 : itemAt 1 ∈ List.map itemOf (recsOf hview) := List.mem_of_getElem? (i := 0) (by kernel_rfl)
theorem mem_2 : itemAt 2 ∈ List.map itemOf (recsOf hview) := List.mem_of_getElem? (i := 1) (by kernel_rfl)
theorem mem_4 : itemAt 4 ∈ List.map itemOf (recsOf hview) := List.mem_of_getElem? (i := 2) (by kernel_rfl)
theorem mem_57 : itemAt 57 ∈ List.map itemOf (recsOf hview) := List.mem_of_getElem? (i := 3) (by kernel_rfl)
theorem mem_58 : itemAt 58 ∈ List.map itemOf (recsOf hview) := List.mem_of_getElem? (i := 4) (by kernel_rfl)
theorem mem_60 : itemAt 60 ∈ List.map itemOf (recsOf hview) := List.mem_of_getElem? (i := 5) (by kernel_rfl)
theorem mem_61 : itemAt 61 ∈ List.map itemOf (recsOf hview) := List.mem_of_getElem? (i := 6) (by kernel_rfl)
theorem mem_62 : itemAt 62 ∈ List.map itemOf (recsOf hview) := List.mem_of_getElem? (i := 7) (by kernel_rfl)
theorem mem_63 : itemAt 63 ∈ List.map itemOf (recsOf hview) := List.mem_of_getElem? (i := 8) (by kernel_rfl)
theorem mem_64 : itemAt 64 ∈ List.map itemOf (recsOf hview) := List.mem_of_getElem? (i := 9) (by kernel_rfl)
theorem mem_65 : itemAt 65 ∈ List.map itemOf (recsOf hview) := List.mem_of_getElem? (i := 10) (by kernel_rfl)
theorem mem_66 : itemAt 66 ∈ List.map itemOf (recsOf hview) := List.mem_of_getElem? (i := 11) (by kernel_rfl)
theorem mem_67 : itemAt 67 ∈ List.map itemOf (recsOf hview) := List.mem_of_getElem? (i := 12) (by kernel_rfl)
theorem mades {mg mb : Str → Option Value} {h : Heap} (GL : GLT mg mb h) : ∀ k ∈ [1, 2, 4, 57, 58, 60, 61, 62, 63, 64, 65, 66, 67], (itemAt k).Made 0 mg h := by
  intro k hk
  simp only [List.mem_cons, List.not_mem_nil, or_false] at hk
  rcases hk with rfl | rfl | rfl | rfl | rfl | rfl | rfl | rfl | rfl | rfl | rfl | rfl | rfl
  · exact GL.made _ mem_1
  · exact GL.made _ mem_2
  · exact GL.made _ mem_4
  · exact GL.made _ mem_57
  · exact GL.made _ mem_58
  · exact GL.made _ mem_60
  · exact GL.made _ mem_61
  · exact GL.made _ mem_62
  · exact GL.made _ mem_63
  · exact GL.made _ mem_64
  · exact GL.made _ mem_65
  · exact GL.made _ mem_66
  · exact GL.made _ mem_67
theorem glb_of {prog : Program} {w : World} {mg mb : Str → Option Value} {h : Heap} (GL : GLT mg mb h) : Glb ⟨prog, w, h, mg, mb⟩ where
  gg := GL.g
  bb := GL.b
  nolimit := GL.nolimit
  len := ⟨GL.free _ (by decide +kernel) (by decide +kernel), (GL.builtins _ (by decide +kernel)).trans (by kernel_rfl)⟩
  sum := ⟨GL.free _ (by decide +kernel) (by decide +kernel), (GL.builtins _ (by decide +kernel)).trans (by kernel_rfl)⟩
  range := ⟨GL.free _ (by decide +kernel) (by decide +kernel), (GL.builtins _ (by decide +kernel)).trans (by kernel_rfl)⟩
  max := ⟨GL.free _ (by decide +kernel) (by decide +kernel), (GL.builtins _ (by decide +kernel)).trans (by kernel_rfl)⟩
  min := ⟨GL.free _ (by decide +kernel) (by decide +kernel), (GL.builtins _ (by decide +kernel)).trans (by kernel_rfl)⟩
  int := ⟨GL.free _ (by decide +kernel) (by decide +kernel), (GL.builtins _ (by decide +kernel)).trans (by kernel_rfl)⟩
  iter := ⟨GL.free _ (by decide +kernel) (by decide +kernel), (GL.builtins _ (by decide +kernel)).trans (by kernel_rfl)⟩
  next := ⟨GL.free _ (by decide +kernel) (by decide +kernel), (GL.builtins _ (by decide +kernel)).trans (by kernel_rfl)⟩
  enumerate := ⟨GL.free _ (by decide +kernel) (by decide +kernel), (GL.builtins _ (by decide +kernel)).trans (by kernel_rfl)⟩
  nt := by
    obtain ⟨v, e, d⟩ := GL.bound (Str.ofString "NT_OFFSET", .int 256) (List.mem_of_find?_eq_some (p := fun q => q.1 == Str.ofString "NT_OFFSET") (by kernel_rfl))
    cases d h
    exact ⟨_, e⟩
  em := by
    obtain ⟨v, e, d⟩ := GL.bound (Str.ofString "ENDMARKER", .int 0) (List.mem_of_find?_eq_some (p := fun q => q.1 == Str.ofString "ENDMARKER") (by kernel_rfl))
    cases d h
    exact ⟨_, e⟩

theorem vals_rel {W : Addr → Prop} {ρ : List Addr} {P : Params} {h : Heap} {l : Addr} {ns : List Int} (w : Well P h (.ref l) (ofPy (.list (ns.map PyData.int)))) (hW : ¬ W l) (hz : ns.length ≤ 63) : VRel W ρ h (.lst (ns.map AV.int)) (.ref l) := by
  have key : ∀ (ns : List Int) (vs : List Value) (ds : List WData), ds = ofPys (ns.map PyData.int) → WellAll P h vs ds → VRels W ρ h (ns.map AV.int) vs := by
    intro ns
    induction ns with
    | nil => intro vs ds e q; subst e; cases q; exact .nil
    | cons n ns ih =>
      intro vs ds e q
      subst e
      cases q with
      | cons a b => cases a; exact .cons (.int _ _) (ih _ _ rfl b)
  cases w with
  | list e q =>
    have r := key ns _ _ rfl q
    have := r.length
    simp only [List.length_map] at this
    exact .lst hW ⟨_, e⟩ (by rw [← this, sizeLine_eq]; omega) r

end Mine
end

section
open PySem PySem.Calls PyProof.Rows PySem.W PySem.Spec
set_option linter.unusedVariables false
set_option maxRecDepth 100000
namespace Mine

theorem law_end (pure_law : ∀ ns : List Int, ns.length ≤ 63 → runF F2 I1 [17] p_law [.lst (ns.map AV.int)] = some (.bool true))
    {w : World} {s₀ s₁ : Shared} {mg mb : Str → Option Value} (GL : GLT mg mb s₁.heap) (htab : XOK ((⟨PySem.Challenge.rw_sl0014_01.row.prog, w, s₁.heap, mg, mb⟩ : Bs).cx F1 I1 1) (namesAt 64) ((bodyAt 64).headD (.Pass default)) (.tab 30))
    {fa l : Addr} (hmg : mg (Str.ofString "law") = some (.ref fa)) (hg : s₁.gens = #[]) {P : Params} {ns : List Int} (wl : Well P s₁.heap (.ref l) (ofPy (.list (ns.map PyData.int)))) (hz : ¬ ((63 : Int) < (ns.length : Int))) :
    wpAny (model PySem.Challenge.rw_sl0014_01.row.prog w) callerA (call (.ref fa) [.ref l])
      (fun v s' => GoodWG PySem.Challenge.rw_sl0014_01.row.claim (classAt s₀.heap) (ExcName.means s₀.heap) [ofPy (.list (ns.map PyData.int))] s₁ (.ok (.ret v)) s')
      (fun e s' => GoodWG PySem.Challenge.rw_sl0014_01.row.claim (classAt s₀.heap) (ExcName.means s₀.heap) [ofPy (.list (ns.map PyData.int))] s₁ (.error e) s') s₁ := by
  obtain ⟨f, hc⟩ := law_contract (b := ⟨PySem.Challenge.rw_sl0014_01.row.prog, w, s₁.heap, mg, mb⟩) (glb_of GL) (mades GL) htab
  have e : f.a = fa := by
    have h1 := f.v
    have h2 : mg (Str.ofString "law") = some (.ref f.a) := h1
    rw [hmg] at h2
    cases h2; rfl
  rw [e] at hc
  have hz' : ns.length ≤ 63 := by omega
  refine hc callerA (fun _ => False) s₁ ⟨rfl, by decide +kernel, by decide +kernel⟩ (fun _ _ e => e) (fun _ h => h.elim) [.lst (ns.map AV.int)] _ (.cons (vals_rel wl (fun h => h) hz') .nil) (.bool true) (pure_law ns hz') _ _ fun v' s' k r => ?_
  obtain ⟨h', tk, kk⟩ := k
  cases r.bool_inv
  refine GoodW.toG ⟨.inl ⟨_, .bool true, [], rfl, fun cls => ?_, .bool true, ?_, fun _ => ⟨List.nodup_nil, fun _ h => (nomatch h)⟩⟩, kk, rfl, hg⟩
  · rfl
  · exact postW_of (r := PySem.Challenge.rw_sl0014_01.row.toRowW) rfl (w_eq_bool (w_res rfl) w_lit) rfl
end Mine
end

section
open PySem PySem.Calls PyProof.Rows PySem.W
namespace Mine
set_option maxRecDepth 100000
theorem ex_a (P : Params) : findBy Value.isStrOf (hEs P) (Str.ofString "+") = some (.int 14 255) := by kernel_rfl
theorem ex_b (P : Params) : findBy Value.isStrOf (hEs P) (Str.ofString "-") = some (.int 15 257) := by kernel_rfl
theorem ex_c (P : Params) : findBy Value.isStrOf (hEs P) (Str.ofString "*") = some (.int 16 259) := by kernel_rfl
theorem ex_d (P : Params) : findBy Value.isStrOf (hEs P) (Str.ofString "/") = some (.int 17 261) := by kernel_rfl
end Mine
end

section
open PySem PySem.Calls PyProof.Rows PySem.W
set_option linter.unusedVariables false
set_option maxRecDepth 100000
namespace Mine

noncomputable abbrev strSigns : Str := Str.ofString "+-*/"
noncomputable abbrev nEx : Str := Str.ofString "EXACT_TOKEN_TYPES"
noncomputable abbrev tabScope : List (Str × NameKind) := [(Str.ofString ".0", .local), (Str.ofString "place", .local), (Str.ofString "sign", .local), (nEx, .globalImplicit)]

structure ExTab (C : Cx) : Prop where
  lo : ∃ (a : Addr) (o : Obj), sysModules < a ∧ C.h₁.get? a = some o
  ex : ∃ (d : Addr) (f : Str → Option Value), C.mg nEx = some (.ref d) ∧ (∀ h' : Heap, (∀ b o, C.h₁.get? b = some o → h'.get? b = some o) → h'.MapOf (strKind C.prog C.w) d f) ∧ ∀ (i c : Nat), strSigns.cps[i]? = some c → ∃ t : Tok, f ⟨#[c]⟩ = some (Value.int (14 + (i : Int)) t)
  en : C.mg (Str.ofString "enumerate") = none ∧ C.mb (Str.ofString "enumerate") = some (.type "enumerate")

theorem putD_tab : ∀ i, i < 4 → PyProof.V.putD (PyData.int (14 + ((i : Nat) : Int))) (PyData.int (1 + ((i : Nat) : Int))) (tabD.take i) = tabD.take (i + 1)
  | 0, _ => by kernel_rfl
  | 1, _ => by kernel_rfl
  | 2, _ => by kernel_rfl
  | 3, _ => by kernel_rfl
  | n + 4, h => by omega

theorem swaps_d {names : List (Str × NameKind)} {k v : Expr} {gens : List Comprehension} {scope : Scope} {cpos py : Pos} {y : Str} {line : Nat} (h : isK (names.lookup y) .local = true) (hl : (py.line == cpos.line) = true) (ha : (scope.names.any fun x => x.1 == y && (x.2 == .local || x.2 == .cell)) = false) :
    ∀ env : Env, env.scope.kind = .function → (∀ y, env.kindOf y = names.lookup y) → swapsWith (.DictComp k v gens scope cpos) (some (.Name y py)) line env = pure true := by
  intro env hk hn
  have e := isK_eq h
  show (do return env.blockKind == .function && env.kindOf y == some .local && py.line == cpos.line && !(scope.names.any fun x => x.1 == y && (x.2 == .local || x.2 == .cell)) : Sem Bool) = _
  rw [hn y, e, hl, ha]
  have : env.blockKind = .function := by unfold Env.blockKind; rw [hk]; rfl
  rw [this]
  rfl

theorem gone_none (h : Heap) (a : Addr) : (h.update a fun o => { o with data := .freed }).get? a = none := by
  obtain ⟨objs, l⟩ := h
  simp only [Heap.update, Heap.get?]
  rw [Array.getElem?_modify]
  simp only [if_true]
  cases objs[a]? <;> rfl

section
variable {C : Cx} {names : List (Str × NameKind)}

theorem tab_assign {A : Around} {env : Env} {K : Addr → Obj → Prop} {W₀ W : Addr → Prop} {ρ : List Addr} {vs : Vars} {σ : Hp} {s : Shared} {E : Value → Shared → Prop} (F : FSt C names env K W₀ W ρ vs σ s.heap) {Q : Flow → Shared → Prop} {D L : Addr} {h : Heap} {tk : Nat} {m : Str → Option Value}
    {n : Nat} {y : Str} {py : Pos} (ht : C.tab[n]? = some y) (hk : names.lookup y = some .local ∨ names.lookup y = some .cell) (keep : ∀ b o, s.heap.get? b = some o → h.get? b = some o) (hD : s.heap.get? D = none) (hL : s.heap.get? L = none) (hDL : D ≠ L)
    (hp : IntTab C.prog C.w h D tabD) (hn : h.Ns L m)
    (q : ∀ f s', Post C names env K W₀ W ρ s (.next, setVar n (.loc σ.length) vs, σ ++ [.tab]) f s' → Q f s') : compPost (model C.prog C.w) A E (some (assign (.Name y py) env)) (fun _ s' => Q .next s') (.ref D) L (.ok .next) { s with heap := h, toks := tk } := by
  obtain ⟨oL, hoL⟩ : ∃ o, h.get? L = some o := let ⟨o, _, _, e, _⟩ := hn; ⟨o, e⟩
  generalize hg : (h.update L fun o => { o with data := .freed }) = g
  have gL : g.get? L = none := hg ▸ gone_none h L
  have gB : ∀ b, b ≠ L → g.get? b = h.get? b := fun b hb => hg ▸ (Heap.SameBut.update h L _).2 b hb
  have keepG : ∀ b o, s.heap.get? b = some o → g.get? b = some o := fun b o e => (gB b (fun q => by rw [q, hL] at e; cases e)).trans (keep b o e)
  have keepH : ∀ b o, g.get? b = some o → h.get? b = some o := fun b o e => by
    by_cases hb : b = L
    · rw [hb, gL] at e; cases e
    · rw [gB b hb] at e; exact e
  have hpG : IntTab C.prog C.w g D tabD := let ⟨lo, kvs, hd, hf⟩ := hp; ⟨lo, kvs, hd.at fun o e => (gB D hDL).trans e, hf⟩
  have hoD : ∃ o, g.get? D = some o := let ⟨_, _, ⟨o, _, _, e, _⟩, _⟩ := hpG; ⟨o, e⟩
  have F₀ := F.alloc (x := .tab) keepG hD ⟨hpG, hoD⟩
  have m₀ : Mono W (Rel.with' W D) ρ (ρ ++ [D]) s.heap g := Rel.mono_alloc hD keepG
  obtain ⟨F₁, m₁⟩ := F₀.enter gL keepH hoL
  have noK : ∀ o, ¬ K L o := fun o e => by have := F.rel.keep L o e; rw [hL] at this; cases this
  have hnR : L ∉ ρ ++ [D] := fun q => by
    rcases List.mem_append.mp q with q | q
    · obtain ⟨o, e⟩ := F.rel.dom L (F.rel.own L q).1
      rw [hL] at e; cases e
    · exact hDL (List.mem_singleton.mp q).symm
  have hnL : env.locals ≠ L := fun q => by
    obtain ⟨m, o, _, _, e, _⟩ := F.ns
    rw [q, hL] at e; cases e
  have hnC : ∀ x c, names.lookup x = some .cell → env.cells.lookup x = some c → c ≠ L := fun x c e1 e2 q => by
    obtain ⟨c', f1, ⟨v, o, f2, _⟩, _⟩ := F.cells x e1
    rw [e2] at f1; cases f1
    rw [q, hL] at f2; cases f2
  have z : Aside names env K (Rel.with' (Rel.with' W D) L) (ρ ++ [D]) L := ⟨.inr rfl, noK, hnR, hnL, hnC⟩
  have h0 : ¬ W₀ L := fun q => by obtain ⟨o, e⟩ := F.rel.dom L (F.rel.sub L q); rw [hL] at e; cases e
  have rD : VRel (Rel.with' (Rel.with' W D) L) (ρ ++ [D]) h (.loc σ.length) (.ref D) := .loc (by rw [← F.rel.len]; simp)
  have F₂ := F₁.addK z hoL
  show wpAny _ A (assign (.Name y py) env (.ref D)) _ _ _
  refine wpAny_assign_Name (store_ok (s := { s with heap := h, toks := tk }) F₂ ht hk rD fun h₃ t₃ F₃ m₃ => ?_)
  have hL3 : h₃.get? L = some oL := F₃.rel.keep L oL (.inr ⟨rfl, rfl⟩)
  refine ⟨m, hn.at' fun o e => by rw [hoL] at e; cases e; exact hL3, fun h₄ hs₄ => ?_⟩
  obtain ⟨F₄, z₄⟩ := F₃.dropK F.rel.base noK
  obtain ⟨F₅, m₅⟩ := F₄.gone z₄ h0 (fun b o hb e => hs₄.extBut b o hb e)
  exact q _ _ ⟨_, _, h₄, t₃, F₅, ((m₀.trans m₁).trans m₃).trans m₅, .next⟩
end
end Mine
end

section
open PySem PySem.Calls PyProof.Rows PySem.W
set_option linter.unusedVariables false
set_option maxRecDepth 100000
namespace Mine

section
variable {C : Cx} {names : List (Str × NameKind)}

inductive TInv (C : Cx) (s : Shared) (e I D L : Addr) (k : Nat) : Shared → Prop
  | mk (h : Heap) (tk i : Nat) (kvs) (m) (old) : k = 5 - i → i ≤ 4 → IsEnum h e I ((i : Nat) : Int) old → h.IsStrIter I "str_ascii_iterator" strSigns s.toks i → h.DictOf (intKind C.prog C.w) D kvs →
    PyProof.V.FlatPairs PyData.int kvs (tabD.take i) → h.Ns L m → (∀ b o, s.heap.get? b = some o → h.get? b = some o) → TInv C s e I D L k { s with heap := h, toks := tk }

theorem XOK.tabS (hC : Stat C) (X : ExTab C) {py p1 p2 p3 p4 p5 p6 q1 q2 q3 q4 q5 q6 cpos pos : Pos} {scope : Scope} {y : Str} {n : Nat} (ht : C.tab[n]? = some y) (hk : isK (names.lookup y) .local = true)
    (hken : names.lookup (Str.ofString "enumerate") = some .globalImplicit)
    (hs : scope.names = tabScope) (hkind : scope.kind = .function) (hl : (py.line == cpos.line) = true) (ha : (scope.names.any fun x => x.1 == y && (x.2 == .local || x.2 == .cell)) = false) :
    XOK C names (.Assign [.Name y py] (.DictComp (.Subscript (.Name nEx p1) (.Name (Str.ofString "sign") p2) p3) (.BinOp (.Constant (.int 1) 0 p4) .Add (.Name (Str.ofString "place") p5) p6)
      [⟨.Tuple [.Name (Str.ofString "place") q1, .Name (Str.ofString "sign") q2] 0 q3, .Call (.Name (Str.ofString "enumerate") q4) [.Constant (.str strSigns) 0 q5] [] q6, [], 0⟩] scope cpos) pos) (.tab n) := by
  intro A env K W₀ W ρ vs σ s hA F r ee Q E q
  have ee' : some (AFl.next, setVar n (AV.loc σ.length) vs, σ ++ [AObj.tab]) = some r := ee
  cases ee'
  clear ee
  rw [exec_Assign_Name_used _ _ _ _ (swaps_d hk hl ha env F.frm.kind F.frm.kinds)]
  refine wpAny_bind (wpAny_standAt (wpAny_bind ?_))
  generalize hkx : Expr.Subscript (.Name nEx p1) (.Name (Str.ofString "sign") p2) p3 = kx
  generalize hvx : Expr.BinOp (.Constant (.int 1) 0 p4) .Add (.Name (Str.ofString "place") p5) p6 = vx
  generalize hit : Expr.Call (.Name (Str.ofString "enumerate") q4) [.Constant (.str strSigns) 0 q5] [] q6 = iter
  show wpAny _ A (do let _ ← comprehension (.DictComp kx vx [⟨.Tuple [.Name (Str.ofString "place") q1, .Name (Str.ofString "sign") q2] 0 q3, iter, [], 0⟩] scope cpos) scope env _ newDict false (eval iter env) (some (assign (.Name y py) env))) _ _ s
  refine wpAny_bind (wpAny_mono (Q := fun _ s' => Q .next s') ?_ (fun _ s' hq => wpAny_pure (wpAny_pure hq)) fun _ _ e => e)
  refine wpAny_comprehension_free (e := .DictComp kx vx [⟨.Tuple [.Name (Str.ofString "place") q1, .Name (Str.ofString "sign") q2] 0 q3, iter, [], 0⟩] scope cpos) (use := some (assign (.Name y py) env)) rfl (fun v => by rw [← hit]; exact fsi_ok rfl) (closureFor_eq (by rw [hs]; simp)) hkind (by rw [hs]; decide +kernel) ?_
  rw [← hit]
  refine Call_Name rfl (glob_ok hC F.rel F.frm hken (.inr X.en) (by decide +kernel) ?_)
  rw [hit]
  have hse : starEach [Expr.Constant (.str strSigns) 0 q5] env = (false, eval (.Constant (.str strSigns) 0 q5) env) :: starEach [] env := star_cons rfl
  have hit0 : ∀ Q' : Args → Shared → Prop, Q' ⟨[.str strSigns s.toks], []⟩ { s with toks := s.toks + 1 } → wpAny (model C.prog C.w) A (evalArgs (.type "enumerate") true (backTo q6 (starEach [Expr.Constant (.str strSigns) 0 q5] env)) []) Q' E s := fun Q' q' => by
    have h0 : wpAny (model C.prog C.w) A (spliced (backTo q6 (starEach [Expr.Constant (.str strSigns) 0 q5] env))) (fun vals s' => Q' ⟨vals, []⟩ s') E s :=
      wpAny_items_cons (wpAny_Constant_str (wpAny_items_nil q')) hse
    rw [hse] at h0 ⊢
    exact evalArgs_plain h0
  refine PyProof.Rows.callWith_type (by rw [hse]; rfl) (hit0 _ ?_)
  refine call_enumerate_str fun h₂ he hit2 hsz keep₂ => ?_
  refine wpAny_pyIter_enum he ?_
  refine wpAny_newObj_type (newEnv_ok ?_)
  dsimp only at he hit2 hsz keep₂ ⊢
  have hsi : strIterType strSigns = "str_ascii_iterator" := by decide +kernel
  have hI4 : strSigns.cps.size = 4 := by decide +kernel
  rw [hsi] at hit2
  generalize hH3 : h₂.push { cls := .type "dict", dict := none, data := .dict #[] } = H3
  have sz3 : H3.objs.size = h₂.objs.size + 1 := by rw [← hH3, Heap.size_push]
  have keep3 : ∀ b o, h₂.get? b = some o → H3.get? b = some o := fun b o e => hH3 ▸ Heap.get?_push_of_some _ e
  have accD : H3.DictOf (intKind C.prog C.w) h₂.objs.size [] := hH3 ▸ Heap.DictOf.new h₂
  generalize hH4 : pushCells (H3.push { cls := .type "dict", data := .dict #[] }) scope.names = H4
  have keep4 : ∀ b o, H3.get? b = some o → H4.get? b = some o := fun b o e => hH4 ▸ pushCells_keeps _ _ _ _ (Heap.get?_push_of_some _ e)
  have nsL : H4.Ns H3.objs.size (fun _ => none) := hH4 ▸ (Heap.Ns.new H3 (.type "dict")).keeps (pushCells_keeps _ _)
  generalize hcenv : ({ scope := relabel scope env, locals := H3.objs.size, globals := env.globals, cells := cellsFrom (H3.objs.size + 1) scope.names (clos env scope.names []), qual := env.qual, func := none, code := env.code, frame := env.frame, builtins := env.builtins } : Env) = cenv
  have cL : cenv.locals = H3.objs.size := by rw [← hcenv]
  have cK : ∀ y, cenv.kindOf y = tabScope.lookup y := fun y => by
    rw [← hcenv]; show (relabel scope env).names.lookup y = _; rw [relabel_names F.frm.kind F.frm.kinds, hs]; rfl
  have cF : cenv.scope.kind = .function := by rw [← hcenv]; exact hkind
  have cG : cenv.globals = mainGlobals := by rw [← hcenv]; exact F.frm.glob
  have freshGe : ∀ b, s.heap.objs.size ≤ b → s.heap.get? b = none := fun b hb => by
    cases e : s.heap.get? b with
    | none => rfl
    | some o => exact absurd (Heap.lt_size e) (Nat.not_lt.mpr hb)
  obtain ⟨d, f, hmd, hmap, hfind⟩ := X.ex
  -- addresses
  have aD : s.heap.objs.size + 1 < h₂.objs.size := by rw [hsz]; exact Nat.lt_succ_self _
  have aI : s.heap.objs.size < h₂.objs.size := Nat.lt_of_succ_lt aD
  have aL : h₂.objs.size < H3.objs.size := by rw [sz3]; exact Nat.lt_succ_self _
  have fE := freshGe (s.heap.objs.size + 1) (Nat.le_succ _)
  have fI := freshGe s.heap.objs.size (Nat.le_refl _)
  have fD := freshGe h₂.objs.size (Nat.le_of_lt aI)
  have fL := freshGe H3.objs.size (Nat.le_of_lt (Nat.lt_trans aI aL))
  have loD : (h₂.objs.size == sysModules) = false := by
    obtain ⟨a, o, h1, h2⟩ := X.lo
    exact beq_eq_false_iff_ne.mpr (Nat.ne_of_gt (Nat.lt_trans (Nat.lt_trans h1 (Heap.lt_size (F.rel.heap _ _ h2))) aI))
  have hEI : s.heap.objs.size + 1 ≠ s.heap.objs.size := Nat.succ_ne_self _
  have hED : s.heap.objs.size + 1 ≠ h₂.objs.size := Nat.ne_of_lt aD
  have hID : s.heap.objs.size ≠ h₂.objs.size := Nat.ne_of_lt aI
  have hEL : s.heap.objs.size + 1 ≠ H3.objs.size := Nat.ne_of_lt (Nat.lt_trans aD aL)
  have hIL : s.heap.objs.size ≠ H3.objs.size := Nat.ne_of_lt (Nat.lt_trans aI aL)
  have hDL : h₂.objs.size ≠ H3.objs.size := Nat.ne_of_lt aL
  have old4 : ∀ b o, s.heap.get? b = some o → H4.get? b = some o := fun b o e => keep4 _ _ (keep3 _ _ (keep₂ _ _ e))
  have he4 : IsEnum H4 (s.heap.objs.size + 1) s.heap.objs.size 0 .none := keep4 _ _ (keep3 _ _ he)
  have hit4 : H4.IsStrIter s.heap.objs.size "str_ascii_iterator" strSigns s.toks 0 := let ⟨o, e, r⟩ := hit2; ⟨o, keep4 _ _ (keep3 _ _ e), r⟩
  have hD4 : H4.DictOf (intKind C.prog C.w) h₂.objs.size [] := accD.at fun o e => keep4 _ _ e
  generalize s.heap.objs.size + 1 = e at *
  generalize hIt : s.heap.objs.size = I at *
  generalize h₂.objs.size = D at *
  generalize H3.objs.size = L at *
  have loop : ∀ tk₀, codeAny (model C.prog C.w) A (.compLoop (.DictComp kx vx [⟨.Tuple [.Name (Str.ofString "place") q1, .Name (Str.ofString "sign") q2] 0 q3, iter, [], 0⟩] scope cpos) 0 (.ref e) (.ref D) cenv)
      (compPost (model C.prog C.w) A E (some (assign (.Name y py) env)) (fun _ s' => Q .next s') (.ref D) L) { s with heap := H4, toks := tk₀ } := by
    intro tk₀
    refine codeAny_loop rfl (TInv C s e I D L) ?_ 5 (.mk H4 tk₀ 0 [] _ _ rfl (by omega) he4 hit4 hD4 .nil nsL old4)
    intro k s' inv
    obtain ⟨h, tk, i, kvs, m, old, rfl, hi, hen, hitr, hDi, hf, hn, hold⟩ := inv
    show wpAny (model C.prog C.w) A ((compTurn (.DictComp kx vx [⟨.Tuple [.Name (Str.ofString "place") q1, .Name (Str.ofString "sign") q2] 0 q3, iter, [], 0⟩] scope cpos) 0 (.ref e) (.ref D) cenv).onRaise (fun x => do noteFrame x cenv; theTreesLotGoes x)) _ _ _
    refine wpAny_noted ?_
    rw [compTurn_dict]
    refine wpAny_bind (wpAny_standAt (wpAny_bind ?_))
    by_cases hlt : i < 4
    · refine wpAny_pyNext_enum_itemD (Draws.strAscii (A := A.in1) hA.1 I strSigns s.toks) hen hitr (by rw [hI4]; exact hlt) hEI (fun q => hEI (List.mem_singleton.mp q)) fun x h₅ tk₅ hPx heo hit₅ hT hz₅ hk₅ => ?_
      obtain ⟨c, u, hcx, rfl⟩ := hPx
      dsimp only at heo hit₅ hT hz₅ hk₅ ⊢
      have ee : e < h.objs.size := Heap.lt_size hen
      have eI : I < h.objs.size := let ⟨_, a, _⟩ := hitr; Heap.lt_size a
      have eD : D < h.objs.size := let ⟨_, _, _, a, _⟩ := hDi; Heap.lt_size a
      have eL : L < h.objs.size := hn.lt
      have hn₅ : h₅.Ns L m := hn.at' fun o a => hk₅ L o (Ne.symm hEL) (Ne.symm hIL) a
      have hD₅ : h₅.DictOf (intKind C.prog C.w) D kvs := hDi.at fun o a => hk₅ D o (Ne.symm hED) (Ne.symm hID) a
      have hold₅ : ∀ b o, s.heap.get? b = some o → h₅.get? b = some o := fun b o a => hk₅ b o (fun q => by rw [q, fE] at a; cases a) (fun q => by rw [q, fI] at a; cases a) (hold b o a)
      refine wpAny_bind (wpAny_letOwnedTupleGo_enum heo fun h₆ he₆ hs₆ => ?_)
      replace hs₆ : Heap.SameBut e h₅ h₆ := hs₆
      have hT₆ : IsTup h₆ h.objs.size #[.int i tk₅, .str ⟨#[c]⟩ u] := ⟨_, (hs₆.2 _ (Nat.ne_of_gt ee)).trans hT, rfl, _, rfl⟩
      refine wpAny_bind (assign_Tuple_tuple (t := h.objs.size) (items := #[.int i tk₅, .str ⟨#[c]⟩ u]) hA.1 hT₆ rfl rfl fun h₇ hx₇ => ?_)
      replace hx₇ : Heap.ExtBut h₆.objs.size h₆ h₇ := hx₇
      have k67 : ∀ b o, h₆.get? b = some o → h₇.get? b = some o := fun b o a => hx₇ b o (fun q => by rw [q, fresh_size] at a; cases a) a
      have hn₇ : h₇.Ns L m := (hn₅.sameBut hs₆ (Ne.symm hEL)).at' fun o a => k67 _ o a
      have hp : (cenv.scope.kind == .class || (cenv.scope.kind == .module && cenv.locals != cenv.globals)) = false := by rw [cF]; rfl
      show wpAny (model C.prog C.w) A (do holding [Value.str ⟨#[c]⟩ u] (assign (.Name (Str.ofString "place") q1) cenv (.int i tk₅)); assignInOrder [assign (.Name (Str.ofString "sign") q2) cenv] [.str ⟨#[c]⟩ u]) _ _ _
      refine wpAny_bind (wpAny_holding (PyProof.Rows.assign_Name (wpAny_storeName_local ((cK _).trans (by decide +kernel)) (m := m) (by rw [cL]; exact hn₇) (fun h₈ hn₈ hs₈ => ?_) hp)))
      show wpAny (model C.prog C.w) A (do holding [] (assign (.Name (Str.ofString "sign") q2) cenv (.str ⟨#[c]⟩ u)); assignInOrder [] []) _ _ _
      refine wpAny_bind (wpAny_holding (PyProof.Rows.assign_Name (wpAny_storeName_local ((cK _).trans (by decide +kernel)) hn₈ (fun h₉ hn₉ hs₉ => wpAny_pure ?_) hp)))
      rw [cL] at hn₉ hs₈ hs₉
      replace hs₈ : Heap.SameBut L h₇ h₈ := hs₈
      replace hs₉ : Heap.SameBut L h₈ h₉ := hs₉
      have k69 : ∀ b o, b ≠ L → h₆.get? b = some o → h₉.get? b = some o := fun b o hb a => hs₉.extBut b o hb (hs₈.extBut b o hb (k67 b o a))
      have k59 : ∀ b o, b ≠ L → b ≠ e → h₅.get? b = some o → h₉.get? b = some o := fun b o hb he a => k69 b o hb (hs₆.extBut b o he a)
      have hold₉ : ∀ b o, s.heap.get? b = some o → h₉.get? b = some o := fun b o a => k59 b o (fun q => by rw [q, fL] at a; cases a) (fun q => by rw [q, fE] at a; cases a) (hold₅ b o a)
      have base₉ : ∀ b o, C.h₁.get? b = some o → h₉.get? b = some o := fun b o a => hold₉ b o (F.rel.heap b o a)
      have hD₉ : h₉.DictOf (intKind C.prog C.w) D kvs := hD₅.at fun o a => k59 D o hDL (Ne.symm hED) a
      have hkv : kvs.length = i := by
        have h1 := hf.length
        rw [List.length_take, show tabD.length = 4 from rfl] at h1
        omega
      obtain ⟨t, hft⟩ := hfind i c hcx
      refine wpAny_bind (wpAny_pure ?_)
      refine wpAny_bind (wpAny_bind ?_)
      rw [← hkx]
      refine Subscript_ (Name_function_global cF ((cK _).trans (by decide +kernel)) (loadGlobal_global (by rw [cG]; exact hC.g.keeps base₉) hmd ?_) (by decide +kernel))
      refine wpAny_Name (wpAny_loadName_local cF ((cK _).trans (by decide +kernel)) (by rw [cL]; exact hn₉) (v := .str ⟨#[c]⟩ u) (by simp) ?_) (by decide +kernel)
      refine tail_any (hmap h₉ base₉).typeIs slot_dict_getitem.lookup (wpAny_getItem_of (strKind_is C.prog C.w _ u) (hmap h₉ base₉) hft ?_) (by with_unfolding_all rfl)
      dsimp only
      refine wpAny_bind (wpAny_holding ?_)
      rw [← hvx]
      refine wpAny_BinOp (wpAny_Constant_int (wpAny_Name (wpAny_loadName_local cF ((cK _).trans (by decide +kernel)) (by rw [cL]; exact hn₉) (v := .int i tk₅) (by simp; decide +kernel) ?_) (by decide +kernel)))
      refine PySem.P.add_int ?_
      refine wpAny_bind (wpAny_standAt (wpAny_holding ?_))
      refine wpAny_dictSet_pairs (hsz := by rw [hkv, sizeLine_eq]; omega) (intKind_is C.prog C.w (14 + (i : Int)) t) hD₉ fun h₁₀ hD₁₀ hs₁₀ => ?_
      replace hs₁₀ : Heap.SameBut D h₉ h₁₀ := hs₁₀
      have kA : ∀ b o, b ≠ D → h₉.get? b = some o → h₁₀.get? b = some o := fun b o hb a => hs₁₀.extBut b o hb a
      refine wpAny_pure ⟨rfl, 5 - (i + 1), by omega, .mk h₁₀ _ (i + 1) _ _ (.str ⟨#[c]⟩ u) rfl hlt ?_ ?_ hD₁₀ ?_ (hn₉.at' fun o a => kA _ o (Ne.symm hDL) a) fun b o a => kA b o (fun q => by rw [q, fD] at a; cases a) (hold₉ b o a)⟩
      · rw [show ((i + 1 : Nat) : Int) = (i : Int) + 1 from rfl]
        exact kA e _ hED (k69 e _ hEL he₆)
      · exact let ⟨o, a, r⟩ := hit₅; ⟨o, kA I o hID (k59 I o hIL (Ne.symm hEI) a), r⟩
      · rw [← putD_tab i hlt]
        exact PyProof.V.FlatPairs.stored PyProof.V.same_int hf _ (PyProof.V.Flat.int _ _)
    · have hi4 : i = 4 := by omega
      subst hi4
      refine wpAny_pyNext_enum_endD (Draws.strAscii (A := A.in1) hA.1 I strSigns s.toks) hen (by rw [hI4]; exact hitr) fun h₅ hx₅ => ?_
      refine wpAny_pure ?_
      refine tab_assign F ht (.inl (isK_eq hk)) (fun b o e => hx₅ b o (fun q => by rw [q, fI] at e; cases e) (hold b o e)) fD fL hDL ⟨loD, kvs, hDi.at fun o e => hx₅ D o (Ne.symm hID) e, by simpa [tabD] using hf⟩ (hn.at' fun o e => hx₅ L o (Ne.symm hIL) e) q
  exact codeAny_compStart_dict (loop _) (wpAny_pyIter_enum he4 (loop _))
end
end Mine
end

section
open PySem PySem.Calls PyProof.Rows PySem.W
set_option linter.unusedVariables false
set_option maxRecDepth 100000
namespace Mine

theorem htab {w : World} {h : Heap} {mg mb : Str → Option Value} (KX : hook.says w h) (GL : GLT mg mb h) :
    XOK ((⟨PySem.Challenge.rw_sl0014_01.row.prog, w, h, mg, mb⟩ : Bs).cx F1 I1 1) (namesAt 64) ((bodyAt 64).headD (.Pass default)) (.tab 30) := by
  have G := glb_of (prog := PySem.Challenge.rw_sl0014_01.row.prog) (w := w) GL
  have k1 : mg nEx = some (.ref 36) := by rw [GL.g.eq_nsMap]; exact KX.1
  have k2 : h.get? 36 = some (hObj w.params) := KX.2
  have fr : ∀ h' : Heap, (∀ b o, h.get? b = some o → h'.get? b = some o) → h'.MapOf (strKind PySem.Challenge.rw_sl0014_01.row.prog w) 36 (fun k => findBy Value.isStrOf (hEs w.params) k) := fun h' hk =>
    mapOf_K (K := [(36, hObj w.params)]) (fun a o e => by
      by_cases ha : a = 36
      · subst ha
        have e' : some (hObj w.params) = some o := e
        cases e'
        exact hk _ _ k2
      · have : List.lookup a [(36, hObj w.params)] = none := by
          have : (a == 36) = false := beq_eq_false_iff_ne.mpr ha
          simp only [List.lookup, this]
        rw [this] at e; cases e) rfl (h_keys w.params 0 hDict.1 hDict.2)
  refine XOK.tabS G.st ⟨⟨36, _, by decide +kernel, k2⟩, ⟨36, _, k1, fr, fun i c hc => ?_⟩, G.enumerate⟩ (by rfl) (by decide +kernel) (by decide +kernel) (by rfl) (by rfl) (by rfl) (by decide +kernel)
  have hi : i < 4 := by
    have := (Array.getElem?_eq_some_iff.mp hc).1
    have e : strSigns.cps.size = 4 := by decide +kernel
    omega
  match i, hi, hc with
  | 0, _, hc => cases hc; exact ⟨_, ex_a w.params⟩
  | 1, _, hc => cases hc; exact ⟨_, ex_b w.params⟩
  | 2, _, hc => cases hc; exact ⟨_, ex_c w.params⟩
  | 3, _, hc => cases hc; exact ⟨_, ex_d w.params⟩
end Mine
end

section
open PySem PySem.Calls PyProof.Rows PySem.W
set_option linter.unusedSimpArgs false
set_option linter.unusedVariables false
namespace Mine

section
variable {α β : Type}
theorem pick_rev (xs : List α) : pickA xs none none (some (-1)) = xs.reverse := by
  unfold pickA
  rw [krv_bounds]
  simp only [krv_sliceRange, krv_range, List.filterMap_reverse]
  have := krv_all xs.toArray
  simp only [List.size_toArray, List.getElem?_toArray] at this
  rw [this]
theorem pick_ab (xs : List α) (a b : Nat) {lo hi : Option Int} (e : sliceBounds lo hi none xs.length = ((a : Int), (b : Int), 1)) : pickA xs lo hi none = (xs.drop a).take (b - a) := by
  unfold pickA
  rw [e]
  simp only [sliceRange_one]
  have := pick_run xs.toArray a (b - a)
  simp only [List.getElem?_toArray] at this
  exact this
theorem clip_nat (n m : Nat) : clipAt n (m : Int) = min m n := by
  unfold clipAt
  rw [if_neg (Int.not_lt.mpr (Int.natCast_nonneg m))]
  rcases Nat.le_total m n with h | h
  · rw [Int.min_eq_left (Int.ofNat_le.mpr h), Int.max_eq_right (Int.natCast_nonneg _), Int.toNat_natCast, Nat.min_eq_left h]
  · rw [Int.min_eq_right (Int.ofNat_le.mpr h), Int.max_eq_right (Int.natCast_nonneg _), Int.toNat_natCast, Nat.min_eq_right h]
theorem pick_take (xs : List α) (m : Nat) : pickA xs none (some (m : Int)) none = xs.take m := by
  rw [pick_ab xs 0 (min m xs.length)]
  · rw [List.drop_zero, Nat.sub_zero]
    by_cases h : m ≤ xs.length
    · rw [Nat.min_eq_left h]
    · rw [Nat.min_eq_right (by omega), List.take_length, List.take_of_length_le (by omega)]
  · rw [sliceBounds_plain]
    simp only [Option.elim, clip_nat]
theorem pick_drop (xs : List α) (m : Nat) : pickA xs (some (m : Int)) none none = xs.drop m := by
  rw [pick_ab xs (min m xs.length) xs.length]
  · by_cases h : m ≤ xs.length
    · rw [Nat.min_eq_left h, List.take_of_length_le (by simp)]
    · rw [Nat.min_eq_right (by omega), List.drop_length, List.drop_of_length_le (by omega)]; simp
  · rw [sliceBounds_plain]
    simp only [Option.elim, clip_nat]
theorem pick_map (f : α → β) (xs : List α) (lo hi st : Option Int) : pickA (xs.map f) lo hi st = (pickA xs lo hi st).map f := by
  unfold pickA
  rw [List.length_map]
  generalize sliceRange _ _ _ = l
  simp only [List.getElem?_map]
  induction l with
  | nil => rfl
  | cons k l ih =>
    simp only [List.filterMap_cons]
    cases xs[k]? with
    | none => exact ih
    | some x => simp only [Option.map_some, List.map_cons, ih]
theorem pick_mem {xs : List α} {lo hi st : Option Int} {x : α} (h : x ∈ pickA xs lo hi st) : x ∈ xs := by
  unfold pickA at h
  rw [List.mem_filterMap] at h
  obtain ⟨k, _, e⟩ := h
  exact List.mem_of_getElem? e
theorem pick_len8 (xs : List α) (k : Nat) (hk : k ≤ xs.length ∨ True) : (pickA xs (some (k : Int)) none (some 8)).length ≤ xs.length := by
  unfold pickA
  refine Nat.le_trans (List.length_filterMap_le _ _) ?_
  refine sliceRange_length_le _ _ _ _ (fun _ => ?_) (fun h => ?_)
  · simp only [sliceBounds, Option.getD_some]
    have h1 : ¬ ((k : Int) < 0) := by omega
    simp only [h1, if_false, show (8 : Int) > 0 by decide, if_true]
    constructor <;> omega
  · exact absurd (by simp [sliceBounds]) h
end
end Mine
end

section
open PySem PySem.Calls PyProof.Rows PySem.W
set_option maxRecDepth 100000
namespace Mine
/-- x / 16 as the code makes it -/
noncomputable def fl (x : Nat) : UInt64 := Float64.ofFrac false x 16
noncomputable def fone : UInt64 := 0x3ff0000000000000
noncomputable def fzer : UInt64 := 0
/-- a whole number as a float -/
noncomputable def fi (x : Nat) : UInt64 := Float64.ofInt x
/-- least of the code, times 16 -/
noncomputable def tupL : AV → Option (List AV)
  | .tup xs => some xs
  | _ => none
noncomputable def itF (r : Option AV) (k : Nat) : Option UInt64 := (r.bind tupL).bind fun xs => (xs[k]?).bind g1
noncomputable def hlsOk (r : Option AV) (m : Nat) : Bool := (itF r 1).elim false fun y => Float64.mul (Float64.ofInt 16) (Float64.sub (Float64.mul (Float64.ofInt 2) y) (Float64.ofInt 1)) == fi m
noncomputable def hsvOk (r : Option AV) (m : Nat) : Bool := (itF r 2).elim false fun y => Float64.mul (Float64.ofInt 16) y == fi m
noncomputable def upto (n : Nat) (p : Nat → Bool) : Bool := match n with
  | 0 => true
  | n + 1 => p n && upto n p
theorem upto_of {p : Nat → Bool} : ∀ {n : Nat}, upto n p = true → ∀ i, i < n → p i = true
  | 0, _, i, h => by omega
  | n + 1, e, i, h => by
    simp only [upto, Bool.and_eq_true] at e
    by_cases hi : i = n
    · subst hi; exact e.1
    · exact upto_of e.2 i (by omega)
theorem tab_hls : (upto 9 fun a => upto 9 fun b => hlsOk (F1 0 [.flt (fl a), .flt (fl b), .flt fone]) (min a b)) = true := by decide +kernel
theorem tab_hls1 : (upto 9 fun a => hlsOk (F1 0 [.flt (fl a), .flt fone, .flt fone]) a) = true := by decide +kernel
theorem tab_hsv : (upto 9 fun a => upto 9 fun b => hsvOk (F1 1 [.flt (fl a), .flt (fl b), .flt fzer]) (max a b)) = true := by decide +kernel
theorem tab_hsv0 : (upto 9 fun a => hsvOk (F1 1 [.flt (fl a), .flt fzer, .flt fzer]) a) = true := by decide +kernel
theorem tab_add : (upto 9 fun a => upto 9 fun b => match truncA (.flt (Float64.add (fi a) (fi b))) with | some (.int i) => i == ((a + b : Nat) : Int) | _ => false) = true := by decide +kernel
theorem tab_div : (upto 9 fun a => match binA .Div (.int a) (.int 16) [] with | some (.flt y) => y == fl a | _ => false) = true := by decide +kernel
end Mine
end

section
set_option maxRecDepth 100000
namespace Mine

set_option genSizeOfSpec false in
set_option genInjectivity false in
structure Pat where
  a : Nat
  b0 : Nat
  b1 : Nat
  c0 : Nat
  c1 : Nat
  c2 : Nat
  d0 : Nat
  d1 : Nat
  d2 : Nat
  d3 : Nat

namespace Pat
noncomputable def mx (x y : Nat) : Nat := cond (Nat.ble x y) y x
noncomputable def mn (x y : Nat) : Nat := cond (Nat.ble x y) x y
noncomputable def inc1 (P : Pat) : Pat := ⟨P.a + 1, P.b0, P.b1, P.c0, P.c1, P.c2, P.d0, P.d1, P.d2, P.d3⟩
noncomputable def inc2 (P : Pat) : Nat → Pat
  | 0 => ⟨P.a, P.b0 + 1, P.b1, P.c0, P.c1, P.c2, P.d0, P.d1, P.d2, P.d3⟩
  | _ => ⟨P.a, P.b0, P.b1 + 1, P.c0, P.c1, P.c2, P.d0, P.d1, P.d2, P.d3⟩
noncomputable def inc3 (P : Pat) : Nat → Pat
  | 0 => ⟨P.a, P.b0, P.b1, P.c0 + 1, P.c1, P.c2, P.d0, P.d1, P.d2, P.d3⟩
  | 1 => ⟨P.a, P.b0, P.b1, P.c0, P.c1 + 1, P.c2, P.d0, P.d1, P.d2, P.d3⟩
  | _ => ⟨P.a, P.b0, P.b1, P.c0, P.c1, P.c2 + 1, P.d0, P.d1, P.d2, P.d3⟩
noncomputable def inc4 (P : Pat) : Nat → Pat
  | 0 => ⟨P.a, P.b0, P.b1, P.c0, P.c1, P.c2, P.d0 + 1, P.d1, P.d2, P.d3⟩
  | 1 => ⟨P.a, P.b0, P.b1, P.c0, P.c1, P.c2, P.d0, P.d1 + 1, P.d2, P.d3⟩
  | 2 => ⟨P.a, P.b0, P.b1, P.c0, P.c1, P.c2, P.d0, P.d1, P.d2 + 1, P.d3⟩
  | _ => ⟨P.a, P.b0, P.b1, P.c0, P.c1, P.c2, P.d0, P.d1, P.d2, P.d3 + 1⟩
noncomputable def up2 (P : Pat) : Nat := cond (Nat.ble P.b0 P.a) 0 1
noncomputable def up3 (P : Pat) : Nat → Nat
  | 0 => cond (Nat.ble P.c0 P.b0) 0 1
  | _ => cond (Nat.ble P.c1 P.b1) 1 2
noncomputable def up4 (P : Pat) : Nat → Nat
  | 0 => cond (Nat.ble P.d0 P.c0) 0 1
  | 1 => cond (Nat.ble P.d1 P.c1) 1 2
  | _ => cond (Nat.ble P.d2 P.c2) 2 3
noncomputable def fd2 (P : Pat) : Nat → Nat
  | 0 => 0
  | _ => cond (Nat.ble P.a P.b1) 0 1
noncomputable def fd3 (P : Pat) : Nat → Nat
  | 0 => 0
  | 1 => cond (Nat.ble P.b0 P.c1) 0 1
  | _ => cond (Nat.ble P.b1 P.c2) (cond (Nat.ble P.b0 P.c1) 0 1) 2
noncomputable def fd4 (P : Pat) : Nat → Nat
  | 0 => 0
  | 1 => cond (Nat.ble P.c0 P.d1) 0 1
  | 2 => cond (Nat.ble P.c1 P.d2) (cond (Nat.ble P.c0 P.d1) 0 1) 2
  | _ => cond (Nat.ble P.c2 P.d3) (cond (Nat.ble P.c1 P.d2) (cond (Nat.ble P.c0 P.d1) 0 1) 2) 3
noncomputable def lo3 (P : Pat) : Nat → Nat
  | 0 => cond (Nat.ble P.c0 P.b0) 0 (fd3 P 0)
  | 1 => cond (Nat.ble P.c1 P.b1) 1 (fd3 P 1)
  | _ => cond (Nat.ble P.c2 0) 2 (fd3 P 2)
noncomputable def lo4 (P : Pat) : Nat → Nat
  | 0 => cond (Nat.ble P.d0 P.c0) 0 (fd4 P 0)
  | 1 => cond (Nat.ble P.d1 P.c1) 1 (fd4 P 1)
  | 2 => cond (Nat.ble P.d2 P.c2) 2 (fd4 P 2)
  | _ => cond (Nat.ble P.d3 0) 3 (fd4 P 3)
/-- a letter comes in at the end of the word -/
noncomputable def ins (P : Pat) : Nat → Pat
  | 1 => inc4 (inc3 (inc2 (inc1 P) (up2 P)) (up3 P (up2 P))) (up4 P (up3 P (up2 P)))
  | 2 => inc4 (inc3 (inc2 P 0) (up3 P 0)) (up4 P (up3 P 0))
  | 3 => inc4 (inc3 P 0) (up4 P 0)
  | _ => inc4 P 0
/-- a letter comes in at the head of the word -/
noncomputable def col (P : Pat) : Nat → Pat
  | 1 => inc4 (inc3 (inc2 (inc1 P) 0) 0) 0
  | 2 => inc4 (inc3 (inc2 P (fd2 P 1)) (lo3 P (fd2 P 1))) (lo4 P (lo3 P (fd2 P 1)))
  | 3 => inc4 (inc3 P (fd3 P 2)) (lo4 P (fd3 P 2))
  | _ => inc4 P (fd4 P 3)
noncomputable def led1 (P : Pat) : Pat := ⟨P.b0 + P.b1 - P.a, P.b0, P.b1, P.c0, P.c1, P.c2, P.d0, P.d1, P.d2, P.d3⟩
noncomputable def led2 (P : Pat) : Pat := ⟨P.a, P.c0 + mx P.c1 P.a - P.b0, mn P.c1 P.a + P.c2 - P.b1, P.c0, P.c1, P.c2, P.d0, P.d1, P.d2, P.d3⟩
noncomputable def led3 (P : Pat) : Pat := ⟨P.a, P.b0, P.b1, P.d0 + mx P.d1 P.b0 - P.c0, mn P.d1 P.b0 + mx P.d2 P.b1 - P.c1, mn P.d2 P.b1 + P.d3 - P.c2, P.d0, P.d1, P.d2, P.d3⟩
noncomputable def beq4 (P Q : Pat) : Bool := Nat.beq P.a Q.a && Nat.beq P.b0 Q.b0 && Nat.beq P.b1 Q.b1 && Nat.beq P.c0 Q.c0 && Nat.beq P.c1 Q.c1 && Nat.beq P.c2 Q.c2 && Nat.beq P.d0 Q.d0 && Nat.beq P.d1 Q.d1 && Nat.beq P.d2 Q.d2 && Nat.beq P.d3 Q.d3
noncomputable def evac4 (P : Pat) : Pat := led1 (led2 (led3 (led1 (led2 (led1 P)))))
/-- all numbers from lo up to lo + n - 1 -/
noncomputable def rng (lo : Nat) (p : Nat → Bool) : Nat → Bool
  | 0 => true
  | n + 1 => p (Nat.add lo n) && rng lo p n
noncomputable def span (lo hi : Nat) (p : Nat → Bool) : Bool := rng lo p (Nat.sub (Nat.succ hi) lo)
/-- all patterns with the rows d -/
noncomputable def below (d0 d1 d2 d3 : Nat) (p : Pat → Bool) : Bool :=
  span d1 d0 fun c0 => span d2 d1 fun c1 => span d3 d2 fun c2 => span c1 c0 fun b0 => span c2 c1 fun b1 => span b1 b0 fun a => p ⟨a, b0, b1, c0, c1, c2, d0, d1, d2, d3⟩
noncomputable def full (n : Nat) (d0 : Nat) (p : Pat → Bool) : Bool :=
  span 0 (mn d0 (Nat.sub n d0)) fun d1 => span 0 (mn d1 (Nat.sub n (Nat.add d0 d1))) fun d2 => span 0 (mn d2 (Nat.sub n (Nat.add (Nat.add d0 d1) d2))) fun d3 => below d0 d1 d2 d3 p
noncomputable def evac3 (P : Pat) : Pat := led1 (led2 (led1 P))
noncomputable def tr3 (P : Pat) : Pat := ⟨P.a, P.b0, P.b1, P.c0, P.c1, P.c2, 0, 0, 0, 0⟩
noncomputable def tr2 (P : Pat) : Pat := ⟨P.a, P.b0, P.b1, 0, 0, 0, 0, 0, 0, 0⟩
noncomputable def vld (P : Pat) : Bool := Nat.ble P.c0 P.d0 && Nat.ble P.d1 P.c0 && Nat.ble P.c1 P.d1 && Nat.ble P.d2 P.c1 && Nat.ble P.c2 P.d2 && Nat.ble P.d3 P.c2 && Nat.ble P.b0 P.c0 && Nat.ble P.c1 P.b0 && Nat.ble P.b1 P.c1 && Nat.ble P.c2 P.b1 && Nat.ble P.a P.b0 && Nat.ble P.b1 P.a
noncomputable def all4 (p : Nat → Bool) : Bool := p 1 && p 2 && p 3 && p 4
noncomputable def cV (P : Pat) : Bool := all4 fun x => vld (ins P x)
noncomputable def chA (P : Pat) : Bool := (all4 fun x => beq4 (evac4 (ins P x)) (col (evac4 P) (Nat.sub 5 x))) && (beq4 (tr3 (evac3 (ins P 1))) (tr3 (col (evac3 P) 3)) && beq4 (tr3 (evac3 (ins P 2))) (tr3 (col (evac3 P) 2)) && beq4 (tr3 (evac3 (ins P 3))) (tr3 (col (evac3 P) 1))) &&
  (beq4 (tr2 (led1 (ins P 1))) (tr2 (col (led1 P) 2)) && beq4 (tr2 (led1 (ins P 2))) (tr2 (col (led1 P) 1)))
noncomputable def chB (P : Pat) : Bool := all4 fun x => all4 fun y => beq4 (ins (col P x) y) (col (ins P y) x)
set_option maxHeartbeats 0
theorem k1_7 : full 7 7 (fun P => cV P && chA P) = true := by decide +kernel
theorem k1_6 : full 7 6 (fun P => cV P && chA P) = true := by decide +kernel
theorem k1_5 : full 7 5 (fun P => cV P && chA P) = true := by decide +kernel
theorem k1_4 : full 7 4 (fun P => cV P && chA P) = true := by decide +kernel
theorem k1_3 : full 7 3 (fun P => cV P && chA P) = true := by decide +kernel
theorem k1_2 : full 7 2 (fun P => cV P && chA P) = true := by decide +kernel
theorem k1_1 : full 7 1 (fun P => cV P && chA P) = true := by decide +kernel
theorem k1_0 : full 7 0 (fun P => cV P && chA P) = true := by decide +kernel
theorem k2_6 : full 6 6 chB = true := by decide +kernel
theorem k2_5 : full 6 5 chB = true := by decide +kernel
theorem k2_4 : full 6 4 chB = true := by decide +kernel
theorem k2_3 : full 6 3 chB = true := by decide +kernel
theorem k2_2 : full 6 2 chB = true := by decide +kernel
theorem k2_1 : full 6 1 chB = true := by decide +kernel
theorem k2_0 : full 6 0 chB = true := by decide +kernel
noncomputable def chL (P : Pat) : Bool := (vld (led1 P) && vld (led2 P) && vld (led3 P)) && (beq4 (led1 (led1 P)) P && beq4 (led2 (led2 P)) P && beq4 (led3 (led3 P)) P)
theorem k3_0 : full 8 0 chL = true := by decide +kernel
theorem k3_1 : full 8 1 chL = true := by decide +kernel
theorem k3_2 : full 8 2 chL = true := by decide +kernel
theorem k3_3 : full 8 3 chL = true := by decide +kernel
theorem k3_4 : full 8 4 chL = true := by decide +kernel
theorem k3_5 : full 8 5 chL = true := by decide +kernel
theorem k3_6 : full 8 6 chL = true := by decide +kernel
theorem k3_7 : full 8 7 chL = true := by decide +kernel
theorem k3_8 : full 8 8 chL = true := by decide +kernel
end Pat
end Mine
end

section
set_option maxRecDepth 100000
namespace Mine
namespace Pat

structure Vld (P : Pat) : Prop where
  h1 : P.c0 ≤ P.d0
  h2 : P.d1 ≤ P.c0
  h3 : P.c1 ≤ P.d1
  h4 : P.d2 ≤ P.c1
  h5 : P.c2 ≤ P.d2
  h6 : P.d3 ≤ P.c2
  h7 : P.b0 ≤ P.c0
  h8 : P.c1 ≤ P.b0
  h9 : P.b1 ≤ P.c1
  h10 : P.c2 ≤ P.b1
  h11 : P.a ≤ P.b0
  h12 : P.b1 ≤ P.a
theorem Vld.of {P : Pat} (h : vld P = true) : Vld P := by
  simp only [vld, Bool.and_eq_true, Nat.ble_eq] at h
  obtain ⟨⟨⟨⟨⟨⟨⟨⟨⟨⟨⟨h1, h2⟩, h3⟩, h4⟩, h5⟩, h6⟩, h7⟩, h8⟩, h9⟩, h10⟩, h11⟩, h12⟩ := h
  exact ⟨h1, h2, h3, h4, h5, h6, h7, h8, h9, h10, h11, h12⟩
noncomputable def size (P : Pat) : Nat := P.d0 + P.d1 + P.d2 + P.d3

theorem rng_of {lo : Nat} {p : Nat → Bool} : ∀ {n : Nat}, rng lo p n = true → ∀ i, lo ≤ i → i < lo + n → p i = true
  | 0, _, i, h1, h2 => by omega
  | n + 1, e, i, h1, h2 => by
    simp only [rng, Bool.and_eq_true] at e
    by_cases hi : i = lo + n
    · subst hi; exact e.1
    · exact rng_of e.2 i h1 (by omega)
theorem span_of {lo hi : Nat} {p : Nat → Bool} (e : span lo hi p = true) (i : Nat) (h1 : lo ≤ i) (h2 : i ≤ hi) : p i = true :=
  rng_of e i h1 (by simp only [Nat.sub_eq, Nat.succ_eq_add_one]; omega)
theorem mn_eq (x y : Nat) : mn x y = min x y := by
  unfold mn
  cases h : Nat.ble x y
  · have : ¬ x ≤ y := fun q => by rw [Nat.ble_eq.mpr q] at h; cases h
    simp only [cond_false]; omega
  · have := Nat.ble_eq.mp h
    simp only [cond_true]; omega
theorem mx_eq (x y : Nat) : mx x y = max x y := by
  unfold mx
  cases h : Nat.ble x y
  · have : ¬ x ≤ y := fun q => by rw [Nat.ble_eq.mpr q] at h; cases h
    simp only [cond_false]; omega
  · have := Nat.ble_eq.mp h
    simp only [cond_true]; omega
theorem full_of {n d0 : Nat} {p : Pat → Bool} (e : full n d0 p = true) {P : Pat} (V : Vld P) (h0 : P.d0 = d0) (hs : size P ≤ n) : p P = true := by
  obtain ⟨h1, h2, h3, h4, h5, h6, h7, h8, h9, h10, h11, h12⟩ := V
  unfold size at hs
  have := span_of e P.d1 (Nat.zero_le _) (by rw [mn_eq, Nat.sub_eq]; omega)
  have := span_of this P.d2 (Nat.zero_le _) (by rw [mn_eq, Nat.sub_eq, Nat.add_eq]; omega)
  have := span_of this P.d3 (Nat.zero_le _) (by rw [mn_eq, Nat.sub_eq, Nat.add_eq, Nat.add_eq]; omega)
  subst h0
  have := span_of this P.c0 h2 h1
  have := span_of this P.c1 h4 h3
  have := span_of this P.c2 h6 h5
  have := span_of this P.b0 h8 h7
  have := span_of this P.b1 h10 h9
  exact span_of this P.a h12 h11
theorem up_0 {p : Nat → Bool} : ∀ i, i < 0 → p i = true := fun i h => absurd h (Nat.not_lt_zero i)
theorem up_s {p : Nat → Bool} {n : Nat} (h : ∀ i, i < n → p i = true) (hn : p n = true) : ∀ i, i < n + 1 → p i = true := fun i hi =>
  (Nat.lt_or_eq_of_le (Nat.le_of_lt_succ hi)).elim (h i) fun e => e ▸ hn
theorem k1_all : ∀ d, d < 8 → full 7 d (fun P => cV P && chA P) = true :=
  have up_s := fun {n : Nat} (h : ∀ i, i < n → (fun d => full 7 d (fun P => cV P && chA P)) i = true) (hn : full 7 n (fun P => cV P && chA P) = true) => up_s (p := fun d => full 7 d (fun P => cV P && chA P)) h hn
  (up_s (n := 7) (up_s (n := 6) (up_s (n := 5) (up_s (n := 4) (up_s (n := 3) (up_s (n := 2) (up_s (n := 1) (up_s (n := 0) up_0 k1_0) k1_1) k1_2) k1_3) k1_4) k1_5) k1_6) k1_7)
theorem k2_all : ∀ d, d < 7 → full 6 d chB = true :=
  have up_s := fun {n : Nat} (h : ∀ i, i < n → (fun d => full 6 d chB) i = true) (hn : full 6 n chB = true) => up_s (p := fun d => full 6 d chB) h hn
  (up_s (n := 6) (up_s (n := 5) (up_s (n := 4) (up_s (n := 3) (up_s (n := 2) (up_s (n := 1) (up_s (n := 0) up_0 k2_0) k2_1) k2_2) k2_3) k2_4) k2_5) k2_6)
theorem k3_all : ∀ d, d < 9 → full 8 d chL = true :=
  have up_s := fun {n : Nat} (h : ∀ i, i < n → (fun d => full 8 d chL) i = true) (hn : full 8 n chL = true) => up_s (p := fun d => full 8 d chL) h hn
  (up_s (n := 8) (up_s (n := 7) (up_s (n := 6) (up_s (n := 5) (up_s (n := 4) (up_s (n := 3) (up_s (n := 2) (up_s (n := 1) (up_s (n := 0) up_0 k3_0) k3_1) k3_2) k3_3) k3_4) k3_5) k3_6) k3_7) k3_8)
theorem k1 {P : Pat} (V : Vld P) (hs : size P ≤ 7) : (cV P && chA P) = true := full_of (k1_all P.d0 (by unfold size at hs; omega)) V rfl hs
theorem k2 {P : Pat} (V : Vld P) (hs : size P ≤ 6) : chB P = true := full_of (k2_all P.d0 (by unfold size at hs; omega)) V rfl hs
theorem k3 {P : Pat} (V : Vld P) (hs : size P ≤ 8) : chL P = true := full_of (k3_all P.d0 (by unfold size at hs; omega)) V rfl hs

/-- a letter -/
noncomputable def Lt (x : Nat) : Prop := x = 1 ∨ x = 2 ∨ x = 3 ∨ x = 4
theorem Lt.of {x : Nat} (h1 : 1 ≤ x) (h2 : x ≤ 4) : Lt x := by
  match x, h1, h2 with
  | 1, _, _ => exact .inl rfl
  | 2, _, _ => exact .inr (.inl rfl)
  | 3, _, _ => exact .inr (.inr (.inl rfl))
  | 4, _, _ => exact .inr (.inr (.inr rfl))
theorem Lt.b {x : Nat} (h : Lt x) : 1 ≤ x ∧ x ≤ 4 := by
  rcases h with rfl | rfl | rfl | rfl <;> decide
theorem all4_of {p : Nat → Bool} (e : all4 p = true) {x : Nat} (hx : Lt x) : p x = true := by
  simp only [all4, Bool.and_eq_true] at e
  rcases hx with rfl | rfl | rfl | rfl
  · exact e.1.1.1
  · exact e.1.1.2
  · exact e.1.2
  · exact e.2
theorem beq4_eq {P Q : Pat} (e : beq4 P Q = true) : P = Q := by
  simp only [beq4, Bool.and_eq_true, Nat.beq_eq] at e
  cases P; cases Q
  simp only at e
  obtain ⟨⟨⟨⟨⟨⟨⟨⟨⟨h1, h2⟩, h3⟩, h4⟩, h5⟩, h6⟩, h7⟩, h8⟩, h9⟩, h10⟩ := e
  subst h1 h2 h3 h4 h5 h6 h7 h8 h9 h10
  rfl

noncomputable def emp : Pat := ⟨0, 0, 0, 0, 0, 0, 0, 0, 0, 0⟩
/-- the pattern of a word -/
noncomputable def ofW (w : List Nat) : Pat := w.foldl ins emp
theorem ofW_snoc (w : List Nat) (x : Nat) : ofW (w ++ [x]) = ins (ofW w) x := by simp [ofW]

theorem size_inc4 (P : Pat) (j : Nat) : size (inc4 P j) = size P + 1 := by
  unfold inc4
  split <;> (simp only [size]; omega)
theorem size_inc3 (P : Pat) (j : Nat) : size (inc3 P j) = size P := by
  unfold inc3
  split <;> rfl
theorem size_inc2 (P : Pat) (j : Nat) : size (inc2 P j) = size P := by
  unfold inc2
  split <;> rfl
theorem size_inc1 (P : Pat) : size (inc1 P) = size P := rfl
theorem size_ins (P : Pat) (x : Nat) : size (ins P x) = size P + 1 := by
  unfold ins
  split <;> simp only [size_inc4, size_inc3, size_inc2, size_inc1]

theorem vld_ins {P : Pat} (V : Vld P) (hs : size P ≤ 7) {x : Nat} (hx : Lt x) : Vld (ins P x) := by
  have := k1 V hs
  simp only [Bool.and_eq_true] at this
  exact Vld.of (all4_of this.1 hx)
theorem emp_vld : Vld emp := Vld.of (by decide)
theorem snoc_ind {p : List Nat → Prop} (h0 : p []) (h1 : ∀ w x, p w → p (w ++ [x])) : ∀ w, p w := by
  intro w
  have : ∀ (r : List Nat), p r.reverse := by
    intro r
    induction r with
    | nil => exact h0
    | cons x r ih => rw [List.reverse_cons]; exact h1 _ _ ih
  have := this w.reverse
  rwa [List.reverse_reverse] at this
theorem ofW_vld : ∀ w : List Nat, w.length ≤ 8 → (∀ x ∈ w, Lt x) → Vld (ofW w) ∧ size (ofW w) = w.length := by
  refine snoc_ind ?_ ?_
  · intro _ _; exact ⟨emp_vld, rfl⟩
  · intro w x ih hl hw
    rw [List.length_append, List.length_singleton] at hl
    obtain ⟨V, hs⟩ := ih (by omega) fun y hy => hw y (List.mem_append_left _ hy)
    rw [ofW_snoc, List.length_append, List.length_singleton, size_ins, hs]
    exact ⟨vld_ins V (by omega) (hw x (by simp)), rfl⟩

/-- a letter at the head -/
theorem ofW_cons {z : Nat} (hz : Lt z) : ∀ v : List Nat, v.length ≤ 7 → (∀ x ∈ v, Lt x) → ofW (z :: v) = col (ofW v) z := by
  refine snoc_ind ?_ ?_
  · intro _ _
    rcases hz with rfl | rfl | rfl | rfl <;> rfl
  · intro v y ih hl hv
    rw [List.length_append, List.length_singleton] at hl
    have hv' : ∀ x ∈ v, Lt x := fun x hx => hv x (List.mem_append_left _ hx)
    obtain ⟨V, hs⟩ := ofW_vld v (by omega) hv'
    rw [← List.cons_append, ofW_snoc, ih (by omega) hv', ofW_snoc]
    exact beq4_eq (all4_of (all4_of (k2 V (by omega)) hz) (hv y (by simp)))

noncomputable def oth (m : Nat) : List Nat → List Nat := fun w => ((w.filter fun x => Nat.ble x m).map fun x => m + 1 - x).reverse
theorem oth_snoc (m : Nat) (w : List Nat) (x : Nat) : oth m (w ++ [x]) = if x ≤ m then (m + 1 - x) :: oth m w else oth m w := by
  unfold oth
  by_cases h : x ≤ m
  · have e : Nat.ble x m = true := Nat.ble_eq.mpr h
    rw [if_pos h, List.filter_append]
    simp [List.filter, e]
  · have e : Nat.ble x m = false := by
      cases q : Nat.ble x m
      · rfl
      · exact absurd (Nat.ble_eq.mp q) h
    rw [if_neg h, List.filter_append]
    simp [List.filter, e]
theorem oth_len (m : Nat) (w : List Nat) : (oth m w).length ≤ w.length := by
  unfold oth
  rw [List.length_reverse, List.length_map]
  exact List.length_filter_le _ _
theorem oth_lt {m : Nat} (hm : m ≤ 4) {w : List Nat} (hw : ∀ x ∈ w, Lt x) : ∀ x ∈ oth m w, Lt x := by
  intro x hx
  unfold oth at hx
  rw [List.mem_reverse, List.mem_map] at hx
  obtain ⟨y, hy, rfl⟩ := hx
  rw [List.mem_filter, Nat.ble_eq] at hy
  have h := (hw y hy.1).b
  exact .of (by omega) (by omega)

theorem ev4 : ∀ w : List Nat, w.length ≤ 8 → (∀ x ∈ w, Lt x) → evac4 (ofW w) = ofW (oth 4 w) := by
  refine snoc_ind ?_ ?_
  · intro _ _; rfl
  · intro w x ih hl hw
    rw [List.length_append, List.length_singleton] at hl
    have hw' : ∀ x ∈ w, Lt x := fun y hy => hw y (List.mem_append_left _ hy)
    have hx : Lt x := hw x (by simp)
    obtain ⟨V, hs⟩ := ofW_vld w (by omega) hw'
    have hx4 : x ≤ 4 := hx.b.2
    have ho := oth_len 4 w
    rw [oth_snoc, if_pos hx4, ofW_cons (.of (by omega) (by have := hx.b.1; omega)) _ (by omega) (oth_lt (Nat.le_refl _) hw'), ← ih (by omega) hw', ofW_snoc]
    have := k1 V (by omega)
    simp only [Bool.and_eq_true, chA] at this
    exact beq4_eq (all4_of this.2.1.1 hx)
theorem tr3_eq {P Q : Pat} (h : tr3 P = tr3 Q) : P.a = Q.a ∧ P.b0 = Q.b0 ∧ P.b1 = Q.b1 ∧ P.c0 = Q.c0 ∧ P.c1 = Q.c1 ∧ P.c2 = Q.c2 := by
  unfold tr3 at h
  injection h with h1 h2 h3 h4 h5 h6
  exact ⟨h1, h2, h3, h4, h5, h6⟩
theorem tr3_inc4 (P : Pat) (j : Nat) : tr3 (inc4 P j) = tr3 P := by
  unfold inc4
  split <;> rfl
theorem tr2_inc4 (P : Pat) (j : Nat) : tr2 (inc4 P j) = tr2 P := by
  unfold inc4
  split <;> rfl
theorem tr2_inc3 (P : Pat) (j : Nat) : tr2 (inc3 P j) = tr2 P := by
  unfold inc3
  split <;> rfl
theorem tr3_inc3 {P Q : Pat} (h : tr3 P = tr3 Q) (j : Nat) : tr3 (inc3 P j) = tr3 (inc3 Q j) := by
  obtain ⟨h1, h2, h3, h4, h5, h6⟩ := tr3_eq h
  cases P; cases Q
  simp only at h1 h2 h3 h4 h5 h6
  subst h1 h2 h3 h4 h5 h6
  match j with
  | 0 => rfl
  | 1 => rfl
  | n + 2 => rfl
theorem tr3_inc2 {P Q : Pat} (h : tr3 P = tr3 Q) (j : Nat) : tr3 (inc2 P j) = tr3 (inc2 Q j) := by
  obtain ⟨h1, h2, h3, h4, h5, h6⟩ := tr3_eq h
  cases P; cases Q
  simp only at h1 h2 h3 h4 h5 h6
  subst h1 h2 h3 h4 h5 h6
  match j with
  | 0 => rfl
  | n + 1 => rfl
theorem tr3_col {P Q : Pat} (h : tr3 P = tr3 Q) {z : Nat} : tr3 (col P z) = tr3 (col Q z) := by
  have hi2 := tr3_inc2 h
  have hi3 := fun j => tr3_inc3 h j
  have hi32 := fun i j => tr3_inc3 (hi2 i) j
  have e2 : fd2 P = fd2 Q := by
    obtain ⟨h1, h2, h3, h4, h5, h6⟩ := tr3_eq h
    funext j; unfold fd2; rw [h1, h3]
  have e3 : fd3 P = fd3 Q := by
    obtain ⟨h1, h2, h3, h4, h5, h6⟩ := tr3_eq h
    funext j; unfold fd3; rw [h2, h3, h5, h6]
  have e4 : lo3 P = lo3 Q := by
    obtain ⟨h1, h2, h3, h4, h5, h6⟩ := tr3_eq h
    funext j; unfold lo3; rw [h2, h3, h4, h5, h6, e3]
  unfold col
  split
  · simp only [tr3_inc4]
    refine tr3_inc3 (tr3_inc2 ?_ _) _
    obtain ⟨h1, h2, h3, h4, h5, h6⟩ := tr3_eq h
    unfold tr3 inc1
    simp only [h1, h2, h3, h4, h5, h6]
  · simp only [tr3_inc4]; rw [e2, e4]; exact hi32 _ _
  · simp only [tr3_inc4]; rw [e3]; exact hi3 _
  · simp only [tr3_inc4]; exact h
theorem tr2_eq {P Q : Pat} (h : tr2 P = tr2 Q) : P.a = Q.a ∧ P.b0 = Q.b0 ∧ P.b1 = Q.b1 := by
  unfold tr2 at h
  injection h with h1 h2 h3
  exact ⟨h1, h2, h3⟩
theorem tr2_inc2 {P Q : Pat} (h : tr2 P = tr2 Q) (j : Nat) : tr2 (inc2 P j) = tr2 (inc2 Q j) := by
  obtain ⟨h1, h2, h3⟩ := tr2_eq h
  cases P; cases Q
  simp only at h1 h2 h3
  subst h1 h2 h3
  match j with
  | 0 => rfl
  | n + 1 => rfl
theorem tr2_col {P Q : Pat} (h : tr2 P = tr2 Q) {z : Nat} : tr2 (col P z) = tr2 (col Q z) := by
  have hi2 := tr2_inc2 h
  have e2 : fd2 P = fd2 Q := by
    obtain ⟨h1, h2, h3⟩ := tr2_eq h
    funext j; unfold fd2; rw [h1, h3]
  unfold col
  split
  · simp only [tr2_inc4, tr2_inc3]
    refine tr2_inc2 ?_ _
    obtain ⟨h1, h2, h3⟩ := tr2_eq h
    unfold tr2 inc1
    simp only [h1, h2, h3]
  · simp only [tr2_inc4, tr2_inc3]; rw [e2]; exact hi2 _
  · simp only [tr2_inc4, tr2_inc3]; exact h
  · simp only [tr2_inc4]; exact h

theorem evac3_inc4 (P : Pat) (j : Nat) : tr3 (evac3 (inc4 P j)) = tr3 (evac3 P) := by
  unfold inc4
  split <;> rfl
theorem led1_inc4 (P : Pat) (j : Nat) : tr2 (led1 (inc4 P j)) = tr2 (led1 P) := by
  unfold inc4
  split <;> rfl
theorem led1_inc3 (P : Pat) (j : Nat) : tr2 (led1 (inc3 P j)) = tr2 (led1 P) := by
  unfold inc3
  split <;> rfl

theorem ev3 : ∀ w : List Nat, w.length ≤ 8 → (∀ x ∈ w, Lt x) → tr3 (evac3 (ofW w)) = tr3 (ofW (oth 3 w)) := by
  refine snoc_ind ?_ ?_
  · intro _ _; rfl
  · intro w x ih hl hw
    rw [List.length_append, List.length_singleton] at hl
    have hw' : ∀ x ∈ w, Lt x := fun y hy => hw y (List.mem_append_left _ hy)
    have hx : Lt x := hw x (by simp)
    obtain ⟨V, hs⟩ := ofW_vld w (by omega) hw'
    have ho := oth_len 3 w
    have hol := oth_lt (m := 3) (by omega) hw'
    rw [oth_snoc, ofW_snoc]
    have := k1 V (by omega)
    simp only [Bool.and_eq_true, chA] at this
    obtain ⟨-, ⟨-, ⟨q1, q2⟩, q3⟩, -⟩ := this
    rcases hx with rfl | rfl | rfl | rfl
    · rw [if_pos (by omega), ofW_cons (.of (by decide) (by decide)) _ (by omega) hol, beq4_eq q1]
      exact tr3_col (ih (by omega) hw')
    · rw [if_pos (by omega), ofW_cons (.of (by decide) (by decide)) _ (by omega) hol, beq4_eq q2]
      exact tr3_col (ih (by omega) hw')
    · rw [if_pos (by omega), ofW_cons (.of (by decide) (by decide)) _ (by omega) hol, beq4_eq q3]
      exact tr3_col (ih (by omega) hw')
    · rw [if_neg (by omega)]
      exact (evac3_inc4 _ _).trans (ih (by omega) hw')
theorem ev2 : ∀ w : List Nat, w.length ≤ 8 → (∀ x ∈ w, Lt x) → tr2 (led1 (ofW w)) = tr2 (ofW (oth 2 w)) := by
  refine snoc_ind ?_ ?_
  · intro _ _; rfl
  · intro w x ih hl hw
    rw [List.length_append, List.length_singleton] at hl
    have hw' : ∀ x ∈ w, Lt x := fun y hy => hw y (List.mem_append_left _ hy)
    have hx : Lt x := hw x (by simp)
    obtain ⟨V, hs⟩ := ofW_vld w (by omega) hw'
    have ho := oth_len 2 w
    have hol := oth_lt (m := 2) (by omega) hw'
    rw [oth_snoc, ofW_snoc]
    have := k1 V (by omega)
    simp only [Bool.and_eq_true, chA] at this
    obtain ⟨-, -, q1, q2⟩ := this
    rcases hx with rfl | rfl | rfl | rfl
    · rw [if_pos (by omega), ofW_cons (.of (by decide) (by decide)) _ (by omega) hol, beq4_eq q1]
      exact tr2_col (ih (by omega) hw')
    · rw [if_pos (by omega), ofW_cons (.of (by decide) (by decide)) _ (by omega) hol, beq4_eq q2]
      exact tr2_col (ih (by omega) hw')
    · rw [if_neg (by omega)]
      exact ((led1_inc4 _ _).trans (led1_inc3 _ _)).trans (ih (by omega) hw')
    · rw [if_neg (by omega)]
      exact (led1_inc4 _ _).trans (ih (by omega) hw')

/-- one led move -/
noncomputable def led (k : Nat) (P : Pat) : Pat := if k = 1 then led1 P else if k = 2 then led2 P else led3 P
noncomputable def Kt (k : Nat) : Prop := k = 1 ∨ k = 2 ∨ k = 3
theorem Kt.of {x : Nat} (h1 : 1 ≤ x) (h2 : x ≤ 3) : Kt x := by
  match x, h1, h2 with
  | 1, _, _ => exact .inl rfl
  | 2, _, _ => exact .inr (.inl rfl)
  | 3, _, _ => exact .inr (.inr rfl)
theorem Kt.b {x : Nat} (h : Kt x) : 1 ≤ x ∧ x ≤ 3 := by
  rcases h with rfl | rfl | rfl <;> decide
theorem led_vld {P : Pat} (V : Vld P) (hs : size P ≤ 8) {k : Nat} (hk : Kt k) : Vld (led k P) := by
  have h := (Bool.and_eq_true_iff.mp (k3 V hs)).1
  rcases hk with rfl | rfl | rfl
  · exact Vld.of (Bool.and_eq_true_iff.mp (Bool.and_eq_true_iff.mp h).1).1
  · exact Vld.of (Bool.and_eq_true_iff.mp (Bool.and_eq_true_iff.mp h).1).2
  · exact Vld.of (Bool.and_eq_true_iff.mp h).2
theorem led_led {P : Pat} (V : Vld P) (hs : size P ≤ 8) {k : Nat} (hk : Kt k) : led k (led k P) = P := by
  have h := (Bool.and_eq_true_iff.mp (k3 V hs)).2
  rcases hk with rfl | rfl | rfl
  · exact beq4_eq (Bool.and_eq_true_iff.mp (Bool.and_eq_true_iff.mp h).1).1
  · exact beq4_eq (Bool.and_eq_true_iff.mp (Bool.and_eq_true_iff.mp h).1).2
  · exact beq4_eq (Bool.and_eq_true_iff.mp h).2
theorem led_size {P : Pat} {k : Nat} (hk : Kt k) : size (led k P) = size P := by
  rcases hk with rfl | rfl | rfl <;> rfl
noncomputable def leds (rows : List Nat) (P : Pat) : Pat := rows.foldl (fun P k => led k P) P
theorem leds_vld : ∀ (rows : List Nat) {P : Pat}, Vld P → size P ≤ 8 → (∀ k ∈ rows, Kt k) → Vld (leds rows P) ∧ size (leds rows P) ≤ 8
  | [], _, V, hs, _ => ⟨V, hs⟩
  | k :: r, _, V, hs, h => leds_vld r (led_vld V hs (h k List.mem_cons_self)) (Nat.le_trans (Nat.le_of_eq (led_size (h k List.mem_cons_self))) hs) fun j hj => h j (List.mem_cons_of_mem _ hj)
theorem leds_app (r q : List Nat) (P : Pat) : leds (r ++ q) P = leds q (leds r P) := by simp [leds]
theorem leds_twice {r q : List Nat} {k : Nat} {P : Pat} (V : Vld P) (hs : size P ≤ 8) (hr : ∀ k ∈ r, Kt k) (hk : Kt k) : leds (r ++ [k, k] ++ q) P = leds (r ++ q) P := by
  rw [List.append_assoc, leds_app, leds_app, leds_app]
  show leds q (led k (led k (leds r P))) = _
  rw [led_led (leds_vld r V hs hr).1 (leds_vld r V hs hr).2 hk]
end Pat
end Mine
end

section
set_option maxRecDepth 100000
set_option linter.unusedSimpArgs false
namespace Mine

noncomputable def atN (b : Nat) (r : List Nat) : Nat := (r.filter fun x => Nat.ble x b).length
/-- row insertion, as the code does it -/
noncomputable def insN (b : Nat) : List (List Nat) → List (List Nat)
  | [] => []
  | r :: rs => match r[atN b r]? with
    | none => (r ++ [b]) :: rs
    | some g => r.set (atN b r) b :: insN g rs

noncomputable def rep4 (n1 n2 n3 n4 : Nat) : List Nat := List.replicate n1 1 ++ (List.replicate n2 2 ++ (List.replicate n3 3 ++ List.replicate n4 4))

theorem ble_t {x b : Nat} (h : x ≤ b) : Nat.ble x b = true := Nat.ble_eq.mpr h
theorem ble_f {x b : Nat} (h : ¬ x ≤ b) : Nat.ble x b = false := by
  cases q : Nat.ble x b
  · rfl
  · exact absurd (Nat.ble_eq.mp q) h
theorem filt_rep (b n x : Nat) : ((List.replicate n x).filter fun y => Nat.ble y b) = if x ≤ b then List.replicate n x else [] := by
  by_cases h : x ≤ b
  · rw [if_pos h, List.filter_replicate, if_pos (ble_t h)]
  · rw [if_neg h, List.filter_replicate, if_neg (by rw [ble_f h]; exact Bool.false_ne_true)]
theorem atN_rep4 (b n1 n2 n3 n4 : Nat) : atN b (rep4 n1 n2 n3 n4) = (if 1 ≤ b then n1 else 0) + ((if 2 ≤ b then n2 else 0) + ((if 3 ≤ b then n3 else 0) + (if 4 ≤ b then n4 else 0))) := by
  unfold atN rep4
  simp only [List.filter_append, filt_rep, List.length_append]
  congr 1
  · split <;> simp
  congr 1
  · split <;> simp
  congr 1
  · split <;> simp
  · split <;> simp
theorem get_app {L R : List Nat} : (L ++ R)[L.length]? = R.head? := by
  rw [List.getElem?_append_right (Nat.le_refl _), Nat.sub_self]
  cases R <;> rfl
theorem set_app {L R : List Nat} {b x : Nat} : (L ++ x :: R).set L.length b = L ++ b :: R := by
  rw [List.set_append_right _ _ (Nat.le_refl _), Nat.sub_self]
  rfl
/-- one row -/
theorem row_none {b : Nat} {r : List Nat} {rs : List (List Nat)} (h : r[atN b r]? = none) : insN b (r :: rs) = (r ++ [b]) :: rs := by
  rw [insN, h]
theorem row_some {b g : Nat} {r : List Nat} {rs : List (List Nat)} (h : r[atN b r]? = some g) : insN b (r :: rs) = r.set (atN b r) b :: insN g rs := by
  rw [insN, h]
theorem row_bump {b g : Nat} {L R : List Nat} {rs : List (List Nat)} (hL : atN b (L ++ g :: R) = L.length) : insN b ((L ++ g :: R) :: rs) = (L ++ b :: R) :: insN g rs := by
  rw [row_some (g := g) (by rw [hL, get_app]; rfl), hL, set_app]
theorem row_end {b : Nat} {r : List Nat} {rs : List (List Nat)} (h : atN b r = r.length) : insN b (r :: rs) = (r ++ [b]) :: rs :=
  row_none (by rw [h]; exact List.getElem?_eq_none (Nat.le_refl _))
theorem rep4_len (n1 n2 n3 n4 : Nat) : (rep4 n1 n2 n3 n4).length = n1 + (n2 + (n3 + n4)) := by simp [rep4]

theorem row1_2 (n1 n2 n3 n4 : Nat) (rs : List (List Nat)) : insN 1 (rep4 n1 (n2 + 1) n3 n4 :: rs) = rep4 (n1 + 1) n2 n3 n4 :: insN 2 rs := by
  have e : rep4 n1 (n2 + 1) n3 n4 = (List.replicate n1 1) ++ 2 :: (List.replicate n2 2 ++ (List.replicate n3 3 ++ (List.replicate n4 4))) := by
    simp [rep4, List.replicate_succ, List.append_assoc]
  have e' : rep4 (n1 + 1) n2 n3 n4 = (List.replicate n1 1) ++ 1 :: (List.replicate n2 2 ++ (List.replicate n3 3 ++ (List.replicate n4 4))) := by
    simp [rep4, List.replicate_succ', List.append_assoc]
  have h := atN_rep4 1 n1 (n2 + 1) n3 n4
  rw [e] at h ⊢
  rw [e']
  exact row_bump (by rw [h]; simp)
theorem row1_3 (n1 n3 n4 : Nat) (rs : List (List Nat)) : insN 1 (rep4 n1 0 (n3 + 1) n4 :: rs) = rep4 (n1 + 1) 0 n3 n4 :: insN 3 rs := by
  have e : rep4 n1 0 (n3 + 1) n4 = (List.replicate n1 1) ++ 3 :: (List.replicate n3 3 ++ (List.replicate n4 4)) := by
    simp [rep4, List.replicate_succ, List.append_assoc]
  have e' : rep4 (n1 + 1) 0 n3 n4 = (List.replicate n1 1) ++ 1 :: (List.replicate n3 3 ++ (List.replicate n4 4)) := by
    simp [rep4, List.replicate_succ', List.append_assoc]
  have h := atN_rep4 1 n1 0 (n3 + 1) n4
  rw [e] at h ⊢
  rw [e']
  exact row_bump (by rw [h]; simp)
theorem row1_4 (n1 n4 : Nat) (rs : List (List Nat)) : insN 1 (rep4 n1 0 0 (n4 + 1) :: rs) = rep4 (n1 + 1) 0 0 n4 :: insN 4 rs := by
  have e : rep4 n1 0 0 (n4 + 1) = (List.replicate n1 1) ++ 4 :: (List.replicate n4 4) := by
    simp [rep4, List.replicate_succ, List.append_assoc]
  have e' : rep4 (n1 + 1) 0 0 n4 = (List.replicate n1 1) ++ 1 :: (List.replicate n4 4) := by
    simp [rep4, List.replicate_succ', List.append_assoc]
  have h := atN_rep4 1 n1 0 0 (n4 + 1)
  rw [e] at h ⊢
  rw [e']
  exact row_bump (by rw [h]; simp)
theorem row1_e (n1 : Nat) (rs : List (List Nat)) : insN 1 (rep4 n1 0 0 0 :: rs) = rep4 (n1 + 1) 0 0 0 :: rs := by
  rw [row_end (by rw [atN_rep4, rep4_len]; simp)]
  congr 1
  simp [rep4, List.replicate_succ', List.append_assoc]
theorem row2_3 (n1 n2 n3 n4 : Nat) (rs : List (List Nat)) : insN 2 (rep4 n1 n2 (n3 + 1) n4 :: rs) = rep4 n1 (n2 + 1) n3 n4 :: insN 3 rs := by
  have e : rep4 n1 n2 (n3 + 1) n4 = (List.replicate n1 1 ++ List.replicate n2 2) ++ 3 :: (List.replicate n3 3 ++ (List.replicate n4 4)) := by
    simp [rep4, List.replicate_succ, List.append_assoc]
  have e' : rep4 n1 (n2 + 1) n3 n4 = (List.replicate n1 1 ++ List.replicate n2 2) ++ 2 :: (List.replicate n3 3 ++ (List.replicate n4 4)) := by
    simp [rep4, List.replicate_succ', List.append_assoc]
  have h := atN_rep4 2 n1 n2 (n3 + 1) n4
  rw [e] at h ⊢
  rw [e']
  exact row_bump (by rw [h]; simp)
theorem row2_4 (n1 n2 n4 : Nat) (rs : List (List Nat)) : insN 2 (rep4 n1 n2 0 (n4 + 1) :: rs) = rep4 n1 (n2 + 1) 0 n4 :: insN 4 rs := by
  have e : rep4 n1 n2 0 (n4 + 1) = (List.replicate n1 1 ++ List.replicate n2 2) ++ 4 :: (List.replicate n4 4) := by
    simp [rep4, List.replicate_succ, List.append_assoc]
  have e' : rep4 n1 (n2 + 1) 0 n4 = (List.replicate n1 1 ++ List.replicate n2 2) ++ 2 :: (List.replicate n4 4) := by
    simp [rep4, List.replicate_succ', List.append_assoc]
  have h := atN_rep4 2 n1 n2 0 (n4 + 1)
  rw [e] at h ⊢
  rw [e']
  exact row_bump (by rw [h]; simp)
theorem row2_e (n1 n2 : Nat) (rs : List (List Nat)) : insN 2 (rep4 n1 n2 0 0 :: rs) = rep4 n1 (n2 + 1) 0 0 :: rs := by
  rw [row_end (by rw [atN_rep4, rep4_len]; simp)]
  congr 1
  simp [rep4, List.replicate_succ', List.append_assoc]
theorem row3_4 (n1 n2 n3 n4 : Nat) (rs : List (List Nat)) : insN 3 (rep4 n1 n2 n3 (n4 + 1) :: rs) = rep4 n1 n2 (n3 + 1) n4 :: insN 4 rs := by
  have e : rep4 n1 n2 n3 (n4 + 1) = (List.replicate n1 1 ++ List.replicate n2 2 ++ List.replicate n3 3) ++ 4 :: (List.replicate n4 4) := by
    simp [rep4, List.replicate_succ, List.append_assoc]
  have e' : rep4 n1 n2 (n3 + 1) n4 = (List.replicate n1 1 ++ List.replicate n2 2 ++ List.replicate n3 3) ++ 3 :: (List.replicate n4 4) := by
    simp [rep4, List.replicate_succ', List.append_assoc]
  have h := atN_rep4 3 n1 n2 n3 (n4 + 1)
  rw [e] at h ⊢
  rw [e']
  exact row_bump (by rw [h]; simp)
theorem row3_e (n1 n2 n3 : Nat) (rs : List (List Nat)) : insN 3 (rep4 n1 n2 n3 0 :: rs) = rep4 n1 n2 (n3 + 1) 0 :: rs := by
  rw [row_end (by rw [atN_rep4, rep4_len]; simp)]
  congr 1
  simp [rep4, List.replicate_succ', List.append_assoc]
theorem row4_e (n1 n2 n3 n4 : Nat) (rs : List (List Nat)) : insN 4 (rep4 n1 n2 n3 n4 :: rs) = rep4 n1 n2 n3 (n4 + 1) :: rs := by
  rw [row_end (by rw [atN_rep4, rep4_len]; simp)]
  congr 1
  simp [rep4, List.replicate_succ', List.append_assoc]
end Mine
end

section
set_option maxRecDepth 100000
set_option linter.unusedSimpArgs false
namespace Mine
open Pat

noncomputable def tabP (P : Pat) : List (List Nat) := [rep4 P.a (P.b0 - P.a) (P.c0 - P.b0) (P.d0 - P.c0), rep4 0 P.b1 (P.c1 - P.b1) (P.d1 - P.c1), rep4 0 0 P.c2 (P.d2 - P.c2), rep4 0 0 0 P.d3]
abbrev C4 := Nat × Nat × Nat × Nat
noncomputable def repC (r : C4) : List Nat := rep4 r.1 r.2.1 r.2.2.1 r.2.2.2
/-- a row's step on counts: the new row and the letter put out, 0 for none -/
noncomputable def step1 (n1 n2 n3 n4 : Nat) : C4 × Nat := cond (Nat.ble 1 n2) ((Nat.succ n1, Nat.pred n2, n3, n4), 2) (cond (Nat.ble 1 n3) ((Nat.succ n1, n2, Nat.pred n3, n4), 3) (cond (Nat.ble 1 n4) ((Nat.succ n1, n2, n3, Nat.pred n4), 4) ((Nat.succ n1, n2, n3, n4), 0)))
noncomputable def step2 (n1 n2 n3 n4 : Nat) : C4 × Nat := cond (Nat.ble 1 n3) ((n1, Nat.succ n2, Nat.pred n3, n4), 3) (cond (Nat.ble 1 n4) ((n1, Nat.succ n2, n3, Nat.pred n4), 4) ((n1, Nat.succ n2, n3, n4), 0))
noncomputable def step3 (n1 n2 n3 n4 : Nat) : C4 × Nat := cond (Nat.ble 1 n4) ((n1, n2, Nat.succ n3, Nat.pred n4), 4) ((n1, n2, Nat.succ n3, n4), 0)
noncomputable def stepC (b : Nat) (r : C4) : C4 × Nat := cond (Nat.beq b 1) (step1 r.1 r.2.1 r.2.2.1 r.2.2.2) (cond (Nat.beq b 2) (step2 r.1 r.2.1 r.2.2.1 r.2.2.2) (cond (Nat.beq b 3) (step3 r.1 r.2.1 r.2.2.1 r.2.2.2) ((r.1, r.2.1, r.2.2.1, Nat.succ r.2.2.2), 0)))
noncomputable def insC : List C4 → Nat → List C4
  | [], _ => []
  | r :: rs, b => (stepC b r).1 :: cond (Nat.beq (stepC b r).2 0) rs (insC rs (stepC b r).2)
noncomputable def StepOk (b : Nat) (r : C4) : Prop := ∀ rs : List (List Nat), insN b (repC r :: rs) = repC (stepC b r).1 :: cond (Nat.beq (stepC b r).2 0) rs (insN (stepC b r).2 rs)
theorem step_ok {b : Nat} (hb : Lt b) (r : C4) : StepOk b r ∧ ((stepC b r).2 = 0 ∨ Lt (stepC b r).2) := by
  obtain ⟨n1, n2, n3, n4⟩ := r
  rcases hb with rfl | rfl | rfl | rfl
  · cases n2 with
    | succ n2 => exact ⟨fun rs => row1_2 n1 n2 n3 n4 rs, .inr (.inr (.inl rfl))⟩
    | zero =>
      cases n3 with
      | succ n3 => exact ⟨fun rs => row1_3 n1 n3 n4 rs, .inr (.inr (.inr (.inl rfl)))⟩
      | zero =>
        cases n4 with
        | succ n4 => exact ⟨fun rs => row1_4 n1 n4 rs, .inr (.inr (.inr (.inr rfl)))⟩
        | zero => exact ⟨fun rs => row1_e n1 rs, .inl rfl⟩
  · cases n3 with
    | succ n3 => exact ⟨fun rs => row2_3 n1 n2 n3 n4 rs, .inr (.inr (.inr (.inl rfl)))⟩
    | zero =>
      cases n4 with
      | succ n4 => exact ⟨fun rs => row2_4 n1 n2 n4 rs, .inr (.inr (.inr (.inr rfl)))⟩
      | zero => exact ⟨fun rs => row2_e n1 n2 rs, .inl rfl⟩
  · cases n4 with
    | succ n4 => exact ⟨fun rs => row3_4 n1 n2 n3 n4 rs, .inr (.inr (.inr (.inr rfl)))⟩
    | zero => exact ⟨fun rs => row3_e n1 n2 n3 rs, .inl rfl⟩
  · exact ⟨fun rs => row4_e n1 n2 n3 n4 rs, .inl rfl⟩
theorem insN_C : ∀ (T : List C4) {b : Nat}, Lt b → insN b (T.map repC) = (insC T b).map repC
  | [], _, _ => rfl
  | r :: rs, b, hb => by
    obtain ⟨h1, h2⟩ := step_ok hb r
    refine (h1 (rs.map repC)).trans ?_
    show _ = repC (stepC b r).1 :: (cond (Nat.beq (stepC b r).2 0) rs (insC rs (stepC b r).2)).map repC
    rcases h2 with h2 | h2
    · rw [h2]; rfl
    · have h0 : Nat.beq (stepC b r).2 0 = false := by rcases h2 with h | h | h | h <;> rw [h] <;> rfl
      rw [h0, cond_false, cond_false, insN_C rs h2]
noncomputable def cntP (P : Pat) : List C4 := [(P.a, Nat.sub P.b0 P.a, Nat.sub P.c0 P.b0, Nat.sub P.d0 P.c0), (0, P.b1, Nat.sub P.c1 P.b1, Nat.sub P.d1 P.c1), (0, 0, P.c2, Nat.sub P.d2 P.c2), (0, 0, 0, P.d3)]
theorem tab_cnt (P : Pat) : tabP P = (cntP P).map repC := rfl
noncomputable def eqC (r q : C4) : Bool := Nat.beq r.1 q.1 && Nat.beq r.2.1 q.2.1 && Nat.beq r.2.2.1 q.2.2.1 && Nat.beq r.2.2.2 q.2.2.2
noncomputable def eqT : List C4 → List C4 → Bool
  | [], [] => true
  | x :: r, y :: q => eqC x y && eqT r q
  | _, _ => false
theorem eqC_eq {r q : C4} (h : eqC r q = true) : r = q := by
  simp only [eqC, Bool.and_eq_true, Nat.beq_eq] at h
  obtain ⟨⟨⟨h1, h2⟩, h3⟩, h4⟩ := h
  exact Prod.ext h1 (Prod.ext h2 (Prod.ext h3 h4))
theorem eqT_eq : ∀ {r q : List C4}, eqT r q = true → r = q
  | [], [], _ => rfl
  | x :: r, y :: q, h => by
    have h' := Bool.and_eq_true_iff.mp h
    rw [eqC_eq h'.1, eqT_eq h'.2]
  | [], _ :: _, h => absurd h Bool.false_ne_true
  | _ :: _, [], h => absurd h Bool.false_ne_true
noncomputable def chI (P : Pat) : Bool := all4 fun x => eqT (insC (cntP P) x) (cntP (ins P x))
theorem kI_0 : full 7 0 chI = true := by decide +kernel
theorem kI_1 : full 7 1 chI = true := by decide +kernel
theorem kI_2 : full 7 2 chI = true := by decide +kernel
theorem kI_3 : full 7 3 chI = true := by decide +kernel
theorem kI_4 : full 7 4 chI = true := by decide +kernel
theorem kI_5 : full 7 5 chI = true := by decide +kernel
theorem kI_6 : full 7 6 chI = true := by decide +kernel
theorem kI_7 : full 7 7 chI = true := by decide +kernel
theorem kI_all : ∀ d, d < 8 → full 7 d chI = true :=
  have up_s := fun {n : Nat} (h : ∀ i, i < n → (fun d => full 7 d chI) i = true) (hn : full 7 n chI = true) => up_s (p := fun d => full 7 d chI) h hn
  (up_s (n := 7) (up_s (n := 6) (up_s (n := 5) (up_s (n := 4) (up_s (n := 3) (up_s (n := 2) (up_s (n := 1) (up_s (n := 0) up_0 kI_0) kI_1) kI_2) kI_3) kI_4) kI_5) kI_6) kI_7)
theorem kI {P : Pat} (V : Vld P) (hs : size P ≤ 7) : chI P = true := full_of (kI_all P.d0 (by unfold size at hs; omega)) V rfl hs
theorem insN_tab {P : Pat} (V : Vld P) (hs : size P ≤ 7) {x : Nat} (hx : Lt x) : insN x (tabP P) = tabP (ins P x) := by
  rw [tab_cnt, tab_cnt, insN_C _ hx, eqT_eq (all4_of (kI V hs) hx)]
/-- the code's table of a word -/
noncomputable def tabW (w : List Nat) : List (List Nat) := w.foldl (fun T x => insN x T) [[], [], [], []]
theorem tabW_eq : ∀ w : List Nat, w.length ≤ 8 → (∀ x ∈ w, Lt x) → tabW w = tabP (ofW w) := by
  refine snoc_ind ?_ ?_
  · intro _ _; rfl
  · intro w x ih hl hw
    rw [List.length_append, List.length_singleton] at hl
    have hw' : ∀ x ∈ w, Lt x := fun y hy => hw y (List.mem_append_left _ hy)
    obtain ⟨V, hs⟩ := ofW_vld w (by omega) hw'
    rw [ofW_snoc, ← insN_tab V (by omega) (hw x (by simp)), ← ih (by omega) hw']
    simp [tabW]
end Mine
end

section
open PySem PySem.Calls PyProof.Rows PySem.W
set_option maxRecDepth 100000
set_option linter.unusedSimpArgs false
set_option linter.unusedVariables false
namespace Mine

section
variable {F : Fns} {vs : Vars} {σ : Hp} {l r o t e : PE} {a b c d v : AV} {f n : Nat} {op : Operator}
theorem ev_bin (h1 : evP F l vs σ = some a) (h2 : evP F r vs σ = some b) : evP F (.bin op l r) vs σ = binA op a b σ := by
  show o2 _ (evP F l vs σ) (evP F r vs σ) = _; rw [h1, h2]; rfl
theorem ev_item (h1 : evP F l vs σ = some a) (h2 : evP F r vs σ = some b) : evP F (.item l r) vs σ = itemA σ a b := by
  show o2 _ (evP F l vs σ) (evP F r vs σ) = _; rw [h1, h2]; rfl
theorem ev_cons (h1 : evP F l vs σ = some a) (h2 : evP F r vs σ = some b) : evP F (.cons l r) vs σ = consA a b := by
  show o2 _ (evP F l vs σ) (evP F r vs σ) = _; rw [h1, h2]; rfl
theorem ev_cmp {op : CmpOp} (h1 : evP F l vs σ = some a) (h2 : evP F r vs σ = some b) : evP F (.cmp op l r) vs σ = (cmpA op a b).map .bool := by
  show o2 _ (evP F l vs σ) (evP F r vs σ) = _; rw [h1, h2]; rfl
theorem ev_call (h1 : evP F l vs σ = some a) : evP F (.call f l) vs σ = callA F f a := by
  show o1 _ (evP F l vs σ) = _; rw [h1]; rfl
theorem ev_trunc (h1 : evP F l vs σ = some a) : evP F (.trunc l) vs σ = truncA a := by
  show o1 _ (evP F l vs σ) = _; rw [h1]; rfl
theorem ev_len (h1 : evP F l vs σ = some a) : evP F (.len l) vs σ = lenA σ a := by
  show o1 _ (evP F l vs σ) = _; rw [h1]; rfl
theorem ev_sum (h1 : evP F l vs σ = some a) : evP F (.sum l) vs σ = sumA a := by
  show o1 _ (evP F l vs σ) = _; rw [h1]; rfl
theorem ev_neg (h1 : evP F l vs σ = some a) : evP F (.neg l) vs σ = negA a := by
  show o1 _ (evP F l vs σ) = _; rw [h1]; rfl
theorem ev_not (h1 : evP F l vs σ = some a) : evP F (.not l) vs σ = notA a := by
  show o1 _ (evP F l vs σ) = _; rw [h1]; rfl
theorem ev_tup {xs : List AV} (h1 : evP F l vs σ = some (.lst xs)) : evP F (.tup l) vs σ = some (.tup xs) := by
  show o1 _ (evP F l vs σ) = _; rw [h1]; rfl
theorem ev_get (h1 : evP F l vs σ = some a) (h2 : evP F r vs σ = some b) (h3 : evP F o vs σ = some c) : evP F (.get l r o) vs σ = getA σ a b c := by
  show o3 _ (evP F l vs σ) (evP F r vs σ) (evP F o vs σ) = _; rw [h1, h2, h3]; rfl
theorem ev_slice (h0 : evP F o vs σ = some a) (h1 : evP F l vs σ = some b) (h2 : evP F r vs σ = some c) (h3 : evP F t vs σ = some d) : evP F (.slice o l r t) vs σ = sliceA σ a b c d := by
  show o4 _ (evP F o vs σ) (evP F l vs σ) (evP F r vs σ) (evP F t vs σ) = _; rw [h0, h1, h2, h3]; rfl
theorem ev_cst : evP F (.cst v) vs σ = some v := rfl
theorem ev_nil : evP F .nil vs σ = some (.lst []) := rfl
theorem ev_var (h : lk n vs = some v) : evP F (.var n) vs σ = some v := h
theorem ev_m1 : evP F (.neg (.cst (.int 1))) vs σ = some (.int (-1)) := rfl
theorem ev_comp {x : Nat} {caps : List Nat} {xs ys : List AV} {cv : Vars} (h1 : evP F l vs σ = some a) (h2 : iterA σ a = some xs) (h3 : capV caps vs = some cv) (h4 : mapO (fun a => evP F e ((x, a) :: cv) σ) xs = some ys) : evP F (.comp x caps l e) vs σ = some (.lst ys) := by
  show oC (evP F l vs σ) σ caps vs (fun cv a => evP F e ((x, a) :: cv) σ) = _
  unfold oC
  rw [h1, Option.bind_some, h2, Option.bind_some, h3, Option.bind_some, h4]; rfl
theorem ev_compIf {x : Nat} {caps : List Nat} {xs ys : List AV} {cv : Vars} (h1 : evP F l vs σ = some a) (h2 : iterA σ a = some xs) (h3 : capV caps vs = some cv) (h4 : mapIf (fun a => otru (evP F r ((x, a) :: cv) σ)) (fun a => evP F e ((x, a) :: cv) σ) xs = some ys) : evP F (.compIf x caps l r e) vs σ = some (.lst ys) := by
  show oD (evP F l vs σ) σ caps vs (fun cv a => otru (evP F r ((x, a) :: cv) σ)) (fun cv a => evP F e ((x, a) :: cv) σ) = _
  unfold oD
  rw [h1, Option.bind_some, h2, Option.bind_some, h3, Option.bind_some, h4]; rfl
theorem callA_of {xs : List AV} (h : xs.all deep = true) : callA F f (.lst xs) = F f xs := if_pos h
theorem add_lst (a b : List AV) (h : a.length + b.length ≤ 100000) (σ : Hp) : binA .Add (.lst a) (.lst b) σ = some (.lst (a ++ b)) := if_pos (decide_eq_true h)
theorem ev_ife_t (h : otru (evP F t vs σ) = some true) : evP F (.ife t l r) vs σ = evP F l vs σ := by
  show oI (otru (evP F t vs σ)) (evP F l vs σ) (evP F r vs σ) = _; rw [h]; rfl
theorem tru_cmp {op : CmpOp} {z : Bool} (h1 : evP F l vs σ = some a) (h2 : evP F r vs σ = some b) (h : cmpA op a b = some z) : otru (evP F (.cmp op l r) vs σ) = some z := by
  rw [ev_cmp h1 h2, h]; rfl
theorem ev_itemN {xs : List AV} {k : Nat} (h1 : evP F l vs σ = some a) (h2 : evP F r vs σ = some (.int (k : Nat))) (h3 : itemsT σ a = some xs) (h4 : xs[k]? = some v) : evP F (.item l r) vs σ = some v := by
  rw [ev_item h1 h2]
  show (if (0 : Int) ≤ (k : Nat) then (itemsT σ a).bind fun xs => xs[((k : Nat) : Int).toNat]? else none) = _
  rw [if_pos (Int.natCast_nonneg k), h3]
  exact h4
theorem sl_gen {xs : List AV} {lo hi st : AV} {x y z : Option Int} (h0 : itemsA σ a = some xs) (h1 : partA lo = some x) (h2 : partA hi = some y) (h3 : partA st = some z) (hz : ¬ z = some 0) : sliceA σ a lo hi st = some (.lst (pickA xs x y z)) := by
  unfold sliceA
  rw [h0, h1, h2, h3]
  exact if_neg hz
end
section
variable {F : Fns} {I : Its} {vs vs1 : Vars} {σ σ1 : Hp} {a b : PS} {e : PE} {v : AV} {n : Nat}
theorem seq_n (h : exP F I a vs σ = some (.next, vs1, σ1)) : exP F I (.seq a b) vs σ = exP F I b vs1 σ1 := by
  show (exP F I a vs σ).bind _ = _; rw [h]; rfl
theorem seq_b (h : exP F I a vs σ = some (.brk, vs1, σ1)) : exP F I (.seq a b) vs σ = some (.brk, vs1, σ1) := by
  show (exP F I a vs σ).bind _ = _; rw [h]; rfl
theorem seq_r (h : exP F I a vs σ = some (.ret v, vs1, σ1)) : exP F I (.seq a b) vs σ = some (.ret v, vs1, σ1) := by
  show (exP F I a vs σ).bind _ = _; rw [h]; rfl
theorem brk_b : exP F I .brk vs σ = some (.brk, vs, σ) := rfl
theorem skip_n : exP F I .skip vs σ = some (.next, vs, σ) := rfl
theorem asg_n (h : evP F e vs σ = some v) : exP F I (.asg n e) vs σ = some (.next, setVar n v vs, σ) := by
  show (evP F e vs σ).bind _ = _; rw [h]; rfl
theorem ret_r (h : evP F e vs σ = some v) : exP F I (.ret e) vs σ = some (.ret v, vs, σ) := by
  show (evP F e vs σ).bind _ = _; rw [h]; rfl
theorem ite_t (h : otru (evP F e vs σ) = some true) : exP F I (.ite e a b) vs σ = exP F I a vs σ := by
  show oI (otru (evP F e vs σ)) (exP F I a vs σ) (exP F I b vs σ) = _; rw [h]; rfl
theorem ite_f (h : otru (evP F e vs σ) = some false) : exP F I (.ite e a b) vs σ = exP F I b vs σ := by
  show oI (otru (evP F e vs σ)) (exP F I a vs σ) (exP F I b vs σ) = _; rw [h]; rfl
theorem newl_n {xs : List AV} (h : evP F e vs σ = some (.lst xs)) : exP F I (.newl n e) vs σ = some (.next, setVar n (.loc σ.length) vs, σ ++ [.list xs]) := by
  show ((evP F e vs σ).bind l1).bind _ = _; rw [h]; rfl
theorem app_n {l : Nat} {xs : List AV} (h1 : lk n vs = some (.loc l)) (h2 : evP F e vs σ = some v) (h3 : listAt σ l = some xs) (h4 : xs.length + 1 ≤ 100000) : exP F I (.app n e) vs σ = some (.next, vs, σ.set l (.list (xs ++ [v]))) := by
  show ((lk n vs).bind locA).bind (fun l => (evP F e vs σ).bind fun v => (listAt σ l).bind _) = _
  rw [h1, h2]
  show (listAt σ l).bind _ = _
  rw [h3]
  exact if_pos (decide_eq_true h4)
theorem ext_n {l : Nat} {xs ys : List AV} (h1 : lk n vs = some (.loc l)) (h2 : evP F e vs σ = some (.lst ys)) (h3 : listAt σ l = some xs) (h4 : xs.length + ys.length ≤ 100000) : exP F I (.ext n e) vs σ = some (.next, vs, σ.set l (.list (xs ++ ys))) := by
  show ((lk n vs).bind locA).bind (fun l => ((evP F e vs σ).bind l1).bind fun ys => (listAt σ l).bind _) = _
  rw [h1, h2]
  show (listAt σ l).bind _ = _
  rw [h3]
  exact if_pos (decide_eq_true h4)
theorem seti_n {o i k l : Nat} {xs : List AV} (h0 : lk n vs = some v) (h1 : lk o vs = some (.loc l)) (h2 : lk i vs = some (.int k)) (h3 : listAt σ l = some xs) (h4 : k < xs.length) : exP F I (.seti o i n) vs σ = some (.next, vs, σ.set l (.list (xs.set k v))) := by
  show (lk n vs).bind (fun x => ((lk o vs).bind locA).bind fun l => ((lk i vs).bind i1).bind fun k => (listAt σ l).bind _) = _
  rw [h0, h1, h2]
  show (listAt σ l).bind _ = _
  rw [h3]
  refine if_pos ?_
  rw [decide_eq_true (Int.natCast_nonneg k), decide_eq_true (Int.ofNat_lt.mpr h4)]; rfl
theorem loop_e {xs : List AV} (h : evP F e vs σ = some v) (hf : frozenA v = some xs) : exP F I (.loop n e b) vs σ = forL n (exP F I b) xs vs σ := by
  show ((evP F e vs σ).bind frozenA).bind _ = _; rw [h, Option.bind_some, hf]; rfl
theorem asg2_n {m : Nat} {x y : AV} (h : evP F e vs σ = some (.tup [x, y])) : exP F I (.asg2 n m e) vs σ = some (.next, setVar m y (setVar n x vs), σ) := by
  show ((evP F e vs σ).bind pairA).bind _ = _; rw [h]; rfl
theorem for_n {x : AV} {xs : List AV} (h : exP F I b (setVar n x vs) σ = some (.next, vs1, σ1)) : forL n (exP F I b) (x :: xs) vs σ = forL n (exP F I b) xs vs1 σ1 := by
  show (exP F I b (setVar n x vs) σ).bind _ = _; rw [h]; rfl
theorem for_b {x : AV} {xs : List AV} (h : exP F I b (setVar n x vs) σ = some (.brk, vs1, σ1)) : forL n (exP F I b) (x :: xs) vs σ = some (.next, vs1, σ1) := by
  show (exP F I b (setVar n x vs) σ).bind _ = _; rw [h]; rfl
/-- a body's run is a function's value -/
theorem run_ret {ps : List Nat} {as : List AV} {u : AV} (h0 : bindA ps as = some vs) (h1 : exP F I b vs [] = some (.ret v, vs1, σ1)) (h2 : frz σ1 v = some u) : runF F I ps b as = some u := by
  unfold runF
  rw [h0, Option.bind_some, h1]
  exact h2
end

noncomputable def nI (r : List Nat) : List AV := r.map fun (n : Nat) => .int n
theorem nI_len (r : List Nat) : (nI r).length = r.length := by simp [nI]
theorem nI_get (r : List Nat) (i : Nat) : (nI r)[i]? = (r[i]?).map fun (n : Nat) => AV.int n := by simp [nI]
theorem nI_app (r q : List Nat) : nI (r ++ q) = nI r ++ nI q := by simp [nI]
theorem nI_set (r : List Nat) (i b : Nat) : nI (r.set i b) = (nI r).set i (.int b) := by simp [nI, List.map_set]
noncomputable def hpT (T : List (List Nat)) : Hp := T.map fun r => .list (nI r)
theorem listAt_mid (pre post : Hp) (xs : List AV) : listAt (pre ++ .list xs :: post) pre.length = some xs := by
  unfold listAt
  rw [List.getElem?_append_right (Nat.le_refl _), Nat.sub_self]
  rfl
theorem set_mid (pre post : Hp) (x y : AObj) : (pre ++ x :: post).set pre.length y = pre ++ y :: post := by
  rw [List.set_append_right _ _ (Nat.le_refl _), Nat.sub_self]
  rfl

theorem mapIf_le {F : Fns} {c : Nat} (hc : c ≠ 16) (b : Nat) (σ : Hp) : ∀ r : List Nat,
    mapIf (fun a => otru (evP F (.cmp .LtE (.var 16) (.var c)) ((16, a) :: [(c, .int b)]) σ)) (fun a => evP F (.var 16) ((16, a) :: [(c, .int b)]) σ) (nI r) = some (nI (r.filter fun x => Nat.ble x b))
  | [] => rfl
  | x :: r => by
    have ih := mapIf_le (F := F) hc b σ r
    have e1 : evP F (.var 16) [(16, .int x), (c, .int b)] σ = some (.int x) := rfl
    have e2 : otru (evP F (.cmp .LtE (.var 16) (.var c)) [(16, .int x), (c, .int b)] σ) = some (Nat.ble x b) := by
      have : decide ((x : Int) ≤ (b : Int)) = Nat.ble x b := by
        by_cases h : x ≤ b
        · rw [ble_t h]; simp; omega
        · rw [ble_f h]; simp; omega
      refine tru_cmp (a := .int x) (b := .int b) (ev_var rfl) (ev_var ?_) (congrArg some this)
      show (if c = 16 then some (AV.int x) else if c = c then some (AV.int b) else none) = _
      rw [if_neg hc, if_pos rfl]
    show mapIf _ _ (.int x :: nI r) = _
    simp only [mapIf, e1, e2]
    cases h : Nat.ble x b
    · simp only [List.filter, h]; exact ih
    · simp only [List.filter, h]; rw [ih]; rfl

theorem ev_le {F : Fns} {vs : Vars} {σ : Hp} {c o b : Nat} {x : AV} {r : List Nat} (hc : c ≠ 16) (ho : lk o vs = some x) (hx : iterA σ x = some (nI r)) (hb : lk c vs = some (.int b)) :
    evP F (.len (.compIf 16 [c] (.var o) (.cmp .LtE (.var 16) (.var c)) (.var 16))) vs σ = some (.int (atN b r : Nat)) := by
  have e : evP F (.compIf 16 [c] (.var o) (.cmp .LtE (.var 16) (.var c)) (.var 16)) vs σ = some (.lst (nI (r.filter fun x => Nat.ble x b))) := by
    exact ev_compIf (ev_var ho) hx (by simp only [capV, hb]) (mapIf_le hc b σ r)
  rw [ev_len e]
  show some (AV.int (nI _).length) = _
  rw [nI_len]
  rfl

/-- the code's row step -/
noncomputable def pInner : PS := .seq (.asg 22 (.len (.compIf 16 [33] (.var 32) (.cmp .LtE (.var 16) (.var 33)) (.var 16)))) (.seq (.ite (.cmp .Eq (.var 22) (.len (.var 32))) (.seq (.app 32 (.var 33)) (.seq (.brk) (.skip))) (.skip)) (.seq (.asg 34 (.item (.var 32) (.var 22))) (.seq (.seti 32 22 33) (.seq (.asg 33 (.var 34)) (.skip)))))
noncomputable def locs (i : Nat) : Nat → List AV
  | 0 => []
  | n + 1 => .loc i :: locs (i + 1) n

theorem inner_ok : ∀ (T : List (List Nat)) (pre : Hp) (b : Nat) (vs : Vars), (∀ r ∈ T, r.length ≤ 1000) → lk 33 vs = some (.int b) →
    ∃ vs', forL 32 (exP F0 I0 pInner) (locs pre.length T.length) vs (pre ++ hpT T) = some (.next, vs', pre ++ hpT (insN b T)) ∧ ∀ n, n ≠ 32 → n ≠ 22 → n ≠ 34 → n ≠ 33 → lk n vs' = lk n vs
  | [], pre, b, vs, _, _ => ⟨vs, rfl, fun _ _ _ _ _ => rfl⟩
  | r :: T, pre, b, vs, hT, hb => by
    have hr : r.length ≤ 1000 := hT r List.mem_cons_self
    have hT' : ∀ q ∈ T, q.length ≤ 1000 := fun q hq => hT q (List.mem_cons_of_mem _ hq)
    have hl : listAt (pre ++ hpT (r :: T)) pre.length = some (nI r) := listAt_mid _ _ _
    have hat : atN b r ≤ r.length := List.length_filter_le _ _
    have s1 : exP F0 I0 (.asg 22 (.len (.compIf 16 [33] (.var 32) (.cmp .LtE (.var 16) (.var 33)) (.var 16)))) (setVar 32 (.loc pre.length) vs) (pre ++ hpT (r :: T)) =
        some (.next, setVar 22 (.int (atN b r : Nat)) (setVar 32 (.loc pre.length) vs), pre ++ hpT (r :: T)) :=
      asg_n (ev_le (x := .loc pre.length) (by decide) (by simp [lk_setVar]) hl (by simp [lk_setVar, hb]))
    have c1 : otru (evP F0 (.cmp .Eq (.var 22) (.len (.var 32))) (setVar 22 (.int (atN b r : Nat)) (setVar 32 (.loc pre.length) vs)) (pre ++ hpT (r :: T))) = some (decide (atN b r = r.length)) := by
      have : (((atN b r : Nat) : Int) == (r.length : Int)) = decide (atN b r = r.length) := by
        by_cases h : atN b r = r.length
        · rw [h]; simp
        · rw [decide_eq_false h]; exact beq_eq_false_iff_ne.mpr (by omega)
      have el : evP F0 (.len (.var 32)) (setVar 22 (.int (atN b r : Nat)) (setVar 32 (.loc pre.length) vs)) (pre ++ hpT (r :: T)) = some (.int (r.length : Nat)) := by
        rw [ev_len (ev_var (v := .loc pre.length) (by simp [lk_setVar]))]
        show (listAt _ pre.length).map _ = _
        rw [hl, Option.map_some, nI_len]
      exact tru_cmp (ev_var (v := .int (atN b r : Nat)) (by simp [lk_setVar])) el (congrArg some this)
    show ∃ vs', forL 32 (exP F0 I0 pInner) (.loc pre.length :: locs (pre.length + 1) T.length) vs (pre ++ hpT (r :: T)) = _ ∧ _
    by_cases he : atN b r = r.length
    · rw [decide_eq_true he] at c1
      have hset : (pre ++ hpT (r :: T)).set pre.length (.list (nI r ++ [.int b])) = pre ++ hpT (insN b (r :: T)) := by
        rw [row_end he, show hpT (r :: T) = AObj.list (nI r) :: hpT T from rfl, set_mid, show hpT ((r ++ [b]) :: T) = AObj.list (nI (r ++ [b])) :: hpT T from rfl, nI_app]
        rfl
      refine ⟨setVar 22 (.int (atN b r : Nat)) (setVar 32 (.loc pre.length) vs), for_b ((seq_n s1).trans (seq_b ((ite_t c1).trans ((seq_n (app_n (l := pre.length) (xs := nI r) (v := .int b) (by simp [lk_setVar]) (ev_var (by simp [lk_setVar, hb])) hl (by rw [nI_len]; omega))).trans (seq_b ?_))))), ?_⟩
      · rw [hset]; exact brk_b
      · intro n h1 h2 h3 h4
        simp [lk_setVar, h1, h2]
    · rw [decide_eq_false he] at c1
      have hlt : atN b r < r.length := by omega
      have hg : r[atN b r]? = some r[atN b r] := by simp [hlt]
      have hb33 : lk 33 (setVar 34 (.int (r[atN b r] : Nat)) (setVar 22 (.int (atN b r : Nat)) (setVar 32 (.loc pre.length) vs))) = some (.int b) := by simp [lk_setVar, hb]
      obtain ⟨vs', e', k'⟩ := inner_ok T (pre ++ [.list (nI (r.set (atN b r) b))]) r[atN b r] (setVar 33 (.int (r[atN b r] : Nat)) (setVar 34 (.int (r[atN b r] : Nat)) (setVar 22 (.int (atN b r : Nat)) (setVar 32 (.loc pre.length) vs)))) hT' (by simp [lk_setVar])
      refine ⟨vs', ?_, fun n h1 h2 h3 h4 => (k' n h1 h2 h3 h4).trans (by simp [lk_setVar, h1, h2, h3, h4])⟩
      rw [row_some hg]
      rw [List.length_append, List.length_singleton, List.append_assoc, List.append_assoc] at e'
      refine Eq.trans (for_n ((seq_n s1).trans ((seq_n ((ite_f c1).trans skip_n)).trans ((seq_n (asg_n (v := .int (r[atN b r] : Nat)) ?_)).trans ((seq_n (seti_n (k := atN b r) (l := pre.length) (xs := nI r) hb33 (by simp [lk_setVar]) (by simp [lk_setVar]) hl (by rw [nI_len]; exact hlt))).trans ((seq_n (asg_n (v := .int (r[atN b r] : Nat)) (ev_var (by simp [lk_setVar])))).trans skip_n)))))) ?_
      · exact ev_itemN (xs := nI r) (ev_var (v := .loc pre.length) (by simp [lk_setVar])) (ev_var (v := .int (atN b r : Nat)) (by simp [lk_setVar])) hl (by rw [nI_get, hg]; rfl)
      · rw [show pre ++ hpT (r :: T) = pre ++ AObj.list (nI r) :: hpT T from rfl, set_mid, ← nI_set]
        exact e'
end Mine
end

section
open PySem PySem.Calls PyProof.Rows PySem.W
set_option maxRecDepth 100000
set_option linter.unusedSimpArgs false
set_option linter.unusedVariables false
namespace Mine

noncomputable def pOuter : PS := .seq (.asg 33 (.var 35)) (.seq (.loop 32 (.var 31) pInner) (.skip))
noncomputable def pRet : PE := .comp 19 [31] (.rng2 (.cst (.int 1)) (.cst (.int 5))) (.comp 32 [19] (.slice (.var 31) (.cst .none) (.var 19) (.cst .none)) (.len (.compIf 16 [19] (.var 32) (.cmp .LtE (.var 16) (.var 19)) (.var 16))))
theorem p_patt_eq : p_patt = .seq (.rows4 31) (.seq (.loop 35 (.var 29) pOuter) (.seq (.ret pRet) (.skip))) := rfl

theorem insN_len : ∀ (T : List (List Nat)) (b : Nat), (insN b T).length = T.length
  | [], b => rfl
  | r :: T, b => by
    unfold insN
    split
    · simp
    · simp [insN_len T]
theorem insN_rows {M : Nat} : ∀ (T : List (List Nat)) (b : Nat), (∀ r ∈ T, r.length ≤ M) → ∀ r ∈ insN b T, r.length ≤ M + 1
  | [], b, _, r, h => by cases h
  | q :: T, b, hT, r, h => by
    have hq := hT q List.mem_cons_self
    unfold insN at h
    split at h
    · rcases List.mem_cons.mp h with rfl | h
      · simp; omega
      · exact Nat.le_succ_of_le (hT r (List.mem_cons_of_mem _ h))
    · rcases List.mem_cons.mp h with rfl | h
      · simp; omega
      · exact insN_rows T _ (fun q hq => hT q (List.mem_cons_of_mem _ hq)) r h

theorem outer_ok : ∀ (w : List Nat) (T : List (List Nat)) (M : Nat) (vs : Vars), T.length = 4 → (∀ r ∈ T, r.length ≤ M) → M + w.length ≤ 1000 → lk 31 vs = some (.lst (locs 0 4)) →
    ∃ vs', forL 35 (exP F0 I0 pOuter) (nI w) vs (hpT T) = some (.next, vs', hpT (w.foldl (fun T x => insN x T) T)) ∧ lk 31 vs' = some (.lst (locs 0 4))
  | [], T, M, vs, _, _, _, h31 => ⟨vs, rfl, h31⟩
  | x :: w, T, M, vs, hT, hr, hM, h31 => by
    rw [List.length_cons] at hM
    obtain ⟨vs₁, e₁, k₁⟩ := inner_ok T [] x (setVar 33 (.int (x : Nat)) (setVar 35 (.int (x : Nat)) vs)) (fun r q => by have := hr r q; omega) (by simp [lk_setVar])
    rw [hT] at e₁
    have h31' : lk 31 vs₁ = some (.lst (locs 0 4)) := by rw [k₁ 31 (by decide) (by decide) (by decide) (by decide)]; simp [lk_setVar, h31]
    obtain ⟨vs₂, e₂, k₂⟩ := outer_ok w (insN x T) (M + 1) vs₁ ((insN_len T x).trans hT) (insN_rows T x hr) (by omega) h31'
    refine ⟨vs₂, ?_, k₂⟩
    show forL 35 (exP F0 I0 pOuter) (.int (x : Nat) :: nI w) vs (hpT T) = _
    refine Eq.trans (for_n (vs1 := vs₁) (σ1 := hpT (insN x T)) ((seq_n (asg_n (v := .int (x : Nat)) (ev_var (by simp [lk_setVar])))).trans ((seq_n ((loop_e (v := .lst (locs 0 4)) (ev_var (by simp [lk_setVar, h31])) rfl).trans e₁)).trans skip_n))) e₂

theorem ret_row {σ : Hp} {r0 r1 r2 r3 : List Nat} (k : Nat) (ls : List AV) (q : List (List Nat)) (h : pickA (locs 0 4) none (some (k : Int)) none = ls) (hl : mapO (fun a => evP F0 (.len (.compIf 16 [19] (.var 32) (.cmp .LtE (.var 16) (.var 19)) (.var 16))) ((32, a) :: [(19, .int (k : Nat))]) σ) ls = some (nI (q.map (atN k)))) :
    evP F0 (.comp 32 [19] (.slice (.var 31) (.cst .none) (.var 19) (.cst .none)) (.len (.compIf 16 [19] (.var 32) (.cmp .LtE (.var 16) (.var 19)) (.var 16)))) ((19, .int (k : Nat)) :: [(31, .lst (locs 0 4))]) σ = some (.lst (nI (q.map (atN k)))) := by
  have e1 : evP F0 (.slice (.var 31) (.cst .none) (.var 19) (.cst .none)) ((19, .int (k : Nat)) :: [(31, .lst (locs 0 4))]) σ = some (.lst ls) := by
    rw [ev_slice (a := .lst (locs 0 4)) (ev_var rfl) ev_cst (ev_var rfl) ev_cst, sl_gen (x := none) (y := some (k : Int)) (z := none) rfl rfl rfl rfl (by decide), h]
  exact ev_comp e1 rfl rfl hl
theorem map_loc {σ : Hp} {k : Nat} : ∀ (ls : List AV) (q : List (List Nat)), ls.length = q.length → (∀ (i : Nat) (x : AV) (r : List Nat), ls[i]? = some x → q[i]? = some r → iterA σ x = some (nI r)) →
    mapO (fun a => evP F0 (.len (.compIf 16 [19] (.var 32) (.cmp .LtE (.var 16) (.var 19)) (.var 16))) ((32, a) :: [(19, .int (k : Nat))]) σ) ls = some (nI (q.map (atN k)))
  | [], [], _, _ => rfl
  | x :: ls, r :: q, h, hi => by
    have e := ev_le (F := F0) (vs := (32, x) :: [(19, .int (k : Nat))]) (σ := σ) (c := 19) (o := 32) (b := k) (x := x) (r := r) (by decide) rfl (hi 0 x r rfl rfl) rfl
    have ih := map_loc (σ := σ) (k := k) ls q (by simpa using h) fun i x r a b => hi (i + 1) x r a b
    simp only [mapO, e, ih]
    rfl
  | [], _ :: _, h, _ => by simp at h
  | _ :: _, [], h, _ => by simp at h

noncomputable def rowsA (q : List (List Nat)) : AV := .lst (q.map fun r => .lst (nI r))
theorem ret_ok {vs : Vars} {r0 r1 r2 r3 : List Nat} (h31 : lk 31 vs = some (.lst (locs 0 4))) :
    evP F0 pRet vs (hpT [r0, r1, r2, r3]) = some (rowsA [[atN 1 r0], [atN 2 r0, atN 2 r1], [atN 3 r0, atN 3 r1, atN 3 r2], [atN 4 r0, atN 4 r1, atN 4 r2, atN 4 r3]]) := by
  have e1 := ret_row (σ := hpT [r0, r1, r2, r3]) (r0 := r0) (r1 := r1) (r2 := r2) (r3 := r3) 1 [.loc 0] [r0] (by rfl) (map_loc _ _ rfl (by
    intro i x r a b
    match i with
    | 0 => cases a; cases b; rfl
    | n + 1 => simp at a))
  have e2 := ret_row (σ := hpT [r0, r1, r2, r3]) (r0 := r0) (r1 := r1) (r2 := r2) (r3 := r3) 2 [.loc 0, .loc 1] [r0, r1] (by rfl) (map_loc _ _ rfl (by
    intro i x r a b
    match i with
    | 0 => cases a; cases b; rfl
    | 1 => cases a; cases b; rfl
    | n + 2 => simp at a))
  have e3 := ret_row (σ := hpT [r0, r1, r2, r3]) (r0 := r0) (r1 := r1) (r2 := r2) (r3 := r3) 3 [.loc 0, .loc 1, .loc 2] [r0, r1, r2] (by rfl) (map_loc _ _ rfl (by
    intro i x r a b
    match i with
    | 0 => cases a; cases b; rfl
    | 1 => cases a; cases b; rfl
    | 2 => cases a; cases b; rfl
    | n + 3 => simp at a))
  have e4 := ret_row (σ := hpT [r0, r1, r2, r3]) (r0 := r0) (r1 := r1) (r2 := r2) (r3 := r3) 4 [.loc 0, .loc 1, .loc 2, .loc 3] [r0, r1, r2, r3] (by rfl) (map_loc _ _ rfl (by
    intro i x r a b
    match i with
    | 0 => cases a; cases b; rfl
    | 1 => cases a; cases b; rfl
    | 2 => cases a; cases b; rfl
    | 3 => cases a; cases b; rfl
    | n + 4 => simp at a))
  have er : evP F0 (.rng2 (.cst (.int 1)) (.cst (.int 5))) vs (hpT [r0, r1, r2, r3]) = some (.rng 1 5) := by rfl
  have ec : capV [31] vs = some [(31, .lst (locs 0 4))] := by simp only [capV, h31]
  have ei : iterA (hpT [r0, r1, r2, r3]) (.rng 1 5) = some [.int (1 : Nat), .int (2 : Nat), .int (3 : Nat), .int (4 : Nat)] := by rfl
  refine (ev_comp er ei ec (ys := [_, _, _, _]) ?_).trans rfl
  simp only [mapO, e1, e2, e3, e4]
  rfl

theorem frz_rows (σ : Hp) : ∀ q : List (List Nat), frz σ (rowsA q) = some (rowsA q) := by
  intro q
  have at_ : ∀ r : List Nat, (nI r).all atom = true := by
    intro r; simp [nI, atom]
  have : mapO (frz0 σ) (q.map fun r => AV.lst (nI r)) = some (q.map fun r => AV.lst (nI r)) := by
    induction q with
    | nil => rfl
    | cons r q ih =>
      have : frz0 σ (.lst (nI r)) = some (.lst (nI r)) := by simp only [frz0, flat, at_, if_true]
      simp only [List.map_cons, mapO, this, ih]
  unfold rowsA frz
  simp only [this, Option.bind_some]
/-- a pattern as data -/
noncomputable def patR (P : Pat) : List (List Nat) := [[P.a], [P.b0, P.b1], [P.c0, P.c1, P.c2], [P.d0, P.d1, P.d2, P.d3]]
theorem patt_ok {w : List Nat} (hw : w.length ≤ 8) (hl : ∀ x ∈ w, Pat.Lt x) : runF F0 I0 [29] p_patt [.lst (nI w)] = some (rowsA (patR (Pat.ofW w))) := by
  obtain ⟨vs', e, h31⟩ := outer_ok w [[], [], [], []] 0 (setVar 31 (.lst (locs 0 4)) [(29, .lst (nI w))]) rfl (by simp) (by omega) (by simp [lk_setVar])
  have eT : w.foldl (fun T x => insN x T) [[], [], [], []] = tabP (Pat.ofW w) := tabW_eq w hw hl
  rw [eT] at e
  obtain ⟨V, hs⟩ := Pat.ofW_vld w hw hl
  have hr : exP F0 I0 p_patt [(29, .lst (nI w))] [] = some (.ret (rowsA (patR (Pat.ofW w))), vs', hpT (tabP (Pat.ofW w))) := by
    rw [p_patt_eq]
    refine (seq_n (vs1 := setVar 31 (.lst (locs 0 4)) [(29, .lst (nI w))]) (σ1 := hpT [[], [], [], []]) rfl).trans ((seq_n ((loop_e (v := .lst (nI w)) (ev_var (by simp [lk_setVar, lk])) rfl).trans e)).trans (seq_r (ret_r ?_)))
    refine (ret_ok h31).trans ?_
    obtain ⟨h1, h2, h3, h4, h5, h6, h7, h8, h9, h10, h11, h12⟩ := V
    generalize Pat.ofW w = P at *
    simp (decide := true) only [atN_rep4, if_true, if_false, patR, Nat.zero_add, Nat.add_zero]
    have e1 : P.a + (P.b0 - P.a) = P.b0 := Nat.add_sub_of_le h11
    have e2 : P.a + (P.b0 - P.a + (P.c0 - P.b0)) = P.c0 := by rw [← Nat.add_assoc, e1, Nat.add_sub_of_le h7]
    have e3 : P.a + (P.b0 - P.a + (P.c0 - P.b0 + (P.d0 - P.c0))) = P.d0 := by rw [← Nat.add_assoc, e1, ← Nat.add_assoc, Nat.add_sub_of_le h7, Nat.add_sub_of_le h1]
    have e4 : P.b1 + (P.c1 - P.b1 + (P.d1 - P.c1)) = P.d1 := by rw [← Nat.add_assoc, Nat.add_sub_of_le h9, Nat.add_sub_of_le h3]
    rw [e1, e2, e3, e4, Nat.add_sub_of_le h9, Nat.add_sub_of_le h5]
  exact run_ret rfl hr (frz_rows _ _)
end Mine
end

section
open PySem PySem.Calls PyProof.Rows PySem.W
set_option maxRecDepth 100000
set_option linter.unusedSimpArgs false
set_option linter.unusedVariables false
namespace Mine

noncomputable def pLeast : PE := .bin .Sub (.bin .Mult (.cst (.int 2)) (.item (.call 0 (.cons (.item (.var 42) (.var 40)) (.cons (.item (.var 41) (.var 40)) (.cons (.cst (.flt 0x3ff0000000000000)) (.nil))))) (.cst (.int 1)))) (.cst (.int 1))
noncomputable def pGreat : PE := .item (.call 1 (.cons (.item (.var 42) (.bin .Add (.var 40) (.cst (.int 1)))) (.cons (.item (.var 41) (.bin .Add (.var 40) (.cst (.int 1)))) (.cons (.cst (.flt 0x0000000000000000)) (.nil))))) (.cst (.int 2))
noncomputable def pFresh : PE := .bin .Sub (.trunc (.bin .Add (.bin .Mult (.cst (.int 16)) (.var 38)) (.bin .Mult (.cst (.int 16)) (.var 39)))) (.item (.item (.var 36) (.bin .Sub (.var 19) (.cst (.int 1)))) (.var 40))
noncomputable def pBody : PS := .seq (.asg 38 pLeast) (.seq (.asg 39 pGreat) (.seq (.app 37 pFresh) (.skip)))
noncomputable def pAbove : PE := .comp 16 [] (.item (.var 36) (.var 19)) (.bin .Div (.var 16) (.cst (.int 16)))
noncomputable def pBelow : PE := .ife (.cmp .Gt (.var 19) (.cst (.int 1))) (.bin .Add (.bin .Add (.cons (.cst (.flt 0x3ff0000000000000)) (.nil)) (.comp 16 [] (.item (.var 36) (.bin .Sub (.var 19) (.cst (.int 2)))) (.bin .Div (.var 16) (.cst (.int 16))))) (.cons (.cst (.flt 0x0000000000000000)) (.nil))) (.cons (.cst (.flt 0x3ff0000000000000)) (.cons (.cst (.flt 0x0000000000000000)) (.nil)))
noncomputable def pLedRet : PE := .bin .Add (.bin .Add (.slice (.var 36) (.cst .none) (.bin .Sub (.var 19) (.cst (.int 1))) (.cst .none)) (.cons (.var 37) (.nil))) (.slice (.var 36) (.var 19) (.cst .none) (.cst .none))
theorem p_led_eq : p_led = .seq (.asg 42 pAbove) (.seq (.asg 41 pBelow) (.seq (.newl 37 (.nil)) (.seq (.loop 40 (.rng1 (.var 19)) pBody) (.seq (.ret pLedRet) (.skip))))) := rfl

theorem itF_of {r : Option AV} {k : Nat} {p : UInt64 → Bool} (h : (itF r k).elim false p = true) : ∃ xs y, r = some (.tup xs) ∧ xs[k]? = some (.flt y) ∧ p y = true := by
  cases e : itF r k with
  | none => rw [e] at h; cases h
  | some y =>
    rw [e] at h
    obtain ⟨xs, e1, e2⟩ := bind_inv e
    obtain ⟨v, e3, e4⟩ := bind_inv e1
    obtain ⟨x, e5, e6⟩ := bind_inv e2
    cases v with
    | tup ys =>
      cases e4
      cases x with
      | flt z => cases e6; exact ⟨_, _, e3, e5, h⟩
      | _ => cases e6
    | _ => cases e4
theorem hlsOk_of {r : Option AV} {m : Nat} (h : hlsOk r m = true) : ∃ xs y, r = some (.tup xs) ∧ xs[1]? = some (.flt y) ∧ Float64.mul (Float64.ofInt 16) (Float64.sub (Float64.mul (Float64.ofInt 2) y) (Float64.ofInt 1)) = fi m := by
  obtain ⟨xs, y, e1, e2, e3⟩ := itF_of h
  exact ⟨xs, y, e1, e2, beq_iff_eq.mp e3⟩
theorem hsvOk_of {r : Option AV} {m : Nat} (h : hsvOk r m = true) : ∃ xs y, r = some (.tup xs) ∧ xs[2]? = some (.flt y) ∧ Float64.mul (Float64.ofInt 16) y = fi m := by
  obtain ⟨xs, y, e1, e2, e3⟩ := itF_of h
  exact ⟨xs, y, e1, e2, beq_iff_eq.mp e3⟩
theorem add_ok {a b : Nat} (ha : a ≤ 8) (hb : b ≤ 8) : truncA (.flt (Float64.add (fi a) (fi b))) = some (.int ((a + b : Nat) : Int)) := by
  have := upto_of (upto_of tab_add a (by omega)) b (by omega)
  split at this
  · rename_i i e
    rw [e, beq_iff_eq.mp this]
  · cases this
theorem div_ok {a : Nat} (ha : a ≤ 8) (σ : Hp) : binA .Div (.int (a : Nat)) (.int 16) σ = some (.flt (fl a)) := by
  have := upto_of tab_div a (by omega)
  have e : binA .Div (.int (a : Nat)) (.int 16) σ = binA .Div (.int (a : Nat)) (.int 16) [] := rfl
  rw [e]
  split at this
  · rename_i y e
    rw [e, beq_iff_eq.mp this]
  · cases this

theorem led_body {vs : Vars} {A B : List AV} {R : List (List Nat)} {row : List Nat} {k j e lo hi : Nat} {a a' b b' : UInt64} {out : List AV} (h42 : lk 42 vs = some (.lst A)) (h41 : lk 41 vs = some (.lst B)) (h36 : lk 36 vs = some (rowsA R)) (h19 : lk 19 vs = some (.int ((k + 1 : Nat) : Int))) (h37 : lk 37 vs = some (.loc 0))
    (hj : j < 4) (ha : A[j]? = some (.flt a)) (ha' : A[j + 1]? = some (.flt a')) (hb : B[j]? = some (.flt b)) (hb' : B[j + 1]? = some (.flt b')) (hr : R[k]? = some row) (he : row[j]? = some e)
    (hl : hlsOk (F1 0 [.flt a, .flt b, .flt fone]) lo = true) (hh : hsvOk (F1 1 [.flt a', .flt b', .flt fzer]) hi = true) (hlo : lo ≤ 8) (hhi : hi ≤ 8) (ho : out.length ≤ 100) :
    ∃ vs', exP F1 I1 pBody (setVar 40 (.int (j : Nat)) vs) [.list out] = some (.next, vs', [.list (out ++ [.int (((lo + hi : Nat) : Int) - (e : Nat))])]) ∧ ∀ n, n ≠ 40 → n ≠ 38 → n ≠ 39 → lk n vs' = lk n vs := by
  obtain ⟨xs, y, el, ey, em⟩ := hlsOk_of hl
  obtain ⟨xs', y', eh, ey', em'⟩ := hsvOk_of hh
  have e1 : evP F1 pLeast (setVar 40 (.int (j : Nat)) vs) [.list out] = some (.flt (Float64.sub (Float64.mul (Float64.ofInt 2) y) (Float64.ofInt 1))) := by
    have c : callA F1 0 (.lst [.flt a, .flt b, .flt fone]) = some (.tup xs) := by
      exact (callA_of rfl).trans el
    have i1 : evP F1 (.item (.var 42) (.var 40)) (setVar 40 (.int (j : Nat)) vs) [.list out] = some (.flt a) := by
      exact ev_itemN (ev_var (v := .lst A) (by simp [lk_setVar, h42])) (ev_var (by simp [lk_setVar])) rfl ha
    have i2 : evP F1 (.item (.var 41) (.var 40)) (setVar 40 (.int (j : Nat)) vs) [.list out] = some (.flt b) := by
      exact ev_itemN (ev_var (v := .lst B) (by simp [lk_setVar, h41])) (ev_var (by simp [lk_setVar])) rfl hb
    have i3 : evP F1 (.call 0 (.cons (.item (.var 42) (.var 40)) (.cons (.item (.var 41) (.var 40)) (.cons (.cst (.flt 0x3ff0000000000000)) (.nil))))) (setVar 40 (.int (j : Nat)) vs) [.list out] = some (.tup xs) := by
      exact (ev_call ((ev_cons i1 ((ev_cons i2 ((ev_cons ev_cst ev_nil).trans rfl)).trans rfl)).trans rfl)).trans c
    unfold pLeast
    exact (ev_bin ((ev_bin ev_cst (ev_itemN (k := 1) i3 ev_cst rfl ey)).trans rfl) ev_cst).trans rfl
  have e2 : evP F1 pGreat (setVar 38 (.flt (Float64.sub (Float64.mul (Float64.ofInt 2) y) (Float64.ofInt 1))) (setVar 40 (.int (j : Nat)) vs)) [.list out] = some (.flt y') := by
    have c : callA F1 1 (.lst [.flt a', .flt b', .flt fzer]) = some (.tup xs') := by
      exact (callA_of rfl).trans eh
    have t : ((j : Nat) : Int) + 1 = ((j + 1 : Nat) : Int) := by omega
    have i1 : evP F1 (.item (.var 42) (.bin .Add (.var 40) (.cst (.int 1)))) (setVar 38 (.flt (Float64.sub (Float64.mul (Float64.ofInt 2) y) (Float64.ofInt 1))) (setVar 40 (.int (j : Nat)) vs)) [.list out] = some (.flt a') := by
      exact ev_itemN (k := j + 1) (ev_var (v := .lst A) (by simp [lk_setVar, h42])) ((ev_bin (ev_var (v := .int (j : Nat)) (by simp [lk_setVar])) ev_cst).trans (congrArg (fun z => some (AV.int z)) t)) rfl ha'
    have i2 : evP F1 (.item (.var 41) (.bin .Add (.var 40) (.cst (.int 1)))) (setVar 38 (.flt (Float64.sub (Float64.mul (Float64.ofInt 2) y) (Float64.ofInt 1))) (setVar 40 (.int (j : Nat)) vs)) [.list out] = some (.flt b') := by
      exact ev_itemN (k := j + 1) (ev_var (v := .lst B) (by simp [lk_setVar, h41])) ((ev_bin (ev_var (v := .int (j : Nat)) (by simp [lk_setVar])) ev_cst).trans (congrArg (fun z => some (AV.int z)) t)) rfl hb'
    have i3 : evP F1 (.call 1 (.cons (.item (.var 42) (.bin .Add (.var 40) (.cst (.int 1)))) (.cons (.item (.var 41) (.bin .Add (.var 40) (.cst (.int 1)))) (.cons (.cst (.flt 0x0000000000000000)) (.nil))))) (setVar 38 (.flt (Float64.sub (Float64.mul (Float64.ofInt 2) y) (Float64.ofInt 1))) (setVar 40 (.int (j : Nat)) vs)) [.list out] = some (.tup xs') := by
      exact (ev_call ((ev_cons i1 ((ev_cons i2 ((ev_cons ev_cst ev_nil).trans rfl)).trans rfl)).trans rfl)).trans c
    unfold pGreat
    exact ev_itemN (k := 2) i3 ev_cst rfl ey'
  have e3 : evP F1 pFresh (setVar 39 (.flt y') (setVar 38 (.flt (Float64.sub (Float64.mul (Float64.ofInt 2) y) (Float64.ofInt 1))) (setVar 40 (.int (j : Nat)) vs))) [.list out] = some (.int (((lo + hi : Nat) : Int) - (e : Nat))) := by
    have t : ((k + 1 : Nat) : Int) - 1 = ((k : Nat) : Int) := by omega
    have hr' : (R.map fun r => AV.lst (nI r))[k]? = some (.lst (nI row)) := by simp [hr]
    have he' : (nI row)[j]? = some (.int (e : Nat)) := by rw [nI_get, he]; rfl
    generalize hvs : setVar 39 (AV.flt y') (setVar 38 (.flt (Float64.sub (Float64.mul (Float64.ofInt 2) y) (Float64.ofInt 1))) (setVar 40 (.int (j : Nat)) vs)) = vs₂
    have g36 : lk 36 vs₂ = some (rowsA R) := by rw [← hvs]; simp [lk_setVar, h36]
    have g19 : lk 19 vs₂ = some (.int ((k + 1 : Nat) : Int)) := by rw [← hvs]; simp [lk_setVar, h19]
    have g40 : lk 40 vs₂ = some (.int (j : Nat)) := by rw [← hvs]; simp [lk_setVar]
    have g38 : lk 38 vs₂ = some (.flt (Float64.sub (Float64.mul (Float64.ofInt 2) y) (Float64.ofInt 1))) := by rw [← hvs]; simp [lk_setVar]
    have g39 : lk 39 vs₂ = some (.flt y') := by rw [← hvs]; simp [lk_setVar]
    have i1 : evP F1 (.bin .Sub (.var 19) (.cst (.int 1))) vs₂ [.list out] = some (.int (k : Nat)) := by
      exact (ev_bin (ev_var g19) ev_cst).trans (congrArg (fun z => some (AV.int z)) t)
    have i2 : evP F1 (.item (.var 36) (.bin .Sub (.var 19) (.cst (.int 1)))) vs₂ [.list out] = some (.lst (nI row)) := ev_itemN (ev_var g36) i1 rfl hr'
    have i3 : evP F1 (.item (.item (.var 36) (.bin .Sub (.var 19) (.cst (.int 1)))) (.var 40)) vs₂ [.list out] = some (.int (e : Nat)) := ev_itemN i2 (ev_var g40) rfl he'
    have i4 : evP F1 (.bin .Mult (.cst (.int 16)) (.var 38)) vs₂ [.list out] = some (.flt (fi lo)) := by
      exact (ev_bin ev_cst (ev_var g38)).trans (congrArg (fun z => some (AV.flt z)) em)
    have i5 : evP F1 (.bin .Mult (.cst (.int 16)) (.var 39)) vs₂ [.list out] = some (.flt (fi hi)) := by
      exact (ev_bin ev_cst (ev_var g39)).trans (congrArg (fun z => some (AV.flt z)) em')
    have i6 : evP F1 (.trunc (.bin .Add (.bin .Mult (.cst (.int 16)) (.var 38)) (.bin .Mult (.cst (.int 16)) (.var 39)))) vs₂ [.list out] = some (.int ((lo + hi : Nat) : Int)) := by
      exact (ev_trunc ((ev_bin i4 i5).trans rfl)).trans (add_ok hlo hhi)
    unfold pFresh
    exact (ev_bin i6 i3).trans rfl
  refine ⟨_, (seq_n (asg_n e1)).trans ((seq_n (asg_n e2)).trans ((seq_n (app_n (l := 0) (xs := out) (by simp [lk_setVar, h37]) e3 rfl (by omega))).trans skip_n)), fun n h1 h2 h3 => by simp [lk_setVar, h1, h2, h3]⟩
end Mine
end

section
open PySem PySem.Calls PyProof.Rows PySem.W
set_option maxRecDepth 100000
set_option linter.unusedSimpArgs false
set_option linter.unusedVariables false
namespace Mine
open Pat

theorem hls_t {a b : Nat} (ha : a ≤ 8) (hb : b ≤ 8) : hlsOk (F1 0 [.flt (fl a), .flt (fl b), .flt fone]) (min a b) = true := upto_of (upto_of tab_hls a (by omega)) b (by omega)
theorem hls_1 {a : Nat} (ha : a ≤ 8) : hlsOk (F1 0 [.flt (fl a), .flt fone, .flt fone]) a = true := upto_of tab_hls1 a (by omega)
theorem hsv_t {a b : Nat} (ha : a ≤ 8) (hb : b ≤ 8) : hsvOk (F1 1 [.flt (fl a), .flt (fl b), .flt fzer]) (max a b) = true := upto_of (upto_of tab_hsv a (by omega)) b (by omega)
theorem hsv_0 {a : Nat} (ha : a ≤ 8) : hsvOk (F1 1 [.flt (fl a), .flt fzer, .flt fzer]) a = true := upto_of tab_hsv0 a (by omega)

noncomputable def flA (r : List Nat) : List AV := r.map fun n => .flt (fl n)
theorem map_div (σ : Hp) : ∀ r : List Nat, (∀ x ∈ r, x ≤ 8) → mapO (fun a => evP F1 (.bin .Div (.var 16) (.cst (.int 16))) ((16, a) :: []) σ) (nI r) = some (flA r)
  | [], _ => rfl
  | x :: r, h => by
    have ih := map_div σ r fun y hy => h y (List.mem_cons_of_mem _ hy)
    have e : evP F1 (.bin .Div (.var 16) (.cst (.int 16))) ((16, .int (x : Nat)) :: []) σ = some (.flt (fl x)) := (ev_bin (ev_var rfl) ev_cst).trans (div_ok (h x List.mem_cons_self) σ)
    show mapO _ (.int (x : Nat) :: nI r) = _
    simp only [mapO, e, ih]
    rfl
theorem ev_fl {vs : Vars} {σ : Hp} {it : PE} {r : List Nat} (h : evP F1 it vs σ = some (.lst (nI r))) (hr : ∀ x ∈ r, x ≤ 8) : evP F1 (.comp 16 [] it (.bin .Div (.var 16) (.cst (.int 16)))) vs σ = some (.lst (flA r)) := by
  exact ev_comp h rfl rfl (map_div σ r hr)
theorem ev_row {vs : Vars} {σ : Hp} {e : PE} {R : List (List Nat)} {k : Nat} {row : List Nat} (h36 : lk 36 vs = some (rowsA R)) (he : evP F1 e vs σ = some (.int (k : Nat))) (hr : R[k]? = some row) : evP F1 (.item (.var 36) e) vs σ = some (.lst (nI row)) := by
  refine ev_itemN (ev_var h36) he rfl ?_
  rw [List.getElem?_map, hr]; rfl

theorem led_small {P : Pat} (V : Vld P) (hs : size P ≤ 8) : P.a ≤ 8 ∧ P.b0 ≤ 8 ∧ P.b1 ≤ 8 ∧ P.c0 ≤ 8 ∧ P.c1 ≤ 8 ∧ P.c2 ≤ 8 ∧ P.d0 ≤ 8 ∧ P.d1 ≤ 8 ∧ P.d2 ≤ 8 ∧ P.d3 ≤ 8 := by
  have d0 : P.d0 ≤ 8 := Nat.le_trans (Nat.le_trans (Nat.le_add_right _ _) (Nat.le_trans (Nat.le_add_right _ _) (Nat.le_add_right _ _))) hs
  have c0 := Nat.le_trans V.h1 d0
  have b0 := Nat.le_trans V.h7 c0
  have a := Nat.le_trans V.h11 b0
  have b1 := Nat.le_trans V.h12 a
  have d1 := Nat.le_trans V.h2 c0
  have c1 := Nat.le_trans V.h3 d1
  have d2 := Nat.le_trans V.h4 c1
  have c2 := Nat.le_trans V.h5 d2
  exact ⟨a, b0, b1, c0, c1, c2, d0, d1, d2, Nat.le_trans V.h6 c2⟩
theorem led_ret {vs : Vars} {σ : Hp} {q : List (List Nat)} {k : Nat} (g36 : lk 36 vs = some (rowsA q)) (g19 : lk 19 vs = some (.int ((k + 1 : Nat) : Int))) (g37 : lk 37 vs = some (.loc 0)) (hq : q.length ≤ 10) :
    evP F1 pLedRet vs σ = some (.lst (((q.map fun r => AV.lst (nI r)).take k ++ [.loc 0]) ++ (q.map fun r => AV.lst (nI r)).drop (k + 1))) := by
  have e1 : evP F1 (.bin .Sub (.var 19) (.cst (.int 1))) vs σ = some (.int (k : Nat)) :=
    (ev_bin (ev_var g19) ev_cst).trans (congrArg (fun z => some (AV.int z)) (show ((k + 1 : Nat) : Int) - 1 = (k : Nat) by omega))
  have e2 : evP F1 (.slice (.var 36) (.cst .none) (.bin .Sub (.var 19) (.cst (.int 1))) (.cst .none)) vs σ = some (.lst ((q.map fun r => AV.lst (nI r)).take k)) := by
    rw [ev_slice (ev_var g36) ev_cst e1 ev_cst, sl_gen rfl rfl rfl rfl (by decide), pick_take]
  have e3 : evP F1 (.slice (.var 36) (.var 19) (.cst .none) (.cst .none)) vs σ = some (.lst ((q.map fun r => AV.lst (nI r)).drop (k + 1))) := by
    rw [ev_slice (ev_var g36) (ev_var g19) ev_cst ev_cst, sl_gen rfl rfl rfl rfl (by decide), pick_drop]
  have e4 : evP F1 (.cons (.var 37) .nil) vs σ = some (.lst [.loc 0]) := (ev_cons (ev_var g37) ev_nil).trans rfl
  have l1 : ((q.map fun r => AV.lst (nI r)).take k).length ≤ 10 := by rw [List.length_take, List.length_map]; omega
  have l2 : ((q.map fun r => AV.lst (nI r)).drop (k + 1)).length ≤ 10 := by rw [List.length_drop, List.length_map]; omega
  exact (ev_bin ((ev_bin e2 e4).trans (add_lst _ _ (by rw [List.length_singleton]; omega) _)) e3).trans (add_lst _ _ (by rw [List.length_append, List.length_singleton]; omega) _)

theorem sub_cast {x y : Nat} (h : y ≤ x) : ((x : Nat) : Int) - (y : Nat) = ((x - y : Nat) : Int) := (Int.ofNat_sub h).symm
theorem mx8 {a b : Nat} (ha : a ≤ 8) (hb : b ≤ 8) : max a b ≤ 8 := Nat.max_le.mpr ⟨ha, hb⟩
theorem mn8 {a b : Nat} (ha : a ≤ 8) : min a b ≤ 8 := Nat.le_trans (Nat.min_le_left _ _) ha
theorem led1_ok {P : Pat} (V : Vld P) (hs : size P ≤ 8) : runF F1 I1 [36, 19] p_led [rowsA (patR P), .int ((0 + 1 : Nat) : Int)] = some (rowsA (patR (led 1 P))) := by
  obtain ⟨ha, hb0, hb1, hc0, hc1, hc2, hd0, hd1, hd2, hd3⟩ := led_small V hs
  have eA : evP F1 pAbove [(36, rowsA (patR P)), (19, .int ((0 + 1 : Nat) : Int))] [] = some (.lst (flA [P.b0, P.b1])) := ev_fl (ev_row rfl (k := 1) (ev_var rfl) rfl) (by simp [hb0, hb1])
  have eB : evP F1 pBelow (setVar 42 (.lst (flA [P.b0, P.b1])) [(36, rowsA (patR P)), (19, .int ((0 + 1 : Nat) : Int))]) [] = some (.lst [.flt fone, .flt fzer]) := rfl
  obtain ⟨vs₁, e₁, k₁⟩ := led_body (vs := setVar 37 (.loc 0) (setVar 41 (.lst [.flt fone, .flt fzer]) (setVar 42 (.lst (flA [P.b0, P.b1])) [(36, rowsA (patR P)), (19, .int ((0 + 1 : Nat) : Int))]))) (R := patR P) (k := 0) (j := 0) (row := [P.a]) (out := []) rfl rfl rfl rfl rfl (by decide) rfl rfl rfl rfl rfl rfl (hls_1 hb0) (hsv_0 hb1) hb0 hb1 (by simp)
  have hr : exP F1 I1 p_led [(36, rowsA (patR P)), (19, .int ((0 + 1 : Nat) : Int))] [] = some (.ret (.lst [.loc 0, .lst (nI [P.b0, P.b1]), .lst (nI [P.c0, P.c1, P.c2]), .lst (nI [P.d0, P.d1, P.d2, P.d3])]), vs₁, [.list [.int (((P.b0 + P.b1 : Nat) : Int) - (P.a : Nat))]]) := by
    rw [p_led_eq]
    refine (seq_n (asg_n eA)).trans ((seq_n (asg_n eB)).trans ((seq_n (newl_n (xs := []) rfl)).trans ((seq_n ((loop_e (v := .rng 0 1) (xs := [.int (0 : Nat)]) rfl rfl).trans ((for_n e₁).trans rfl))).trans (seq_r (ret_r ?_)))))
    have g36 : lk 36 vs₁ = some (rowsA (patR P)) := (k₁ 36 (by decide) (by decide) (by decide)).trans rfl
    have g19 : lk 19 vs₁ = some (.int ((0 + 1 : Nat) : Int)) := (k₁ 19 (by decide) (by decide) (by decide)).trans rfl
    have g37 : lk 37 vs₁ = some (.loc 0) := (k₁ 37 (by decide) (by decide) (by decide)).trans rfl
    exact led_ret g36 g19 g37 (show (4 : Nat) ≤ 10 by decide)
  have hz : ((P.b0 + P.b1 : Nat) : Int) - (P.a : Nat) = ((P.b0 + P.b1 - P.a : Nat) : Int) := sub_cast (Nat.le_trans V.h11 (Nat.le_add_right _ _))
  exact run_ret rfl hr (by rw [hz]; rfl)

theorem below_ok {vs : Vars} {R : List (List Nat)} {k : Nat} {row : List Nat} (h36 : lk 36 vs = some (rowsA R)) (h19 : lk 19 vs = some (.int ((k + 2 : Nat) : Int))) (hr : R[k]? = some row) (h8 : ∀ x ∈ row, x ≤ 8) (hl : row.length ≤ 10) :
    evP F1 pBelow vs [] = some (.lst ((.flt fone :: flA row) ++ [.flt fzer])) := by
  have t : otru (evP F1 (.cmp .Gt (.var 19) (.cst (.int 1))) vs []) = some true := by
    exact tru_cmp (ev_var h19) ev_cst (congrArg some (decide_eq_true (show ((k + 2 : Nat) : Int) > 1 by omega)))
  have i1 : evP F1 (.bin .Sub (.var 19) (.cst (.int 2))) vs [] = some (.int (k : Nat)) := by
    rw [ev_bin (ev_var h19) ev_cst]
    show some (AV.int (((k + 2 : Nat) : Int) - 2)) = _
    congr 2; omega
  have i2 := ev_fl (ev_row h36 i1 hr) h8
  have hl' : (flA row).length ≤ 10 := by simp [flA, hl]
  have i3 : evP F1 (.bin .Add (.cons (.cst (.flt 0x3ff0000000000000)) (.nil)) (.comp 16 [] (.item (.var 36) (.bin .Sub (.var 19) (.cst (.int 2)))) (.bin .Div (.var 16) (.cst (.int 16))))) vs [] = some (.lst (.flt fone :: flA row)) := by
    exact (ev_bin ((ev_cons ev_cst ev_nil).trans rfl) i2).trans (add_lst [.flt fone] _ (by rw [List.length_singleton]; omega) _)
  unfold pBelow
  rw [ev_ife_t t]
  exact (ev_bin i3 ((ev_cons ev_cst ev_nil).trans rfl)).trans (add_lst _ [.flt fzer] (by rw [List.length_singleton, List.length_cons]; omega) _)

theorem led2_ok {P : Pat} (V : Vld P) (hs : size P ≤ 8) : runF F1 I1 [36, 19] p_led [rowsA (patR P), .int ((1 + 1 : Nat) : Int)] = some (rowsA (patR (led 2 P))) := by
  obtain ⟨ha, hb0, hb1, hc0, hc1, hc2, hd0, hd1, hd2, hd3⟩ := led_small V hs
  have eA : evP F1 pAbove [(36, rowsA (patR P)), (19, .int ((1 + 1 : Nat) : Int))] [] = some (.lst (flA [P.c0, P.c1, P.c2])) := ev_fl (ev_row rfl (k := 2) (ev_var rfl) rfl) (by simp [hc0, hc1, hc2])
  have eB : evP F1 pBelow (setVar 42 (.lst (flA [P.c0, P.c1, P.c2])) [(36, rowsA (patR P)), (19, .int ((1 + 1 : Nat) : Int))]) [] = some (.lst [.flt fone, .flt (fl P.a), .flt fzer]) :=
    below_ok (k := 0) (row := [P.a]) rfl rfl rfl (by simp [ha]) (by simp)
  obtain ⟨vs₁, e₁, k₁⟩ := led_body (vs := setVar 37 (.loc 0) (setVar 41 (.lst [.flt fone, .flt (fl P.a), .flt fzer]) (setVar 42 (.lst (flA [P.c0, P.c1, P.c2])) [(36, rowsA (patR P)), (19, .int ((1 + 1 : Nat) : Int))]))) (R := patR P) (k := 1) (j := 0) (row := [P.b0, P.b1]) (out := []) rfl rfl rfl rfl rfl (by decide) rfl rfl rfl rfl rfl rfl (hls_1 hc0) (hsv_t hc1 ha) hc0 (mx8 hc1 ha) (by simp)
  obtain ⟨vs₂, e₂, k₂⟩ := led_body (vs := vs₁) (A := flA [P.c0, P.c1, P.c2]) (B := [.flt fone, .flt (fl P.a), .flt fzer]) (R := patR P) (k := 1) (j := 1) (row := [P.b0, P.b1]) (out := [.int (((P.c0 + max P.c1 P.a : Nat) : Int) - (P.b0 : Nat))])
    ((k₁ 42 (by decide) (by decide) (by decide)).trans rfl) ((k₁ 41 (by decide) (by decide) (by decide)).trans rfl) ((k₁ 36 (by decide) (by decide) (by decide)).trans rfl) ((k₁ 19 (by decide) (by decide) (by decide)).trans rfl) ((k₁ 37 (by decide) (by decide) (by decide)).trans rfl) (by decide) rfl rfl rfl rfl rfl rfl (hls_t hc1 ha) (hsv_0 hc2) (mn8 hc1) hc2 (by simp)
  have hr : exP F1 I1 p_led [(36, rowsA (patR P)), (19, .int ((1 + 1 : Nat) : Int))] [] = some (.ret (.lst [.lst (nI [P.a]), .loc 0, .lst (nI [P.c0, P.c1, P.c2]), .lst (nI [P.d0, P.d1, P.d2, P.d3])]), vs₂, [.list [.int (((P.c0 + max P.c1 P.a : Nat) : Int) - (P.b0 : Nat)), .int (((min P.c1 P.a + P.c2 : Nat) : Int) - (P.b1 : Nat))]]) := by
    rw [p_led_eq]
    refine (seq_n (asg_n eA)).trans ((seq_n (asg_n eB)).trans ((seq_n (newl_n (xs := []) rfl)).trans ((seq_n ((loop_e (v := .rng 0 2) (xs := [.int (0 : Nat), .int (1 : Nat)]) rfl rfl).trans ((for_n e₁).trans ((for_n e₂).trans rfl)))).trans (seq_r (ret_r ?_)))))
    have g36 : lk 36 vs₂ = some (rowsA (patR P)) := (k₂ 36 (by decide) (by decide) (by decide)).trans ((k₁ 36 (by decide) (by decide) (by decide)).trans rfl)
    have g19 : lk 19 vs₂ = some (.int ((1 + 1 : Nat) : Int)) := (k₂ 19 (by decide) (by decide) (by decide)).trans ((k₁ 19 (by decide) (by decide) (by decide)).trans rfl)
    have g37 : lk 37 vs₂ = some (.loc 0) := (k₂ 37 (by decide) (by decide) (by decide)).trans ((k₁ 37 (by decide) (by decide) (by decide)).trans rfl)
    exact led_ret g36 g19 g37 (show (4 : Nat) ≤ 10 by decide)
  have hz : ((P.c0 + max P.c1 P.a : Nat) : Int) - (P.b0 : Nat) = ((P.c0 + mx P.c1 P.a - P.b0 : Nat) : Int) := by rw [mx_eq]; exact sub_cast (Nat.le_trans V.h7 (Nat.le_add_right _ _))
  have hz' : ((min P.c1 P.a + P.c2 : Nat) : Int) - (P.b1 : Nat) = ((mn P.c1 P.a + P.c2 - P.b1 : Nat) : Int) := by rw [mn_eq]; exact sub_cast (Nat.le_trans (Nat.le_min.mpr ⟨V.h9, V.h12⟩) (Nat.le_add_right _ _))
  exact run_ret rfl hr (by rw [hz, hz']; rfl)
theorem led3_ok {P : Pat} (V : Vld P) (hs : size P ≤ 8) : runF F1 I1 [36, 19] p_led [rowsA (patR P), .int ((2 + 1 : Nat) : Int)] = some (rowsA (patR (led 3 P))) := by
  obtain ⟨ha, hb0, hb1, hc0, hc1, hc2, hd0, hd1, hd2, hd3⟩ := led_small V hs
  have eA : evP F1 pAbove [(36, rowsA (patR P)), (19, .int ((2 + 1 : Nat) : Int))] [] = some (.lst (flA [P.d0, P.d1, P.d2, P.d3])) := ev_fl (ev_row rfl (k := 3) (ev_var rfl) rfl) (by simp [hd0, hd1, hd2, hd3])
  have eB : evP F1 pBelow (setVar 42 (.lst (flA [P.d0, P.d1, P.d2, P.d3])) [(36, rowsA (patR P)), (19, .int ((2 + 1 : Nat) : Int))]) [] = some (.lst [.flt fone, .flt (fl P.b0), .flt (fl P.b1), .flt fzer]) :=
    below_ok (k := 1) (row := [P.b0, P.b1]) rfl rfl rfl (by simp [hb0, hb1]) (by simp)
  obtain ⟨vs₁, e₁, k₁⟩ := led_body (vs := setVar 37 (.loc 0) (setVar 41 (.lst [.flt fone, .flt (fl P.b0), .flt (fl P.b1), .flt fzer]) (setVar 42 (.lst (flA [P.d0, P.d1, P.d2, P.d3])) [(36, rowsA (patR P)), (19, .int ((2 + 1 : Nat) : Int))]))) (R := patR P) (k := 2) (j := 0) (row := [P.c0, P.c1, P.c2]) (out := []) rfl rfl rfl rfl rfl (by decide) rfl rfl rfl rfl rfl rfl (hls_1 hd0) (hsv_t hd1 hb0) hd0 (mx8 hd1 hb0) (by simp)
  obtain ⟨vs₂, e₂, k₂⟩ := led_body (vs := vs₁) (A := flA [P.d0, P.d1, P.d2, P.d3]) (B := [.flt fone, .flt (fl P.b0), .flt (fl P.b1), .flt fzer]) (R := patR P) (k := 2) (j := 1) (row := [P.c0, P.c1, P.c2]) (out := [.int (((P.d0 + max P.d1 P.b0 : Nat) : Int) - (P.c0 : Nat))])
    ((k₁ 42 (by decide) (by decide) (by decide)).trans rfl) ((k₁ 41 (by decide) (by decide) (by decide)).trans rfl) ((k₁ 36 (by decide) (by decide) (by decide)).trans rfl) ((k₁ 19 (by decide) (by decide) (by decide)).trans rfl) ((k₁ 37 (by decide) (by decide) (by decide)).trans rfl) (by decide) rfl rfl rfl rfl rfl rfl (hls_t hd1 hb0) (hsv_t hd2 hb1) (mn8 hd1) (mx8 hd2 hb1) (by simp)
  have q : ∀ n, n ≠ 40 → n ≠ 38 → n ≠ 39 → lk n vs₂ = lk n (setVar 37 (.loc 0) (setVar 41 (.lst [.flt fone, .flt (fl P.b0), .flt (fl P.b1), .flt fzer]) (setVar 42 (.lst (flA [P.d0, P.d1, P.d2, P.d3])) [(36, rowsA (patR P)), (19, .int ((2 + 1 : Nat) : Int))]))) := fun n a b c => (k₂ n a b c).trans (k₁ n a b c)
  obtain ⟨vs₃, e₃, k₃⟩ := led_body (vs := vs₂) (A := flA [P.d0, P.d1, P.d2, P.d3]) (B := [.flt fone, .flt (fl P.b0), .flt (fl P.b1), .flt fzer]) (R := patR P) (k := 2) (j := 2) (row := [P.c0, P.c1, P.c2]) (out := [.int (((P.d0 + max P.d1 P.b0 : Nat) : Int) - (P.c0 : Nat)), .int (((min P.d1 P.b0 + max P.d2 P.b1 : Nat) : Int) - (P.c1 : Nat))])
    ((q 42 (by decide) (by decide) (by decide)).trans rfl) ((q 41 (by decide) (by decide) (by decide)).trans rfl) ((q 36 (by decide) (by decide) (by decide)).trans rfl) ((q 19 (by decide) (by decide) (by decide)).trans rfl) ((q 37 (by decide) (by decide) (by decide)).trans rfl) (by decide) rfl rfl rfl rfl rfl rfl (hls_t hd2 hb1) (hsv_0 hd3) (mn8 hd2) hd3 (by simp)
  have hr : exP F1 I1 p_led [(36, rowsA (patR P)), (19, .int ((2 + 1 : Nat) : Int))] [] = some (.ret (.lst [.lst (nI [P.a]), .lst (nI [P.b0, P.b1]), .loc 0, .lst (nI [P.d0, P.d1, P.d2, P.d3])]), vs₃, [.list [.int (((P.d0 + max P.d1 P.b0 : Nat) : Int) - (P.c0 : Nat)), .int (((min P.d1 P.b0 + max P.d2 P.b1 : Nat) : Int) - (P.c1 : Nat)), .int (((min P.d2 P.b1 + P.d3 : Nat) : Int) - (P.c2 : Nat))]]) := by
    rw [p_led_eq]
    refine (seq_n (asg_n eA)).trans ((seq_n (asg_n eB)).trans ((seq_n (newl_n (xs := []) rfl)).trans ((seq_n ((loop_e (v := .rng 0 3) (xs := [.int (0 : Nat), .int (1 : Nat), .int (2 : Nat)]) rfl rfl).trans ((for_n e₁).trans ((for_n e₂).trans ((for_n e₃).trans rfl))))).trans (seq_r (ret_r ?_)))))
    have g36 : lk 36 vs₃ = some (rowsA (patR P)) := (k₃ 36 (by decide) (by decide) (by decide)).trans ((q 36 (by decide) (by decide) (by decide)).trans rfl)
    have g19 : lk 19 vs₃ = some (.int ((2 + 1 : Nat) : Int)) := (k₃ 19 (by decide) (by decide) (by decide)).trans ((q 19 (by decide) (by decide) (by decide)).trans rfl)
    have g37 : lk 37 vs₃ = some (.loc 0) := (k₃ 37 (by decide) (by decide) (by decide)).trans ((q 37 (by decide) (by decide) (by decide)).trans rfl)
    exact led_ret g36 g19 g37 (show (4 : Nat) ≤ 10 by decide)
  have hz : ((P.d0 + max P.d1 P.b0 : Nat) : Int) - (P.c0 : Nat) = ((P.d0 + mx P.d1 P.b0 - P.c0 : Nat) : Int) := by rw [mx_eq]; exact sub_cast (Nat.le_trans V.h1 (Nat.le_add_right _ _))
  have hz' : ((min P.d1 P.b0 + max P.d2 P.b1 : Nat) : Int) - (P.c1 : Nat) = ((mn P.d1 P.b0 + mx P.d2 P.b1 - P.c1 : Nat) : Int) := by rw [mx_eq, mn_eq]; exact sub_cast (Nat.le_trans (Nat.le_min.mpr ⟨V.h3, V.h8⟩) (Nat.le_add_right _ _))
  have hz'' : ((min P.d2 P.b1 + P.d3 : Nat) : Int) - (P.c2 : Nat) = ((mn P.d2 P.b1 + P.d3 - P.c2 : Nat) : Int) := by rw [mn_eq]; exact sub_cast (Nat.le_trans (Nat.le_min.mpr ⟨V.h5, V.h10⟩) (Nat.le_add_right _ _))
  exact run_ret rfl hr (by rw [hz, hz', hz'']; rfl)
theorem led_ok {P : Pat} (V : Vld P) (hs : size P ≤ 8) {k : Nat} (hk : Kt k) : runF F1 I1 [36, 19] p_led [rowsA (patR P), .int (k : Nat)] = some (rowsA (patR (led k P))) := by
  rcases hk with rfl | rfl | rfl
  · exact led1_ok V hs
  · exact led2_ok V hs
  · exact led3_ok V hs
end Mine
end

section
open PySem PySem.Calls PyProof.Rows PySem.W
set_option maxRecDepth 100000
set_option linter.unusedSimpArgs false
set_option linter.unusedVariables false
namespace Mine

/-- the higher octets, the lowest first -/
noncomputable def hiN : Nat → Nat → List Nat
  | 0, _ => []
  | f + 1, m => if m = 0 then [] else (64 + m % 64) :: hiN f (m / 64)
noncomputable def octN (n : Nat) : List Nat := (n % 64 :: hiN 5 (n / 64)).reverse
noncomputable def pOctC : PE := .cmp .Gt (.var 26) (.cst (.int 63))
noncomputable def pOctB : PS := .seq (.asg 26 (.bin .FloorDiv (.var 26) (.cst (.int 64)))) (.seq (.app 27 (.bin .Add (.cst (.int 64)) (.bin .Mod (.var 26) (.cst (.int 64))))) (.skip))
theorem p_octs_eq : p_octs = .seq (.newl 27 (.cons (.bin .Mod (.var 26) (.cst (.int 64))) (.nil))) (.seq (.whl pOctC pOctB) (.seq (.ret (.slice (.var 27) (.cst .none) (.cst .none) (.neg (.cst (.int 1))))) (.skip))) := rfl

section
variable {c : Vars → Hp → Option Bool} {b : Vars → Hp → Option St} {k : Nat} {vs vs1 : Vars} {σ σ1 : Hp}
theorem whl_f (h : c vs σ = some false) : whL c b (k + 1) vs σ = some (.next, vs, σ) := by
  show (c vs σ).bind _ = _; rw [h]; rfl
theorem whl_t (h : c vs σ = some true) (hb : b vs σ = some (.next, vs1, σ1)) : whL c b (k + 1) vs σ = whL c b k vs1 σ1 := by
  show (c vs σ).bind (fun t => cond t ((b vs σ).bind _) _) = _; rw [h, hb]; rfl
end
theorem whl_e {F : Fns} {I : Its} {c : PE} {b : PS} {vs : Vars} {σ : Hp} : exP F I (.whl c b) vs σ = whL (fun vs σ => otru (evP F c vs σ)) (exP F I b) 100 vs σ := rfl
theorem frz_nI (σ : Hp) (r : List Nat) : frz σ (.lst (nI r)) = some (.lst (nI r)) := by
  have : ∀ r : List Nat, mapO (frz0 σ) (nI r) = some (nI r) := by
    intro r
    induction r with
    | nil => rfl
    | cons x r ih => show mapO (frz0 σ) (.int (x : Nat) :: nI r) = _; simp only [mapO, ih]; rfl
  show (mapO (frz0 σ) (nI r)).bind _ = _
  rw [this]; rfl
theorem mod64 (m : Nat) (σ : Hp) : binA .Mod (.int (m : Nat)) (.int 64) σ = some (.int ((m % 64 : Nat) : Int)) := by
  show (if decide ((64 : Int) ≠ 0) = true then some (AV.int ((m : Int).fmod 64)) else none) = _
  rw [if_pos (by decide), Int.fmod_eq_emod_of_nonneg _ (by decide)]
  congr 2
theorem div64 (m : Nat) (σ : Hp) : binA .FloorDiv (.int (m : Nat)) (.int 64) σ = some (.int ((m / 64 : Nat) : Int)) := by
  show (if (decide ((64 : Int) ≠ 0) && decide ((64 : Int).natAbs < 1000000)) = true then some (AV.int ((m : Int).fdiv 64)) else none) = _
  rw [if_pos (by decide), Int.fdiv_eq_ediv_of_nonneg _ (by decide)]
  congr 2

theorem octs_whl : ∀ (f m fuel : Nat) (out : List Nat) (vs : Vars), m / 64 < 64 ^ f → f < fuel → lk 26 vs = some (.int (m : Nat)) → lk 27 vs = some (.loc 0) → out.length + f ≤ 1000 →
    ∃ vs', whL (fun vs σ => otru (evP F0 pOctC vs σ)) (exP F0 I0 pOctB) fuel vs [.list (nI out)] = some (.next, vs', [.list (nI (out ++ hiN f (m / 64)))]) ∧ lk 27 vs' = some (.loc 0) := by
  intro f
  induction f with
  | zero =>
    intro m fuel out vs hm hf h26 h27 hl
    obtain ⟨k, rfl⟩ : ∃ k, fuel = k + 1 := ⟨fuel - 1, by omega⟩
    have hc : otru (evP F0 pOctC vs [.list (nI out)]) = some false := by
      have : m < 64 := by simpa using Nat.lt_of_div_lt_div (c := 64) (by simpa using hm)
      exact tru_cmp (ev_var h26) ev_cst (congrArg some (decide_eq_false (show ¬ ((m : Nat) : Int) > 63 by omega)))
    exact ⟨vs, by rw [whl_f hc]; simp [hiN], h27⟩
  | succ f ih =>
    intro m fuel out vs hm hf h26 h27 hl
    obtain ⟨k, rfl⟩ : ∃ k, fuel = k + 1 := ⟨fuel - 1, by omega⟩
    by_cases h0 : m / 64 = 0
    · have hc : otru (evP F0 pOctC vs [.list (nI out)]) = some false := by
        have : m < 64 := by omega
        exact tru_cmp (ev_var h26) ev_cst (congrArg some (decide_eq_false (show ¬ ((m : Nat) : Int) > 63 by omega)))
      exact ⟨vs, by rw [whl_f hc]; simp [hiN, h0], h27⟩
    · have hc : otru (evP F0 pOctC vs [.list (nI out)]) = some true := by
        exact tru_cmp (ev_var h26) ev_cst (congrArg some (decide_eq_true (show ((m : Nat) : Int) > 63 by omega)))
      have hb : exP F0 I0 pOctB vs [.list (nI out)] = some (.next, setVar 26 (.int ((m / 64 : Nat) : Int)) vs, [.list (nI (out ++ [64 + m / 64 % 64]))]) := by
        have ea : evP F0 (.bin .Add (.cst (.int 64)) (.bin .Mod (.var 26) (.cst (.int 64)))) (setVar 26 (.int ((m / 64 : Nat) : Int)) vs) [.list (nI out)] = some (.int ((64 + m / 64 % 64 : Nat) : Int)) := by
          rw [ev_bin ev_cst ((ev_bin (ev_var (v := .int ((m / 64 : Nat) : Int)) (by simp [lk_setVar])) ev_cst).trans (mod64 _ _))]
          show some (AV.int (64 + ((m / 64 % 64 : Nat) : Int))) = _
          congr 2
        refine (seq_n (asg_n ((ev_bin (ev_var h26) ev_cst).trans (div64 _ _)))).trans ((seq_n (app_n (l := 0) (xs := nI out) (by simp [lk_setVar, h27]) ea rfl (by rw [nI_len]; omega))).trans (skip_n.trans ?_))
        rw [nI_app]
        rfl
      obtain ⟨vs', e', k'⟩ := ih (m / 64) k (out ++ [64 + m / 64 % 64]) (setVar 26 (.int ((m / 64 : Nat) : Int)) vs) (by rw [Nat.pow_succ] at hm; exact Nat.div_lt_of_lt_mul (by rw [Nat.mul_comm]; exact hm)) (by omega) (by simp [lk_setVar]) (by simp [lk_setVar, h27]) (by simp; omega)
      refine ⟨vs', ?_, k'⟩
      rw [whl_t hc hb, e']
      simp [hiN, h0]
theorem octs_ok {n : Nat} (hn : n / 64 < 64 ^ 5) : runF F0 I0 [26] p_octs [.int (n : Nat)] = some (.lst (nI (octN n))) := by
  obtain ⟨vs', e', k'⟩ := octs_whl 5 n 100 [n % 64] (setVar 27 (.loc 0) [(26, .int (n : Nat))]) hn (by omega) rfl rfl (by simp)
  have hr : exP F0 I0 p_octs [(26, .int (n : Nat))] [] = some (.ret (.lst (nI (octN n))), vs', [.list (nI ([n % 64] ++ hiN 5 (n / 64)))]) := by
    rw [p_octs_eq]
    refine (seq_n (newl_n (xs := nI [n % 64]) ((ev_cons ((ev_bin (ev_var rfl) ev_cst).trans (mod64 _ _)) ev_nil).trans rfl))).trans ((seq_n (whl_e.trans e')).trans (seq_r (ret_r ?_)))
    rw [ev_slice (ev_var k') ev_cst ev_cst ev_m1, sl_gen rfl rfl rfl rfl (by decide), pick_rev]
    congr 2
    simp [octN, nI]
  exact run_ret rfl hr (frz_nI _ _)
end Mine
end

section
open PySem PySem.Calls PyProof.Rows PySem.W
set_option maxRecDepth 100000
set_option linter.unusedSimpArgs false
set_option linter.unusedVariables false
namespace Mine

theorem and63 (x : Nat) (σ : Hp) : binA .BitAnd (.int (x : Nat)) (.int 63) σ = some (.int ((x % 64 : Nat) : Int)) := by
  show some (AV.int (Builtin.bitAnd (x : Int) 63)) = _
  rw [bitAnd_m6]
  congr 2
theorem and64_small : ∀ x, x < 64 → x &&& 64 = 0 := by decide
theorem and64_flag : ∀ x, x < 64 → (64 + x) &&& 64 = 64 := by decide
theorem and64 (x : Nat) (σ : Hp) : binA .BitAnd (.int (x : Nat)) (.int 64) σ = some (.int ((x &&& 64 : Nat) : Int)) := by
  show some (AV.int (Builtin.bitAnd (x : Int) 64)) = _
  rw [bitAnd_pp (by omega) (by decide)]
  rfl
theorem and_zero (v d : Nat) (hd : d < 64) : (v * 64) &&& d = 0 := by
  apply Nat.eq_of_testBit_eq
  intro i
  rw [Nat.testBit_and, Nat.zero_testBit]
  by_cases hi : 6 ≤ i
  · rw [Nat.testBit_lt_two_pow (x := d) (i := i) (Nat.lt_of_lt_of_le hd (Nat.pow_le_pow_right (n := 2) (by decide) hi)), Bool.and_false]
  · have : (v * 2 ^ 6).testBit i = false := by rw [Nat.testBit_mul_two_pow]; simp; omega
    rw [show v * 64 = v * 2 ^ 6 from rfl, this, Bool.false_and]
theorem or_digit (v d : Nat) (hd : d < 64) (σ : Hp) : binA .BitOr (.int ((v * 64 : Nat) : Int)) (.int (d : Nat)) σ = some (.int ((v * 64 + d : Nat) : Int)) := by
  show some (AV.int (Builtin.bitOr ((v * 64 : Nat) : Int) (d : Int))) = _
  rw [bitOr_and, bitAnd_pp (by omega) (by omega), Int.toNat_natCast, Int.toNat_natCast, and_zero v d hd]
  refine congrArg (fun z => some (AV.int z)) ?_
  omega
theorem shl6 (v : Nat) (hv : v ≤ 1000000000000) (σ : Hp) : binA .LShift (.int (v : Nat)) (.int 6) σ = some (.int ((v * 64 : Nat) : Int)) := by
  show (if (decide ((0 : Int) ≤ 6) && decide ((6 : Int) ≤ 1000) && smallI (v : Int)) = true then some (AV.int ((v : Int) * 2 ^ (6 : Int).toNat)) else none) = _
  rw [if_pos (by simp [smallI]; omega)]
  congr 2

noncomputable def pVB : PS := .seq (.aug 15 .LShift (.cst (.int 6))) (.seq (.next 2 14) (.seq (.aug 15 .BitOr (.bin .BitAnd (.var 2) (.cst (.int 63)))) (.skip)))
theorem p_vint_eq : p_vint = .seq (.next 2 14) (.seq (.asg 15 (.bin .BitAnd (.var 2) (.cst (.int 63)))) (.seq (.whl (.bin .BitAnd (.var 2) (.cst (.int 64))) pVB) (.seq (.ret (.var 15)) (.skip)))) := rfl
theorem next_n {F : Fns} {I : Its} {vs : Vars} {xs : List AV} {k : Nat} {v : AV} {n m : Nat} (h1 : lk m vs = some (.loc 0)) (h2 : xs[k]? = some v) : exP F I (.next n m) vs [.iter xs k] = some (.next, setVar n v vs, [.iter xs (k + 1)]) := by
  show ((lk m vs).bind locA).bind (fun i => (iterAt [AObj.iter xs k] i).bind fun p => (p.1[p.2]?).bind _) = _
  rw [h1]
  show (xs[k]?).bind _ = _
  rw [h2]; rfl
theorem aug_s {F : Fns} {I : Its} {vs : Vars} {σ : Hp} {n : Nat} {a : Int} {v : AV} (h1 : lk n vs = some (.int a)) (h3 : binA .LShift (.int a) (.int 6) σ = some v) : exP F I (.aug n .LShift (.cst (.int 6))) vs σ = some (.next, setVar n v vs, σ) := by
  show ((lk n vs).bind i1).bind _ = _
  rw [h1]
  show (binA .LShift (.int a) (.int 6) σ).bind _ = _
  rw [h3]; rfl
theorem aug_o {F : Fns} {I : Its} {vs : Vars} {σ : Hp} {n : Nat} {a b : Int} {v : AV} {e : PE} (h1 : lk n vs = some (.int a)) (h2 : evP F e vs σ = some (.int b)) (h3 : binA .BitOr (.int a) (.int b) σ = some v) : exP F I (.aug n .BitOr e) vs σ = some (.next, setVar n v vs, σ) := by
  show ((lk n vs).bind i1).bind (fun a => ((evP F e vs σ).bind i1).bind _) = _
  rw [h1, h2]
  refine Eq.trans (b := (augA .BitOr a b).bind fun v => some (AFl.next, setVar n v vs, σ)) rfl ?_
  rw [show augA .BitOr a b = some v from h3]; rfl

/-- the digits that are still to come -/
theorem vint_whl {xs : List AV} : ∀ (ds : List Nat) (r v d k j fuel : Nat) (vs : Vars), (∀ x ∈ ds, x < 64) → r < 64 → d < 64 → v < 64 ^ j → j + ds.length ≤ 5 → ds.length + 1 < fuel → (∀ (i : Nat) (x : Nat), (ds.map (64 + ·) ++ [r])[i]? = some x → xs[k + i]? = some (.int (x : Nat))) →
    lk 14 vs = some (.loc 0) → lk 15 vs = some (.int (v : Nat)) → lk 2 vs = some (.int ((64 + d : Nat) : Int)) →
    ∃ vs', whL (fun vs σ => otru (evP F0 (.bin .BitAnd (.var 2) (.cst (.int 64))) vs σ)) (exP F0 I0 pVB) fuel vs [.iter xs k] = some (.next, vs', [.iter xs (k + ds.length + 1)]) ∧ lk 15 vs' = some (.int (((ds ++ [r]).foldl (fun a d => a * 64 + d) v : Nat) : Int))
  | [], r, v, d, k, j, fuel, vs, hds, hr, hd, hv, hj, hf, hx, h14, h15, h2 => by
    obtain ⟨g, rfl⟩ : ∃ g, fuel = g + 1 + 1 := ⟨fuel - 2, by simp at hf; omega⟩
    have hv' : v ≤ 1000000000000 := Nat.le_trans (Nat.le_of_lt hv) (Nat.le_trans (Nat.pow_le_pow_right (by decide) (show j ≤ 5 by simp at hj; omega)) (by decide))
    have hc : otru (evP F0 (.bin .BitAnd (.var 2) (.cst (.int 64))) vs [.iter xs k]) = some true := by
      rw [(ev_bin (ev_var h2) ev_cst).trans (and64 _ _), and64_flag d hd]; rfl
    have hb : exP F0 I0 pVB vs [.iter xs k] = some (.next, setVar 15 (.int ((v * 64 + r : Nat) : Int)) (setVar 2 (.int (r : Nat)) (setVar 15 (.int ((v * 64 : Nat) : Int)) vs)), [.iter xs (k + 1)]) := by
      have hx0 : xs[k]? = some (.int (r : Nat)) := hx 0 r rfl
      refine (seq_n (aug_s h15 (shl6 v hv' _))).trans ((seq_n (next_n (by simp [lk_setVar, h14]) hx0)).trans ((seq_n (aug_o (b := (r : Nat)) (by simp [lk_setVar]) ?_ (or_digit v r hr _))).trans skip_n))
      rw [(ev_bin (ev_var (v := .int (r : Nat)) (by simp [lk_setVar])) ev_cst).trans (and63 _ _), Nat.mod_eq_of_lt hr]
    have hc' : otru (evP F0 (.bin .BitAnd (.var 2) (.cst (.int 64))) (setVar 15 (.int ((v * 64 + r : Nat) : Int)) (setVar 2 (.int (r : Nat)) (setVar 15 (.int ((v * 64 : Nat) : Int)) vs))) [.iter xs (k + 1)]) = some false := by
      rw [(ev_bin (ev_var (v := .int (r : Nat)) (by simp [lk_setVar])) ev_cst).trans (and64 _ _), and64_small r hr]; rfl
    exact ⟨_, by rw [whl_t hc hb, whl_f hc']; rfl, by simp [lk_setVar]⟩
  | e :: ds, r, v, d, k, j, fuel, vs, hds, hr, hd, hv, hj, hf, hx, h14, h15, h2 => by
    obtain ⟨g, rfl⟩ : ∃ g, fuel = g + 1 := ⟨fuel - 1, by omega⟩
    simp only [List.length_cons] at hj hf
    have he : e < 64 := hds e List.mem_cons_self
    have hv' : v ≤ 1000000000000 := Nat.le_trans (Nat.le_of_lt hv) (Nat.le_trans (Nat.pow_le_pow_right (by decide) (show j ≤ 5 by omega)) (by decide))
    have hc : otru (evP F0 (.bin .BitAnd (.var 2) (.cst (.int 64))) vs [.iter xs k]) = some true := by
      rw [(ev_bin (ev_var h2) ev_cst).trans (and64 _ _), and64_flag d hd]; rfl
    have hb : exP F0 I0 pVB vs [.iter xs k] = some (.next, setVar 15 (.int ((v * 64 + e : Nat) : Int)) (setVar 2 (.int ((64 + e : Nat) : Int)) (setVar 15 (.int ((v * 64 : Nat) : Int)) vs)), [.iter xs (k + 1)]) := by
      have hx0 : xs[k]? = some (.int ((64 + e : Nat) : Int)) := hx 0 (64 + e) rfl
      refine (seq_n (aug_s h15 (shl6 v hv' _))).trans ((seq_n (next_n (by simp [lk_setVar, h14]) hx0)).trans ((seq_n (aug_o (b := (e : Nat)) (by simp [lk_setVar]) ?_ (or_digit v e he _))).trans skip_n))
      rw [(ev_bin (ev_var (v := .int ((64 + e : Nat) : Int)) (by simp [lk_setVar])) ev_cst).trans (and63 _ _)]
      congr 3
      omega
    obtain ⟨vs', e', k'⟩ := vint_whl ds r (v * 64 + e) e (k + 1) (j + 1) g (setVar 15 (.int ((v * 64 + e : Nat) : Int)) (setVar 2 (.int ((64 + e : Nat) : Int)) (setVar 15 (.int ((v * 64 : Nat) : Int)) vs))) (fun x hx => hds x (List.mem_cons_of_mem _ hx)) hr he (by rw [Nat.pow_succ]; omega) (by omega) (by omega)
      (fun i x hi => by rw [show k + 1 + i = k + (i + 1) by omega]; exact hx (i + 1) x hi) (by simp [lk_setVar, h14]) (by simp [lk_setVar]) (by simp [lk_setVar])
    refine ⟨vs', ?_, k'⟩
    rw [whl_t hc hb, e']
    simp only [List.length_cons]
    congr 4
    rw [show k + 1 + ds.length + 1 = k + (ds.length + 1) + 1 by omega]
end Mine
end

section
open PySem PySem.Calls PyProof.Rows PySem.W
set_option maxRecDepth 100000
set_option linter.unusedSimpArgs false
set_option linter.unusedVariables false
namespace Mine

noncomputable def dgN : Nat → Nat → List Nat
  | 0, _ => []
  | f + 1, m => if m = 0 then [] else m % 64 :: dgN f (m / 64)
theorem hi_dg : ∀ (f m : Nat), hiN f m = (dgN f m).map (64 + ·)
  | 0, _ => rfl
  | f + 1, m => by
    unfold hiN dgN
    split
    · rfl
    · rw [hi_dg f]; rfl
theorem dg_lt : ∀ (f m : Nat), ∀ x ∈ dgN f m, x < 64
  | 0, _, x, h => by cases h
  | f + 1, m, x, h => by
    unfold dgN at h
    split at h
    · cases h
    · rcases List.mem_cons.mp h with rfl | h
      · exact Nat.mod_lt _ (by decide)
      · exact dg_lt f _ x h
theorem dg_len : ∀ (f m : Nat), (dgN f m).length ≤ f
  | 0, _ => Nat.le_refl _
  | f + 1, m => by
    unfold dgN
    split
    · simp
    · simp; exact dg_len f _
theorem dg_val : ∀ (f m : Nat), m < 64 ^ f → (dgN f m).foldr (fun d a => a * 64 + d) 0 = m
  | 0, m, h => by simp at h; simp [dgN, h]
  | f + 1, m, h => by
    unfold dgN
    split
    · rename_i h0; simp [h0]
    · simp only [List.foldr_cons]
      rw [dg_val f (m / 64) (Nat.div_lt_of_lt_mul (by rw [Nat.pow_succ] at h; rw [Nat.mul_comm]; exact h))]
      omega
theorem oct_eq (n : Nat) : octN n = ((dgN 5 (n / 64)).reverse.map (64 + ·)) ++ [n % 64] := by
  unfold octN
  rw [List.reverse_cons, hi_dg, List.map_reverse]
theorem vint_ok {xs : List AV} {k n : Nat} (hn : n / 64 < 64 ^ 5) (hx : ∀ (i x : Nat), (octN n)[i]? = some x → xs[k + i]? = some (.int (x : Nat))) (ha : xs.all atom = true) :
    runI F0 I0 14 p_vint xs k = some (.int (n : Nat), xs, k + (octN n).length) := by
  have hv : ((dgN 5 (n / 64)).reverse ++ [n % 64]).foldl (fun a d => a * 64 + d) 0 = n := by
    rw [List.foldl_append, List.foldl_reverse, dg_val 5 _ hn]
    simp
    omega
  have hl := dg_len 5 (n / 64)
  have hlt : ∀ x ∈ (dgN 5 (n / 64)).reverse, x < 64 := fun x h => dg_lt 5 _ x (List.mem_reverse.mp h)
  have hll : (dgN 5 (n / 64)).reverse.length ≤ 5 := by simpa using hl
  rw [oct_eq] at hx ⊢
  generalize (dgN 5 (n / 64)).reverse = ds at *
  have hr : n % 64 < 64 := Nat.mod_lt _ (by decide)
  have fin : ∃ vs', exP F0 I0 p_vint [(14, .loc 0)] [.iter xs k] = some (.ret (.int (n : Nat)), vs', [.iter xs (k + (ds.length + 1))]) := by
    cases ds with
    | nil =>
      have hx0 : xs[k]? = some (.int ((n % 64 : Nat) : Int)) := hx 0 _ rfl
      have hnn : n % 64 = n := by simpa using hv
      have hc : otru (evP F0 (.bin .BitAnd (.var 2) (.cst (.int 64))) (setVar 15 (.int ((n % 64 % 64 : Nat) : Int)) (setVar 2 (.int ((n % 64 : Nat) : Int)) [(14, .loc 0)])) [.iter xs (k + 1)]) = some false := by
        rw [(ev_bin (ev_var (v := .int ((n % 64 : Nat) : Int)) (by simp [lk_setVar])) ev_cst).trans (and64 _ _), and64_small _ hr]; rfl
      refine ⟨setVar 15 (.int ((n % 64 % 64 : Nat) : Int)) (setVar 2 (.int ((n % 64 : Nat) : Int)) [(14, .loc 0)]), ?_⟩
      rw [p_vint_eq]
      refine (seq_n (next_n rfl hx0)).trans ((seq_n (asg_n ((ev_bin (ev_var (v := .int ((n % 64 : Nat) : Int)) (by simp [lk_setVar])) ev_cst).trans (and63 _ _)))).trans ((seq_n (whl_e.trans (whl_f hc))).trans (seq_r (ret_r ?_))))
      rw [ev_var (v := .int ((n % 64 % 64 : Nat) : Int)) (by simp [lk_setVar]), hnn, hnn]
    | cons d ds =>
      have hd : d < 64 := hlt d List.mem_cons_self
      have hx0 : xs[k]? = some (.int ((64 + d : Nat) : Int)) := hx 0 _ rfl
      simp only [List.length_cons] at hll
      obtain ⟨vs', e', k'⟩ := vint_whl (xs := xs) ds (n % 64) d d (k + 1) 1 100 (setVar 15 (.int (((64 + d) % 64 : Nat) : Int)) (setVar 2 (.int ((64 + d : Nat) : Int)) [(14, .loc 0)])) (fun x h => hlt x (List.mem_cons_of_mem _ h)) hr hd (by simpa using hd) (by omega) (by omega)
        (fun i x hi => by rw [show k + 1 + i = k + (i + 1) by omega]; exact hx (i + 1) x hi) (by simp [lk_setVar, lk]) (by simp [lk_setVar]; omega) (by simp [lk_setVar])
      refine ⟨vs', ?_⟩
      rw [p_vint_eq]
      refine (seq_n (next_n rfl hx0)).trans ((seq_n (asg_n ((ev_bin (ev_var (v := .int ((64 + d : Nat) : Int)) (by simp [lk_setVar])) ev_cst).trans (and63 _ _)))).trans ((seq_n (whl_e.trans e')).trans ((seq_r (ret_r (ev_var k'))).trans ?_)))
      have : (ds ++ [n % 64]).foldl (fun a d => a * 64 + d) d = n := by simpa using hv
      rw [this]
      simp only [List.length_cons]
      rw [show k + 1 + ds.length + 1 = k + (ds.length + 1 + 1) by omega]
  obtain ⟨vs', e⟩ := fin
  unfold runI
  rw [e]
  show (if (true && xs.all atom) = true then some (AV.int (n : Nat), xs, k + (ds.length + 1)) else none) = _
  rw [ha, List.length_append, List.length_map, List.length_singleton]
  rfl
end Mine
end

section
open PySem PySem.Calls PyProof.Rows PySem.W
set_option maxRecDepth 100000
set_option linter.unusedSimpArgs false
set_option linter.unusedVariables false
namespace Mine

theorem intsOf_nI : ∀ r : List Nat, intsOf (nI r) = some (r.map fun (n : Nat) => (n : Int))
  | [] => rfl
  | x :: r => by
    show intsOf (.int (x : Nat) :: nI r) = _
    rw [intsOf, intsOf_nI r]
    rfl
theorem sum_cast : ∀ r : List Nat, (r.map fun (n : Nat) => (n : Int)).sum = ((r.sum : Nat) : Int)
  | [] => rfl
  | x :: r => by
    simp only [List.map_cons, List.sum_cons, sum_cast r]
    omega
theorem sum_le {M : Nat} : ∀ r : List Nat, (∀ x ∈ r, x ≤ M) → r.sum ≤ r.length * M
  | [], _ => by simp
  | x :: r, h => by
    have := sum_le r fun y hy => h y (List.mem_cons_of_mem _ hy)
    have := h x List.mem_cons_self
    simp only [List.sum_cons, List.length_cons, Nat.add_mul]
    omega
noncomputable def pGivenE : PE := .bin .Mod (.var 16) (.cst (.int 1000000))
noncomputable def pDrawE : PE := .bin .Add (.item (.cons (.cst (.int 2)) (.cons (.cst (.int 0)) (.cons (.cst (.int 1)) (.cons (.cst (.int 3)) (.cons (.cst (.int 0)) (.cons (.cst (.int 5602)) (.cons (.cst (.int 1)) (.cons (.cst (.int 1)) (.nil))))))))) (.var 19)) (.sum (.slice (.var 18) (.var 19) (.cst .none) (.cst (.int 8))))
theorem p_drawn_eq : p_drawn = .seq (.asg 18 (.comp 16 [] (.slice (.var 17) (.cst .none) (.cst (.int 63)) (.cst .none)) pGivenE)) (.seq (.ret (.comp 19 [18] (.rng1 (.cst (.int 8))) pDrawE)) (.skip)) := rfl
noncomputable def gvN (i : Int) : Nat := (i.fmod 1000000).toNat
theorem map_given (σ : Hp) : ∀ xs : List Int, mapO (fun a => evP F0 pGivenE ((16, a) :: []) σ) (xs.map AV.int) = some (nI (xs.map gvN))
  | [] => rfl
  | i :: xs => by
    have e : evP F0 pGivenE ((16, .int i) :: []) σ = some (.int (gvN i : Nat)) := by
      refine (ev_bin (ev_var rfl) ev_cst).trans ?_
      show (if decide ((1000000 : Int) ≠ 0) = true then some (AV.int (i.fmod 1000000)) else none) = _
      rw [if_pos (by decide)]
      have : 0 ≤ i.fmod 1000000 := Int.fmod_nonneg_of_pos _ (by decide)
      unfold gvN
      rw [Int.toNat_of_nonneg this]
    simp only [List.map_cons, mapO, e, map_given σ xs]
    rfl
theorem gvN_lt (i : Int) : gvN i < 1000000 := by
  unfold gvN
  have h1 : 0 ≤ i.fmod 1000000 := Int.fmod_nonneg_of_pos _ (by decide)
  have h2 : i.fmod 1000000 < 1000000 := Int.fmod_lt_of_pos _ (by decide)
  omega
noncomputable def cN : List Nat := [2, 0, 1, 3, 0, 5602, 1, 1]
noncomputable def drN (gs : List Nat) (k : Nat) : Nat := cN[k]?.getD 0 + (pickA gs (some (k : Int)) none (some 8)).sum
theorem draw_e (σ : Hp) (gs : List Nat) (k : Nat) (hk : k < 8) : evP F0 pDrawE ((19, .int (k : Nat)) :: [(18, .lst (nI gs))]) σ = some (.int (drN gs k : Nat)) := by
  have e1 : evP F0 (.item (.cons (.cst (.int 2)) (.cons (.cst (.int 0)) (.cons (.cst (.int 1)) (.cons (.cst (.int 3)) (.cons (.cst (.int 0)) (.cons (.cst (.int 5602)) (.cons (.cst (.int 1)) (.cons (.cst (.int 1)) (.nil))))))))) (.var 19)) ((19, .int (k : Nat)) :: [(18, .lst (nI gs))]) σ = some (.int (cN[k]?.getD 0 : Nat)) := by
    have hc : cN[k]? = some (cN[k]?.getD 0) := by
      rw [List.getElem?_eq_getElem (show k < cN.length from hk)]; rfl
    exact ev_itemN (xs := nI cN) rfl (ev_var rfl) rfl (by rw [nI_get, hc]; rfl)
  have e2 : evP F0 (.sum (.slice (.var 18) (.var 19) (.cst .none) (.cst (.int 8)))) ((19, .int (k : Nat)) :: [(18, .lst (nI gs))]) σ = some (.int ((pickA gs (some (k : Int)) none (some 8)).sum : Nat)) := by
    have e3 : evP F0 (.slice (.var 18) (.var 19) (.cst .none) (.cst (.int 8))) ((19, .int (k : Nat)) :: [(18, .lst (nI gs))]) σ = some (.lst (nI (pickA gs (some (k : Int)) none (some 8)))) := by
      rw [ev_slice (a := .lst (nI gs)) (b := .int (k : Nat)) (ev_var rfl) (ev_var rfl) ev_cst ev_cst, sl_gen (x := some (k : Int)) (y := none) (z := some 8) rfl rfl rfl rfl (by decide)]
      unfold nI
      rw [pick_map]
    rw [ev_sum e3]
    show ((intsOf (nI _)).bind fun ns => some (AV.int ns.sum)) = _
    rw [intsOf_nI, Option.bind_some, sum_cast]
  refine (ev_bin e1 e2).trans ?_
  show some (AV.int (((cN[k]?.getD 0 : Nat) : Int) + ((pickA gs (some (k : Int)) none (some 8)).sum : Nat))) = _
  congr 2
noncomputable def drawnN (ns : List Int) : List Nat := [0, 1, 2, 3, 4, 5, 6, 7].map (drN ((ns.take 63).map gvN))
theorem drawn_ok (ns : List Int) : runF F0 I0 [17] p_drawn [.lst (ns.map AV.int)] = some (.lst (nI (drawnN ns))) := by
  have e1 : evP F0 (.comp 16 [] (.slice (.var 17) (.cst .none) (.cst (.int 63)) (.cst .none)) pGivenE) [(17, .lst (ns.map AV.int))] [] = some (.lst (nI ((ns.take 63).map gvN))) := by
    have e0 : evP F0 (.slice (.var 17) (.cst .none) (.cst (.int 63)) (.cst .none)) [(17, .lst (ns.map AV.int))] [] = some (.lst ((ns.take 63).map AV.int)) := by
      rw [ev_slice (a := .lst (ns.map AV.int)) (ev_var rfl) ev_cst ev_cst ev_cst, sl_gen (x := none) (y := some 63) (z := none) rfl rfl rfl rfl (by decide), pick_map, show (63 : Int) = ((63 : Nat) : Int) from rfl, pick_take]
    exact ev_comp e0 rfl rfl (map_given _ _)
  have e2 : evP F0 (.comp 19 [18] (.rng1 (.cst (.int 8))) pDrawE) (setVar 18 (.lst (nI ((ns.take 63).map gvN))) [(17, .lst (ns.map AV.int))]) [] = some (.lst (nI (drawnN ns))) := by
    have er : evP F0 (.rng1 (.cst (.int 8))) (setVar 18 (.lst (nI ((ns.take 63).map gvN))) [(17, .lst (ns.map AV.int))]) [] = some (.rng 0 8) := rfl
    have ei : iterA [] (.rng 0 8) = some [.int (0 : Nat), .int (1 : Nat), .int (2 : Nat), .int (3 : Nat), .int (4 : Nat), .int (5 : Nat), .int (6 : Nat), .int (7 : Nat)] := rfl
    have ec : capV [18] (setVar 18 (.lst (nI ((ns.take 63).map gvN))) [(17, .lst (ns.map AV.int))]) = some [(18, .lst (nI ((ns.take 63).map gvN)))] := rfl
    refine (ev_comp er ei ec (ys := [_, _, _, _, _, _, _, _]) ?_).trans rfl
    simp only [mapO, draw_e [] ((ns.take 63).map gvN) 0 (by decide), draw_e [] ((ns.take 63).map gvN) 1 (by decide), draw_e [] ((ns.take 63).map gvN) 2 (by decide), draw_e [] ((ns.take 63).map gvN) 3 (by decide), draw_e [] ((ns.take 63).map gvN) 4 (by decide), draw_e [] ((ns.take 63).map gvN) 5 (by decide), draw_e [] ((ns.take 63).map gvN) 6 (by decide), draw_e [] ((ns.take 63).map gvN) 7 (by decide)]
  have hr : exP F0 I0 p_drawn [(17, .lst (ns.map AV.int))] [] = some (.ret (.lst (nI (drawnN ns))), setVar 18 (.lst (nI ((ns.take 63).map gvN))) [(17, .lst (ns.map AV.int))], []) := by
    rw [p_drawn_eq]
    exact (seq_n (asg_n e1)).trans (seq_r (ret_r e2))
  exact run_ret rfl hr (frz_nI _ _)
theorem drawn_le (ns : List Int) : (drawnN ns).length = 8 ∧ ∀ d ∈ drawnN ns, d ≤ 100000000 := by
  refine ⟨rfl, fun d hd => ?_⟩
  unfold drawnN at hd
  rw [List.mem_map] at hd
  obtain ⟨k, hk, rfl⟩ := hd
  have h1 : ∀ x ∈ pickA ((ns.take 63).map gvN) (some (k : Int)) none (some 8), x ≤ 1000000 := fun x hx => by
    have := pick_mem hx
    rw [List.mem_map] at this
    obtain ⟨i, _, rfl⟩ := this
    exact Nat.le_of_lt (gvN_lt i)
  have h2 := sum_le _ h1
  have h3 := pick_len8 ((ns.take 63).map gvN) k (.inr trivial)
  have h4 : ((ns.take 63).map gvN).length ≤ 63 := by rw [List.length_map, List.length_take]; omega
  have h5 : cN[k]?.getD 0 ≤ 5602 := by
    simp only [List.mem_cons, List.not_mem_nil, or_false] at hk
    rcases hk with rfl | rfl | rfl | rfl | rfl | rfl | rfl | rfl <;> decide
  have h6 := Nat.mul_le_mul_right 1000000 (Nat.le_trans h3 h4)
  unfold drN
  omega
end Mine
end

section
open PySem PySem.Calls PyProof.Rows PySem.W
set_option maxRecDepth 100000
set_option linter.unusedSimpArgs false
set_option linter.unusedVariables false
namespace Mine

noncomputable def pPl2 : PS := .seq (.asg 23 (.bin .Add (.cst (.int 1)) (.bin .Mod (.bin .FloorDiv (.var 25) (.cst (.int 8))) (.cst (.int 3))))) (.seq (.asg 22 (.bin .Mod (.bin .FloorDiv (.var 25) (.cst (.int 24))) (.bin .Add (.len (.var 21)) (.cst (.int 1))))) (.seq (.ret (.tup (.cons (.var 24) (.cons (.bin .Add (.bin .Add (.slice (.var 21) (.cst .none) (.var 22) (.cst .none)) (.cons (.var 23) (.cons (.var 23) (.nil)))) (.slice (.var 21) (.var 22) (.cst .none) (.cst .none))) (.nil))))) (.skip)))
noncomputable def pPlIf : PS := .ite (.cmp .Eq (.bin .Mod (.bin .FloorDiv (.var 25) (.cst (.int 4))) (.cst (.int 2))) (.cst (.int 1))) (.seq (.asg 21 (.slice (.var 21) (.cst .none) (.cst .none) (.neg (.cst (.int 1))))) (.skip)) (.skip)
noncomputable def pPlR : PE := .item (.cons (.cons (.cst (.int 1)) (.nil)) (.cons (.cons (.cst (.int 1)) (.cons (.cst (.int 2)) (.cons (.cst (.int 1)) (.nil)))) (.cons (.cons (.cst (.int 1)) (.cons (.cst (.int 2)) (.cons (.cst (.int 1)) (.cons (.cst (.int 3)) (.cons (.cst (.int 2)) (.cons (.cst (.int 1)) (.nil))))))) (.nil)))) (.bin .Sub (.var 24) (.cst (.int 2)))
noncomputable def pPlM : PE := .item (.cons (.cst (.int 4)) (.cons (.cst (.int 3)) (.cons (.cst (.int 4)) (.cons (.cst (.int 2)) (.nil))))) (.bin .Mod (.var 25) (.cst (.int 4)))
theorem p_plan_eq : p_plan = .seq (.asg 25 (.sum (.var 20))) (.seq (.asg 24 pPlM) (.seq (.asg 21 pPlR) (.seq pPlIf pPl2))) := rfl
theorem modN (m k : Nat) (hk : 0 < k) (σ : Hp) : binA .Mod (.int (m : Nat)) (.int (k : Nat)) σ = some (.int ((m % k : Nat) : Int)) := by
  show (if decide ((k : Int) ≠ 0) = true then some (AV.int ((m : Int).fmod k)) else none) = _
  rw [if_pos (decide_eq_true (by omega)), Int.fmod_eq_emod_of_nonneg _ (by omega)]
  congr 2
theorem divN (m k : Nat) (hk : 0 < k) (hk' : k < 1000000) (σ : Hp) : binA .FloorDiv (.int (m : Nat)) (.int (k : Nat)) σ = some (.int ((m / k : Nat) : Int)) := by
  show (if (decide ((k : Int) ≠ 0) && decide ((k : Int).natAbs < 1000000)) = true then some (AV.int ((m : Int).fdiv k)) else none) = _
  rw [if_pos (by simp; omega), Int.fdiv_eq_ediv_of_nonneg _ (by omega)]
  congr 2
theorem addN (a b : Nat) (σ : Hp) : binA .Add (.int (a : Nat)) (.int (b : Nat)) σ = some (.int ((a + b : Nat) : Int)) := by
  show some (AV.int ((a : Int) + (b : Int))) = _
  congr 2
theorem addL (r q : List Nat) (h : r.length + q.length ≤ 100000) (σ : Hp) : binA .Add (.lst (nI r)) (.lst (nI q)) σ = some (.lst (nI (r ++ q))) := by
  rw [add_lst _ _ (by rw [nI_len, nI_len]; exact h), nI_app]
noncomputable def plR (R : List Nat) (a k : Nat) : List Nat := R.take k ++ [a, a] ++ R.drop k
theorem plan2 {vs : Vars} {t m : Nat} {R : List Nat} (h25 : lk 25 vs = some (.int (t : Nat))) (h24 : lk 24 vs = some (.int (m : Nat))) (h21 : lk 21 vs = some (.lst (nI R))) (hR : R.length ≤ 10) :
    ∃ vs', exP F0 I0 pPl2 vs [] = some (.ret (.tup [.int (m : Nat), .lst (nI (plR R (1 + t / 8 % 3) (t / 24 % (R.length + 1))))]), vs', []) := by
  have e1 : evP F0 (.bin .Add (.cst (.int 1)) (.bin .Mod (.bin .FloorDiv (.var 25) (.cst (.int 8))) (.cst (.int 3)))) vs [] = some (.int ((1 + t / 8 % 3 : Nat) : Int)) :=
    (ev_bin ev_cst ((ev_bin ((ev_bin (ev_var h25) ev_cst).trans (divN t 8 (by decide) (by decide) _)) ev_cst).trans (modN _ 3 (by decide) _))).trans (addN 1 _ _)
  have e2 : evP F0 (.bin .Mod (.bin .FloorDiv (.var 25) (.cst (.int 24))) (.bin .Add (.len (.var 21)) (.cst (.int 1)))) (setVar 23 (.int ((1 + t / 8 % 3 : Nat) : Int)) vs) [] = some (.int ((t / 24 % (R.length + 1) : Nat) : Int)) := by
    have el : evP F0 (.len (.var 21)) (setVar 23 (.int ((1 + t / 8 % 3 : Nat) : Int)) vs) [] = some (.int (R.length : Nat)) := by
      rw [ev_len (ev_var (v := .lst (nI R)) (by simp [lk_setVar, h21]))]
      show some (AV.int (nI R).length) = _
      rw [nI_len]
    exact (ev_bin ((ev_bin (ev_var (v := .int (t : Nat)) (by simp [lk_setVar, h25])) ev_cst).trans (divN t 24 (by decide) (by decide) _)) ((ev_bin el ev_cst).trans (addN _ 1 _))).trans (modN _ _ (by omega) _)
  generalize 1 + t / 8 % 3 = a at *
  have hat : t / 24 % (R.length + 1) ≤ R.length := by have := Nat.mod_lt (t / 24) (show R.length + 1 > 0 by omega); omega
  generalize t / 24 % (R.length + 1) = k at *
  refine ⟨_, (seq_n (asg_n e1)).trans ((seq_n (asg_n e2)).trans (seq_r (ret_r ?_)))⟩
  have g21 : lk 21 (setVar 22 (.int (k : Nat)) (setVar 23 (.int (a : Nat)) vs)) = some (.lst (nI R)) := by simp [lk_setVar, h21]
  have g22 : lk 22 (setVar 22 (.int (k : Nat)) (setVar 23 (.int (a : Nat)) vs)) = some (.int (k : Nat)) := by simp [lk_setVar]
  have g23 : lk 23 (setVar 22 (.int (k : Nat)) (setVar 23 (.int (a : Nat)) vs)) = some (.int (a : Nat)) := by simp [lk_setVar]
  have g24 : lk 24 (setVar 22 (.int (k : Nat)) (setVar 23 (.int (a : Nat)) vs)) = some (.int (m : Nat)) := by simp [lk_setVar, h24]
  generalize setVar 22 (.int (k : Nat)) (setVar 23 (AV.int (a : Nat)) vs) = vs₂ at *
  have s1 : evP F0 (.slice (.var 21) (.cst .none) (.var 22) (.cst .none)) vs₂ [] = some (.lst (nI (R.take k))) := by
    rw [ev_slice (ev_var g21) ev_cst (ev_var g22) ev_cst, sl_gen rfl rfl rfl rfl (by decide), pick_take]
    simp [nI]
  have s2 : evP F0 (.slice (.var 21) (.var 22) (.cst .none) (.cst .none)) vs₂ [] = some (.lst (nI (R.drop k))) := by
    rw [ev_slice (ev_var g21) (ev_var g22) ev_cst ev_cst, sl_gen rfl rfl rfl rfl (by decide), pick_drop]
    simp [nI]
  have s3 : evP F0 (.cons (.var 23) (.cons (.var 23) (.nil))) vs₂ [] = some (.lst (nI [a, a])) := (ev_cons (ev_var g23) ((ev_cons (ev_var g23) ev_nil).trans rfl)).trans rfl
  have s4 := (ev_bin (op := .Add) s1 s3).trans (addL _ _ (by simp; omega) _)
  have s5 := (ev_bin (op := .Add) s4 s2).trans (addL _ _ (by simp; omega) _)
  have s6 : evP F0 (.cons (.var 24) (.cons (.bin .Add (.bin .Add (.slice (.var 21) (.cst .none) (.var 22) (.cst .none)) (.cons (.var 23) (.cons (.var 23) (.nil)))) (.slice (.var 21) (.var 22) (.cst .none) (.cst .none))) (.nil))) vs₂ [] = some (.lst [.int (m : Nat), .lst (nI (plR R a k))]) :=
    (ev_cons (ev_var g24) ((ev_cons s5 ev_nil).trans rfl)).trans rfl
  exact ev_tup s6
end Mine
end

section
open PySem PySem.Calls PyProof.Rows PySem.W
set_option maxRecDepth 100000
set_option linter.unusedSimpArgs false
set_option linter.unusedVariables false
namespace Mine

theorem nI_atoms (r : List Nat) : (nI r).all atom = true := by simp [nI, atom]
theorem frz_plan (σ : Hp) (m : Nat) (r : List Nat) : frz σ (.tup [.int (m : Nat), .lst (nI r)]) = some (.tup [.int (m : Nat), .lst (nI r)]) := by
  have e1 : frz0 σ (.lst (nI r)) = some (.lst (nI r)) := if_pos (nI_atoms r)
  show (mapO (frz0 σ) _).bind _ = _
  have e2 : frz0 σ (.int (m : Nat)) = some (.int (m : Nat)) := rfl
  simp only [mapO, e1, e2]
  rfl
theorem plan_if {vs : Vars} {t : Nat} {R : List Nat} (h25 : lk 25 vs = some (.int (t : Nat))) (h21 : lk 21 vs = some (.lst (nI R))) :
    ∃ vs', exP F0 I0 pPlIf vs [] = some (.next, vs', []) ∧ lk 25 vs' = lk 25 vs ∧ lk 24 vs' = lk 24 vs ∧ lk 21 vs' = some (.lst (nI (if t / 4 % 2 = 1 then R.reverse else R))) := by
  have hc : otru (evP F0 (.cmp .Eq (.bin .Mod (.bin .FloorDiv (.var 25) (.cst (.int 4))) (.cst (.int 2))) (.cst (.int 1))) vs []) = some (decide (t / 4 % 2 = 1)) := by
    have e1 : evP F0 (.bin .Mod (.bin .FloorDiv (.var 25) (.cst (.int 4))) (.cst (.int 2))) vs [] = some (.int ((t / 4 % 2 : Nat) : Int)) :=
      (ev_bin ((ev_bin (ev_var h25) ev_cst).trans (divN t 4 (by decide) (by decide) _)) ev_cst).trans (modN _ 2 (by decide) _)
    have e2 : (((t / 4 % 2 : Nat) : Int) == 1) = decide (t / 4 % 2 = 1) := by
      by_cases h : t / 4 % 2 = 1
      · rw [h]; rfl
      · rw [decide_eq_false h]; exact beq_eq_false_iff_ne.mpr (by omega)
    exact tru_cmp e1 ev_cst (congrArg some e2)
  by_cases h : t / 4 % 2 = 1
  · rw [decide_eq_true h] at hc
    have e1 : evP F0 (.slice (.var 21) (.cst .none) (.cst .none) (.neg (.cst (.int 1)))) vs [] = some (.lst (nI R.reverse)) := by
      rw [ev_slice (ev_var h21) ev_cst ev_cst ev_m1, sl_gen rfl rfl rfl rfl (by decide), pick_rev]
      simp [nI]
    refine ⟨_, (ite_t hc).trans ((seq_n (asg_n e1)).trans skip_n), by simp [lk_setVar], by simp [lk_setVar], by simp [lk_setVar, h]⟩
  · rw [decide_eq_false h] at hc
    exact ⟨vs, (ite_f hc).trans skip_n, rfl, rfl, by rw [if_neg h]; exact h21⟩
theorem plan_run {ds : List Nat} {t m : Nat} {R : List Nat} (ht : ds.sum = t) (hm : evP F0 pPlM (setVar 25 (.int (t : Nat)) [(20, .lst (nI ds))]) [] = some (.int (m : Nat))) (hR : ∀ vs, lk 24 vs = some (.int (m : Nat)) → evP F0 pPlR vs [] = some (.lst (nI R))) (hl : R.length ≤ 8) :
    runF F0 I0 [20] p_plan [.lst (nI ds)] = some (.tup [.int (m : Nat), .lst (nI (plR (if t / 4 % 2 = 1 then R.reverse else R) (1 + t / 8 % 3) (t / 24 % ((if t / 4 % 2 = 1 then R.reverse else R).length + 1))))]) := by
  have e1 : evP F0 (.sum (.var 20)) [(20, .lst (nI ds))] [] = some (.int (t : Nat)) := by
    rw [ev_sum (ev_var (v := .lst (nI ds)) rfl)]
    show ((intsOf (nI ds)).bind fun ns => some (AV.int ns.sum)) = _
    rw [intsOf_nI, Option.bind_some, sum_cast, ht]
  obtain ⟨vs₁, f₁, k25, k24, k21⟩ := plan_if (vs := setVar 21 (.lst (nI R)) (setVar 24 (.int (m : Nat)) (setVar 25 (.int (t : Nat)) [(20, .lst (nI ds))]))) (t := t) (R := R) (by simp [lk_setVar]) (by simp [lk_setVar])
  have hl' : (if t / 4 % 2 = 1 then R.reverse else R).length ≤ 10 := by
    split
    · rw [List.length_reverse]; omega
    · omega
  obtain ⟨vs₂, f₂⟩ := plan2 (vs := vs₁) (t := t) (m := m) (k25.trans (by simp [lk_setVar])) (k24.trans (by simp [lk_setVar])) k21 hl'
  have hr := (seq_n (F := F0) (I := I0) (b := .seq (.asg 24 pPlM) (.seq (.asg 21 pPlR) (.seq pPlIf pPl2))) (asg_n (n := 25) e1)).trans ((seq_n (asg_n hm)).trans ((seq_n (asg_n (hR _ (by simp [lk_setVar])))).trans ((seq_n f₁).trans f₂)))
  exact run_ret rfl ((congrArg (fun p => exP F0 I0 p _ _) p_plan_eq).trans hr) (frz_plan _ _ _)

noncomputable def PlOk (m : Nat) (R : List Nat) : Prop := (m = 2 ∧ R = [1]) ∨ (m = 3 ∧ R = [1, 2, 1]) ∨ (m = 4 ∧ (R = [1, 2, 1, 3, 2, 1] ∨ R = [1, 2, 3, 1, 2, 1]))
theorem kt_again (t : Nat) : Pat.Kt (1 + t / 8 % 3) := by
  have h := Nat.mod_lt (t / 8) (show 3 > 0 by omega)
  exact .of (by omega) (by omega)
theorem plM {t r m : Nat} (hr : t % 4 = r) (ds : List Nat) (h : itemA [] (.lst [.int 4, .int 3, .int 4, .int 2]) (.int (r : Nat)) = some (.int (m : Nat))) : evP F0 pPlM (setVar 25 (.int (t : Nat)) [(20, .lst (nI ds))]) [] = some (.int (m : Nat)) := by
  have e0 : evP F0 (.bin .Mod (.var 25) (.cst (.int 4))) (setVar 25 (.int (t : Nat)) [(20, .lst (nI ds))]) [] = some (.int (r : Nat)) := by
    rw [← hr]; exact (ev_bin (ev_var (by simp [lk_setVar])) ev_cst).trans (modN _ 4 (by decide) _)
  exact (ev_item (by rfl) e0).trans h
theorem plR_e {vs : Vars} {m r : Nat} (h : lk 24 vs = some (.int (m : Nat))) (hm : m = r + 2) {x : AV} (hx : itemA [] (.lst [.lst (nI [1]), .lst (nI [1, 2, 1]), .lst (nI [1, 2, 1, 3, 2, 1])]) (.int (r : Nat)) = some x) : evP F0 pPlR vs [] = some x := by
  have e0 : evP F0 (.bin .Sub (.var 24) (.cst (.int 2))) vs [] = some (.int (r : Nat)) := by
    refine (ev_bin (ev_var h) ev_cst).trans ?_
    show some (AV.int ((m : Int) - 2)) = _
    rw [hm]
    congr 2
    omega
  exact (ev_item (by rfl) e0).trans hx
theorem plan_ok (ds : List Nat) : ∃ m R a k, PlOk m R ∧ Pat.Kt a ∧ runF F0 I0 [20] p_plan [.lst (nI ds)] = some (.tup [.int (m : Nat), .lst (nI (plR R a k))]) := by
  have key : ∀ (m : Nat) (R : List Nat), PlOk m R → PlOk m R.reverse → R.length ≤ 8 → evP F0 pPlM (setVar 25 (.int ((ds.sum : Nat) : Int)) [(20, .lst (nI ds))]) [] = some (.int (m : Nat)) → (∀ vs, lk 24 vs = some (.int (m : Nat)) → evP F0 pPlR vs [] = some (.lst (nI R))) → ∃ m R a k, PlOk m R ∧ Pat.Kt a ∧ runF F0 I0 [20] p_plan [.lst (nI ds)] = some (.tup [.int (m : Nat), .lst (nI (plR R a k))]) := by
    intro m R h1 h2 hl hm hR
    have := plan_run rfl hm hR hl
    refine ⟨m, if ds.sum / 4 % 2 = 1 then R.reverse else R, 1 + ds.sum / 8 % 3, ds.sum / 24 % ((if ds.sum / 4 % 2 = 1 then R.reverse else R).length + 1), ?_, kt_again _, this⟩
    split
    · exact h2
    · exact h1
  have hlt := Nat.mod_lt ds.sum (show 4 > 0 by omega)
  generalize hr : ds.sum % 4 = r at hlt
  match r, hlt with
  | 0, _ => exact key 4 [1, 2, 1, 3, 2, 1] (.inr (.inr ⟨rfl, .inl rfl⟩)) (.inr (.inr ⟨rfl, .inr rfl⟩)) (by decide) (plM hr ds (by rfl)) fun vs h => plR_e (r := 2) h rfl (by rfl)
  | 1, _ => exact key 3 [1, 2, 1] (.inr (.inl ⟨rfl, rfl⟩)) (.inr (.inl ⟨rfl, rfl⟩)) (by decide) (plM hr ds (by rfl)) fun vs h => plR_e (r := 1) h rfl (by rfl)
  | 2, _ => exact key 4 [1, 2, 1, 3, 2, 1] (.inr (.inr ⟨rfl, .inl rfl⟩)) (.inr (.inr ⟨rfl, .inr rfl⟩)) (by decide) (plM hr ds (by rfl)) fun vs h => plR_e (r := 2) h rfl (by rfl)
  | 3, _ => exact key 2 [1] (.inl ⟨rfl, rfl⟩) (.inl ⟨rfl, rfl⟩) (by decide) (plM hr ds (by rfl)) fun vs h => plR_e (r := 0) h rfl (by rfl)
end Mine
end

section
open PySem PySem.Calls PyProof.Rows PySem.W
set_option maxRecDepth 100000
set_option linter.unusedSimpArgs false
set_option linter.unusedVariables false
namespace Mine

noncomputable def pT1 : PE := .bin .Add (.cst (.int 14)) (.bin .Mod (.item (.var 20) (.var 19)) (.cst (.int 4)))
noncomputable def pT2 : PE := .bin .Add (.bin .Add (.cst (.int 255)) (.item (.var 21) (.var 19))) (.bin .Mult (.bin .FloorDiv (.item (.var 20) (.var 19)) (.cst (.int 4))) (.cst (.int 3)))
noncomputable def pTB : PS := .seq (.ext 28 (.call 6 (.cons pT1 (.nil)))) (.seq (.ite (.cmp .Lt (.var 19) (.len (.var 21))) (.seq (.ext 28 (.call 6 (.cons pT2 (.nil)))) (.skip)) (.skip)) (.skip))
theorem p_tape_eq : p_tape = .seq (.newl 28 (.nil)) (.seq (.loop 19 (.rng1 (.cst (.int 8))) pTB) (.seq (.ret (.bin .Add (.var 28) (.cons (.cst (.int 0)) (.nil)))) (.skip))) := rfl
noncomputable def numsAt (ds rs : List Nat) (k : Nat) : List Nat := (14 + ds[k]?.getD 0 % 4) :: (match rs[k]? with
  | some r => [255 + r + ds[k]?.getD 0 / 4 * 3]
  | none => [])
theorem hi_len : ∀ (f m : Nat), (hiN f m).length ≤ f
  | 0, _ => Nat.le_refl _
  | f + 1, m => by
    unfold hiN
    split
    · simp
    · simp; exact hi_len f _
theorem oct_len (n : Nat) : (octN n).length ≤ 6 := by
  have := hi_len 5 (n / 64)
  unfold octN
  simp
  omega
theorem call_octs {e : PE} {vs : Vars} {σ : Hp} {n : Nat} (h : evP F1 e vs σ = some (.int (n : Nat))) (hn : n ≤ 1000000000) : evP F1 (.call 6 (.cons e .nil)) vs σ = some (.lst (nI (octN n))) := by
  refine (ev_call ((ev_cons h ev_nil).trans rfl)).trans ?_
  have h64 : (64 : Nat) ^ 5 = 1073741824 := by decide
  have e1 : F1 6 [AV.int (n : Nat)] = some (.lst (nI (octN n))) := octs_ok (n := n) (by omega)
  exact (callA_of rfl).trans e1
theorem ev_idx {F : Fns} {vs : Vars} {σ : Hp} {o i k x : Nat} {ds : List Nat} (h1 : lk o vs = some (.lst (nI ds))) (h2 : lk i vs = some (.int (k : Nat))) (hx : ds[k]? = some x) : evP F (.item (.var o) (.var i)) vs σ = some (.int (x : Nat)) := by
  exact ev_itemN (ev_var h1) (ev_var h2) rfl (by rw [nI_get, hx]; rfl)
theorem tape_body {ds rs : List Nat} {k x : Nat} {out : List Nat} {vs : Vars} (h28 : lk 28 vs = some (.loc 0)) (h20 : lk 20 vs = some (.lst (nI ds))) (h21 : lk 21 vs = some (.lst (nI rs))) (h19 : lk 19 vs = some (.int (k : Nat)))
    (hx : ds[k]? = some x) (hb : x ≤ 100000000) (hr : ∀ r ∈ rs, r ≤ 3) (ho : out.length ≤ 1000) :
    exP F1 I1 pTB vs [.list (nI out)] = some (.next, vs, [.list (nI (out ++ (numsAt ds rs k).flatMap octN))]) := by
  have e1 : evP F1 pT1 vs [.list (nI out)] = some (.int ((14 + x % 4 : Nat) : Int)) :=
    (ev_bin ev_cst ((ev_bin (ev_idx h20 h19 hx) ev_cst).trans (modN x 4 (by decide) _))).trans (addN 14 _ _)
  have c1 := call_octs e1 (by omega)
  have l1 := oct_len (14 + x % 4)
  have s1 : exP F1 I1 (.ext 28 (.call 6 (.cons pT1 (.nil)))) vs [.list (nI out)] = some (.next, vs, [.list (nI (out ++ octN (14 + x % 4)))]) := by
    refine (ext_n h28 c1 (xs := nI out) rfl (by rw [nI_len, nI_len]; omega)).trans ?_
    rw [← nI_app]
    rfl
  have hc : otru (evP F1 (.cmp .Lt (.var 19) (.len (.var 21))) vs [.list (nI (out ++ octN (14 + x % 4)))]) = some (decide (k < rs.length)) := by
    have el : evP F1 (.len (.var 21)) vs [.list (nI (out ++ octN (14 + x % 4)))] = some (.int (rs.length : Nat)) := by
      rw [ev_len (ev_var h21)]
      show some (AV.int (nI rs).length) = _
      rw [nI_len]
    have e2 : decide (((k : Nat) : Int) < ((rs.length : Nat) : Int)) = decide (k < rs.length) := by
      by_cases h : k < rs.length
      · rw [decide_eq_true h]; exact decide_eq_true (by omega)
      · rw [decide_eq_false h]; exact decide_eq_false (by omega)
    exact tru_cmp (ev_var h19) el (congrArg some e2)
  refine (seq_n s1).trans ?_
  unfold numsAt
  rw [hx, Option.getD_some]
  by_cases h : k < rs.length
  · rw [decide_eq_true h] at hc
    have hrk : rs[k]? = some rs[k] := by simp [h]
    have hr3 : rs[k] ≤ 3 := hr _ (List.getElem_mem h)
    generalize rs[k] = r at *
    have e2 : evP F1 pT2 vs [.list (nI (out ++ octN (14 + x % 4)))] = some (.int ((255 + r + x / 4 * 3 : Nat) : Int)) := by
      refine (ev_bin ((ev_bin ev_cst (ev_idx h21 h19 hrk)).trans (addN 255 r _)) ((ev_bin ((ev_bin (ev_idx h20 h19 hx) ev_cst).trans (divN x 4 (by decide) (by decide) _)) ev_cst).trans (?_ : _ = some (.int ((x / 4 * 3 : Nat) : Int))))).trans (addN _ _ _)
      show (if (smallI ((x / 4 : Nat) : Int) && smallI 3) = true then some (AV.int (((x / 4 : Nat) : Int) * 3)) else none) = _
      rw [if_pos (by simp [smallI]; omega)]
      congr 2
    have c2 := call_octs e2 (by omega)
    have s2 := ext_n (F := F1) (I := I1) (l := 0) (xs := nI (out ++ octN (14 + x % 4))) h28 c2 rfl (by rw [nI_len, nI_len, List.length_append]; have := oct_len (255 + r + x / 4 * 3); omega)
    refine (seq_n ((ite_t hc).trans ((seq_n s2).trans skip_n))).trans (skip_n.trans ?_)
    rw [hrk, ← nI_app]
    simp only [List.flatMap_cons, List.flatMap_nil, List.append_nil, List.append_assoc]
    rfl
  · rw [decide_eq_false h] at hc
    have hrk : rs[k]? = none := by simp; omega
    refine (seq_n ((ite_f hc).trans skip_n)).trans (skip_n.trans ?_)
    rw [hrk]
    simp only [List.flatMap_cons, List.flatMap_nil, List.append_nil]
theorem nums_len (ds rs : List Nat) (k : Nat) : ((numsAt ds rs k).flatMap octN).length ≤ 12 := by
  unfold numsAt
  split
  · rename_i r _
    have h1 := oct_len (14 + ds[k]?.getD 0 % 4)
    have h2 := oct_len (255 + r + ds[k]?.getD 0 / 4 * 3)
    simp only [List.flatMap_cons, List.flatMap_nil, List.append_nil, List.length_append]
    omega
  · have h1 := oct_len (14 + ds[k]?.getD 0 % 4)
    simp only [List.flatMap_cons, List.flatMap_nil, List.append_nil]
    omega
theorem tape_loop {ds rs : List Nat} (hd : ∀ d ∈ ds, d ≤ 100000000) (hr : ∀ r ∈ rs, r ≤ 3) : ∀ (ks : List Nat) (out : List Nat) (vs : Vars), (∀ k ∈ ks, k < ds.length) → out.length + 12 * ks.length ≤ 1000 → lk 28 vs = some (.loc 0) → lk 20 vs = some (.lst (nI ds)) → lk 21 vs = some (.lst (nI rs)) →
    ∃ vs', forL 19 (exP F1 I1 pTB) (nI ks) vs [.list (nI out)] = some (.next, vs', [.list (nI (out ++ (ks.flatMap (numsAt ds rs)).flatMap octN))]) ∧ lk 28 vs' = some (.loc 0)
  | [], out, vs, _, _, h28, _, _ => ⟨vs, by simp [nI, forL], h28⟩
  | k :: ks, out, vs, hk, hl, h28, h20, h21 => by
    have hk0 : k < ds.length := hk k List.mem_cons_self
    have hx : ds[k]? = some ds[k] := by simp [hk0]
    simp only [List.length_cons] at hl
    have hb := tape_body (ds := ds) (rs := rs) (k := k) (x := ds[k]) (out := out) (vs := setVar 19 (.int (k : Nat)) vs) (by simp [lk_setVar, h28]) (by simp [lk_setVar, h20]) (by simp [lk_setVar, h21]) (by simp [lk_setVar]) hx (hd _ (List.getElem_mem hk0)) hr (by omega)
    have hn := nums_len ds rs k
    obtain ⟨vs', e, h⟩ := tape_loop hd hr ks (out ++ (numsAt ds rs k).flatMap octN) (setVar 19 (.int (k : Nat)) vs) (fun k h => hk k (List.mem_cons_of_mem _ h)) (by rw [List.length_append]; omega) (by simp [lk_setVar, h28]) (by simp [lk_setVar, h20]) (by simp [lk_setVar, h21])
    refine ⟨vs', ?_, h⟩
    show forL 19 (exP F1 I1 pTB) (.int (k : Nat) :: nI ks) vs _ = _
    refine ((for_n hb).trans e).trans ?_
    simp only [List.flatMap_cons, List.flatMap_append, List.append_assoc]
noncomputable def numsN (ds rs : List Nat) : List Nat := [0, 1, 2, 3, 4, 5, 6, 7].flatMap (numsAt ds rs)
theorem flat_len {f : Nat → List Nat} {M : Nat} (h : ∀ k, (f k).length ≤ M) : ∀ ks : List Nat, (ks.flatMap f).length ≤ ks.length * M
  | [] => by simp
  | k :: ks => by
    have := flat_len h ks
    have := h k
    simp only [List.flatMap_cons, List.length_append, List.length_cons, Nat.add_mul]
    omega
theorem tape_ok {ds rs : List Nat} (hl : ds.length = 8) (hd : ∀ d ∈ ds, d ≤ 100000000) (hr : ∀ r ∈ rs, r ≤ 3) :
    runF F1 I1 [20, 21] p_tape [.lst (nI ds), .lst (nI rs)] = some (.lst (nI ((numsN ds rs ++ [0]).flatMap octN))) := by
  obtain ⟨vs', e, h28⟩ := tape_loop hd hr [0, 1, 2, 3, 4, 5, 6, 7] [] (setVar 28 (.loc 0) [(20, .lst (nI ds)), (21, .lst (nI rs))]) (by rw [hl]; decide) (by decide) (by simp [lk_setVar]) rfl rfl
  have hlen : ((numsN ds rs).flatMap octN).length ≤ 200 := by
    have h1 := flat_len oct_len (numsN ds rs)
    have h2 : (numsN ds rs).length ≤ 8 * 2 := flat_len (f := numsAt ds rs) (M := 2) (fun k => by unfold numsAt; split <;> simp) [0, 1, 2, 3, 4, 5, 6, 7]
    omega
  have e0 : evP F1 (.bin .Add (.var 28) (.cons (.cst (.int 0)) (.nil))) vs' [.list (nI ((numsN ds rs).flatMap octN))] = some (.lst (nI ((numsN ds rs ++ [0]).flatMap octN))) := by
    refine (ev_bin (ev_var h28) ((ev_cons ev_cst ev_nil).trans rfl)).trans ?_
    show llA (.loc 0) (.lst (nI [0])) [.list (nI ((numsN ds rs).flatMap octN))] = _
    refine (add_lst (nI ((numsN ds rs).flatMap octN)) (nI [0]) (by rw [nI_len, nI_len, List.length_singleton]; omega) []).trans ?_
    rw [← nI_app, List.flatMap_append]
    rfl
  have hr : exP F1 I1 p_tape [(20, .lst (nI ds)), (21, .lst (nI rs))] [] = some (.ret (.lst (nI ((numsN ds rs ++ [0]).flatMap octN))), vs', [.list (nI ((numsN ds rs).flatMap octN))]) := by
    rw [p_tape_eq]
    exact (seq_n (newl_n (xs := []) ev_nil)).trans ((seq_n ((loop_e (v := .rng 0 8) rfl rfl).trans e)).trans (seq_r (ret_r e0)))
  exact run_ret rfl hr (frz_nI _ _)
end Mine
end

section
open PySem PySem.Calls PyProof.Rows PySem.W
set_option maxRecDepth 100000
set_option linter.unusedSimpArgs false
set_option linter.unusedVariables false
namespace Mine

noncomputable def pRC : PE := .not (.call 3 (.cons (.var 26) (.nil)))
noncomputable def pRow : PE := .bin .Add (.cst (.int 1)) (.bin .Mod (.bin .Sub (.var 26) (.cst (.int 256))) (.cst (.int 3)))
noncomputable def pRB : PS := .seq (.ite (.call 2 (.cons (.var 26) (.nil))) (.seq (.app 21 pRow) (.skip)) (.seq (.app 29 (.get (.var 30) (.var 26) (.cst (.int 0)))) (.skip))) (.seq (.callI 26 0 14) (.skip))
theorem p_read_eq : p_read = .seq (.tab 30) (.seq (.iter 14 (.var 28)) (.seq (.newl 29 (.nil)) (.seq (.newl 21 (.nil)) (.seq (.callI 26 0 14) (.seq (.whl pRC pRB) (.seq (.ret (.tup (.cons (.var 29) (.cons (.var 21) (.nil))))) (.skip))))))) := rfl
theorem eof_ok (n : Nat) : F1 3 [.int (n : Nat)] = some (.bool (decide (n = 0))) := by
  have e : (((n : Nat) : Int) == 0) = decide (n = 0) := by
    by_cases h : n = 0
    · rw [h]; rfl
    · rw [decide_eq_false h]; exact beq_eq_false_iff_ne.mpr (by omega)
  rw [← e]
  rfl
theorem nont_ok (n : Nat) : F1 2 [.int (n : Nat)] = some (.bool (decide (256 ≤ n))) := by
  have e : decide (((n : Nat) : Int) ≥ 256) = decide (256 ≤ n) := by
    by_cases h : 256 ≤ n
    · rw [decide_eq_true h]; exact decide_eq_true (by omega)
    · rw [decide_eq_false h]; exact decide_eq_false (by omega)
  rw [← e]
  rfl
theorem call_26 {f n : Nat} {vs : Vars} {σ : Hp} (h : lk 26 vs = some (.int (n : Nat))) : evP F1 (.call f (.cons (.var 26) .nil)) vs σ = F1 f [.int (n : Nat)] := by
  exact (ev_call ((ev_cons (ev_var h) ev_nil).trans rfl)).trans (callA_of rfl)
theorem callI_n {vs : Vars} {xs : List AV} {k n : Nat} {o0 o2 o3 : AObj} (h14 : lk 14 vs = some (.loc 1)) (hn : n ≤ 1000000000) (hx : ∀ (i x : Nat), (octN n)[i]? = some x → xs[k + i]? = some (.int (x : Nat))) (ha : xs.all atom = true) :
    exP F1 I1 (.callI 26 0 14) vs [o0, .iter xs k, o2, o3] = some (.next, setVar 26 (.int (n : Nat)) vs, [o0, .iter xs (k + (octN n).length), o2, o3]) := by
  have h64 : (64 : Nat) ^ 5 = 1073741824 := by decide
  have e1 : I1 0 xs k = some (.int (n : Nat), xs, k + (octN n).length) := vint_ok (n := n) (by omega) hx ha
  show ((lk 14 vs).bind locA).bind (fun i => (iterAt [o0, .iter xs k, o2, o3] i).bind fun p => if p.1.all atom = true then (I1 0 p.1 p.2).bind fun q => if atom q.1 = true then some (AFl.next, setVar 26 q.1 vs, [o0, .iter xs k, o2, o3].set i (.iter q.2.1 q.2.2)) else none else none) = _
  rw [h14]
  show (if xs.all atom = true then (I1 0 xs k).bind fun q => if atom q.1 = true then some (AFl.next, setVar 26 q.1 vs, [o0, .iter xs k, o2, o3].set 1 (.iter q.2.1 q.2.2)) else none else none) = _
  rw [if_pos ha, e1]
  rfl
noncomputable def NumOk (n : Nat) : Prop := (14 ≤ n ∧ n ≤ 17) ∨ (256 ≤ n ∧ n ≤ 1000000000)
noncomputable def wordOf (ns : List Nat) : List Nat := ns.filterMap fun n => if 256 ≤ n then none else some (n - 13)
noncomputable def rowsOf (ns : List Nat) : List Nat := ns.filterMap fun n => if 256 ≤ n then some (1 + (n - 256) % 3) else none
noncomputable def hd0 : List Nat → Nat
  | [] => 0
  | n :: _ => n
theorem hd0_le {ns : List Nat} (h : ∀ n ∈ ns, NumOk n) : hd0 ns ≤ 1000000000 := by
  cases ns with
  | nil => exact Nat.zero_le _
  | cons n ns =>
    have := h n List.mem_cons_self
    unfold NumOk at this
    show n ≤ _
    omega
theorem tabGet_ok {n : Nat} (h1 : 14 ≤ n) (h2 : n ≤ 17) : tabGet ((n : Nat) : Int) 0 = ((n - 13 : Nat) : Int) := by
  have key : ∀ n, n < 18 → 14 ≤ n → tabGet ((n : Nat) : Int) 0 = ((n - 13 : Nat) : Int) := by decide +kernel
  exact key n (Nat.lt_succ_of_le h2) h1
theorem row_mod (n : Nat) (h : 256 ≤ n) (σ : Hp) {F : Fns} {vs : Vars} (h26 : lk 26 vs = some (.int (n : Nat))) : evP F pRow vs σ = some (.int ((1 + (n - 256) % 3 : Nat) : Int)) := by
  have e1 : evP F (.bin .Sub (.var 26) (.cst (.int 256))) vs σ = some (.int ((n - 256 : Nat) : Int)) := by
    refine (ev_bin (ev_var h26) ev_cst).trans ?_
    show some (AV.int ((n : Int) - 256)) = _
    congr 2
    omega
  exact (ev_bin ev_cst ((ev_bin e1 ev_cst).trans (modN _ 3 (by decide) _))).trans (addN 1 _ _)
theorem read_whl {xs : List AV} (ha : xs.all atom = true) : ∀ (ns : List Nat) (fuel k : Nat) (w rs : List Nat) (vs : Vars), (∀ n ∈ ns, NumOk n) → ns.length < fuel → w.length + ns.length ≤ 1000 → rs.length + ns.length ≤ 1000 →
    (∀ (i x : Nat), ((ns ++ [0]).tail.flatMap octN)[i]? = some x → xs[k + i]? = some (.int (x : Nat))) →
    lk 26 vs = some (.int (hd0 ns : Nat)) → lk 30 vs = some (.loc 0) → lk 14 vs = some (.loc 1) → lk 29 vs = some (.loc 2) → lk 21 vs = some (.loc 3) →
    ∃ vs' k', whL (fun vs σ => otru (evP F1 pRC vs σ)) (exP F1 I1 pRB) fuel vs [.tab, .iter xs k, .list (nI w), .list (nI rs)] = some (.next, vs', [.tab, .iter xs k', .list (nI (w ++ wordOf ns)), .list (nI (rs ++ rowsOf ns))]) ∧ lk 29 vs' = some (.loc 2) ∧ lk 21 vs' = some (.loc 3)
  | [], fuel, k, w, rs, vs, hv, hf, hw, hr, hx, h26, h30, h14, h29, h21 => by
    obtain ⟨g, rfl⟩ : ∃ g, fuel = g + 1 := ⟨fuel - 1, by omega⟩
    have hc : otru (evP F1 pRC vs [.tab, .iter xs k, .list (nI w), .list (nI rs)]) = some false := by
      unfold pRC
      rw [ev_not ((call_26 h26).trans (eof_ok _))]
      rfl
    exact ⟨vs, k, by rw [whl_f hc]; simp [wordOf, rowsOf], h29, h21⟩
  | n :: ns, fuel, k, w, rs, vs, hv, hf, hw, hr, hx, h26, h30, h14, h29, h21 => by
    obtain ⟨g, rfl⟩ : ∃ g, fuel = g + 1 := ⟨fuel - 1, by omega⟩
    simp only [List.length_cons] at hf hw hr
    have hn := hv n List.mem_cons_self
    have hv' : ∀ m ∈ ns, NumOk m := fun m h => hv m (List.mem_cons_of_mem _ h)
    have h26' : lk 26 vs = some (.int (n : Nat)) := h26
    have hc : ∀ σ, otru (evP F1 pRC vs σ) = some true := by
      intro σ
      unfold pRC
      rw [ev_not ((call_26 h26').trans (eof_ok _)), decide_eq_false (by unfold NumOk at hn; omega)]
      rfl
    have hx1 : ∀ (i x : Nat), (octN (hd0 ns))[i]? = some x → xs[k + i]? = some (.int (x : Nat)) := by
      intro i x h
      refine hx i x ?_
      have hi := (List.getElem?_eq_some_iff.mp h).1
      cases ns with
      | nil => exact h
      | cons m ns =>
        show ((octN m ++ _)[i]?) = some x
        rw [List.getElem?_append_left (show i < (octN m).length from hi)]
        exact h
    have hx2 : ∀ (i x : Nat), ((ns ++ [0]).tail.flatMap octN)[i]? = some x → xs[k + (octN (hd0 ns)).length + i]? = some (.int (x : Nat)) := by
      intro i x h
      rw [Nat.add_assoc]
      refine hx _ x ?_
      cases ns with
      | nil => exact absurd h (by simp)
      | cons m ns =>
        show ((octN m ++ _)[(octN m).length + i]?) = some x
        rw [List.getElem?_append_right (by omega), Nat.add_sub_cancel_left]
        exact h
    have hh := hd0_le hv'
    have hci : ∀ (o2 o3 : AObj), exP F1 I1 (.callI 26 0 14) vs [.tab, .iter xs k, o2, o3] = some (.next, setVar 26 (.int (hd0 ns : Nat)) vs, [.tab, .iter xs (k + (octN (hd0 ns)).length), o2, o3]) := fun o2 o3 => callI_n h14 hh hx1 ha
    have hnt : ∀ σ, evP F1 (.call 2 (.cons (.var 26) .nil)) vs σ = some (.bool (decide (256 ≤ n))) := fun σ => by rw [call_26 h26', nont_ok]
    by_cases h256 : 256 ≤ n
    · have hb : exP F1 I1 pRB vs [.tab, .iter xs k, .list (nI w), .list (nI rs)] = some (.next, setVar 26 (.int (hd0 ns : Nat)) vs, [.tab, .iter xs (k + (octN (hd0 ns)).length), .list (nI w), .list (nI (rs ++ [1 + (n - 256) % 3]))]) := by
        refine (seq_n ((ite_t ?_).trans ((seq_n (app_n (l := 3) (xs := nI rs) h21 (row_mod n h256 _ h26') rfl (by rw [nI_len]; omega))).trans skip_n))).trans ((seq_n ?_).trans skip_n)
        · rw [hnt, decide_eq_true h256]; rfl
        · rw [nI_app]; exact hci _ _
      obtain ⟨vs', k', e, k29, k21⟩ := read_whl ha ns g (k + (octN (hd0 ns)).length) w (rs ++ [1 + (n - 256) % 3]) (setVar 26 (.int (hd0 ns : Nat)) vs) hv' (by omega) (by omega) (by simp; omega) hx2 (by simp [lk_setVar]) (by simp [lk_setVar, h30]) (by simp [lk_setVar, h14]) (by simp [lk_setVar, h29]) (by simp [lk_setVar, h21])
      refine ⟨vs', k', ?_, k29, k21⟩
      rw [whl_t (hc _) hb, e]
      simp [wordOf, rowsOf, h256]
    · have h1417 : 14 ≤ n ∧ n ≤ 17 := by unfold NumOk at hn; omega
      have eg : evP F1 (.get (.var 30) (.var 26) (.cst (.int 0))) vs [.tab, .iter xs k, .list (nI w), .list (nI rs)] = some (.int ((n - 13 : Nat) : Int)) := by
        rw [ev_get (ev_var h30) (ev_var h26') ev_cst]
        show some (AV.int (tabGet (n : Int) 0)) = _
        rw [tabGet_ok h1417.1 h1417.2]
      have hb : exP F1 I1 pRB vs [.tab, .iter xs k, .list (nI w), .list (nI rs)] = some (.next, setVar 26 (.int (hd0 ns : Nat)) vs, [.tab, .iter xs (k + (octN (hd0 ns)).length), .list (nI (w ++ [n - 13])), .list (nI rs)]) := by
        refine (seq_n ((ite_f ?_).trans ((seq_n (app_n (l := 2) (xs := nI w) h29 eg rfl (by rw [nI_len]; omega))).trans skip_n))).trans ((seq_n ?_).trans skip_n)
        · rw [hnt, decide_eq_false h256]; rfl
        · rw [nI_app]; exact hci _ _
      obtain ⟨vs', k', e, k29, k21⟩ := read_whl ha ns g (k + (octN (hd0 ns)).length) (w ++ [n - 13]) rs (setVar 26 (.int (hd0 ns : Nat)) vs) hv' (by omega) (by simp; omega) (by omega) hx2 (by simp [lk_setVar]) (by simp [lk_setVar, h30]) (by simp [lk_setVar, h14]) (by simp [lk_setVar, h29]) (by simp [lk_setVar, h21])
      refine ⟨vs', k', ?_, k29, k21⟩
      rw [whl_t (hc _) hb, e]
      simp [wordOf, rowsOf, h256]
theorem frz_two {o0 o1 : AObj} (w rs : List Nat) : frz [o0, o1, .list (nI w), .list (nI rs)] (.tup [.loc 2, .loc 3]) = some (.tup [.lst (nI w), .lst (nI rs)]) := by
  have e1 : frz0 [o0, o1, .list (nI w), .list (nI rs)] (.loc 2) = some (.lst (nI w)) := by
    show (if (nI w).all atom = true then some (AV.lst (nI w)) else none) = _
    rw [if_pos (nI_atoms w)]
  have e2 : frz0 [o0, o1, .list (nI w), .list (nI rs)] (.loc 3) = some (.lst (nI rs)) := by
    show (if (nI rs).all atom = true then some (AV.lst (nI rs)) else none) = _
    rw [if_pos (nI_atoms rs)]
  show (mapO (frz0 _) _).bind _ = _
  simp only [mapO, e1, e2]
  rfl
theorem read_ok {ns : List Nat} (hv : ∀ n ∈ ns, NumOk n) (hl : ns.length ≤ 50) : runF F1 I1 [28] p_read [.lst (nI ((ns ++ [0]).flatMap octN))] = some (.tup [.lst (nI (wordOf ns)), .lst (nI (rowsOf ns))]) := by
  have hA : ∀ (i x : Nat), ((ns ++ [0]).flatMap octN)[i]? = some x → (nI ((ns ++ [0]).flatMap octN))[i]? = some (.int (x : Nat)) := by
    intro i x h
    rw [nI_get, h]
    rfl
  have hat := nI_atoms ((ns ++ [0]).flatMap octN)
  have hx1 : ∀ (i x : Nat), (octN (hd0 ns))[i]? = some x → (nI ((ns ++ [0]).flatMap octN))[0 + i]? = some (.int (x : Nat)) := by
    intro i x h
    rw [Nat.zero_add]
    refine hA i x ?_
    have hi := (List.getElem?_eq_some_iff.mp h).1
    cases ns with
    | nil => exact h
    | cons m ns =>
      show ((octN m ++ _)[i]?) = some x
      rw [List.getElem?_append_left (show i < (octN m).length from hi)]
      exact h
  have hx2 : ∀ (i x : Nat), ((ns ++ [0]).tail.flatMap octN)[i]? = some x → (nI ((ns ++ [0]).flatMap octN))[0 + (octN (hd0 ns)).length + i]? = some (.int (x : Nat)) := by
    intro i x h
    rw [Nat.zero_add]
    refine hA _ x ?_
    cases ns with
    | nil => exact absurd h (by simp)
    | cons m ns =>
      show ((octN m ++ _)[(octN m).length + i]?) = some x
      rw [List.getElem?_append_right (by omega), Nat.add_sub_cancel_left]
      exact h
  generalize nI ((ns ++ [0]).flatMap octN) = xs at *
  have hh := hd0_le hv
  have hci : exP F1 I1 (.callI 26 0 14) (setVar 21 (.loc 3) (setVar 29 (.loc 2) (setVar 14 (.loc 1) (setVar 30 (.loc 0) [(28, .lst xs)])))) [.tab, .iter xs 0, .list (nI []), .list (nI [])] = some (.next, setVar 26 (.int (hd0 ns : Nat)) (setVar 21 (.loc 3) (setVar 29 (.loc 2) (setVar 14 (.loc 1) (setVar 30 (.loc 0) [(28, .lst xs)])))), [.tab, .iter xs (0 + (octN (hd0 ns)).length), .list (nI []), .list (nI [])]) :=
    callI_n (by simp [lk_setVar]) hh hx1 hat
  obtain ⟨vs', k', e, k29, k21⟩ := read_whl hat ns 100 (0 + (octN (hd0 ns)).length) [] [] (setVar 26 (.int (hd0 ns : Nat)) (setVar 21 (.loc 3) (setVar 29 (.loc 2) (setVar 14 (.loc 1) (setVar 30 (.loc 0) [(28, .lst xs)]))))) hv (by omega) (by simp; omega) (by simp; omega) hx2 (by simp [lk_setVar]) (by simp [lk_setVar]) (by simp [lk_setVar]) (by simp [lk_setVar]) (by simp [lk_setVar])
  have er : evP F1 (.tup (.cons (.var 29) (.cons (.var 21) (.nil)))) vs' [.tab, .iter xs k', .list (nI ([] ++ wordOf ns)), .list (nI ([] ++ rowsOf ns))] = some (.tup [.loc 2, .loc 3]) := by
    exact ev_tup ((ev_cons (ev_var k29) ((ev_cons (ev_var k21) ev_nil).trans rfl)).trans rfl)
  have hr : exP F1 I1 p_read [(28, .lst xs)] [] = some (.ret (.tup [.loc 2, .loc 3]), vs', [.tab, .iter xs k', .list (nI ([] ++ wordOf ns)), .list (nI ([] ++ rowsOf ns))]) := by
    rw [p_read_eq]
    have s1 : exP F1 I1 (.tab 30) [(28, .lst xs)] [] = some (.next, setVar 30 (.loc 0) [(28, .lst xs)], [.tab]) := rfl
    have s2 : exP F1 I1 (.iter 14 (.var 28)) (setVar 30 (.loc 0) [(28, .lst xs)]) [.tab] = some (.next, setVar 14 (.loc 1) (setVar 30 (.loc 0) [(28, .lst xs)]), [.tab, .iter xs 0]) := rfl
    have s3 : exP F1 I1 (.newl 29 .nil) (setVar 14 (.loc 1) (setVar 30 (.loc 0) [(28, .lst xs)])) [.tab, .iter xs 0] = some (.next, setVar 29 (.loc 2) (setVar 14 (.loc 1) (setVar 30 (.loc 0) [(28, .lst xs)])), [.tab, .iter xs 0, .list (nI [])]) := rfl
    have s4 : exP F1 I1 (.newl 21 .nil) (setVar 29 (.loc 2) (setVar 14 (.loc 1) (setVar 30 (.loc 0) [(28, .lst xs)]))) [.tab, .iter xs 0, .list (nI [])] = some (.next, setVar 21 (.loc 3) (setVar 29 (.loc 2) (setVar 14 (.loc 1) (setVar 30 (.loc 0) [(28, .lst xs)]))), [.tab, .iter xs 0, .list (nI []), .list (nI [])]) := rfl
    exact (seq_n s1).trans ((seq_n s2).trans ((seq_n s3).trans ((seq_n s4).trans ((seq_n hci).trans ((seq_n (whl_e.trans e)).trans (seq_r (ret_r er)))))))
  exact run_ret rfl hr (frz_two _ _)
end Mine
end

section
open PySem PySem.Calls PyProof.Rows PySem.W
set_option maxRecDepth 100000
set_option linter.unusedSimpArgs false
set_option linter.unusedVariables false
namespace Mine

theorem word_app (a b : List Nat) : wordOf (a ++ b) = wordOf a ++ wordOf b := List.filterMap_append
theorem rows_app (a b : List Nat) : rowsOf (a ++ b) = rowsOf a ++ rowsOf b := List.filterMap_append
theorem word_at (ds rs : List Nat) (hr : ∀ r ∈ rs, Pat.Kt r) (k : Nat) : wordOf (numsAt ds rs k) = [1 + ds[k]?.getD 0 % 4] := by
  unfold numsAt wordOf
  split
  · rename_i r hrk
    have hr' : Pat.Kt r := hr r (List.mem_of_getElem? hrk)
    have hr' := hr'.b
    have h2 : 256 ≤ 255 + r + ds[k]?.getD 0 / 4 * 3 := by omega
    have h1 : ¬ 256 ≤ 14 + ds[k]?.getD 0 % 4 := by omega
    simp only [List.filterMap_cons, List.filterMap_nil, if_neg h1, if_pos h2]
    congr 1
    omega
  · have h1 : ¬ 256 ≤ 14 + ds[k]?.getD 0 % 4 := by omega
    simp only [List.filterMap_cons, List.filterMap_nil, if_neg h1]
    congr 1
    omega
theorem rows_at (ds rs : List Nat) (hr : ∀ r ∈ rs, Pat.Kt r) (k : Nat) : rowsOf (numsAt ds rs k) = (rs[k]?).toList := by
  unfold numsAt rowsOf
  split
  · rename_i r hrk
    have hr' : Pat.Kt r := hr r (List.mem_of_getElem? hrk)
    have hr' := hr'.b
    have h2 : 256 ≤ 255 + r + ds[k]?.getD 0 / 4 * 3 := by omega
    have h1 : ¬ 256 ≤ 14 + ds[k]?.getD 0 % 4 := by omega
    simp only [List.filterMap_cons, List.filterMap_nil, if_neg h1, if_pos h2, hrk, Option.toList]
    congr 1
    omega
  · rename_i hrk
    have h1 : ¬ 256 ≤ 14 + ds[k]?.getD 0 % 4 := by omega
    simp only [List.filterMap_cons, List.filterMap_nil, if_neg h1, hrk, Option.toList]
theorem num_ok (ds rs : List Nat) (hd : ∀ d ∈ ds, d ≤ 100000000) (hr : ∀ r ∈ rs, Pat.Kt r) (k : Nat) : ∀ n ∈ numsAt ds rs k, NumOk n := by
  have hdk : ds[k]?.getD 0 ≤ 100000000 := by
    cases h : ds[k]? with
    | none => exact Nat.zero_le _
    | some d => exact hd d (List.mem_of_getElem? h)
  generalize hx : ds[k]?.getD 0 = x at *
  unfold numsAt
  rw [hx]
  intro n hn
  rcases List.mem_cons.mp hn with rfl | hn
  · exact .inl ⟨by omega, by omega⟩
  · split at hn
    · rename_i r hrk
      have hr' : Pat.Kt r := hr r (List.mem_of_getElem? hrk)
      have hr' := hr'.b
      rw [List.mem_singleton] at hn
      exact .inr ⟨by omega, by omega⟩
    · cases hn
theorem word_all (ds rs : List Nat) (hr : ∀ r ∈ rs, Pat.Kt r) : ∀ n, n ≤ ds.length → wordOf ((List.range n).flatMap (numsAt ds rs)) = (ds.take n).map (fun d => 1 + d % 4)
  | 0, _ => rfl
  | n + 1, h => by
    rw [List.range_succ, List.flatMap_append, word_app, word_all ds rs hr n (Nat.le_of_succ_le h), List.flatMap_singleton, word_at ds rs hr n, List.take_succ_eq_append_getElem h, List.map_append, List.getElem?_eq_getElem h]
    rfl
theorem rows_all (ds rs : List Nat) (hr : ∀ r ∈ rs, Pat.Kt r) : ∀ n, rowsOf ((List.range n).flatMap (numsAt ds rs)) = rs.take n
  | 0 => by rw [List.take_zero]; rfl
  | n + 1 => by
    rw [List.range_succ, List.flatMap_append, rows_app, rows_all ds rs hr n, List.flatMap_singleton, rows_at ds rs hr n, List.take_succ]
theorem nums_ok {ds rs : List Nat} (hl : ds.length = 8) (hd : ∀ d ∈ ds, d ≤ 100000000) (hr : ∀ r ∈ rs, Pat.Kt r) (hrl : rs.length ≤ 8) :
    (∀ n ∈ numsN ds rs, NumOk n) ∧ (numsN ds rs).length ≤ 50 ∧ wordOf (numsN ds rs) = ds.map (fun d => 1 + d % 4) ∧ rowsOf (numsN ds rs) = rs := by
  refine ⟨?_, ?_, ?_, ?_⟩
  · intro n hn
    unfold numsN at hn
    rw [List.mem_flatMap] at hn
    obtain ⟨k, _, hk⟩ := hn
    exact num_ok ds rs hd hr k n hk
  · have h2 : (numsN ds rs).length ≤ 8 * 2 := flat_len (f := numsAt ds rs) (M := 2) (fun k => by unfold numsAt; split <;> simp) [0, 1, 2, 3, 4, 5, 6, 7]
    omega
  · show wordOf ((List.range 8).flatMap (numsAt ds rs)) = _
    rw [word_all ds rs hr 8 (Nat.le_of_eq hl.symm), ← hl, List.take_length]
  · show rowsOf ((List.range 8).flatMap (numsAt ds rs)) = _
    rw [rows_all ds rs hr 8, List.take_of_length_le hrl]

theorem PlOk.kt {m : Nat} {R : List Nat} (h : PlOk m R) : (∀ k ∈ R, Pat.Kt k) ∧ R.length ≤ 6 := by
  rcases h with ⟨rfl, rfl⟩ | ⟨rfl, rfl⟩ | ⟨rfl, rfl | rfl⟩ <;> refine ⟨?_, by decide⟩ <;> simp [Pat.Kt]
theorem plR_kt {R : List Nat} {a k : Nat} (h : ∀ k ∈ R, Pat.Kt k) (ha : Pat.Kt a) : ∀ j ∈ plR R a k, Pat.Kt j := by
  intro j hj
  unfold plR at hj
  simp only [List.mem_append, List.mem_cons, List.not_mem_nil, or_false] at hj
  rcases hj with (hj | rfl | rfl) | hj
  · exact h j (List.mem_of_mem_take hj)
  · exact ha
  · exact ha
  · exact h j (List.mem_of_mem_drop hj)
theorem plR_len {R : List Nat} {a k : Nat} (h : R.length ≤ 6) : (plR R a k).length ≤ 8 := by
  unfold plR
  simp only [List.length_append, List.length_take, List.length_drop, List.length_cons, List.length_nil]
  omega
theorem leds_plR {R : List Nat} {a k : Nat} {P : Pat} (V : Pat.Vld P) (hs : Pat.size P ≤ 8) (h : ∀ k ∈ R, Pat.Kt k) (ha : Pat.Kt a) : Pat.leds (plR R a k) P = Pat.leds R P := by
  unfold plR
  rw [Pat.leds_twice V hs (fun j hj => h j (List.mem_of_mem_take hj)) ha, List.take_append_drop]
/-- the law's own sentence, on patterns -/
theorem law_pat {m : Nat} {R w : List Nat} (h : PlOk m R) (hw : w.length ≤ 8) (hl : ∀ x ∈ w, Pat.Lt x) :
    patR (Pat.leds R (Pat.ofW w)) = (patR (Pat.ofW (Pat.oth m w))).take m ++ (patR (Pat.ofW w)).drop m := by
  rcases h with ⟨rfl, rfl⟩ | ⟨rfl, rfl⟩ | ⟨rfl, rfl | rfl⟩
  · have e := Pat.ev2 w hw hl
    obtain ⟨h1, h2, h3⟩ := Pat.tr2_eq e
    generalize Pat.ofW (Pat.oth 2 w) = Q at *
    generalize Pat.ofW w = P at *
    show patR (Pat.led1 P) = [[Q.a], [Q.b0, Q.b1]] ++ [[P.c0, P.c1, P.c2], [P.d0, P.d1, P.d2, P.d3]]
    rw [← h1, ← h2, ← h3]
    rfl
  · have e := Pat.ev3 w hw hl
    obtain ⟨h1, h2, h3, h4, h5, h6⟩ := Pat.tr3_eq e
    generalize Pat.ofW (Pat.oth 3 w) = Q at *
    generalize Pat.ofW w = P at *
    show patR (Pat.evac3 P) = [[Q.a], [Q.b0, Q.b1], [Q.c0, Q.c1, Q.c2]] ++ [[P.d0, P.d1, P.d2, P.d3]]
    rw [← h1, ← h2, ← h3, ← h4, ← h5, ← h6]
    rfl
  · have e := Pat.ev4 w hw hl
    rw [← e]
    generalize Pat.ofW w = P
    rfl
  · have e := Pat.ev4 w hw hl
    rw [← e]
    generalize Pat.ofW w = P
    rfl
end Mine
end

section
open PySem PySem.Calls PyProof.Rows PySem.W
set_option maxRecDepth 100000
set_option linter.unusedSimpArgs false
set_option linter.unusedVariables false
namespace Mine

noncomputable def pLW : PE := .comp 26 [] (.var 20) (.bin .Add (.cst (.int 1)) (.bin .Mod (.var 26) (.cst (.int 4))))
noncomputable def pLO : PE := .slice (.compIf 35 [24] (.var 29) (.cmp .LtE (.var 35) (.var 24)) (.bin .Sub (.bin .Add (.var 24) (.cst (.int 1))) (.var 35))) (.cst .none) (.cst .none) (.neg (.cst (.int 1)))
noncomputable def pLR : PE := .cmp .Eq (.var 36) (.bin .Add (.slice (.call 7 (.cons (.var 43) (.nil))) (.cst .none) (.var 24) (.cst .none)) (.slice (.var 44) (.var 24) (.cst .none) (.cst .none)))
noncomputable def pLL : PS := .seq (.asg 36 (.call 10 (.cons (.var 36) (.cons (.var 19) (.nil))))) (.skip)
theorem p_law_eq : p_law = .seq (.asg 20 (.call 4 (.cons (.var 17) (.nil)))) (.seq (.asg 29 pLW) (.seq (.asg2 24 21 (.call 5 (.cons (.var 20) (.nil)))) (.seq (.asg2 46 45 (.call 9 (.cons (.call 8 (.cons (.var 20) (.cons (.var 21) (.nil)))) (.nil)))) (.seq (.ite (.cmp .NotEq (.var 46) (.var 29)) (.seq (.ret (.cst (.bool false))) (.skip)) (.skip)) (.seq (.asg 44 (.call 7 (.cons (.var 29) (.nil)))) (.seq (.asg 36 (.var 44)) (.seq (.loop 19 (.var 45) pLL) (.seq (.asg 43 pLO) (.seq (.ret pLR) (.skip)))))))))) := rfl

theorem nI_flat (r : List Nat) : (nI r).all flat = true := by simp [nI, flat, atom]
theorem deep_nI (r : List Nat) : deep (.lst (nI r)) = true := nI_flat r
theorem deep_ints (r : List Int) : deep (.lst (r.map AV.int)) = true := by simp [deep, flat, atom]
theorem deep_rows (q : List (List Nat)) : deep (rowsA q) = true := by
  unfold rowsA deep
  simp [flat, nI_atoms]
theorem deep_int (i : Int) : deep (.int i) = true := rfl

theorem call1 {F : Fns} {f : Nat} {e : PE} {vs : Vars} {σ : Hp} {x : AV} (h : evP F e vs σ = some x) (hx : deep x = true) : evP F (.call f (.cons e .nil)) vs σ = F f [x] := by
  exact (ev_call ((ev_cons h ev_nil).trans rfl)).trans (callA_of (by simp only [List.all_cons, List.all_nil, hx, Bool.and_self]))
theorem call2 {F : Fns} {f : Nat} {e g : PE} {vs : Vars} {σ : Hp} {x y : AV} (h : evP F e vs σ = some x) (hg : evP F g vs σ = some y) (hx : deep x = true) (hy : deep y = true) : evP F (.call f (.cons e (.cons g .nil))) vs σ = F f [x, y] := by
  exact (ev_call ((ev_cons h ((ev_cons hg ev_nil).trans rfl)).trans rfl)).trans (callA_of (by simp only [List.all_cons, List.all_nil, hx, hy, Bool.and_self]))

theorem map_word (σ : Hp) : ∀ ds : List Nat, mapO (fun a => evP F2 (.bin .Add (.cst (.int 1)) (.bin .Mod (.var 26) (.cst (.int 4)))) ((26, a) :: []) σ) (nI ds) = some (nI (ds.map fun d => 1 + d % 4))
  | [] => rfl
  | d :: ds => by
    have e : evP F2 (.bin .Add (.cst (.int 1)) (.bin .Mod (.var 26) (.cst (.int 4)))) ((26, .int (d : Nat)) :: []) σ = some (.int ((1 + d % 4 : Nat) : Int)) :=
      (ev_bin ev_cst ((ev_bin (ev_var rfl) ev_cst).trans (modN d 4 (by decide) _))).trans (addN 1 _ _)
    show mapO _ (.int (d : Nat) :: nI ds) = _
    simp only [mapO, e, map_word σ ds]
    rfl
theorem law_word {vs : Vars} {σ : Hp} {ds : List Nat} (h : lk 20 vs = some (.lst (nI ds))) : evP F2 pLW vs σ = some (.lst (nI (ds.map fun d => 1 + d % 4))) := by
  exact ev_comp (ev_var h) rfl rfl (map_word _ _)
theorem map_oth (m : Nat) (σ : Hp) : ∀ w : List Nat, mapIf (fun a => otru (evP F2 (.cmp .LtE (.var 35) (.var 24)) ((35, a) :: [(24, .int (m : Nat))]) σ)) (fun a => evP F2 (.bin .Sub (.bin .Add (.var 24) (.cst (.int 1))) (.var 35)) ((35, a) :: [(24, .int (m : Nat))]) σ) (nI w) = some (nI ((w.filter fun x => Nat.ble x m).map fun x => m + 1 - x))
  | [] => rfl
  | x :: w => by
    have ih := map_oth m σ w
    have e1 : otru (evP F2 (.cmp .LtE (.var 35) (.var 24)) ((35, .int (x : Nat)) :: [(24, .int (m : Nat))]) σ) = some (Nat.ble x m) := by
      have : decide ((x : Int) ≤ (m : Int)) = Nat.ble x m := by
        by_cases h : x ≤ m
        · rw [ble_t h]; simp; omega
        · rw [ble_f h]; simp; omega
      exact tru_cmp (a := .int x) (b := .int m) (ev_var rfl) (ev_var rfl) (congrArg some this)
    show mapIf _ _ (.int (x : Nat) :: nI w) = _
    simp only [mapIf, e1]
    cases h : Nat.ble x m
    · simp only [List.filter, h]; exact ih
    · have hle : x ≤ m := Nat.le_of_ble_eq_true h
      have e2 : evP F2 (.bin .Sub (.bin .Add (.var 24) (.cst (.int 1))) (.var 35)) ((35, .int (x : Nat)) :: [(24, .int (m : Nat))]) σ = some (.int ((m + 1 - x : Nat) : Int)) := by
        refine (ev_bin ((ev_bin (ev_var rfl) ev_cst).trans (addN m 1 _)) (ev_var rfl)).trans ?_
        show some (AV.int (((m + 1 : Nat) : Int) - (x : Nat))) = _
        congr 2
        omega
      simp only [List.filter, h, e2]
      rw [ih]
      rfl
theorem law_oth {vs : Vars} {σ : Hp} {m : Nat} {w : List Nat} (h24 : lk 24 vs = some (.int (m : Nat))) (h29 : lk 29 vs = some (.lst (nI w))) : evP F2 pLO vs σ = some (.lst (nI (Pat.oth m w))) := by
  have e1 : evP F2 (.compIf 35 [24] (.var 29) (.cmp .LtE (.var 35) (.var 24)) (.bin .Sub (.bin .Add (.var 24) (.cst (.int 1))) (.var 35))) vs σ = some (.lst (nI ((w.filter fun x => Nat.ble x m).map fun x => m + 1 - x))) := by
    exact ev_compIf (ev_var h29) rfl (by simp only [capV, h24]) (map_oth _ _ _)
  unfold pLO
  rw [ev_slice e1 ev_cst ev_cst ev_m1, sl_gen rfl rfl rfl rfl (by decide), pick_rev]
  simp [nI, Pat.oth]

theorem law_loop {σ : Hp} : ∀ (rs : List Nat) (P : Pat) (vs : Vars), Pat.Vld P → Pat.size P ≤ 8 → (∀ k ∈ rs, Pat.Kt k) → lk 36 vs = some (rowsA (patR P)) →
    ∃ vs', forL 19 (exP F2 I1 pLL) (nI rs) vs σ = some (.next, vs', σ) ∧ lk 36 vs' = some (rowsA (patR (Pat.leds rs P))) ∧ ∀ n, n ≠ 19 → n ≠ 36 → lk n vs' = lk n vs
  | [], P, vs, _, _, _, h36 => ⟨vs, rfl, h36, fun _ _ _ => rfl⟩
  | k :: rs, P, vs, V, hs, hk, h36 => by
    have hk0 := hk k List.mem_cons_self
    have e0 : F2 10 [rowsA (patR P), .int (k : Nat)] = some (rowsA (patR (Pat.led k P))) := led_ok V hs hk0
    have e1 : evP F2 (.call 10 (.cons (.var 36) (.cons (.var 19) (.nil)))) (setVar 19 (.int (k : Nat)) vs) σ = some (rowsA (patR (Pat.led k P))) :=
      (call2 (x := rowsA (patR P)) (y := .int (k : Nat)) (ev_var (by simp [lk_setVar, h36])) (ev_var (by simp [lk_setVar])) (deep_rows _) rfl).trans e0
    obtain ⟨vs', e, k36, kk⟩ := law_loop (σ := σ) rs (Pat.led k P) (setVar 36 (rowsA (patR (Pat.led k P))) (setVar 19 (.int (k : Nat)) vs)) (Pat.led_vld V hs hk0) (by rw [Pat.led_size hk0]; exact hs) (fun j hj => hk j (List.mem_cons_of_mem _ hj)) (by simp [lk_setVar])
    refine ⟨vs', (for_n ((seq_n (asg_n e1)).trans skip_n)).trans e, k36, fun n h1 h2 => (kk n h1 h2).trans (by simp [lk_setVar, h1, h2])⟩

theorem eqL_self {xs : List AV} (h : (∃ ns, intsOf xs = some ns) ∨ (intsOf xs = none ∧ ∃ ns, mapO zi xs = some ns)) : eqL xs xs = some true := by
  unfold eqL
  rcases h with ⟨ns, h⟩ | ⟨h0, ns, h⟩
  · rw [h]
    show some (decide (ns = ns)) = _
    rw [decide_eq_true rfl]
  · rw [h0, h]
    show some (decide (ns = ns)) = _
    rw [decide_eq_true rfl]
theorem eq_nI (r : List Nat) : eqL (nI r) (nI r) = some true := eqL_self (.inl ⟨_, intsOf_nI r⟩)
theorem map_ints : ∀ q : List (List Nat), mapO zi (q.map fun r => AV.lst (nI r)) = some (q.map fun r => r.map fun (n : Nat) => (n : Int))
  | [] => rfl
  | r :: q => by
    have e : zi (.lst (nI r)) = some (r.map fun (n : Nat) => (n : Int)) := intsOf_nI r
    simp only [List.map_cons, mapO, e, map_ints q]
theorem eq_rows : ∀ q : List (List Nat), eqA (rowsA q) (rowsA q) = some true
  | [] => rfl
  | r :: q => eqL_self (.inr ⟨rfl, _, map_ints (r :: q)⟩)
theorem slice_take {F : Fns} {e : PE} {vs : Vars} {σ : Hp} {q : List (List Nat)} {m n : Nat} (h : evP F e vs σ = some (rowsA q)) (hm : lk n vs = some (.int (m : Nat))) : evP F (.slice e (.cst .none) (.var n) (.cst .none)) vs σ = some (rowsA (q.take m)) := by
  rw [ev_slice h ev_cst (ev_var hm) ev_cst, sl_gen (xs := q.map fun r => AV.lst (nI r)) rfl rfl rfl rfl (by decide), pick_take, ← List.map_take]; rfl
theorem slice_drop {F : Fns} {e : PE} {vs : Vars} {σ : Hp} {q : List (List Nat)} {m n : Nat} (h : evP F e vs σ = some (rowsA q)) (hm : lk n vs = some (.int (m : Nat))) : evP F (.slice e (.var n) (.cst .none) (.cst .none)) vs σ = some (rowsA (q.drop m)) := by
  rw [ev_slice h (ev_var hm) ev_cst ev_cst, sl_gen (xs := q.map fun r => AV.lst (nI r)) rfl rfl rfl rfl (by decide), pick_drop, ← List.map_drop]; rfl
theorem add_rows (p q : List (List Nat)) (h : p.length + q.length ≤ 100000) (σ : Hp) : binA .Add (rowsA p) (rowsA q) σ = some (rowsA (p ++ q)) := by
  refine (add_lst _ _ (by rw [List.length_map, List.length_map]; exact h) σ).trans ?_
  rw [← List.map_append]; rfl

theorem word_lt (ds : List Nat) : ∀ x ∈ ds.map (fun d => 1 + d % 4), Pat.Lt x := by
  intro x hx
  rw [List.mem_map] at hx
  obtain ⟨d, _, rfl⟩ := hx
  exact .of (by omega) (by omega)

theorem pure_law (ns : List Int) : runF F2 I1 [17] p_law [.lst (ns.map AV.int)] = some (.bool true) := by
  have d0 : F2 4 [.lst (ns.map AV.int)] = some (.lst (nI (drawnN ns))) := drawn_ok ns
  obtain ⟨hl, hd⟩ := drawn_le ns
  generalize drawnN ns = ds at *
  obtain ⟨m, R, a, k, hP, ha, p0⟩ := plan_ok ds
  have p1 : F2 5 [.lst (nI ds)] = some (.tup [.int (m : Nat), .lst (nI (plR R a k))]) := p0
  obtain ⟨hR, hRl⟩ := hP.kt
  have hK := plR_kt (k := k) hR ha
  have hKl := plR_len (a := a) (k := k) hRl
  have hm : m ≤ 4 := by unfold PlOk at hP; omega
  have hleds := fun (P : Pat) (V : Pat.Vld P) (hs : Pat.size P ≤ 8) => leds_plR (k := k) V hs hR ha
  generalize plR R a k = rs at *
  have t0 : F2 8 [.lst (nI ds), .lst (nI rs)] = some (.lst (nI ((numsN ds rs ++ [0]).flatMap octN))) := tape_ok hl hd fun r hr => (hK r hr).b.2
  obtain ⟨n1, n2, n3, n4⟩ := nums_ok hl hd hK hKl
  have r0 : F2 9 [.lst (nI ((numsN ds rs ++ [0]).flatMap octN))] = some (.tup [.lst (nI (ds.map fun d => 1 + d % 4)), .lst (nI rs)]) := by
    have := read_ok n1 n2
    rw [n3, n4] at this
    exact this
  have hword := fun (vs : Vars) (h : lk 20 vs = some (.lst (nI ds))) => law_word (σ := []) h
  have hw := word_lt ds
  have hwl : (ds.map fun d => 1 + d % 4).length ≤ 8 := by rw [List.length_map]; omega
  generalize (ds.map fun d => 1 + d % 4) = w at *
  have q0 : F2 7 [.lst (nI w)] = some (rowsA (patR (Pat.ofW w))) := patt_ok hwl hw
  have ho : ∀ x ∈ Pat.oth m w, Pat.Lt x := Pat.oth_lt hm hw
  have q1 : F2 7 [.lst (nI (Pat.oth m w))] = some (rowsA (patR (Pat.ofW (Pat.oth m w)))) := patt_ok (Nat.le_trans (Pat.oth_len m w) hwl) ho
  obtain ⟨V, hs⟩ := Pat.ofW_vld w hwl hw
  -- the statements one by one
  have s1 : exP F2 I1 (.asg 20 (.call 4 (.cons (.var 17) (.nil)))) [(17, .lst (ns.map AV.int))] [] = some (.next, setVar 20 (.lst (nI ds)) [(17, .lst (ns.map AV.int))], []) := asg_n ((call1 (x := .lst (ns.map AV.int)) (ev_var rfl) (deep_ints ns)).trans d0)
  generalize hv1 : setVar 20 (.lst (nI ds)) [(17, AV.lst (ns.map AV.int))] = v1 at s1
  have a20 : lk 20 v1 = some (.lst (nI ds)) := by rw [← hv1]; simp [lk_setVar]
  have s2 : exP F2 I1 (.asg 29 pLW) v1 [] = some (.next, setVar 29 (.lst (nI w)) v1, []) := asg_n (hword _ a20)
  generalize hv2 : setVar 29 (.lst (nI w)) v1 = v2 at s2
  have b20 : lk 20 v2 = some (.lst (nI ds)) := by rw [← hv2]; simp [lk_setVar, a20]
  have b29 : lk 29 v2 = some (.lst (nI w)) := by rw [← hv2]; simp [lk_setVar]
  have s3 : exP F2 I1 (.asg2 24 21 (.call 5 (.cons (.var 20) (.nil)))) v2 [] = some (.next, setVar 21 (.lst (nI rs)) (setVar 24 (.int (m : Nat)) v2), []) := asg2_n ((call1 (ev_var b20) (deep_nI ds)).trans p1)
  generalize hv3 : setVar 21 (.lst (nI rs)) (setVar 24 (.int (m : Nat)) v2) = v3 at s3
  have c20 : lk 20 v3 = some (.lst (nI ds)) := by rw [← hv3]; simp [lk_setVar, b20]
  have c29 : lk 29 v3 = some (.lst (nI w)) := by rw [← hv3]; simp [lk_setVar, b29]
  have c24 : lk 24 v3 = some (.int (m : Nat)) := by rw [← hv3]; simp [lk_setVar]
  have c21 : lk 21 v3 = some (.lst (nI rs)) := by rw [← hv3]; simp [lk_setVar]
  have s4 : exP F2 I1 (.asg2 46 45 (.call 9 (.cons (.call 8 (.cons (.var 20) (.cons (.var 21) (.nil)))) (.nil)))) v3 [] = some (.next, setVar 45 (.lst (nI rs)) (setVar 46 (.lst (nI w)) v3), []) :=
    asg2_n ((call1 ((call2 (ev_var c20) (ev_var c21) (deep_nI ds) (deep_nI rs)).trans t0) (deep_nI _)).trans r0)
  generalize hv4 : setVar 45 (.lst (nI rs)) (setVar 46 (.lst (nI w)) v3) = v4 at s4
  have d29 : lk 29 v4 = some (.lst (nI w)) := by rw [← hv4]; simp [lk_setVar, c29]
  have d24 : lk 24 v4 = some (.int (m : Nat)) := by rw [← hv4]; simp [lk_setVar, c24]
  have d45 : lk 45 v4 = some (.lst (nI rs)) := by rw [← hv4]; simp [lk_setVar]
  have d46 : lk 46 v4 = some (.lst (nI w)) := by rw [← hv4]; simp [lk_setVar]
  have hne : otru (evP F2 (.cmp .NotEq (.var 46) (.var 29)) v4 []) = some false := by
    refine tru_cmp (ev_var d46) (ev_var d29) ?_
    show (eqL (nI w) (nI w)).map (!·) = _
    rw [eq_nI]
    rfl
  have s5 : exP F2 I1 (.ite (.cmp .NotEq (.var 46) (.var 29)) (.seq (.ret (.cst (.bool false))) (.skip)) (.skip)) v4 [] = some (.next, v4, []) := (ite_f hne).trans skip_n
  have s6 : exP F2 I1 (.asg 44 (.call 7 (.cons (.var 29) (.nil)))) v4 [] = some (.next, setVar 44 (rowsA (patR (Pat.ofW w))) v4, []) := asg_n ((call1 (ev_var d29) (deep_nI w)).trans q0)
  generalize hv5 : setVar 44 (rowsA (patR (Pat.ofW w))) v4 = v5 at s6
  have e44 : lk 44 v5 = some (rowsA (patR (Pat.ofW w))) := by rw [← hv5]; simp [lk_setVar]
  have e29 : lk 29 v5 = some (.lst (nI w)) := by rw [← hv5]; simp [lk_setVar, d29]
  have e24 : lk 24 v5 = some (.int (m : Nat)) := by rw [← hv5]; simp [lk_setVar, d24]
  have e45 : lk 45 v5 = some (.lst (nI rs)) := by rw [← hv5]; simp [lk_setVar, d45]
  have s7 : exP F2 I1 (.asg 36 (.var 44)) v5 [] = some (.next, setVar 36 (rowsA (patR (Pat.ofW w))) v5, []) := asg_n (ev_var e44)
  generalize hv6 : setVar 36 (rowsA (patR (Pat.ofW w))) v5 = v6 at s7
  have f36 : lk 36 v6 = some (rowsA (patR (Pat.ofW w))) := by rw [← hv6]; simp [lk_setVar]
  have f44 : lk 44 v6 = some (rowsA (patR (Pat.ofW w))) := by rw [← hv6]; simp [lk_setVar, e44]
  have f29 : lk 29 v6 = some (.lst (nI w)) := by rw [← hv6]; simp [lk_setVar, e29]
  have f24 : lk 24 v6 = some (.int (m : Nat)) := by rw [← hv6]; simp [lk_setVar, e24]
  have f45 : lk 45 v6 = some (.lst (nI rs)) := by rw [← hv6]; simp [lk_setVar, e45]
  obtain ⟨v7, f, g36, kk⟩ := law_loop (σ := []) rs (Pat.ofW w) v6 V (by omega) hK f36
  have s8 : exP F2 I1 (.loop 19 (.var 45) pLL) v6 [] = some (.next, v7, []) := (loop_e (ev_var f45) rfl).trans f
  have g44 : lk 44 v7 = some (rowsA (patR (Pat.ofW w))) := (kk 44 (by decide) (by decide)).trans f44
  have g29 : lk 29 v7 = some (.lst (nI w)) := (kk 29 (by decide) (by decide)).trans f29
  have g24 : lk 24 v7 = some (.int (m : Nat)) := (kk 24 (by decide) (by decide)).trans f24
  rw [hleds _ V (by omega)] at g36
  have s9 : exP F2 I1 (.asg 43 pLO) v7 [] = some (.next, setVar 43 (.lst (nI (Pat.oth m w))) v7, []) := asg_n (law_oth g24 g29)
  generalize hv8 : setVar 43 (.lst (nI (Pat.oth m w))) v7 = v8 at s9
  have i36 : lk 36 v8 = some (rowsA (patR (Pat.leds R (Pat.ofW w)))) := by rw [← hv8]; simp [lk_setVar, g36]
  have i44 : lk 44 v8 = some (rowsA (patR (Pat.ofW w))) := by rw [← hv8]; simp [lk_setVar, g44]
  have i24 : lk 24 v8 = some (.int (m : Nat)) := by rw [← hv8]; simp [lk_setVar, g24]
  have i43 : lk 43 v8 = some (.lst (nI (Pat.oth m w))) := by rw [← hv8]; simp [lk_setVar]
  have u1 := slice_take (m := m) (n := 24) ((call1 (F := F2) (f := 7) (σ := []) (ev_var i43) (deep_nI (Pat.oth m w))).trans q1) i24
  have u2 := slice_drop (m := m) (n := 24) (ev_var (F := F2) (σ := []) i44) i24
  have u3 := (ev_bin (op := .Add) u1 u2).trans (add_rows _ _ (by rw [List.length_take, List.length_drop]; show min m 4 + (4 - m) ≤ _; omega) _)
  rw [← law_pat hP hwl hw] at u3
  have u4 : evP F2 pLR v8 [] = some (.bool true) := by
    unfold pLR
    rw [ev_cmp (ev_var i36) u3]
    show ((eqA (rowsA (patR (Pat.leds R (Pat.ofW w)))) (rowsA (patR (Pat.leds R (Pat.ofW w))))).map AV.bool) = _
    rw [eq_rows]
    rfl
  have hr : exP F2 I1 p_law [(17, .lst (ns.map AV.int))] [] = some (.ret (.bool true), v8, []) := by
    rw [p_law_eq]
    exact (seq_n s1).trans ((seq_n s2).trans ((seq_n s3).trans ((seq_n s4).trans ((seq_n s5).trans ((seq_n s6).trans ((seq_n s7).trans ((seq_n s8).trans ((seq_n s9).trans (seq_r (ret_r u4))))))))))
  exact run_ret rfl hr rfl
end Mine
end

open PySem PySem.Calls PyProof.Rows PySem.W
set_option maxRecDepth 100000 in
set_option maxHeartbeats 8000000 in
theorem PySem.Challenge.cw_sl0014_01_holds : PySem.Challenge.rw_sl0014_01.Holds := by
  w_on
  o_law
  o_head Mine.hook
  (case hw => w_witness2)
  intro w s₀ s₁ mg mb G Y fa o pm cd doc dV kV ho hd hcd hD hmg hg args vals as hpre hlay hrd hwl hlo
  have V := (Ground.X G).2
  have GL := glob_more (Ground.glob G (by first | k_qdec | decide +kernel) (by first | k_qdec | decide +kernel)) V
  have GL := Mine.glt_of (by kernel_rfl) GL
  clear ho hd hcd hD G V
  wrow_args hpre hlay hrd hwl hlo
  exact Mine.law_end (fun ns _ => Mine.pure_law ns) GL (Mine.htab Y GL) hmg hg (by assumption) (by assumption)
