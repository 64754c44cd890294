import PyProof.Rows.All
import Wide.All
import OpenK.AllK
import Wide.FinOn
import KE.LcTurns
import PyProof.AttrMissHeap
import PyProof.ListNew
import PyProof.Draws
import PyProof.ListRange
import PyProof.RangeFor
import PyProof.TypeOfCall
import PyProof.CallFns
import PyProof.Methods
import PyProof.Rows.RaiseClass
import KE.KLam
import PyProof.DictTable
import PyProof.InstFacts
import OpenK.KWalk
import Wide.Txt
import PyProof.Rows.StrJoinRep
import Lean
import PySem.Challenge.RW_ik0131_01
open PySem PySem.W PyProof.Rows
set_option Elab.async false
set_option maxRecDepth 100000
set_option linter.unusedVariables false
set_option linter.unusedSimpArgs false
namespace Mine
inductive PV where
  | none | bool (b : Bool) | int (i : Int) | str (x : Str)
  | tup (xs : List PV) | lst (xs : List PV) | rng (a b : Int)
  | val (v : Value) | loc (l : Nat) | bm (l : Nat)
  deriving Inhabited
def IsRng (h : Heap) (r : Addr) (a b : Int) : Prop := ∃ ta tb tc, IsRange h r a b 1 ta tb tc
mutual
def VR (h : Heap) (S as : List Addr) : PV → Value → Prop
  | .none, v => v = .none
  | .bool b, v => v = .bool b
  | .int i, v => ∃ t, v = .int i t
  | .str x, v => ∃ t, v = .str x t ∧ x.length ≤ sizeLine
  | .tup xs, v => ∃ a vs, v = .ref a ∧ a ∉ S ∧ a ∉ as ∧ IsTup h a vs ∧ vs.size ≤ sizeLine ∧ VRs h S as xs vs.toList
  | .lst xs, v => ∃ a vs, v = .ref a ∧ a ∉ S ∧ a ∉ as ∧ h.IsList a vs ∧ vs.size ≤ sizeLine ∧ VRs h S as xs vs.toList
  | .rng a b, v => ∃ r, v = .ref r ∧ IsRng h r a b
  | .val w, v => v = w
  | .loc l, v => ∃ a, as[l]? = some a ∧ v = .ref a
  | .bm l, v => ∃ a m, as[l]? = some a ∧ v = .ref m ∧ h.get? m = some { cls := .type "builtin_function_or_method", data := .fields #[.builtin "list.append", .ref a] }
def VRs (h : Heap) (S as : List Addr) : List PV → List Value → Prop
  | [], vs => vs = []
  | x :: xs, vs => ∃ v r, vs = v :: r ∧ VR h S as x v ∧ VRs h S as xs r
end
inductive Tgt where
  | one (i : Nat) | tup (is : List Nat)
mutual
inductive ME where
  | cst (c : PV) | loc (i : Nat) | cel (j : Nat) | glob (x : Str)
  | boolE (op : BoolOp) (es : MEs) | notE (a : ME)
  | bin (op : Operator) (a b : ME) | ite (t a b : ME)
  | cmp (op : CmpOp) (a b : ME) | cmp2 (op₁ op₂ : CmpOp) (a b c : ME)
  | lst (es : MEs) | tup (es : MEs)
  | call (f : Str) (es : MEs) | callS (f : Str) (a b : ME)
  | meth (m : Str) (o : ME) (es : MEs)
  | idx (a i : ME) | slc (a lo hi : ME)
  | fstr (es : MEs) | fmt (e : ME)
  | comp (ns : List Str) (t : Tgt) (it e : ME)
  | comp2 (ns : List Str) (i : Nat) (it : ME) (j : Nat) (it₂ e : ME)
  | eqc (f : Str) (es : MEs) (b : ME)
inductive MEs where
  | nil | cons (e : ME) (es : MEs)
end
mutual
inductive MS where
  | asg (i : Nat) (e : ME) | asgK (i : Nat) (e : ME) | asgC (j : Nat) (e : ME) | asgT (is : List Nat) (e : ME) | asgTT (i j : Nat) (a b : ME)
  | aug (i : Nat) (op : Operator) (e : ME)
  | asgR (i j : Nat) (y z : Str) | asgO (k i j : Nat)
  | newL (i : Nat) | newC (j : Nat) | newLL (i : Nat)
  | app (o e : ME) | appN (o : ME) | popS (i : Nat) | bnd (i j : Nat) | appB (i : Nat) (e : ME)
  | ife (t : ME) (b o : MSs) | whl (t : ME) (b : MSs)
  | for_ (t : Tgt) (it : ME) (b : MSs) | forG (t : Tgt) (g : Str) (es : MEs) (b : MSs) | forGL (t : Tgt) (g : Str) (es : MEs) (b : MSs)
  | ret (e : ME) | brk | cont | asrt (e : ME) | tryP (b : MSs) | dead
inductive MSs where
  | nil | cons (e : MS) (es : MSs)
end
abbrev Vs := List (Option PV)
abbrev Hs := List (List PV)
mutual
def clean : PV → Bool
  | .tup xs => cleans xs | .lst xs => cleans xs | .loc _ => false | .bm _ => false | _ => true
def cleans : List PV → Bool
  | [] => true
  | x :: xs => clean x && cleans xs
end
def flat : PV → Bool
  | .tup _ => false | .lst _ => false | .loc _ => false | .bm _ => false | _ => true
def isLoc : PV → Bool
  | .loc _ => true | _ => false
def frz1 (H : Hs) : PV → Option PV
  | .loc l => match H[l]? with
    | some xs => if cleans xs then some (.lst xs) else none
    | none => none
  | v => if clean v then some v else none
def frzAll (H : Hs) : List PV → Option (List PV)
  | [] => some []
  | x :: xs => match frz1 H x, frzAll H xs with
    | some y, some ys => some (y :: ys)
    | _, _ => none
def frz (H : Hs) : PV → Option PV
  | .loc l => match H[l]? with
    | some xs => match frzAll H xs with
      | some ys => some (.lst ys)
      | none => none
    | none => none
  | v => if clean v then some v else none
def frzs (H : Hs) : List PV → Option (List PV)
  | [] => some []
  | x :: xs => match frz H x, frzs H xs with
    | some y, some ys => some (y :: ys)
    | _, _ => none
def eqL (f : PV → PV → Option Bool) : List PV → List PV → Option Bool
  | [], [] => some true
  | x :: xs, y :: ys => match f x y, eqL f xs ys with
    | some a, some b => some (a && b)
    | _, _ => none
  | _, _ => none
def eqN : Nat → PV → PV → Option Bool
  | n + 1, .lst xs, .lst ys => if xs.length == ys.length then eqL (eqN n) xs ys else some false
  | _, .none, .none => some true
  | _, .bool a, .bool b => some (a == b)
  | _, .int a, .int b => some (a == b)
  | _, .str a, .str b => some (a == b)
  | _, _, _ => none
def eqP : PV → PV → Option Bool := eqN 4
def strsOf : List PV → Option (List Str)
  | [] => some []
  | .str x :: r => (strsOf r).map (x :: ·)
  | _ => none
def intsOf : List PV → Option (List Int)
  | [] => some []
  | .int x :: r => (intsOf r).map (x :: ·)
  | _ => none
def memP : PV → List PV → Option Bool
  | .str x, ys => (strsOf ys).map fun zs => zs.any (· == x)
  | .int x, ys => (intsOf ys).map fun zs => zs.any (· == x)
  | _, _ => none
def truthyP (H : Hs) : PV → Option Bool
  | .none => some false
  | .bool b => some b
  | .int i => some (i != 0)
  | .str x => some (x.length != 0)
  | .lst xs => some (!xs.isEmpty)
  | .tup xs => some (!xs.isEmpty)
  | .loc l => (H[l]?).map fun xs => !xs.isEmpty
  | _ => none
def isRefP : PV → Option Addr
  | .val (.ref a) => some a
  | _ => none
def isP : PV → PV → Option Bool
  | .val (.ref a), .val (.ref b) => if a == b then some true else none
  | .str _, .val (.ref _) => some false
  | .none, .none => some true
  | .int _, .none => some false
  | .str _, .none => some false
  | .lst _, .none => some false
  | .loc _, .none => some false
  | _, _ => none
def orderP : CmpOp → Int → Int → Option Bool
  | .Lt, a, b => some (decide (a < b))
  | .LtE, a, b => some (decide (a ≤ b))
  | .Gt, a, b => some (decide (b < a))
  | .GtE, a, b => some (decide (b ≤ a))
  | _, _, _ => none
def inP : PV → PV → Option Bool
  | .str y, .str x => some (Txt.contains x y)
  | v, .lst xs => memP v xs
  | v, .tup xs => memP v xs
  | _, _ => none
def both {α : Type} (f : PV → PV → Option α) : Option PV → Option PV → Option α
  | some x, some y => f x y
  | _, _ => none
def ordP (op : CmpOp) : PV → PV → Option Bool
  | .int x, .int y => orderP op x y
  | _, _ => none
def cmpP (H : Hs) (op : CmpOp) (a b : PV) : Option Bool := match op with
  | .Is => isP a b
  | .IsNot => (isP a b).map (!·)
  | .Eq => both eqP (frz H a) (frz H b)
  | .NotEq => (both eqP (frz H a) (frz H b)).map (!·)
  | .In => both inP (frz H a) (frz H b)
  | .NotIn => (both inP (frz H a) (frz H b)).map (!·)
  | op => ordP op a b
def binP (op : Operator) (a b : PV) : Option PV := match op, a, b with
  | .Add, .int x, .int y => some (.int (x + y))
  | .Sub, .int x, .int y => some (.int (x - y))
  | .Mod, .int x, .int y => if y = 0 then none else some (.int (x.fmod y))
  | .FloorDiv, .int x, .int y => if 0 < y ∧ y < 1000 then some (.int (x.fdiv y)) else none
  | .Add, .str x, .str y => if x.length + y.length ≤ sizeLine then some (.str (x ++ y)) else none
  | .Add, .lst x, .lst y => if x.length + y.length ≤ sizeLine then some (.lst (x ++ y)) else none
  | .Mult, .str x, .int n => if x.length = 1 ∧ 0 ≤ n ∧ n ≤ 16777216 then some (.str (Txt.mul x n)) else none
  | _, _, _ => none
def place (n : Nat) (i : Int) : Option Nat :=
  if 0 ≤ i then (if i < n then some i.toNat else none) else if -(n : Int) ≤ i then some (i + n).toNat else none
def idxP (H : Hs) : PV → PV → Option PV
  | .loc l, .int i => match H[l]? with
    | some xs => (place xs.length i).bind (xs[·]?)
    | none => none
  | .lst xs, .int i => (place xs.length i).bind (xs[·]?)
  | .str x, .int i => if (place x.length i).isSome then some (.str (Txt.item x i)) else none
  | _, _ => none
def clip (n : Nat) (d : Int) : Option Int → Int
  | none => d
  | some i => max 0 (min (if i < 0 then i + n else i) n)
def slcL {α : Type} (lo hi : Option Int) (xs : List α) : List α :=
  (xs.take (clip xs.length xs.length hi).toNat).drop (clip xs.length 0 lo).toNat
def partP : PV → Option (Option Int)
  | .none => some none
  | .int i => some (some i)
  | _ => none
def slcP (a lo hi : PV) : Option PV := match partP lo, partP hi with
  | some l, some u => match a with
    | .lst xs => some (.lst (slcL l u xs))
    | .str x => some (.str ⟨(slcL l u x.cps.toList).toArray⟩)
    | _ => none
  | _, _ => none
def methP (m : Str) (o : PV) (args : List PV) : Option PV := match o, args with
  | .str x, [.str y] =>
    if m == ("rfind" : Str) then some (.int (Txt.rfind x y))
    else if m == ("rstrip" : Str) then some (.str (Txt.rstripChars x y))
    else if m == ("startswith" : Str) then some (.bool (Txt.startswith x y))
    else if m == ("endswith" : Str) then some (.bool (Txt.endswith x y))
    else if m == ("split" : Str) then (if y.length = 1 ∧ x.length ≤ 1000000 then some (.lst ((Txt.split x y).map .str)) else none)
    else none
  | .str x, [.lst ys] =>
    if m == ("join" : Str) then match strsOf ys with
      | some zs => if (zs.map (·.length)).sum + zs.length * x.length ≤ 16777216 then some (.str (Str.join x zs)) else none
      | none => none
    else none
  | _, _ => none
def itemsP : PV → Option (List PV)
  | .lst xs => some xs
  | .tup xs => some xs
  | .rng a b => if -1000000 ≤ a ∧ a ≤ 1000000 ∧ -1000000 ≤ b ∧ b ≤ 1000000 then some ((List.range (b - a).toNat).map fun (k : Nat) => .int (a + (k : Int))) else none
  | _ => none
def setAll : List Nat → List PV → Vs → Option Vs
  | [], [], V => some V
  | i :: is, x :: xs, V => setAll is xs (V.set i (some x))
  | _, _, _ => none
def bindT : Tgt → PV → Vs → Option Vs
  | .one i, x, V => some (V.set i (some x))
  | .tup is, .tup xs, V => setAll is xs V
  | _, _, _ => none
def mapO {α β : Type} (f : α → Option β) : List α → Option (List β)
  | [] => some []
  | x :: xs => match f x, mapO f xs with
    | some y, some ys => some (y :: ys)
    | _, _ => none
def fmtP : List PV → Str → Option Str
  | [], acc => some acc
  | .str x :: r, acc => if (acc ++ x).length ≤ sizeLine then fmtP r (acc ++ x) else none
  | _, _ => none
structure Om where
  fn : Str → Option (List PV → Option PV)
  fs : Str → Option (List PV → Option PV)
  gl : Str → Option PV
  orc : Nat → PV → Option PV
  gen : Str → Option (List PV → Option (List PV))
def tidy (L : Nat) (xs : List PV) : Option PV := if cleans xs && decide (xs.length ≤ L) then some (.lst xs) else none
def fin (md : Bool) (H : Hs) (o : Option PV) : Option PV := match md with
  | false => o
  | true => match o with
    | some v => (truthyP H v).map .bool
    | none => none
def binO (H : Hs) (op : Operator) : Option PV → Option PV → Option PV
  | some x, some y => both (binP op) (frz1 H x) (frz1 H y)
  | _, _ => none
def cmpO (H : Hs) (op : CmpOp) : Option PV → Option PV → Option PV
  | some x, some y => (cmpP H op x y).map .bool
  | _, _ => none
def tupO : Option (List PV) → Option PV
  | some xs => if cleans xs && decide (xs.length ≤ sizeLine) then some (.tup xs) else none
  | none => none
def lstO : Option (List PV) → Option PV
  | some xs => tidy sizeLine xs
  | none => none
def callO (H : Hs) : Option (List PV → Option PV) → Option (List PV) → Option PV
  | some F, some xs => match frzs H xs with
    | some ys => match F ys with
      | some r => if clean r && (flat r || !xs.any isLoc) then some r else none
      | none => none
    | none => none
  | _, _ => none
def callSO : Option (List PV → Option PV) → Option PV → Option PV → Option PV
  | some F, some x, some (.lst xs) => if cleans (x :: xs) then (match F (x :: xs) with
      | some r => if clean r then some r else none
      | none => none) else none
  | _, _, _ => none
def methO (H : Hs) (m : Str) : Option PV → Option (List PV) → Option PV
  | some x, some ys => match frzs H ys with
    | some zs => methP m x zs
    | none => none
  | _, _ => none
def idxO (H : Hs) : Option PV → Option PV → Option PV
  | some x, some k => idxP H x k
  | _, _ => none
def slcO (H : Hs) : Option PV → Option PV → Option PV → Option PV
  | some x, some l, some u => match frz1 H x with
    | some y => slcP y l u
    | none => none
  | _, _, _ => none
def fmtO : Option PV → Option PV
  | some (.str x) => some (.str x)
  | _ => none
def fstrO : Option (List PV) → Option PV
  | some xs => (fmtP xs Str.empty).map .str
  | none => none
def overO (H : Hs) : Option PV → Option (List PV)
  | some v => match frz1 H v with
    | some u => itemsP u
    | none => none
  | none => none
def eqcO (H : Hs) : Option (List PV → Option PV) → Option (List PV) → Option PV → Option PV
  | some F, some xs, some y => match frzs H xs, frz H y with
    | some zs, some u => match F zs with
      | some r => (eqP r u).map .bool
      | none => none
    | _, _ => none
  | _, _, _ => none
mutual
def evalB (Ω : Om) : ME → Bool → Vs → Vs → Hs → Option PV
  | .cst c, md, _, _, H => fin md H (some c)
  | .loc i, md, V, _, H => fin md H (V[i]?).join
  | .cel j, md, _, K, H => fin md H (K[j]?).join
  | .glob x, md, _, _, H => fin md H (Ω.gl x)
  | .boolE op es, md, V, K, H => boolB Ω op es md V K H
  | .notE a, md, V, K, H => match md, evalB Ω a true V K H with
    | true, some (.bool b) => some (.bool !b)
    | _, _ => none
  | .bin op a b, md, V, K, H => fin md H (binO H op (evalB Ω a false V K H) (evalB Ω b false V K H))
  | .ite t a b, md, V, K, H => match evalB Ω t true V K H with
    | some (.bool true) => evalB Ω a md V K H
    | some (.bool false) => evalB Ω b md V K H
    | _ => none
  | .cmp op a b, md, V, K, H => fin md H (cmpO H op (evalB Ω a false V K H) (evalB Ω b false V K H))
  | .cmp2 op₁ op₂ a b c, md, V, K, H => match md with
    | false => none
    | true => match cmpO H op₁ (evalB Ω a false V K H) (evalB Ω b false V K H) with
      | some (.bool true) => cmpO H op₂ (evalB Ω b false V K H) (evalB Ω c false V K H)
      | some (.bool false) => some (.bool false)
      | _ => none
  | .lst es, md, V, K, H => fin md H (lstO (evalsB Ω es V K H))
  | .tup es, md, V, K, H => fin md H (tupO (evalsB Ω es V K H))
  | .call f es, md, V, K, H => fin md H (callO H (Ω.fn f) (evalsB Ω es V K H))
  | .callS f a b, md, V, K, H => fin md H (callSO (Ω.fs f) (evalB Ω a false V K H) (evalB Ω b false V K H))
  | .meth m o es, md, V, K, H => fin md H (methO H m (evalB Ω o false V K H) (evalsB Ω es V K H))
  | .idx a i, md, V, K, H => fin md H (idxO H (evalB Ω a false V K H) (evalB Ω i false V K H))
  | .slc a lo hi, md, V, K, H => fin md H (slcO H (evalB Ω a false V K H) (evalB Ω lo false V K H) (evalB Ω hi false V K H))
  | .fmt e, md, V, K, H => fin md H (fmtO (evalB Ω e false V K H))
  | .fstr es, md, V, K, H => fin md H (fstrO (evalsB Ω es V K H))
  | .comp ns t it e, md, V, K, H => fin md H (match overO H (evalB Ω it false V K H) with
    | some xs => lstO (mapO (fun x => match bindT t x (List.replicate ns.length none) with
      | some V' => evalB Ω e false V' K H
      | none => none) xs)
    | none => none)
  | .comp2 ns i it j it₂ e, md, V, K, H => fin md H (match overO H (evalB Ω it false V K H) with
    | some xs => lstO ((mapO (fun x => match overO H (evalB Ω it₂ false ((List.replicate ns.length none).set i (some x)) K H) with
        | some xs₂ => mapO (fun y => evalB Ω e false (((List.replicate ns.length none).set i (some x)).set j (some y)) K H) xs₂
        | none => none) xs).map List.flatten)
    | none => none)
  | .eqc f es b, md, V, K, H => match md with
    | false => eqcO H (Ω.fn f) (evalsB Ω es V K H) (evalB Ω b false V K H)
    | true => none
def evalsB (Ω : Om) : MEs → Vs → Vs → Hs → Option (List PV)
  | .nil, _, _, _ => some []
  | .cons e es, V, K, H => match evalB Ω e false V K H, evalsB Ω es V K H with
    | some x, some xs => some (x :: xs)
    | _, _ => none
def boolB (Ω : Om) (op : BoolOp) : MEs → Bool → Vs → Vs → Hs → Option PV
  | .nil, _, _, _, _ => none
  | .cons e es, md, V, K, H => match es with
    | .nil => evalB Ω e md V K H
    | .cons _ _ => match evalB Ω e md V K H with
      | some x => match truthyP H x with
        | some t => if t == (op == .Or) then some x else boolB Ω op es md V K H
        | none => none
      | none => none
end
def evalM (Ω : Om) (m : ME) (V K : Vs) (H : Hs) : Option PV := evalB Ω m false V K H
def evalsM (Ω : Om) (ms : MEs) (V K : Vs) (H : Hs) : Option (List PV) := evalsB Ω ms V K H
def testM (Ω : Om) (m : ME) (V K : Vs) (H : Hs) : Option Bool := match evalB Ω m true V K H with
  | some (.bool b) => some b
  | _ => none
structure St where
  V : Vs
  K : Vs
  H : Hs
inductive Fl where
  | next | brk | cont | ret (v : PV)
def forL (t : Tgt) (body : St → Option (Fl × St)) : List PV → St → Option (Fl × St)
  | [], σ => some (.next, σ)
  | x :: xs, σ => match bindT t x σ.V with
    | some V' => match body { σ with V := V' } with
      | some (.next, τ) => forL t body xs τ
      | some (.cont, τ) => forL t body xs τ
      | some (.brk, τ) => some (.next, τ)
      | some (.ret v, τ) => some (.ret v, τ)
      | none => none
    | none => none
def whlN (test : St → Option Bool) (body : St → Option (Fl × St)) : Nat → St → Option (Fl × St)
  | 0, _ => none
  | n + 1, σ => match test σ with
    | some false => some (.next, σ)
    | some true => match body σ with
      | some (.next, τ) => whlN test body n τ
      | some (.cont, τ) => whlN test body n τ
      | some (.brk, τ) => some (.next, τ)
      | some (.ret v, τ) => some (.ret v, τ)
      | none => none
    | none => none
def pushAt (H : Hs) (l : Nat) (v : PV) : Option Hs := match H[l]? with
  | some xs => if xs.length < sizeLine then some (H.set l (xs ++ [v])) else none
  | none => none
mutual
def execM (Ω : Om) (n : Nat) : MS → St → Option (Fl × St)
  | .asg i e, σ => match evalM Ω e σ.V σ.K σ.H with
    | some v => some (.next, { σ with V := σ.V.set i (some v) })
    | none => none
  | .asgK i e, σ => match evalM Ω e σ.V σ.K σ.H with
    | some v => some (.next, { σ with V := σ.V.set i (some v) })
    | none => none
  | .asgC j e, σ => match evalM Ω e σ.V σ.K σ.H with
    | some v => some (.next, { σ with K := σ.K.set j (some v) })
    | none => none
  | .asgT is e, σ => match evalM Ω e σ.V σ.K σ.H with
    | some v => match bindT (.tup is) v σ.V with
      | some V' => some (.next, { σ with V := V' })
      | none => none
    | none => none
  | .asgTT i j a b, σ => match evalM Ω a σ.V σ.K σ.H, evalM Ω b σ.V σ.K σ.H with
    | some x, some y => if clean x && clean y then some (.next, { σ with V := (σ.V.set i (some x)).set j (some y) }) else none
    | _, _ => none
  | .aug i op e, σ => match (σ.V[i]?).join, evalM Ω e σ.V σ.K σ.H with
    | some (.int a), some (.int b) => match binP op (.int a) (.int b) with
      | some v => if op == .Add || op == .Sub then some (.next, { σ with V := σ.V.set i (some v) }) else none
      | none => none
    | some (.str a), some (.str b) => match binP op (.str a) (.str b) with
      | some v => some (.next, { σ with V := σ.V.set i (some v) })
      | none => none
    | _, _ => none
  | .asgR i j y z, σ => match (σ.V[j]?).join with
    | some (.str x) => if (y == z) = false ∧ x.length + (x.length + 1) * z.length ≤ 16777216 ∧ (Txt.replace x y z).length ≤ sizeLine then some (.next, { σ with V := σ.V.set i (some (.str (Txt.replace x y z))) }) else none
    | _ => none
  | .asgO k i j, σ => match (σ.V[j]?).join with
    | some x => match Ω.orc k x with
      | some v => if flat v then some (.next, { σ with V := σ.V.set i (some v) }) else none
      | none => none
    | none => none
  | .newL i, σ => some (.next, { σ with V := σ.V.set i (some (.loc σ.H.length)), H := σ.H ++ [[]] })
  | .newC j, σ => some (.next, { σ with K := σ.K.set j (some (.loc σ.H.length)), H := σ.H ++ [[]] })
  | .newLL i, σ => some (.next, { σ with V := σ.V.set i (some (.loc (σ.H.length + 1))), H := σ.H ++ [[], [.loc σ.H.length]] })
  | .app o e, σ => match evalM Ω o σ.V σ.K σ.H, evalM Ω e σ.V σ.K σ.H with
    | some (.loc l), some v => if clean v then (match pushAt σ.H l v with
      | some H' => some (.next, { σ with H := H' })
      | none => none) else none
    | _, _ => none
  | .appN o, σ => match evalM Ω o σ.V σ.K σ.H with
    | some (.loc l) => match pushAt σ.H l (.loc σ.H.length) with
      | some H' => some (.next, { σ with H := H' ++ [[]] })
      | none => none
    | _ => none
  | .popS i, σ => match (σ.V[i]?).join with
    | some (.loc l) => match σ.H[l]? with
      | some xs => match xs.getLast? with
        | some (.str _) => some (.next, { σ with H := σ.H.set l xs.dropLast })
        | _ => none
      | none => none
    | _ => none
  | .bnd i j, σ => match (σ.V[j]?).join with
    | some (.loc l) => some (.next, { σ with V := σ.V.set i (some (.bm l)) })
    | _ => none
  | .appB i e, σ => match (σ.V[i]?).join, evalM Ω e σ.V σ.K σ.H with
    | some (.bm l), some v => if clean v then (match pushAt σ.H l v with
      | some H' => some (.next, { σ with H := H' })
      | none => none) else none
    | _, _ => none
  | .ife t b o, σ => match testM Ω t σ.V σ.K σ.H with
    | some true => execsM Ω n b σ
    | some false => execsM Ω n o σ
    | none => none
  | .whl t b, σ => whlN (fun τ => testM Ω t τ.V τ.K τ.H) (execsM Ω n b) n σ
  | .for_ t it b, σ => match evalM Ω it σ.V σ.K σ.H with
    | some v => if isLoc v then none else match itemsP v with
      | some xs => forL t (execsM Ω n b) xs σ
      | none => none
    | none => none
  | .forG t g es b, σ => match Ω.gen g, evalsM Ω es σ.V σ.K σ.H with
    | some F, some ys => match frzs σ.H ys with
      | some zs => match F zs with
        | some xs => forL t (execsM Ω n b) xs σ
        | none => none
      | none => none
    | _, _ => none
  | .forGL t g es b, σ => match Ω.gen g, evalsM Ω es σ.V σ.K σ.H with
    | some F, some ys => match frzs σ.H ys with
      | some zs => match F zs with
        | some xs => if xs.length ≤ sizeLine then forL t (execsM Ω n b) xs σ else none
        | none => none
      | none => none
    | _, _ => none
  | .ret e, σ => match evalM Ω e σ.V σ.K σ.H with
    | some v => match frz σ.H v with
      | some u => some (.ret u, σ)
      | none => none
    | none => none
  | .brk, σ => some (.brk, σ)
  | .cont, σ => some (.cont, σ)
  | .asrt e, σ => match testM Ω e σ.V σ.K σ.H with
    | some true => some (.next, σ)
    | _ => none
  | .tryP b, σ => execsM Ω n b σ
  | .dead, _ => none
def execsM (Ω : Om) (n : Nat) : MSs → St → Option (Fl × St)
  | .nil, σ => some (.next, σ)
  | .cons e es, σ => match execM Ω n e σ with
    | some (.next, τ) => execsM Ω n es τ
    | some (f, τ) => some (f, τ)
    | none => none
end
structure Df where
  nv : Nat
  nk : Nat
  body : MSs
def runDf (Ω : Om) (n : Nat) (d : Df) (args : List PV) : Option PV :=
  match execsM Ω n d.body ⟨args.map some ++ List.replicate (d.nv - args.length) none, List.replicate d.nk none, []⟩ with
  | some (.ret v, _) => some v
  | some (.next, _) => some .none
  | _ => none
structure Cx where
  nm : List Str
  cn : List Str
  ck : List Str
  gn : List Str
  code : Option Nat
def cstIs : PV → Expr → Bool
  | .str x, .Constant (.str y) _ _ => x == y && decide (x.length ≤ sizeLine)
  | .int i, .Constant (.int j) _ _ => i == j
  | .int i, .UnaryOp .USub (.Constant (.int j) _ _) _ => i == -j
  | .bool b, .Constant (.bool c) _ _ => b == c
  | .none, .Constant .none _ _ => true
  | _, _ => false
def nameIs (l : List Str) (i : Nat) : Expr → Bool
  | .Name x _ => l[i]? == some x && x != ("__debug__" : Str)
  | _ => false
def namesAre (l : List Str) : List Nat → List Expr → Bool
  | [], [] => true
  | i :: is, e :: es => nameIs l i e && namesAre l is es
  | _, _ => false
def tgtIs (l : List Str) : Tgt → Expr → Bool
  | .one i, e => nameIs l i e
  | .tup is, .Tuple es _ _ => namesAre l is es
  | _, _ => false
def globIs (c : Cx) (f : Str) : Expr → Bool
  | .Name g _ => f == g && c.gn.contains f && f != ("__debug__" : Str)
  | _ => false
def scopeIs (c : Cx) (ns : List Str) (sc : Scope) : Bool :=
  sc.kind == .function && ns.all (fun n => sc.names.lookup n == some .local) && sc.names.all (fun p => p.2 == .local || p.2 == .globalImplicit || (p.2 == .free && c.ck.contains p.1)) &&
  sc.names.all (fun p => sc.names.lookup p.1 == some p.2) && !sc.isGenerator && !sc.isCoroutine && decide ns.Nodup && !ns.contains (".0" : Str) &&
  sc.names.all (fun p => p.2 != .local || p.1 == (".0" : Str) || ns.contains p.1)
def inner (c : Cx) (ns : List Str) (sc : Scope) : Cx :=
  { nm := ns, cn := c.cn, ck := (sc.names.filter fun p => p.2 == .free).map (·.1), gn := (sc.names.filter fun p => p.2 == .globalImplicit).map (·.1), code := none }
def isNoneC : ME → Bool
  | .cst .none => true
  | _ => false
def optB (o : Option Expr) (a : Bool) (f : Expr → Bool) : Bool := match o with
  | none => a
  | some x => f x
def notSuper : Expr → Bool
  | .Call (.Name _ _) [] [] _ => false
  | _ => true
mutual
def isE (c : Cx) : ME → Expr → Bool
  | .cst v, x => cstIs v x
  | .loc i, x => nameIs c.nm i x
  | .cel j, .Name y _ => c.cn[j]? == some y && c.ck.contains y && y != ("__debug__" : Str)
  | .glob f, x => globIs c f x
  | .boolE op es, .BoolOp op' xs _ => op == op' && isEs c es xs
  | .notE a, .UnaryOp .Not x _ => isE c a x
  | .bin op a b, .BinOp l op' r _ => op == op' && isE c a l && isE c b r
  | .ite t a b, .IfExp t' a' b' _ => isE c t t' && isE c a a' && isE c b b'
  | .cmp op a b, .Compare l [op'] [r] _ => op == op' && isE c a l && isE c b r && !behindInMarks op r
  | .cmp2 o₁ o₂ a b d, .Compare l [p₁, p₂] [r₁, r₂] _ => o₁ == p₁ && o₂ == p₂ && isE c a l && isE c b r₁ && isE c d r₂ && !behindInMarks o₂ r₂
  | .lst es, .List xs _ => isEs c es xs
  | .tup es, .Tuple xs _ _ => isEs c es xs
  | .call f es, .Call g xs [] _ => globIs c f g && isEs c es xs
  | .callS f a b, .Call g [x, .Starred y _] [] _ => globIs c f g && isE c a x && isE c b y
  | .meth m o es, .Call (.Attribute x m' ap) xs [] p => m == m' && isE c o x && isEs c es xs && notSuper x && ap.endLine == p.line && decide (xs.length < 30)
  | .idx a i, .Subscript x k _ => isE c a x && isE c i k
  | .slc a lo hi, .Subscript x (.Slice l u none _) _ => isE c a x && optB l (isNoneC lo) (fun y => isE c lo y) && optB u (isNoneC hi) (fun y => isE c hi y)
  | .fmt e, .FormattedValue x k none _ => k == -1 && isE c e x
  | .fstr es, .JoinedStr xs _ => isEs c es xs && decide (2 ≤ xs.length)
  | .comp ns t it e, .ListComp x [⟨tg, iter, [], 0⟩] sc _ => scopeIs c ns sc && tgtIs ns t tg && isE c it iter && isE (inner c ns sc) e x
  | .comp2 ns i it j it₂ e, .ListComp x [⟨tg, iter, [], 0⟩, ⟨tg₂, iter₂, [], 0⟩] sc _ => scopeIs c ns sc && nameIs ns i tg && isE c it iter && nameIs ns j tg₂ && i != j && isE (inner c ns sc) it₂ iter₂ && isE (inner c ns sc) e x
  | .eqc f es b, .Compare (.Call g xs [] _) [.Eq] [r] _ => globIs c f g && isEs c es xs && isE c b r
  | _, _ => false
def isEs (c : Cx) : MEs → List Expr → Bool
  | .nil, [] => true
  | .cons e es, x :: xs => isE c e x && isEs c es xs
  | _, _ => false
end
def notComp : Expr → Bool
  | .ListComp .. | .SetComp .. | .DictComp .. => false
  | _ => true
def compSwaps (c : Cx) (i : Nat) (x t : Expr) : Bool := match t, x with
  | .Name y tp, .ListComp _ _ sc pos => c.nm[i]? == some y && y != ("__debug__" : Str) && tp.line == pos.line && !(sc.names.any fun p => p.1 == y && (p.2 == .local || p.2 == .cell))
  | _, _ => false
def isNil : Expr → Bool
  | .List [] _ => true
  | _ => false
def isNilNil : Expr → Bool
  | .List [x] _ => isNil x
  | _ => false
def celIs (c : Cx) (j : Nat) : Expr → Bool
  | .Name y _ => c.cn[j]? == some y && c.ck.contains y
  | _ => false
def pairOf : Expr → Option (Expr × Expr)
  | .Tuple [t, u] _ _ => some (t, u)
  | _ => none
def attrCall (m : Str) : Expr → Option (Expr × List Expr)
  | .Call (.Attribute o m' ap) xs [] p => if m' == m && notSuper o && ap.endLine == p.line then some (o, xs) else none
  | _ => none
def attrOf (m : Str) : Expr → Option Expr
  | .Attribute o m' _ => if m' == m then some o else none
  | _ => none
def plainCall : Expr → Option (Expr × List Expr)
  | .Call f xs [] _ => some (f, xs)
  | _ => none
def lamCall : Expr → Bool
  | .Call (.Attribute (.Name m _) g ap) [.Constant (.int k) _ _] [] cp => m == ("_m" : Str) && g == ("group" : Str) && k == 1 && ap.endLine == cp.line
  | _ => false
def lamOr : Expr → Bool
  | .BoolOp .Or [y, .Constant (.str e) _ _] _ => e == ("" : Str) && lamCall y
  | _ => false
def lamBody : Expr → Bool
  | .BinOp (.Constant (.str x) _ _) .Add y _ => x == ("\\" : Str) && lamOr y
  | _ => false
def lamIs (ps : Arguments) (b : Expr) (sc : Scope) (p : Pos) : Bool :=
  ps.posonlyargs.isEmpty && ps.args.map (·.arg) == [("_m" : Str)] && ps.vararg.isNone && ps.kwonlyargs.isEmpty && ps.kw_defaults.isEmpty && ps.kwarg.isNone && ps.defaults.isEmpty && lamBody b &&
  sc.kind == .function && sc.names == [(("_m" : Str), NameKind.local)] && !sc.isGenerator && !sc.isCoroutine && p.line == 66 && p.col == 39
def orcIs (c : Cx) (j : Nat) : Expr → Bool
  | .Call (.Attribute (.Name f fp) m ap) [.Lambda ps b sc lp, y] [] p => globIs c "_twin_re_1" (.Name f fp) && m == ("sub" : Str) && nameIs c.nm j y && c.code == some 68 && ap.endLine == p.line && lamIs ps b sc lp
  | _ => false
def strIs (y : Str) : Expr → Bool
  | .Constant (.str y') _ _ => y == y'
  | _ => false
def isTuple : Expr → Bool
  | .Tuple .. => true
  | _ => false
mutual
def isS (c : Cx) : MS → Stmt → Bool
  | .asg i e, .Assign [t] x _ => nameIs c.nm i t && isE c e x && notComp x
  | .asgK i e, .Assign [t] x _ => compSwaps c i x t && isE c e x
  | .asgC j e, .Assign [t] x _ => celIs c j t && isE c e x && notComp x
  | .asgT is e, .Assign [t] x _ => tgtIs c.nm (.tup is) t && isE c e x && notComp x && !isTuple x
  | .asgTT i j a b, .Assign [t] x _ => match pairOf t, pairOf x with
    | some (t, u), some (x, y) => nameIs c.nm i t && nameIs c.nm j u && i != j && t.pos.line == u.pos.line && isE c a x && isE c b y && !(foldedForSure 8 x && foldedForSure 8 y) && !(constantsAlone 8 x && constantsAlone 8 y)
    | _, _ => false
  | .aug i op e, .AugAssign t op' x _ => nameIs c.nm i t && op == op' && isE c e x
  | .asgR i j y z, .Assign [t] x _ => nameIs c.nm i t && notComp x && match attrCall "replace" x with
    | some (o, [a, b]) => nameIs c.nm j o && strIs y a && strIs z b
    | _ => false
  | .asgO k i j, .Assign [t] x _ => nameIs c.nm i t && orcIs c j x && notComp x
  | .newL i, .Assign [t] x _ => nameIs c.nm i t && isNil x
  | .newC j, .Assign [t] x _ => celIs c j t && isNil x
  | .newLL i, .Assign [t] x _ => nameIs c.nm i t && isNilNil x
  | .app o e, .Expr x _ => match attrCall "append" x with
    | some (ob, [y]) => isE c o ob && isE c e y
    | _ => false
  | .appN o, .Expr x _ => match attrCall "append" x with
    | some (ob, [y]) => isE c o ob && isNil y
    | _ => false
  | .popS i, .Expr x _ => match attrCall "pop" x with
    | some (ob, []) => nameIs c.nm i ob
    | _ => false
  | .bnd i j, .Assign [t] x _ => nameIs c.nm i t && match attrOf "append" x with
    | some o => nameIs c.nm j o
    | none => false
  | .appB i e, .Expr x _ => match plainCall x with
    | some (f, [y]) => nameIs c.nm i f && isE c e y
    | _ => false
  | .ife t b o, .If x ys zs _ => isE c t x && isSs c b ys && isSs c o zs
  | .whl t b, .While x ys [] _ => isE c t x && isSs c b ys
  | .for_ t it b, .For tg x ys [] _ => tgtIs c.nm t tg && isE c it x && isSs c b ys
  | .forG t g es b, .For tg x ys [] _ => match plainCall x with
    | some (f, xs) => tgtIs c.nm t tg && globIs c g f && isEs c es xs && isSs c b ys
    | none => false
  | .forGL t g es b, .For tg x ys [] _ => match plainCall x with
    | some (l, [y]) => match plainCall y with
      | some (f, xs) => tgtIs c.nm t tg && globIs c ("list" : Str) l && globIs c g f && isEs c es xs && isSs c b ys
      | none => false
    | _ => false
  | .ret e, .Return (some x) _ => isE c e x
  | .brk, .Break _ => true
  | .cont, .Continue _ => true
  | .asrt e, .Assert x none _ => isE c e x
  | .tryP b, .Try ys _ [] [] _ => isSs c b ys
  | .dead, _ => true
  | _, _ => false
def isSs (c : Cx) : MSs → List Stmt → Bool
  | .nil, [] => true
  | .cons e es, x :: xs => isS c e x && isSs c es xs
  | _, _ => false
end
end Mine
namespace Mine
def Pr (o : Obj) : Prop := (o.cls = .type "code" ∨ o.cls = .none) ∧ ∃ vs, o.data = .fields vs
structure BW where
  prog : Program
  w : World
  b₀ : Heap
  T : Addr
  Tb : Heap → Prop
  mg : Str → Option Value
  mb : Str → Option Value
  os₀ : OsState
structure BW.Ok (B : BW) : Prop where
  g : B.b₀.Ns mainGlobals B.mg
  b : B.b₀.Ns builtinsNs B.mb
  lim : B.b₀.NoLimit
  Tb_keep : ∀ h h', B.Tb h → (∀ b o, h.get? b = some o → Pr o → h'.get? b = some o) → B.Tb h'
  Tb_T : ∀ h, B.Tb h → ∃ o, h.get? B.T = some o ∧ Pr o ∧ o.cls = .none
structure Inv (B : BW) (s : Shared) : Prop where
  base : ∀ b o, B.b₀.get? b = some o → s.heap.get? b = some o
  tb : B.Tb s.heap
  bare : AllBare s.gens
  os : s.os = B.os₀
  tk : 1 ≤ s.toks
structure Kp (B : BW) (s s' : Shared) : Prop where
  keep : ∀ b o, b ≠ B.T → s.heap.get? b = some o → s'.heap.get? b = some o
  gens : ∀ (g : Nat) (x : GenState), s.gens[g]? = some x → s'.gens[g]? = some x
  inv : Inv B s'
variable {B : BW}
theorem Kp.refl {s : Shared} (I : Inv B s) : Kp B s s := ⟨fun _ _ _ e => e, fun _ _ e => e, I⟩
theorem Kp.trans {s s₁ s₂ : Shared} (x : Kp B s s₁) (y : Kp B s₁ s₂) : Kp B s s₂ :=
  ⟨fun b o n e => y.keep b o n (x.keep b o n e), fun g z e => y.gens g z (x.gens g z e), y.inv⟩
theorem Inv.of_keep (O : B.Ok) {s : Shared} {h : Heap} {k : Nat} (I : Inv B s) (hk : ∀ b o, s.heap.get? b = some o → h.get? b = some o) (tk : 1 ≤ k) : Inv B { s with heap := h, toks := k } :=
  ⟨fun b o e => hk b o (I.base b o e), O.Tb_keep _ _ I.tb fun b o e _ => hk b o e, I.bare, I.os, tk⟩
theorem Kp.of_keep (O : B.Ok) {s : Shared} {h : Heap} {k : Nat} (I : Inv B s) (hk : ∀ b o, s.heap.get? b = some o → h.get? b = some o) (tk : 1 ≤ k) : Kp B s { s with heap := h, toks := k } :=
  ⟨fun b o _ e => hk b o e, fun _ _ e => e, I.of_keep O hk tk⟩
theorem Kp.push (O : B.Ok) {s : Shared} {o : Obj} (I : Inv B s) : Kp B s { s with heap := s.heap.push o } :=
  Kp.of_keep O (k := s.toks) I (fun _ _ e => Heap.get?_push_of_some _ e) I.tk
theorem Kp.pushT (O : B.Ok) {s : Shared} {o : Obj} {k : Nat} (I : Inv B s) (tk : 1 ≤ k) : Kp B s { s with heap := s.heap.push o, toks := k } :=
  Kp.of_keep O I (fun _ _ e => Heap.get?_push_of_some _ e) tk
theorem Kp.toks (O : B.Ok) {s : Shared} {k : Nat} (I : Inv B s) (tk : 1 ≤ k) : Kp B s { s with toks := k } := Kp.of_keep O (h := s.heap) I (fun _ _ e => e) tk
theorem Kp.inc (O : B.Ok) {s : Shared} (I : Inv B s) : Kp B s { s with toks := s.toks + 1 } := Kp.toks O I (by omega)
theorem Kp.inc2 (O : B.Ok) {s : Shared} (I : Inv B s) : Kp B s { s with toks := s.toks + 1 + 1 } := Kp.toks O I (by omega)
theorem wpAny_tk {α : Type} {M : Model} {A : Around} {s : Shared} {t : Sem α} {Q : α → Shared → Prop} {E : Value → Shared → Prop} (I : Inv B s) (h : wpAny M A t (fun a s' => 1 ≤ s'.toks → Q a s') E s) : wpAny M A t Q E s :=
  wpAny_mono (wpAny_toks_of I.tk h) (fun _ _ x => x.2 x.1) (fun _ _ x => x.2)
theorem Inv.neT (O : B.Ok) {s : Shared} (I : Inv B s) {b : Addr} {o : Obj} (e : s.heap.get? b = some o) (h : o.cls ≠ .none ∨ ∀ vs, o.data ≠ .fields vs) : b ≠ B.T := by
  rintro rfl
  obtain ⟨o', e', ⟨_, vs, hd⟩, hc⟩ := O.Tb_T _ I.tb
  rw [e] at e'; cases e'
  rcases h with h | h
  · exact h hc
  · exact h vs hd
theorem Kp.get (O : B.Ok) {s s' : Shared} (I : Inv B s) (k : Kp B s s') {b : Addr} {o : Obj} (e : s.heap.get? b = some o) (h : o.cls ≠ .none) : s'.heap.get? b = some o :=
  k.keep b o (I.neT O e (.inl h)) e
theorem Inv.lim (O : B.Ok) {s : Shared} (I : Inv B s) : s.heap.NoLimit := O.lim.keeps I.base
theorem Inv.g (O : B.Ok) {s : Shared} (I : Inv B s) : s.heap.Ns mainGlobals B.mg := O.g.keeps I.base
theorem Inv.b (O : B.Ok) {s : Shared} (I : Inv B s) : s.heap.Ns builtinsNs B.mb := O.b.keeps I.base
section
variable {h h' : Heap} {S as : List Addr}
mutual
theorem VR.mono (hk : ∀ b o, h.get? b = some o → o.cls ≠ .none → h'.get? b = some o) : ∀ {pv : PV} {v : Value}, VR h S as pv v → VR h' S as pv v
  | .none, _, e => e
  | .bool _, _, e => e
  | .int _, _, e => e
  | .str _, _, e => e
  | .val _, _, e => e
  | .loc _, _, e => e
  | .tup xs, _, ⟨a, vs, e, h1, h2, ⟨o, ho, hc, n, hd⟩, hz, hr⟩ => ⟨a, vs, e, h1, h2, ⟨o, hk _ _ ho (by rw [hc]; nofun), hc, n, hd⟩, hz, VRs.mono hk hr⟩
  | .lst xs, _, ⟨a, vs, e, h1, h2, ⟨o, ho, hc, n, hd⟩, hz, hr⟩ => ⟨a, vs, e, h1, h2, ⟨o, hk _ _ ho (by rw [hc]; nofun), hc, n, hd⟩, hz, VRs.mono hk hr⟩
  | .rng _ _, _, ⟨r, e, t, u, z, hr⟩ => ⟨r, e, t, u, z, hk _ _ hr (by nofun)⟩
  | .bm _, _, ⟨a, m, e, hv, hm⟩ => ⟨a, m, e, hv, hk _ _ hm (by nofun)⟩
theorem VRs.mono (hk : ∀ b o, h.get? b = some o → o.cls ≠ .none → h'.get? b = some o) : ∀ {xs : List PV} {vs : List Value}, VRs h S as xs vs → VRs h' S as xs vs
  | [], _, e => e
  | _ :: _, _, ⟨v, r, e, h1, h2⟩ => ⟨v, r, e, VR.mono hk h1, VRs.mono hk h2⟩
end
theorem notIn_grow {a a' : Addr} {o : Obj} (hf : h.get? a' = none) (ho : h.get? a = some o) (h2 : a ∉ as) : a ∉ as ++ [a'] := fun hm => by
  rcases List.mem_append.mp hm with q | q
  · exact h2 q
  · rw [List.mem_singleton.mp q, hf] at ho; cases ho
mutual
theorem VR.grow {a' : Addr} (hf : h.get? a' = none) : ∀ {pv : PV} {v : Value}, VR h S as pv v → VR h S (as ++ [a']) pv v
  | .none, _, e => e
  | .bool _, _, e => e
  | .int _, _, e => e
  | .str _, _, e => e
  | .val _, _, e => e
  | .loc l, _, ⟨a, e, hv⟩ => ⟨a, by rw [List.getElem?_append_left (List.getElem?_eq_some_iff.mp e).1]; exact e, hv⟩
  | .tup xs, _, ⟨a, vs, e, h1, h2, ⟨o, ho, hc⟩, hz, hr⟩ => ⟨a, vs, e, h1, notIn_grow hf ho h2, ⟨o, ho, hc⟩, hz, VRs.grow hf hr⟩
  | .lst xs, _, ⟨a, vs, e, h1, h2, ⟨o, ho, hc⟩, hz, hr⟩ => ⟨a, vs, e, h1, notIn_grow hf ho h2, ⟨o, ho, hc⟩, hz, VRs.grow hf hr⟩
  | .rng _ _, _, e => e
  | .bm l, _, ⟨a, m, e, hv, hm⟩ => ⟨a, m, by rw [List.getElem?_append_left (List.getElem?_eq_some_iff.mp e).1]; exact e, hv, hm⟩
theorem VRs.grow {a' : Addr} (hf : h.get? a' = none) : ∀ {xs : List PV} {vs : List Value}, VRs h S as xs vs → VRs h S (as ++ [a']) xs vs
  | [], _, e => e
  | _ :: _, _, ⟨v, r, e, h1, h2⟩ => ⟨v, r, e, VR.grow hf h1, VRs.grow hf h2⟩
end
mutual
theorem VR.clean {S' as' : List Addr} (hS : ∀ a, a ∉ S → a ∉ as → a ∉ S' ∧ a ∉ as') : ∀ {pv : PV} {v : Value}, clean pv = true → VR h S as pv v → VR h S' as' pv v
  | .none, _, _, e => e
  | .bool _, _, _, e => e
  | .int _, _, _, e => e
  | .str _, _, _, e => e
  | .val _, _, _, e => e
  | .tup xs, _, c, ⟨a, vs, e, h1, h2, ho, hz, hr⟩ => ⟨a, vs, e, (hS a h1 h2).1, (hS a h1 h2).2, ho, hz, VRs.clean hS c hr⟩
  | .lst xs, _, c, ⟨a, vs, e, h1, h2, ho, hz, hr⟩ => ⟨a, vs, e, (hS a h1 h2).1, (hS a h1 h2).2, ho, hz, VRs.clean hS c hr⟩
  | .rng _ _, _, _, e => e
theorem VRs.clean {S' as' : List Addr} (hS : ∀ a, a ∉ S → a ∉ as → a ∉ S' ∧ a ∉ as') : ∀ {xs : List PV} {vs : List Value}, cleans xs = true → VRs h S as xs vs → VRs h S' as' xs vs
  | [], _, _, e => e
  | x :: xs, _, c, ⟨v, r, e, h1, h2⟩ => ⟨v, r, e, VR.clean hS (Bool.and_eq_true_iff.mp c).1 h1, VRs.clean hS (Bool.and_eq_true_iff.mp c).2 h2⟩
end
theorem VRs.length : ∀ {xs : List PV} {vs : List Value}, VRs h S as xs vs → vs.length = xs.length
  | [], _, e => by rw [show _ = [] from e]; rfl
  | _ :: _, _, ⟨_, _, e, _, h2⟩ => by rw [e, List.length_cons, List.length_cons, h2.length]
theorem VRs.get : ∀ {xs : List PV} {vs : List Value}, VRs h S as xs vs → ∀ {k : Nat} {x : PV}, xs[k]? = some x → ∃ v, vs[k]? = some v ∧ VR h S as x v
  | _ :: _, _, ⟨v, r, e, h1, h2⟩, 0, x, hk => ⟨v, by rw [e]; rfl, by simp only [List.getElem?_cons_zero, Option.some.injEq] at hk; exact hk ▸ h1⟩
  | _ :: xs, _, ⟨v, r, e, h1, h2⟩, k + 1, x, hk => by
    obtain ⟨u, hu, hr⟩ := h2.get (k := k) (x := x) (by simpa using hk)
    exact ⟨u, by rw [e]; simpa using hu, hr⟩
theorem VRs.append : ∀ {xs ys : List PV} {vs us : List Value}, VRs h S as xs vs → VRs h S as ys us → VRs h S as (xs ++ ys) (vs ++ us)
  | [], _, _, _, e, h2 => by rw [show _ = [] from e]; exact h2
  | _ :: _, _, _, _, ⟨v, r, e, h1, h2⟩, h3 => ⟨v, r ++ _, by rw [e]; rfl, h1, h2.append h3⟩
theorem VRs.take : ∀ {xs : List PV} {vs : List Value} (n : Nat), VRs h S as xs vs → VRs h S as (xs.take n) (vs.take n)
  | _, _, 0, _ => by rw [List.take_zero, List.take_zero]; exact rfl
  | [], _, n + 1, e => by rw [show _ = [] from e]; exact rfl
  | _ :: _, _, n + 1, ⟨v, r, e, h1, h2⟩ => by rw [e]; exact ⟨v, r.take n, rfl, h1, h2.take n⟩
theorem VRs.drop : ∀ {xs : List PV} {vs : List Value} (n : Nat), VRs h S as xs vs → VRs h S as (xs.drop n) (vs.drop n)
  | _, _, 0, h => h
  | [], _, n + 1, e => by rw [show _ = [] from e]; exact rfl
  | _ :: _, _, n + 1, ⟨v, r, e, h1, h2⟩ => by rw [e]; exact h2.drop n
theorem VRs.flatten : ∀ {xss : List (List PV)} {vss : List (List Value)}, xss.length = vss.length → (∀ (k : Nat) (xs : List PV) (vs : List Value), xss[k]? = some xs → vss[k]? = some vs → VRs h S as xs vs) → VRs h S as xss.flatten vss.flatten
  | [], [], _, _ => rfl
  | _ :: _, [], e, _ => by cases e
  | [], _ :: _, e, _ => by cases e
  | xs :: xss, vs :: vss, e, hh => by
    rw [List.flatten_cons, List.flatten_cons]
    exact (hh 0 xs vs rfl rfl).append (VRs.flatten (Nat.succ.inj e) fun k a b ha hb => hh (k + 1) a b (by simpa using ha) (by simpa using hb))
end
end Mine
namespace Mine
variable {B : BW}
structure AOk (d : Nat) (A : Around) : Prop where
  handled : A.handled = none
  depth : A.depth + d ≤ 900
  units : A.units + 8 * d ≤ 9000
theorem AOk.mono {d e : Nat} {A : Around} (x : AOk d A) (h : e ≤ d) : AOk e A := ⟨x.handled, by have := x.depth; omega, by have := x.units; omega⟩
theorem AOk.deeper {d : Nat} {A : Around} (x : AOk (d + 1) A) (env : Env) : AOk d (A.deeper env) :=
  ⟨x.handled, by have := x.depth; simp only [Around.deeper]; omega, by have := x.units; simp only [Around.deeper]; omega⟩
theorem AOk.in1 {d : Nat} {A : Around} (x : AOk (d + 1) A) : AOk d A.in1 :=
  ⟨x.handled, by have := x.depth; show A.depth + d ≤ 900; omega, by have := x.units; show A.units + 1 + 8 * d ≤ 9000; omega⟩
theorem AOk.room {d : Nat} {A : Around} (x : AOk d A) : A.depth < recursionLimit := by have := x.depth; show _ < 1000; omega
theorem AOk.line {d : Nat} {A : Around} (x : AOk d A) : A.units + 64 < cLine := by have := x.units; show _ < 9900; omega
theorem AOk.line1 {d : Nat} {A : Around} (x : AOk d A) : A.units < cLine := by have := x.line; omega
def Held (S : List Addr) (h : Heap) : Prop := ∀ a ∈ S, ∃ vs, h.PlainList a vs
theorem Held.kp {S : List Addr} {s s' : Shared} (O : B.Ok) (I : Inv B s) (x : Held S s.heap) (k : Kp B s s') : Held S s'.heap := fun a ha => let ⟨vs, n, e⟩ := x a ha; ⟨vs, n, k.get O I e nofun⟩
theorem Held.fresh {S : List Addr} {h : Heap} (x : Held S h) : h.objs.size ∉ S := fun ha => let ⟨_, _, e⟩ := x _ ha; absurd (Heap.lt_size e) (Nat.lt_irrefl _)
def FnSpec (B : BW) (d : Nat) (f : Value) (F : List PV → Option PV) : Prop :=
  ∀ (A : Around) (s : Shared) (S : List Addr) (args : List PV) (vals : List Value) (r : PV) (E : Value → Shared → Prop), AOk d A → Inv B s → Held S s.heap → VRs s.heap S [] args vals → F args = some r →
    wpAny (model B.prog B.w) A (call f vals) (fun v s' => Kp B s s' ∧ VR s'.heap S [] r v) E s
theorem FnSpec.mono {d e : Nat} {f : Value} {F : List PV → Option PV} (x : FnSpec B d f F) (h : d ≤ e) : FnSpec B e f F := fun A s S args vals r E hA => x A s S args vals r E (hA.mono h)
def CodeSpec (B : BW) (d : Nat) (f : Value) (F : List PV → Option PV) : Prop :=
  ∀ (A : Around) (s : Shared) (S : List Addr) (args : List PV) (vals : List Value) (r : PV), AOk d A → Inv B s → Held S s.heap → VRs s.heap S [] args vals → F args = some r →
    codeAny (model B.prog B.w) A (.call f ⟨vals, []⟩) (fun res s' => ∃ v, res = .ok (.ret v) ∧ Kp B s s' ∧ VR s'.heap S [] r v) s
theorem CodeSpec.fn {d : Nat} {f : Value} {F : List PV → Option PV} (x : CodeSpec B d f F) : FnSpec B d f F := fun A s S args vals r E hA I hS rv hF =>
  wpAny_call (codeAny_mono (x A s S args vals r hA I hS rv hF) fun res s' ⟨v, e, h⟩ => by subst e; exact h)
def Callable (B : BW) (v : Value) : Prop := (∃ id, v = .builtin id) ∨ (∃ T, v = .type T) ∨ (∃ a o fd, v = .ref a ∧ B.b₀.get? a = some o ∧ o.data = .func fd)
def Gv (B : BW) (x : Str) : Option Value := (B.mg x).or (B.mb x)
structure OmOk (B : BW) (d : Nat) (Ω : Om) : Prop where
  fn : ∀ x F, Ω.fn x = some F → ∃ v, Gv B x = some v ∧ Callable B v ∧ FnSpec B d v F
  fs : ∀ x F, Ω.fs x = some F → ∃ a o fd, Gv B x = some (.ref a) ∧ B.b₀.get? a = some o ∧ o.data = .func fd ∧ FnSpec B d (.ref a) F
  gl : ∀ x pv, Ω.gl x = some pv → ∃ v, pv = .val v ∧ Gv B x = some v
structure EnvOk (c : Cx) (env : Env) : Prop where
  code : ∀ a, c.code = some a → env.code = .ref a ∧ env.qual = ("_translate.<locals>." : Str)
  kind : env.scope.kind = .function
  glob : env.globals = mainGlobals
  bi : env.builtins = builtinsNs
  loc : ∀ (i : Nat) x, c.nm[i]? = some x → env.kindOf x = some .local
  cel : ∀ x ∈ c.ck, env.kindOf x = some .cell
  gn : ∀ x ∈ c.gn, env.kindOf x = some .globalImplicit
  nodup : c.nm.Nodup
  cdup : c.cn.Nodup
  celn : ∀ x ∈ c.ck, ∃ j : Nat, c.cn[j]? = some x
  cinj : ∀ x ∈ c.ck, ∀ y ∈ c.ck, ∀ a, env.cells.lookup x = some a → env.cells.lookup y = some a → x = y
theorem EnvOk.plain {c : Cx} {env : Env} (e : EnvOk c env) : (env.scope.kind == .class || (env.scope.kind == .module && env.locals != env.globals)) = false := by rw [e.kind]; rfl
structure FR (B : BW) (c : Cx) (env : Env) (S as : List Addr) (V K : Vs) (H : Hs) (s : Shared) : Prop where
  inv : Inv B s
  held : Held S s.heap
  loc : ∃ m, s.heap.Ns env.locals m ∧ ∀ (i : Nat) x pv, c.nm[i]? = some x → V[i]? = some (some pv) → ∃ v, m x = some v ∧ VR s.heap S as pv v
  cel : ∀ (j : Nat) x, c.cn[j]? = some x → x ∈ c.ck → ∃ a v, env.cells.lookup x = some a ∧ s.heap.IsCell a v ∧ ∀ pv, K[j]? = some (some pv) → ∃ u, v = some u ∧ VR s.heap S as pv u
  len : as.length = H.length
  nodup : as.Nodup
  disj : ∀ a ∈ as, a ∉ S
  base : B.b₀.get? env.locals = none
  baseAs : ∀ a ∈ as, B.b₀.get? a = none
  baseC : ∀ x ∈ c.ck, ∀ a, env.cells.lookup x = some a → B.b₀.get? a = none
  own : ∀ (l : Nat) a xs, as[l]? = some a → H[l]? = some xs → ∃ vs, s.heap.PlainList a vs ∧ vs.size ≤ sizeLine ∧ VRs s.heap S as xs vs.toList
section
variable {c : Cx} {env : Env} {S as : List Addr} {V K : Vs} {H : Hs} {s s' : Shared}
theorem FR.heldAs (F : FR B c env S as V K H s) : Held as s.heap := fun a ha => by
  obtain ⟨l, hl⟩ := List.getElem?_of_mem ha
  have : l < H.length := by rw [← F.len]; exact (List.getElem?_eq_some_iff.mp hl).1
  obtain ⟨vs, pl, _⟩ := F.own l a _ hl (List.getElem?_eq_getElem this)
  exact ⟨_, pl⟩
theorem Ns.kp (O : B.Ok) {L : Addr} {m : Str → Option Value} (I : Inv B s) (n : s.heap.Ns L m) (k : Kp B s s') : s'.heap.Ns L m := by
  obtain ⟨o, es, ep, e, hd, r⟩ := n
  exact ⟨o, es, ep, k.keep _ _ (I.neT O e (.inr fun vs h => by rw [hd] at h; cases h)) e, hd, r⟩
theorem IsCell.kp (O : B.Ok) {a : Addr} {v : Option Value} (I : Inv B s) (n : s.heap.IsCell a v) (k : Kp B s s') : s'.heap.IsCell a v := by
  obtain ⟨o, e, hd⟩ := n
  exact ⟨o, k.keep _ _ (I.neT O e (.inr fun vs h => by rw [hd] at h; cases h)) e, hd⟩
theorem FR.kp (O : B.Ok) (F : FR B c env S as V K H s) (k : Kp B s s') : FR B c env S as V K H s' where
  inv := k.inv
  held := F.held.kp O F.inv k
  loc := by
    obtain ⟨m, n, h⟩ := F.loc
    exact ⟨m, Ns.kp O F.inv n k, fun i x pv hx hv => let ⟨v, e, r⟩ := h i x pv hx hv; ⟨v, e, r.mono fun b o e => k.get O F.inv e⟩⟩
  cel := fun j x hx hc => by
    obtain ⟨a, v, hl, hi, h⟩ := F.cel j x hx hc
    exact ⟨a, v, hl, IsCell.kp O F.inv hi k, fun pv hv => let ⟨u, e, r⟩ := h pv hv; ⟨u, e, r.mono fun b o e => k.get O F.inv e⟩⟩
  len := F.len
  nodup := F.nodup
  disj := F.disj
  base := F.base
  baseAs := F.baseAs
  baseC := F.baseC
  own := fun l a xs ha hx => by
    obtain ⟨vs, ⟨n, e⟩, hz, r⟩ := F.own l a xs ha hx
    exact ⟨vs, ⟨n, k.get O F.inv e (by nofun)⟩, hz, VRs.mono (fun b o e => k.get O F.inv e) r⟩
theorem FR.fresh (F : FR B c env S as V K H s) : s.heap.objs.size ∉ S ∧ s.heap.objs.size ∉ as := ⟨F.held.fresh, F.heldAs.fresh⟩
theorem VR.free {h : Heap} : ∀ {x : PV} {v : Value}, Mine.clean x = true → VR h S as x v → VR h S [] x v := fun hc r => VR.clean (fun a h1 _ => ⟨h1, by simp⟩) hc r
theorem VRs.free {h : Heap} : ∀ {x : List PV} {v : List Value}, Mine.cleans x = true → VRs h S as x v → VRs h S [] x v := fun hc r => VRs.clean (fun a h1 _ => ⟨h1, by simp⟩) hc r
theorem clean_frz1 {x y : PV} (h : frz1 H x = some y) : clean y = true := by
  unfold frz1 at h
  split at h
  · split at h
    · split at h
      · rename_i hc; cases h; exact hc
      · cases h
    · cases h
  · split at h
    · rename_i hc; cases h; exact hc
    · cases h
theorem clean_frzAll : ∀ {xs ys : List PV}, frzAll H xs = some ys → cleans ys = true
  | [], ys, h => by cases h; rfl
  | x :: xs, ys, h => by
    unfold frzAll at h
    split at h
    · rename_i y ys' h1 h2; cases h; exact Bool.and_eq_true_iff.mpr ⟨clean_frz1 h1, clean_frzAll h2⟩
    · cases h
theorem clean_frz {x y : PV} (h : frz H x = some y) : clean y = true := by
  unfold frz at h
  split at h
  · split at h
    · split at h
      · rename_i hc; cases h; exact clean_frzAll hc
      · cases h
    · cases h
  · split at h
    · rename_i hc; cases h; exact hc
    · cases h
theorem VR.frz1 (F : FR B c env S as V K H s) {x y : PV} {v : Value} (h : Mine.frz1 H x = some y) (r : VR s.heap S as x v) : VR s.heap S [] y v := by
  unfold Mine.frz1 at h
  split at h
  · rename_i l
    split at h
    · rename_i xs hx
      split at h
      · rename_i hc
        cases h
        obtain ⟨a, ha, rfl⟩ := r
        obtain ⟨vs, pl, hz, hr⟩ := F.own l a xs ha hx
        exact ⟨a, vs, rfl, F.disj a (List.mem_of_getElem? ha), by simp, pl.isList, hz, hr.free hc⟩
      · cases h
    · cases h
  · split at h
    · rename_i hc; cases h; exact r.free hc
    · cases h
theorem VRs.frzAll (F : FR B c env S as V K H s) : ∀ {xs ys : List PV} {vs : List Value}, Mine.frzAll H xs = some ys → VRs s.heap S as xs vs → VRs s.heap S [] ys vs
  | [], ys, vs, h, r => by cases h; exact r
  | x :: xs, ys, vs, h, ⟨v, w, e, h1, h2⟩ => by
    unfold Mine.frzAll at h
    split at h
    · rename_i y ys' q1 q2; cases h; exact ⟨v, w, e, h1.frz1 F q1, VRs.frzAll F q2 h2⟩
    · cases h
theorem VR.frz (F : FR B c env S as V K H s) {x y : PV} {v : Value} (h : Mine.frz H x = some y) (r : VR s.heap S as x v) : VR s.heap S [] y v := by
  unfold Mine.frz at h
  split at h
  · rename_i l
    split at h
    · rename_i xs hx
      split at h
      · rename_i ys hc
        cases h
        obtain ⟨a, ha, rfl⟩ := r
        obtain ⟨vs, pl, hz, hr⟩ := F.own l a xs ha hx
        exact ⟨a, vs, rfl, F.disj a (List.mem_of_getElem? ha), by simp, pl.isList, hz, hr.frzAll F hc⟩
      · cases h
    · cases h
  · split at h
    · rename_i hc; cases h; exact r.free hc
    · cases h
theorem VRs.frzs (F : FR B c env S as V K H s) : ∀ {xs ys : List PV} {vs : List Value}, Mine.frzs H xs = some ys → VRs s.heap S as xs vs → VRs s.heap S [] ys vs
  | [], ys, vs, h, r => by cases h; exact r
  | x :: xs, ys, vs, h, ⟨v, w, e, h1, h2⟩ => by
    unfold Mine.frzs at h
    split at h
    · rename_i y ys' q1 q2; cases h; exact ⟨v, w, e, h1.frz F q1, VRs.frzs F q2 h2⟩
    · cases h
theorem frzs_noLoc : ∀ {xs ys : List PV}, xs.any isLoc = false → Mine.frzs H xs = some ys → ys = xs ∧ cleans xs = true
  | [], ys, _, h => by cases h; exact ⟨rfl, rfl⟩
  | x :: xs, ys, q, h => by
    unfold Mine.frzs at h
    rw [List.any_cons, Bool.or_eq_false_iff] at q
    split at h
    · rename_i y ys' q1 q2
      cases h
      obtain ⟨e, hc⟩ := frzs_noLoc q.2 q2
      unfold Mine.frz at q1
      split at q1
      · exact absurd q.1 (by simp [isLoc])
      · split at q1
        · rename_i h'; cases q1; exact ⟨by rw [e], Bool.and_eq_true_iff.mpr ⟨h', hc⟩⟩
        · cases q1
    · cases h
theorem VR.flat {h : Heap} {S' as' : List Addr} : ∀ {x : PV} {v : Value}, Mine.flat x = true → VR h S as x v → VR h S' as' x v
  | .none, _, _, e => e
  | .bool _, _, _, e => e
  | .int _, _, _, e => e
  | .str _, _, _, e => e
  | .val _, _, _, e => e
  | .rng _ _, _, _, e => e
end
end Mine
namespace Mine
variable {B : BW}
section
variable {h : Heap} {S S' as as' : List Addr}
theorem IsList.unique {a : Addr} {x y : Array Value} (p : h.IsList a x) (q : h.IsList a y) : x = y := by
  obtain ⟨o, e, _, n, d⟩ := p
  obtain ⟨o', e', _, n', d'⟩ := q
  rw [e] at e'; cases e'
  rw [d] at d'; injection d'
theorem eqL_same (f : PV → PV → Option Bool) : ∀ {xs ys : List PV} {vs : List Value} {b : Bool}, (∀ x y v b, f x y = some b → VR h S as x v → VR h S' as' y v → b = true) →
    eqL f xs ys = some b → VRs h S as xs vs → VRs h S' as' ys vs → b = true
  | [], [], _, b, _, e, _, _ => by cases e; rfl
  | x :: xs, y :: ys, vs, b, hf, e, ⟨v, r, e1, h1, h2⟩, ⟨v', r', e2, h3, h4⟩ => by
    unfold eqL at e
    split at e
    · rename_i p q hp hq
      rw [e1] at e2; cases e2; cases e
      rw [hf x y v p hp h1 h3, eqL_same f hf hq h2 h4]; rfl
    · cases e
  | [], _ :: _, _, _, _, e, _, _ => by cases e
  | _ :: _, [], _, _, _, e, _, _ => by cases e
theorem eqN_leaf {n : Nat} {x y : PV} {v : Value} {b : Bool} (hx : ∀ xs, x ≠ .lst xs) (e : eqN n x y = some b) (r : VR h S as x v) (r' : VR h S' as' y v) : b = true := by
  unfold eqN at e
  split at e
  · exact absurd rfl (hx _)
  all_goals first
    | (cases e; rfl)
    | (cases e; rw [show v = _ from r] at r'; cases r'; simp)
    | (cases e; obtain ⟨t, rfl⟩ := r; obtain ⟨u, e'⟩ := r'; cases e'; simp)
    | (cases e; obtain ⟨t, rfl, _⟩ := r; obtain ⟨u, e', _⟩ := r'; cases e'; simp)
    | cases e
theorem eqN_lst {n : Nat} {xs : List PV} {y : PV} {b : Bool} (e : eqN n (.lst xs) y = some b) : ∃ k ys, n = k + 1 ∧ y = .lst ys ∧ (if xs.length == ys.length then eqL (eqN k) xs ys else some false) = some b := by
  cases n with
  | zero => cases y <;> simp [eqN] at e
  | succ k => cases y with
    | lst ys => exact ⟨k, ys, rfl, rfl, e⟩
    | _ => simp [eqN] at e
theorem eqN_same : ∀ (n : Nat) (x y : PV) (v : Value) (b : Bool), eqN n x y = some b → VR h S as x v → VR h S' as' y v → b = true := by
  intro n
  induction n with
  | zero =>
    intro x y v b e r r'
    refine eqN_leaf (fun xs hx => ?_) e r r'
    subst hx
    obtain ⟨k, _, hk, _⟩ := eqN_lst e
    cases hk
  | succ n ih =>
    intro x y v b e r r'
    by_cases hx : ∃ xs, x = .lst xs
    · obtain ⟨xs, rfl⟩ := hx
      obtain ⟨k, ys, hk, rfl, e⟩ := eqN_lst e
      cases hk
      obtain ⟨a, vs, rfl, _, _, hl, _, hr⟩ := r
      obtain ⟨a', vs', e', _, _, hl', _, hr'⟩ := r'
      cases e'
      cases IsList.unique hl hl'
      split at e
      · exact eqL_same _ (fun x y v b => ih x y v b) e hr hr'
      · rename_i hne
        exact absurd (by rw [← hr.length, ← hr'.length]; simp) hne
    · exact eqN_leaf (fun xs q => hx ⟨xs, q⟩) e r r'
theorem eqL_get (f : PV → PV → Option Bool) : ∀ {xs ys : List PV} {b : Bool}, eqL f xs ys = some b → xs.length = ys.length ∧ ∃ e : Nat → Bool,
    (∀ (j : Nat) x y, xs[j]? = some x → ys[j]? = some y → f x y = some (e j)) ∧ (List.range xs.length).all e = b
  | [], [], b, e => by cases e; exact ⟨rfl, fun _ => true, by simp, rfl⟩
  | x :: xs, y :: ys, b, e => by
    unfold eqL at e
    split at e
    · rename_i p q hp hq
      cases e
      obtain ⟨hl, g, hg, ha⟩ := eqL_get f hq
      refine ⟨by simp [hl], fun j => match j with | 0 => p | j + 1 => g j, ?_, ?_⟩
      · intro j u v hu hv
        cases j with
        | zero => simp at hu hv; subst hu hv; exact hp
        | succ j => exact hg j u v (by simpa using hu) (by simpa using hv)
      · rw [List.length_cons, List.range_succ_eq_map, List.all_cons, List.all_map, ← ha]
        rfl
    · cases e
  | [], _ :: _, _, e => by cases e
  | _ :: _, [], _, e => by cases e
end
section
variable {s : Shared} {S S' as as' : List Addr}
theorem eqN_at : ∀ (n : Nat) (x y : PV) (v u : Value) (b : Bool) (A : Around), A.units + n < cLine → eqN n x y = some b → VR s.heap S as x v → VR s.heap S' as' y u →
    SeqAt.EqAt A s v u b := by
  intro n
  have leaf : ∀ (n : Nat) (x y : PV) (v u : Value) (b : Bool) (A : Around), (∀ xs, x ≠ .lst xs) → eqN n x y = some b → VR s.heap S as x v → VR s.heap S' as' y u → SeqAt.EqAt A s v u b := by
    intro n x y v u b A hx e r r'
    unfold eqN at e
    split at e
    · exact absurd rfl (hx _)
    · cases e; rw [show v = _ from r, show u = _ from r']; exact SeqAt.EqAt.same _
    · cases e; rw [show v = _ from r, show u = _ from r']; exact SeqAt.EqAt.bool_bool _ _
    · cases e; obtain ⟨t, rfl⟩ := r; obtain ⟨t', rfl⟩ := r'; exact SeqAt.EqAt.int_int _ _ _ _
    · cases e; obtain ⟨t, rfl, _⟩ := r; obtain ⟨t', rfl, _⟩ := r'; exact SeqAt.EqAt.str_str _ _ _ _
    · cases e
  induction n with
  | zero =>
    intro x y v u b A hA e r r'
    refine leaf 0 x y v u b A (fun xs hx => ?_) e r r'
    subst hx
    obtain ⟨k, _, hk, _⟩ := eqN_lst e
    cases hk
  | succ n ih =>
    intro x y v u b A hA e r r'
    by_cases hx : ∃ xs, x = .lst xs
    · obtain ⟨xs, rfl⟩ := hx
      have same := eqN_same (h := s.heap) (S := S) (as := as) (S' := S') (as' := as') (n + 1) _ y v b e
      obtain ⟨k, ys, hk, rfl, e⟩ := eqN_lst e
      cases hk
      have R := r
      have R' := r'
      obtain ⟨a, vs, rfl, _, _, hl, _, hr⟩ := r
      obtain ⟨a', vs', rfl, _, _, hl', _, hr'⟩ := r'
      by_cases haa : a = a'
      · subst haa
        rw [same R R']; exact SeqAt.EqAt.same _
      · refine SeqAt.EqAt.of_refs haa ?_
        have l1 : vs.size = xs.length := by have := hr.length; simpa using this
        have l2 : vs'.size = ys.length := by have := hr'.length; simpa using this
        split at e
        · obtain ⟨hlen, g, hg, hb⟩ := eqL_get _ e
          rw [← hb, ← l1]
          refine SeqAt.RcAt.lists hl hl' (by omega) (by omega) fun j h1 h2 => ?_
          obtain ⟨w1, e1, q1⟩ := hr.get (k := j) (x := xs[j]'(by omega)) (List.getElem?_eq_getElem (by omega))
          obtain ⟨w2, e2, q2⟩ := hr'.get (k := j) (x := ys[j]'(by omega)) (List.getElem?_eq_getElem (by omega))
          have f1 : vs[j] = w1 := by rw [Array.getElem?_toList, Array.getElem?_eq_getElem h1] at e1; exact Option.some.inj e1
          have f2 : vs'[j] = w2 := by rw [Array.getElem?_toList, Array.getElem?_eq_getElem h2] at e2; exact Option.some.inj e2
          rw [f1, f2]
          exact ih _ _ _ _ _ A.in1 (by show A.units + 1 + n < cLine; omega) (hg j _ _ (List.getElem?_eq_getElem (by omega)) (List.getElem?_eq_getElem (by omega))) q1 q2
        · rename_i hne
          cases e
          refine SeqAt.RcAt.lists_lengths hl hl' ?_ (by omega)
          rw [l1, l2]
          simpa using hne
    · exact leaf _ x y v u b A (fun xs q => hx ⟨xs, q⟩) e r r'
end
end Mine
namespace Mine
variable {B : BW}
section
variable {c : Cx} {env : Env} {S as : List Addr} {V K : Vs} {H : Hs} {s : Shared} {A : Around} {d : Nat} {E : Value → Shared → Prop}
theorem eq_sound (I : Inv B s) (hA : AOk d A) {S' as' : List Addr} {x y : PV} {v u : Value} {b : Bool} (e : eqP x y = some b) (r : VR s.heap S as x v) (r' : VR s.heap S' as' y u) :
    wpAny (model B.prog B.w) A (compareOp .Eq v u) (fun z s' => Kp B s s' ∧ z = .bool b) E s := by
  have done : ∀ k : Bool, k = b → (Kp B s s ∧ Value.bool k = .bool b) := fun k hk => ⟨Kp.refl I, by rw [hk]⟩
  by_cases hx : ∃ xs, x = .lst xs
  · obtain ⟨xs, rfl⟩ := hx
    obtain ⟨k, ys, hk, rfl, e'⟩ := eqN_lst (show eqN 4 _ _ = some b from e)
    clear e
    have e := e'
    clear e'
    obtain ⟨a, vs, rfl, _, _, hl, _, hr⟩ := r
    obtain ⟨a', vs', rfl, _, _, hl', _, hr'⟩ := r'
    have l1 : vs.size = xs.length := by have := hr.length; simpa using this
    have l2 : vs'.size = ys.length := by have := hr'.length; simpa using this
    split at e
    · obtain ⟨hlen, g, hg, hb⟩ := eqL_get _ e
      refine SeqAt.eq_listAt hl hl' (by omega) hA.line1 (fun j h1 h2 => ?_) (done _ (by rw [l1]; exact hb))
      obtain ⟨w1, e1, q1⟩ := hr.get (k := j) (x := xs[j]'(by omega)) (List.getElem?_eq_getElem (by omega))
      obtain ⟨w2, e2, q2⟩ := hr'.get (k := j) (x := ys[j]'(by omega)) (List.getElem?_eq_getElem (by omega))
      have f1 : vs[j] = w1 := by rw [Array.getElem?_toList, Array.getElem?_eq_getElem h1] at e1; exact Option.some.inj e1
      have f2 : vs'[j] = w2 := by rw [Array.getElem?_toList, Array.getElem?_eq_getElem h2] at e2; exact Option.some.inj e2
      rw [f1, f2]
      have := hA.line
      exact eqN_at k _ _ _ _ _ A.in1 (by show A.units + 1 + k < cLine; omega) (hg j _ _ (List.getElem?_eq_getElem (by omega)) (List.getElem?_eq_getElem (by omega))) q1 q2
    · rename_i hne
      cases e
      exact SeqAt.eq_list_lengthsAt hl hl' (by rw [l1, l2]; simpa using hne) hA.line1 (done _ rfl)
  · unfold eqP eqN at e
    split at e
    · exact absurd ⟨_, rfl⟩ hx
    · cases e; rw [show v = _ from r, show u = _ from r']; exact PySem.EqNone.eq_none_none (done _ rfl)
    · cases e; rw [show v = _ from r, show u = _ from r']; exact PySem.EqBoolInt.of_rc (SeqAt.RcAt.bool_bool _ _) (done _ rfl)
    · cases e; obtain ⟨t, rfl⟩ := r; obtain ⟨t', rfl⟩ := r'; exact PyProof.Rows.eq_int (done _ rfl)
    · cases e; obtain ⟨t, rfl, _⟩ := r; obtain ⟨t', rfl, _⟩ := r'; exact PyProof.Rows.eq_str (done _ rfl)
    · cases e
theorem ne_sound (I : Inv B s) (hA : AOk d A) {S' as' : List Addr} {x y : PV} {v u : Value} {b : Bool} (e : eqP x y = some b) (r : VR s.heap S as x v) (r' : VR s.heap S' as' y u) :
    wpAny (model B.prog B.w) A (compareOp .NotEq v u) (fun z s' => Kp B s s' ∧ z = .bool (!b)) E s := by
  have done : ∀ k : Bool, k = !b → (Kp B s s ∧ Value.bool k = .bool (!b)) := fun k hk => ⟨Kp.refl I, by rw [hk]⟩
  by_cases hx : ∃ xs, x = .lst xs
  · obtain ⟨xs, rfl⟩ := hx
    obtain ⟨k, ys, hk, rfl, e'⟩ := eqN_lst (show eqN 4 _ _ = some b from e)
    clear e
    have e := e'
    clear e'
    obtain ⟨a, vs, rfl, _, _, hl, _, hr⟩ := r
    obtain ⟨a', vs', rfl, _, _, hl', _, hr'⟩ := r'
    have l1 : vs.size = xs.length := by have := hr.length; simpa using this
    have l2 : vs'.size = ys.length := by have := hr'.length; simpa using this
    split at e
    · obtain ⟨hlen, g, hg, hb⟩ := eqL_get _ e
      refine PySem.EqBoolInt.of_rcne (SeqAt.RcNeAt.lists (e := g) hl hl' (by omega) hA.line1 (fun j h1 h2 => ?_)) (done _ (by rw [l1, hb]))
      obtain ⟨w1, e1, q1⟩ := hr.get (k := j) (x := xs[j]'(by omega)) (List.getElem?_eq_getElem (by omega))
      obtain ⟨w2, e2, q2⟩ := hr'.get (k := j) (x := ys[j]'(by omega)) (List.getElem?_eq_getElem (by omega))
      have f1 : vs[j] = w1 := by rw [Array.getElem?_toList, Array.getElem?_eq_getElem h1] at e1; exact Option.some.inj e1
      have f2 : vs'[j] = w2 := by rw [Array.getElem?_toList, Array.getElem?_eq_getElem h2] at e2; exact Option.some.inj e2
      rw [f1, f2]
      have := hA.line
      exact eqN_at k _ _ _ _ _ A.in1 (by show A.units + 1 + k < cLine; omega) (hg j _ _ (List.getElem?_eq_getElem (by omega)) (List.getElem?_eq_getElem (by omega))) q1 q2
    · rename_i hne
      cases e
      exact PySem.EqBoolInt.of_rcne (SeqAt.RcNeAt.lists_lengths hl hl' (by rw [l1, l2]; simpa using hne) hA.line1) (done _ rfl)
  · unfold eqP eqN at e
    split at e
    · exact absurd ⟨_, rfl⟩ hx
    · cases e; rw [show v = _ from r, show u = _ from r']; exact PySem.EqNone.ne_none_none (done _ rfl)
    · cases e; rw [show v = _ from r, show u = _ from r']; exact PySem.EqBoolInt.of_rcne (SeqAt.RcNeAt.bool_bool _ _) (done _ rfl)
    · cases e; obtain ⟨t, rfl⟩ := r; obtain ⟨t', rfl⟩ := r'; exact PyProof.Rows.ne_int (done _ rfl)
    · cases e; obtain ⟨t, rfl, _⟩ := r; obtain ⟨t', rfl, _⟩ := r'; exact PyProof.Rows.ne_str (done _ rfl)
    · cases e
end
end Mine
namespace Mine
variable {B : BW}
section
variable {c : Cx} {env : Env} {S as : List Addr} {V K : Vs} {H : Hs} {s : Shared} {A : Around} {d : Nat} {E : Value → Shared → Prop}
theorem sizeLine_small {n : Nat} (h : n ≤ sizeLine) : (n : Int) < 2 ^ 63 := by rw [sizeLine_eq] at h; omega
theorem strsOf_vals {h : Heap} : ∀ {xs : List PV} {zs : List Str} {vs : List Value}, strsOf xs = some zs → VRs h S as xs vs → StrsAre vs zs
  | [], zs, vs, e, r => by cases e; rw [show vs = [] from r]; exact .nil
  | .str x :: xs, zs, vs, e, ⟨v, w, e1, ⟨t, e0, _⟩, h2⟩ => by
    subst e0
    unfold strsOf at e
    cases q : strsOf xs with
    | none => rw [q] at e; cases e
    | some ys => rw [q] at e; cases e; rw [e1]; exact .cons _ _ (strsOf_vals q h2)
theorem intsOf_vals {h : Heap} : ∀ {xs : List PV} {zs : List Int} {vs : List Value}, intsOf xs = some zs → VRs h S as xs vs → IntsAre vs zs
  | [], zs, vs, e, r => by cases e; rw [show vs = [] from r]; exact .nil
  | .int x :: xs, zs, vs, e, ⟨v, w, e1, ⟨t, e0⟩, h2⟩ => by
    subst e0
    unfold intsOf at e
    cases q : intsOf xs with
    | none => rw [q] at e; cases e
    | some ys => rw [q] at e; cases e; rw [e1]; exact .cons _ _ (intsOf_vals q h2)
def isStrOf (x : Str) : Value → Bool
  | .str y _ => y == x
  | _ => false
def isIntOf (x : Int) : Value → Bool
  | .int y _ => y == x
  | _ => false
theorem any_strs {x : Str} : ∀ {vs : List Value} {zs : List Str}, StrsAre vs zs → vs.any (isStrOf x) = zs.any (· == x) := by
  intro vs zs h
  induction h with
  | nil => rfl
  | cons _ _ _ ih => rw [List.any_cons, List.any_cons, ih]; rfl
theorem any_ints {x : Int} : ∀ {vs : List Value} {zs : List Int}, IntsAre vs zs → vs.any (isIntOf x) = zs.any (· == x) := by
  intro vs zs h
  induction h with
  | nil => rfl
  | cons _ _ _ ih => rw [List.any_cons, List.any_cons, ih]; rfl
theorem strs_mem {vs : List Value} {zs : List Str} (h : StrsAre vs zs) : ∀ v ∈ vs, ∃ y t, v = .str y t := by
  induction h with
  | nil => intro v hv; cases hv
  | cons _ _ _ ih => intro v hv; cases hv with
    | head => exact ⟨_, _, rfl⟩
    | tail _ h => exact ih v h
theorem ints_mem {vs : List Value} {zs : List Int} (h : IntsAre vs zs) : ∀ v ∈ vs, ∃ y t, v = .int y t := by
  induction h with
  | nil => intro v hv; cases hv
  | cons _ _ _ ih => intro v hv; cases hv with
    | head => exact ⟨_, _, rfl⟩
    | tail _ h => exact ih v h
theorem mem_rule {h : Heap} {x : PV} {xs : List PV} {v : Value} {vs : Array Value} {b : Bool} (e : memP x xs = some b) (r : VR s.heap S as x v) (rs : VRs s.heap S as xs vs.toList) :
    ∃ f : Value → Bool, (∀ y, y ∈ vs → SeqAt.EqAt A.in1 s y v (f y)) ∧ vs.any f = b := by
  unfold memP at e
  split at e
  · cases q : strsOf xs with
    | none => rw [q] at e; cases e
    | some zs =>
      rename_i z
      rw [q] at e; cases e
      obtain ⟨t, rfl, _⟩ := r
      have hs := strsOf_vals q rs
      refine ⟨isStrOf z, fun y hy => ?_, (by show _ = zs.any _; rw [← any_strs hs, Array.any_toList])⟩
      obtain ⟨w, t', rfl⟩ := strs_mem hs y (by simpa using hy)
      exact SeqAt.EqAt.str_str _ _ _ _
  · cases q : intsOf xs with
    | none => rw [q] at e; cases e
    | some zs =>
      rename_i z
      rw [q] at e; cases e
      obtain ⟨t, rfl⟩ := r
      have hs := intsOf_vals q rs
      refine ⟨isIntOf z, fun y hy => ?_, (by show _ = zs.any _; rw [← any_ints hs, Array.any_toList])⟩
      obtain ⟨w, t', rfl⟩ := ints_mem hs y (by simpa using hy)
      exact SeqAt.EqAt.int_int _ _ _ _
  · cases e
theorem in_sound (I : Inv B s) {x y : PV} {v u : Value} {b : Bool} (e : inP x y = some b) (r : VR s.heap S as x v) (r' : VR s.heap S as y u) :
    wpAny (model B.prog B.w) A (compareOp .In v u) (fun z s' => Kp B s s' ∧ z = .bool b) E s ∧ wpAny (model B.prog B.w) A (compareOp .NotIn v u) (fun z s' => Kp B s s' ∧ z = .bool (!b)) E s := by
  have done : ∀ k b : Bool, k = b → (Kp B s s ∧ Value.bool k = .bool b) := fun k _ hk => ⟨Kp.refl I, by rw [hk]⟩
  unfold inP at e
  split at e
  · cases e; obtain ⟨t, rfl, _⟩ := r; obtain ⟨t', rfl, _⟩ := r'; exact ⟨SB.contains (done _ _ rfl), SB.notContains (done _ _ rfl)⟩
  · obtain ⟨a, vs, rfl, _, _, hl, _, hr⟩ := r'
    obtain ⟨f, hf, hb⟩ := mem_rule (h := s.heap) (A := A) e r hr
    exact ⟨SeqAt.in_listAt f hl hf (done _ _ hb), SeqAt.notIn_listAt f hl hf (done _ _ (by rw [hb]))⟩
  · obtain ⟨a, vs, rfl, _, _, hl, _, hr⟩ := r'
    obtain ⟨f, hf, hb⟩ := mem_rule (h := s.heap) (A := A) e r hr
    exact ⟨SeqAt.in_tupleAt f hl hf (done _ _ hb), SeqAt.notIn_tupleAt f hl hf (done _ _ (by rw [hb]))⟩
  · cases e
theorem is_sound (I : Inv B s) {x y : PV} {v u : Value} {b : Bool} (e : isP x y = some b) (r : VR s.heap S as x v) (r' : VR s.heap S as y u) :
    wpAny (model B.prog B.w) A (compareOp .Is v u) (fun z s' => Kp B s s' ∧ z = .bool b) E s ∧ wpAny (model B.prog B.w) A (compareOp .IsNot v u) (fun z s' => Kp B s s' ∧ z = .bool (!b)) E s := by
  have done : ∀ k b : Bool, k = b → (Kp B s s ∧ Value.bool k = .bool b) := fun k _ hk => ⟨Kp.refl I, by rw [hk]⟩
  unfold isP at e
  split at e
  · split at e
    · rename_i hab
      cases e; rw [show v = _ from r, show u = _ from r', beq_iff_eq.mp hab]
      exact ⟨wpAny_is_ref_self (done _ _ rfl), wpAny_isNot_ref_self (done _ _ rfl)⟩
    · cases e
  · cases e; obtain ⟨t, rfl, _⟩ := r; rw [show u = _ from r']
    exact ⟨wpAny_is_plain rfl (done _ _ rfl), wpAny_isNot_plain rfl (done _ _ rfl)⟩
  · cases e; rw [show v = _ from r, show u = _ from r']
    exact ⟨wpAny_is_plain rfl (done _ _ rfl), wpAny_isNot_plain rfl (done _ _ rfl)⟩
  · cases e; obtain ⟨t, rfl⟩ := r; rw [show u = _ from r']
    exact ⟨wpAny_is_plain rfl (done _ _ rfl), wpAny_isNot_plain rfl (done _ _ rfl)⟩
  · cases e; obtain ⟨t, rfl, _⟩ := r; rw [show u = _ from r']
    exact ⟨wpAny_is_plain rfl (done _ _ rfl), wpAny_isNot_plain rfl (done _ _ rfl)⟩
  · cases e; obtain ⟨a, vs, rfl, _⟩ := r; rw [show u = _ from r']
    exact ⟨wpAny_is_plain rfl (done _ _ rfl), wpAny_isNot_plain rfl (done _ _ rfl)⟩
  · cases e; obtain ⟨a, _, rfl⟩ := r; rw [show u = _ from r']
    exact ⟨wpAny_is_plain rfl (done _ _ rfl), wpAny_isNot_plain rfl (done _ _ rfl)⟩
  · cases e
theorem cmp_sound (hA : AOk d A) (F : FR B c env S as V K H s) {op : CmpOp} {x y : PV} {v u : Value} {b : Bool} (e : cmpP H op x y = some b) (r : VR s.heap S as x v) (r' : VR s.heap S as y u) :
    wpAny (model B.prog B.w) A (compareOp op v u) (fun z s' => Kp B s s' ∧ z = .bool b) E s := by
  have I := F.inv
  have two : ∀ {f : PV → PV → Option Bool} {b : Bool}, both f (frz H x) (frz H y) = some b → ∃ x' y', frz H x = some x' ∧ frz H y = some y' ∧ f x' y' = some b := by
    intro f b e
    cases q : frz H x with
    | none => rw [q] at e; cases e
    | some x' => cases q' : frz H y with
      | none => rw [q, q'] at e; cases e
      | some y' => rw [q, q'] at e; exact ⟨_, _, rfl, rfl, e⟩
  have intCase : ∀ {o : CmpOp}, ordP o x y = some b → ∃ i j t t', x = .int i ∧ y = .int j ∧ orderP o i j = some b ∧ v = .int i t ∧ u = .int j t' := by
    intro o e
    cases x <;> cases y <;> first | cases e | (obtain ⟨t, rfl⟩ := r; obtain ⟨t', rfl⟩ := r'; exact ⟨_, _, _, _, rfl, rfl, e, rfl, rfl⟩)
  have neg : ∀ {o : Option Bool}, o.map (!·) = some b → ∃ k, o = some k ∧ b = !k := by
    intro o e
    cases o with
    | none => cases e
    | some k => cases e; exact ⟨k, rfl, rfl⟩
  have done : ∀ k b : Bool, some k = some b → (Kp B s s ∧ Value.bool k = .bool b) := fun k _ hk => ⟨Kp.refl I, by cases hk; rfl⟩
  cases op with
  | Is => exact (is_sound I e r r').1
  | IsNot => obtain ⟨k, q, rfl⟩ := neg e; exact (is_sound I q r r').2
  | Eq =>
    obtain ⟨x', y', h1, h2, h3⟩ := two e
    exact eq_sound I hA h3 (r.frz F h1) (r'.frz F h2)
  | NotEq =>
    obtain ⟨k, q, rfl⟩ := neg e
    obtain ⟨x', y', h1, h2, h3⟩ := two q
    exact ne_sound I hA h3 (r.frz F h1) (r'.frz F h2)
  | In =>
    obtain ⟨x', y', h1, h2, h3⟩ := two e
    exact (in_sound I h3 (r.frz F h1) (r'.frz F h2)).1
  | NotIn =>
    obtain ⟨k, q, rfl⟩ := neg e
    obtain ⟨x', y', h1, h2, h3⟩ := two q
    exact (in_sound I h3 (r.frz F h1) (r'.frz F h2)).2
  | Lt => obtain ⟨i, j, t, t', rfl, rfl, e, rfl, rfl⟩ := intCase e; exact lt_int (done _ _ e)
  | LtE => obtain ⟨i, j, t, t', rfl, rfl, e, rfl, rfl⟩ := intCase e; exact PyProof.Rows.le_int (done _ _ e)
  | Gt => obtain ⟨i, j, t, t', rfl, rfl, e, rfl, rfl⟩ := intCase e; exact PyProof.Rows.gt_int (done _ _ e)
  | GtE => obtain ⟨i, j, t, t', rfl, rfl, e, rfl, rfl⟩ := intCase e; exact PyProof.Rows.ge_int (done _ _ e)
theorem truthy_sound (O : B.Ok) (F : FR B c env S as V K H s) {x : PV} {v : Value} {b : Bool} (e : truthyP H x = some b) (r : VR s.heap S as x v) :
    wpAny (model B.prog B.w) A (truthy v) (fun z s' => Kp B s s' ∧ z = b) E s := by
  have I := F.inv
  have done : ∀ k b : Bool, some k = some b → (Kp B s s ∧ k = b) := fun k _ hk => ⟨Kp.refl I, by cases hk; rfl⟩
  have done2 : ∀ k b : Bool, k = b → (Kp B s { s with toks := s.toks + 1 + 1 } ∧ k = b) := fun k _ hk => ⟨Kp.inc2 O I, hk⟩
  have emp : ∀ {xs : List PV} {vs : Array Value}, VRs s.heap S as xs vs.toList → (!vs.isEmpty) = !xs.isEmpty := by
    intro xs vs hr
    have := hr.length
    obtain ⟨l⟩ := vs
    cases l <;> cases xs <;> first | rfl | (exfalso; simp at this)
  unfold truthyP at e
  split at e
  · rw [show v = _ from r]; exact truthy_none (done _ _ e)
  · rw [show v = _ from r]; exact wpAny_truthy_bool (done _ _ e)
  · obtain ⟨t, rfl⟩ := r; exact PyProof.Rows.truthy_int (done _ _ e)
  · obtain ⟨t, rfl, hl⟩ := r
    cases e
    exact P.truthy_str (by have := sizeLine_small hl; omega) (done2 _ _ (by rw [Bool.eq_iff_iff]; simp))
  · obtain ⟨a, vs, rfl, _, _, hl, hz, hr⟩ := r; cases e
    exact wpAny_truthy_list hl (sizeLine_small hz) (done2 _ _ (emp hr))
  · obtain ⟨a, vs, rfl, _, _, hl, hz, hr⟩ := r; cases e
    exact truthy_tuple hl (sizeLine_small hz) (done2 _ _ (emp hr))
  · rename_i l
    obtain ⟨a, ha, rfl⟩ := r
    cases q : H[l]? with
    | none => rw [q] at e; cases e
    | some xs =>
      rw [q] at e; cases e
      obtain ⟨vs, pl, hz, hr⟩ := F.own l a xs ha q
      exact wpAny_truthy_list pl.isList (sizeLine_small hz) (done2 _ _ (emp hr))
  · cases e
end
end Mine
namespace Mine
variable {B : BW}
def VRt (h : Heap) (S as : List Addr) : PV → Value → Prop
  | .lst xs, v => ∃ a vs, v = .ref a ∧ h.IsList a vs ∧ vs.size ≤ sizeLine ∧ VRs h S as xs vs.toList
  | pv, v => VR h S as pv v
section
variable {c : Cx} {env : Env} {S as : List Addr} {V K : Vs} {H : Hs} {s : Shared} {A : Around} {d : Nat} {E : Value → Shared → Prop}
theorem VR.top {h : Heap} : ∀ {x : PV} {v : Value}, VR h S as x v → VRt h S as x v
  | .none, _, e => e
  | .bool _, _, e => e
  | .int _, _, e => e
  | .str _, _, e => e
  | .val _, _, e => e
  | .loc _, _, e => e
  | .tup _, _, e => e
  | .bm _, _, e => e
  | .rng _ _, _, e => e
  | .lst _, _, ⟨a, vs, e, _, _, hl, hz, hr⟩ => ⟨a, vs, e, hl, hz, hr⟩
theorem VR.frz1t (F : FR B c env S as V K H s) {x y : PV} {v : Value} (h : Mine.frz1 H x = some y) (r : VR s.heap S as x v) : VRt s.heap S as y v := by
  unfold Mine.frz1 at h
  split at h
  · rename_i l
    split at h
    · rename_i xs hx
      split at h
      · cases h
        obtain ⟨a, ha, rfl⟩ := r
        obtain ⟨vs, pl, hz, hr⟩ := F.own l a xs ha hx
        exact ⟨a, vs, rfl, pl.isList, hz, hr⟩
      · cases h
    · cases h
  · split at h
    · cases h; exact r.top
    · cases h
theorem fresh_lst (O : B.Ok) (F : FR B c env S as V K H s) {xs : List PV} {vs : Array Value} {k : Nat} (hz : vs.size ≤ sizeLine) (r : VRs s.heap S as xs vs.toList) :
    VR ({ s with heap := s.heap.push { cls := .type "list", data := .seq vs }, toks := k } : Shared).heap S as (.lst xs) (.ref s.heap.objs.size) :=
  ⟨_, vs, rfl, F.fresh.1, F.fresh.2, ⟨_, Heap.get?_push_size _ rfl, rfl, _, rfl⟩, hz, r.mono fun b o e _ => Heap.get?_push_of_some _ e⟩
theorem list_add {l b : Addr} {xs ys : Array Value} {Q : Value → Shared → Prop} (hl : s.heap.IsList l xs) (hb : s.heap.IsList b ys)
    (h : Q (.ref s.heap.objs.size) { s with heap := s.heap.push { cls := .type "list", data := .seq (xs ++ ys) } }) (hsz : xs.size + ys.size ≤ sizeLine) :
    wpAny (model B.prog B.w) A (binaryOp .Add (.ref l) (.ref b)) Q E s := by
  obtain ⟨⟨cls, dd, data, sl⟩, ho, hc, n, hd⟩ := id hl
  obtain ⟨⟨cls2, dd2, data2, sl2⟩, ho2, hc2, n2, hd2⟩ := id hb
  simp only at hc hd hc2 hd2
  subst hc hd hc2 hd2
  exact concat_meets ⟨_, ho, rfl⟩ ⟨_, ho2, rfl⟩ noFill_list_add seq_list_add PySem.F.slot_list_add PySem.F.entry_list_add (PySem.F.args_list_add_2 _ _) (list_addW l b xs ys n n2 dd dd2 sl sl2 hsz) ⟨ho, ho2, h⟩
theorem mul_len {x : Str} {n : Int} (q1 : x.length = 1) (q2 : 0 ≤ n) (q3 : n ≤ 16777216) : (Txt.mul x n).length ≤ sizeLine := by
  have := len_mul_k1 (n := n) q1
  rw [if_neg (Int.not_lt.mpr q2)] at this
  rw [sizeLine_eq]
  omega
theorem bin_sound (O : B.Ok) (hA : AOk d A) (F : FR B c env S as V K H s) {op : Operator} {x y z : PV} {v u : Value} (e : binP op x y = some z) (r : VRt s.heap S as x v) (r' : VRt s.heap S as y u) :
    wpAny (model B.prog B.w) A (binaryOp op v u) (fun w s' => Kp B s s' ∧ VR s'.heap S as z w) E s := by
  have I := F.inv
  unfold binP at e
  split at e
  · cases e; obtain ⟨t, rfl⟩ := r; obtain ⟨t', rfl⟩ := r'; exact add_int ⟨Kp.inc O I, _, rfl⟩
  · cases e; obtain ⟨t, rfl⟩ := r; obtain ⟨t', rfl⟩ := r'; exact sub_int ⟨Kp.inc O I, _, rfl⟩
  · split at e
    · cases e
    · rename_i hne; cases e; obtain ⟨t, rfl⟩ := r; obtain ⟨t', rfl⟩ := r'; exact mod_int hne ⟨Kp.inc O I, _, rfl⟩
  · split at e
    · rename_i hp; cases e; obtain ⟨t, rfl⟩ := r; obtain ⟨t', rfl⟩ := r'
      exact floordiv_int_or hA.handled (fun h0 => absurd h0 (by omega)) (fun _ => ⟨Kp.inc O I, _, rfl⟩) (fun _ => .inl (PyProof.noPylong_small (by omega)))
    · cases e
  · split at e
    · rename_i hsz; cases e; obtain ⟨t, rfl, h1⟩ := r; obtain ⟨t', rfl, h2⟩ := r'
      exact wpAny_tk I (SB.add (fun t k tk => ⟨Kp.toks O I tk, _, rfl, by rw [Str.length_append]; exact hsz⟩) hsz)
    · cases e
  · split at e
    · rename_i hsz; cases e; obtain ⟨a, vs, rfl, hl, hz, hr⟩ := r; obtain ⟨a', vs', rfl, hl', hz', hr'⟩ := r'
      have l1 : vs.size = _ := (by simp : vs.size = vs.toList.length).trans hr.length
      have l2 : vs'.size = _ := (by simp : vs'.size = vs'.toList.length).trans hr'.length
      exact list_add hl hl' ⟨Kp.push O I, fresh_lst (k := s.toks) O F (by rw [Array.size_append, l1, l2]; exact hsz) (by rw [Array.toList_append]; exact hr.append hr')⟩ (by rw [l1, l2]; exact hsz)
    · cases e
  · split at e
    · rename_i hp
      cases e; obtain ⟨t, rfl, h1⟩ := r; obtain ⟨t', rfl⟩ := r'
      obtain ⟨q1, q2, q3⟩ := hp
      refine wpAny_tk I (SB.mul ⟨by simp only [Bool.or_eq_false_iff, decide_eq_false_iff_not]; omega, fun h1 _ => ?_, fun _ _ => ?_⟩ fun t' k tk => ⟨Kp.toks O I tk, _, rfl, ?_⟩)
      · rw [q1, Int.not_lt]
        exact (Int.le_ediv_iff_mul_le (by omega)).mpr (by omega)
      · rw [q1]; simp only [Builtin.Str.tooLong, decide_eq_false_iff_not, sizeLine_eq]; omega
      · exact mul_len q1 q2 q3
    · cases e
  · cases e
theorem place_some {n : Nat} {i : Int} {k : Nat} (h : place n i = some k) : k < n ∧ ((0 ≤ i ∧ i.toNat = k ∧ i < n) ∨ (i < 0 ∧ -(n : Int) ≤ i ∧ (i + n).toNat = k)) := by
  unfold place at h
  split at h
  · split at h
    · cases h; refine ⟨by omega, .inl ⟨by omega, rfl, by omega⟩⟩
    · cases h
  · split at h
    · cases h; refine ⟨by omega, .inr ⟨by omega, by omega, rfl⟩⟩
    · cases h
theorem seqIndex_place {n : Nat} {i : Int} {k : Nat} (h : place n i = some k) : seqIndex? i n = some k := by
  obtain ⟨hlt, hcase⟩ := place_some h
  unfold seqIndex?
  rcases hcase with ⟨h0, h2, h1⟩ | ⟨h0, h1, h2⟩
  · have : ¬ i < 0 := by omega
    simp only [this, if_false]
    rw [if_pos (by simp only [Bool.and_eq_true, decide_eq_true_eq]; omega), h2]
  · simp only [h0, if_true]
    rw [if_pos (by simp only [Bool.and_eq_true, decide_eq_true_eq]; omega), h2]
theorem item_rule {a : Addr} {vs : Array Value} {i : Int} {t : Tok} {k : Nat} {w : Value} {Q : Value → Shared → Prop} (hl : s.heap.IsList a vs) (hz : vs.size ≤ sizeLine) (hk : place vs.size i = some k) (hw : vs[k]? = some w) (h : Q w s) :
    wpAny (model B.prog B.w) A (getItem (.ref a) (.int i t)) Q E s := by
  have hs := sizeLine_small hz
  obtain ⟨hlt, ⟨h0, rfl, h1⟩ | ⟨h0, h1, rfl⟩⟩ := place_some hk
  · exact wpAny_getItem_list hl h0 (by omega) hw h
  · exact wpAny_getItem_list_neg hl h0 h1 (by omega) hw h
theorem VRs.size {h : Heap} {xs : List PV} {vs : Array Value} (r : VRs h S as xs vs.toList) : vs.size = xs.length := (by simp : vs.size = vs.toList.length).trans r.length
theorem VRs.getA {h : Heap} {xs : List PV} {vs : Array Value} (r : VRs h S as xs vs.toList) {k : Nat} {x : PV} (e : xs[k]? = some x) : ∃ v, vs[k]? = some v ∧ VR h S as x v := by
  obtain ⟨v, hv, q⟩ := r.get e
  exact ⟨v, by rw [← hv, Array.getElem?_toList], q⟩
theorem idx_sound (O : B.Ok) (F : FR B c env S as V K H s) {x k z : PV} {v u : Value} (e : idxP H x k = some z) (r : VR s.heap S as x v) (r' : VR s.heap S as k u) :
    wpAny (model B.prog B.w) A (getItem v u) (fun w s' => Kp B s s' ∧ VR s'.heap S as z w) E s := by
  have I := F.inv
  unfold idxP at e
  split at e
  · split at e
    · rename_i xs hx
      obtain ⟨a, ha, rfl⟩ := r
      obtain ⟨t, rfl⟩ := r'
      obtain ⟨vs, pl, hz, hr⟩ := F.own _ a xs ha hx
      obtain ⟨j, hj, hi⟩ := Option.bind_eq_some_iff.mp e
      obtain ⟨w, hw, q⟩ := hr.getA hi
      exact item_rule pl.isList hz (hr.size ▸ hj) hw ⟨Kp.refl I, q⟩
    · cases e
  · obtain ⟨a, vs, rfl, _, _, hl, hz, hr⟩ := r
    obtain ⟨t, rfl⟩ := r'
    obtain ⟨j, hj, hi⟩ := Option.bind_eq_some_iff.mp e
    obtain ⟨w, hw, q⟩ := hr.getA hi
    exact item_rule hl hz (hr.size ▸ hj) hw ⟨Kp.refl I, q⟩
  · split at e
    · rename_i hp
      cases e
      obtain ⟨t, rfl, hz⟩ := r
      obtain ⟨t', rfl⟩ := r'
      obtain ⟨j, hj⟩ := Option.isSome_iff_exists.mp hp
      have hs := sizeLine_small hz
      obtain ⟨hlt, hcase⟩ := place_some hj
      refine SB.getItem ?_ ?_ ⟨Kp.inc O I, _, rfl, ?_⟩
      · unfold PySem.fitsSsize
        rcases hcase with ⟨h0, _, h1⟩ | ⟨h0, h1, _⟩ <;> (simp only [Bool.not_eq_true', Bool.or_eq_false_iff, decide_eq_false_iff_not]; omega)
      · unfold Txt.charAt
        have := seqIndex_place hj
        rw [this]
        simp only [Option.bind_some]
        rw [Array.getElem?_eq_getElem (by exact hlt)]
        rfl
      · show 1 ≤ sizeLine
        rw [sizeLine_eq]; omega
    · cases e
  · cases e
end
end Mine
namespace Mine
variable {B : BW}
theorem pick_range {α : Type} (xs : List α) : ∀ (m a : Nat), a + m ≤ xs.length → ((List.range m).map (fun k => a + k)).filterMap (xs[·]?) = (xs.take (a + m)).drop a := by
  intro m
  induction m with
  | zero => intro a h; simp
  | succ m ih =>
    intro a h
    rw [List.range_succ_eq_map, List.map_cons, List.map_map, List.filterMap_cons]
    have ha : a < xs.length := by omega
    rw [show a + 0 = a from rfl, List.getElem?_eq_getElem ha]
    have e : ((fun k => a + k) ∘ Nat.succ) = fun k => (a + 1) + k := by funext k; show a + (k + 1) = a + 1 + k; omega
    rw [e, ih (a + 1) (by omega)]
    have : (xs.take (a + (m + 1))).drop a = (xs.take (a + (m + 1)))[a]'(by rw [List.length_take]; omega) :: (xs.take (a + (m + 1))).drop (a + 1) := List.drop_eq_getElem_cons _
    rw [this, List.getElem_take, show a + 1 + m = a + (m + 1) by omega]
theorem clip_bounds (n : Nat) {d : Int} (h0 : 0 ≤ d) (h1 : d ≤ n) (o : Option Int) : 0 ≤ clip n d o ∧ clip n d o ≤ n := by
  unfold clip
  cases o with
  | none => exact ⟨h0, h1⟩
  | some i => dsimp only; omega
theorem sliceRange_is {α : Type} (xs : List α) (a b : Int) (ha : 0 ≤ a) (hb : 0 ≤ b) (hbn : b ≤ xs.length) : (sliceRange a b 1).filterMap (xs[·]?) = (xs.take b.toNat).drop a.toNat := by
  unfold sliceRange
  simp only [show (1 : Int) > 0 by decide, if_true]
  have e : ((List.range (if a < b then (b - a + 1 - 1) / 1 else 0).toNat).map fun k : Nat => (a + 1 * (k : Int)).toNat) = (List.range (b.toNat - a.toNat)).map fun k => a.toNat + k := by
    have : (if a < b then (b - a + 1 - 1) / 1 else 0).toNat = b.toNat - a.toNat := by
      split <;> omega
    rw [this]
    apply List.map_congr_left
    intro k _
    omega
  rw [e]
  by_cases h : a.toNat ≤ b.toNat
  · have := pick_range xs (b.toNat - a.toNat) a.toNat (by omega)
    rw [this, show a.toNat + (b.toNat - a.toNat) = b.toNat by omega]
  · rw [show b.toNat - a.toNat = 0 by omega]
    simp only [List.range_zero, List.map_nil, List.filterMap_nil]
    rw [List.drop_eq_nil_of_le]
    rw [List.length_take]; omega
theorem slicePick_is (items : Array Value) (lo hi : Option Int) : (slicePick items lo hi none).toList = slcL lo hi items.toList := by
  unfold slicePick slcL
  have hc : ∀ (d : Int) (o : Option Int), (match o with
    | none => d
    | some i => max 0 (min (if i < 0 then i + (items.size : Int) else i) (items.size : Int))) = clip items.size d o := by intro d o; cases o <;> rfl
  have e : sliceBounds lo hi none items.size = (clip items.size 0 lo, clip items.size items.size hi, 1) := by
    unfold sliceBounds
    simp only [Option.getD_none, show (1 : Int) > 0 by decide, if_true]
    rw [← hc, ← hc]
    cases lo <;> cases hi <;> rfl
  rw [e]
  have b1 := clip_bounds items.size (d := 0) (by omega) (by omega) lo
  have b2 := clip_bounds items.size (d := items.size) (by omega) (by omega) hi
  have := sliceRange_is items.toList (clip items.size 0 lo) (clip items.size items.size hi) b1.1 b2.1 (by simpa using b2.2)
  simp only [Array.getElem?_toList] at this
  simpa using this
theorem slice_is (x : Str) (lo hi : Option Int) : Txt.slice x lo hi = ⟨(slcL lo hi x.cps.toList).toArray⟩ := by
  have hx : x.length = x.cps.size := rfl
  have e : Builtin.Str.strSliceIndices lo hi 1 x.length = sliceRange (clip x.length 0 lo) (clip x.length x.length hi) 1 := by
    unfold Builtin.Str.strSliceIndices
    simp only [show (1 : Int) > 0 by decide, if_true]
    cases lo <;> cases hi <;> rfl
  have b1 := clip_bounds x.length (d := 0) (by omega) (by omega) lo
  have b2 := clip_bounds x.length (d := x.length) (by omega) (by omega) hi
  have := sliceRange_is x.cps.toList (clip x.length 0 lo) (clip x.length x.length hi) b1.1 b2.1 (by simpa [hx] using b2.2)
  simp only [Array.getElem?_toList] at this
  have full : (slcL lo hi x.cps.toList).length = (Builtin.Str.strSliceIndices lo hi 1 x.length).length := by
    rw [e]
    unfold slcL sliceRange
    simp only [show (1 : Int) > 0 by decide, if_true, List.length_map, List.length_range, List.length_drop, List.length_take, Array.length_toList]
    rw [← hx]
    split <;> omega
  unfold Txt.slice
  split
  · rename_i h
    have hl : (slcL lo hi x.cps.toList).length = x.cps.toList.length := by rw [full, Array.length_toList]; simpa [hx] using h
    have : slcL lo hi x.cps.toList = x.cps.toList := by
      unfold slcL at hl ⊢
      have s1 : ((x.cps.toList.take (clip x.cps.toList.length x.cps.toList.length hi).toNat).drop (clip x.cps.toList.length 0 lo).toNat).Sublist x.cps.toList := (List.drop_sublist _ _).trans (List.take_sublist _ _)
      exact s1.eq_of_length hl
    rw [this]
  · rw [e, this]
    unfold slcL
    simp only [Array.length_toList]
    rfl
theorem slcL_length {α : Type} (lo hi : Option Int) (xs : List α) : (slcL lo hi xs).length ≤ xs.length := by
  unfold slcL
  rw [List.length_drop, List.length_take]; omega
end Mine
namespace Mine
variable {B : BW}
section
variable {c : Cx} {env : Env} {S as : List Addr} {V K : Vs} {H : Hs} {s : Shared} {A : Around} {d : Nat} {E : Value → Shared → Prop}
def Subs (s : Shared) (o : Value) : Prop := ∃ (T id : String), typeLookup (.type T) "__getitem__" = pure (some (.builtin id)) ∧ s.TypeIs o T
theorem sub_rule {value slice : Expr} {pos : Pos} {Q : Value → Shared → Prop}
    (h : wpAny (model B.prog B.w) A (eval value env) (fun o s₁ => wpAny (model B.prog B.w) A (eval slice env) (fun i s₂ => Subs s₂ o ∧ wpAny (model B.prog B.w) A (getItem o i) Q E s₂) E s₁) E s) :
    wpAny (model B.prog B.w) A (eval (.Subscript value slice pos) env) Q E s := by
  rw [eval_Subscript]
  refine wpAny_bind (wpAny_mono h (fun o s₁ h₁ => wpAny_bind (wpAny_holding (wpAny_mono h₁ (fun i s₂ h₂ => wpAny_bind (wpAny_standAt ?_)) fun _ _ x => x)))
    fun _ _ x => x)
  obtain ⟨⟨T, id, hl, hT⟩, hg⟩ := h₂
  refine wpAny_bind ?_
  rw [getitemInPython_of_ne hT.not_modules]
  refine wpAny_bind (wpAny_specialOf hT hl ?_)
  have fin : ∀ l : List Value, wpAny (model B.prog B.w) A (operate l (getItem o i)) (fun r s₃ => wpAny (model B.prog B.w) A (letTemporaryGo value o r >>= fun _ => pure r) Q E s₃) E s₂ :=
    fun l => wpAny_operating (wpAny_mono hg (fun r s₃ h₃ => wpAny_bind (wpAny_letTemporaryGo (wpAny_pure h₃))) fun _ _ x => x)
  refine wpAny_pure (wpAny_bind ?_)
  unfold subscripted
  split
  · exact fin _
  · rename_i hh; cases hh
  · exact fin _
theorem subs_str {x : Str} {t : Tok} : Subs s (.str x t) := ⟨"str", _, F.slot_str_getitem.lookup, typeIs_str _ _ _⟩
theorem subs_list {a : Addr} {vs : Array Value} (h : s.heap.IsList a vs) : Subs s (.ref a) := ⟨"list", _, slot_list_getitem.lookup, h.typeIs⟩
theorem idx_subs (F : FR B c env S as V K H s) {x k z : PV} {v : Value} (e : idxP H x k = some z) (r : VR s.heap S as x v) : Subs s v := by
  unfold idxP at e
  split at e
  · split at e
    · rename_i xs hx
      obtain ⟨a, ha, rfl⟩ := r
      obtain ⟨vs, pl, _⟩ := F.own _ a xs ha hx
      exact subs_list pl.isList
    · cases e
  · obtain ⟨a, vs, rfl, _, _, hl, _⟩ := r; exact subs_list hl
  · obtain ⟨t, rfl, _⟩ := r; exact subs_str
  · cases e
theorem partP_val {h : Heap} {x : PV} {v : Value} {o : Option Int} (e : partP x = some o) (r : VR h S as x v) : ∃ p : Option (Int × Tok), v = partValue p ∧ p.map (·.1) = o ∧ IsPart v o := by
  unfold partP at e
  split at e
  · cases e; exact ⟨none, r, rfl, by rw [show v = _ from r]; exact .none⟩
  · cases e; obtain ⟨t, rfl⟩ := r; exact ⟨some (_, t), rfl, rfl, .int _ _⟩
  · cases e
theorem slc_sound (O : B.Ok) (F : FR B c env S as V K H s) {x l u z : PV} {v vl vu : Value} (e : slcP x l u = some z) (r : VRt s.heap S as x v) (rl : VR s.heap S as l vl) (ru : VR s.heap S as u vu)
    {sl : Addr} (hs : s.heap.IsSliceOf sl vl vu .none) :
    Subs s v ∧ wpAny (model B.prog B.w) A (getItem v (.ref sl)) (fun w s' => Kp B s s' ∧ VR s'.heap S as z w) E s := by
  have I := F.inv
  unfold slcP at e
  split at e
  · rename_i lo hi hlo hhi
    obtain ⟨pl, el, ml, ppl⟩ := partP_val hlo rl
    obtain ⟨pu, eu, mu, ppu⟩ := partP_val hhi ru
    split at e
    · cases e
      obtain ⟨a, vs, rfl, hl, hz, hr⟩ := r
      refine ⟨subs_list hl, wpAny_getItem_list_slice hl hs ppl ppu .none (by nofun) ⟨Kp.push O I, fresh_lst (k := s.toks) O F ?_ ?_⟩ hz⟩
      · rw [← Array.length_toList, slicePick_is]
        exact Nat.le_trans (slcL_length _ _ _) (by rw [Array.length_toList]; exact hz)
      · rw [slicePick_is]
        have hl2 := hr.length
        unfold slcL
        rw [← hl2]
        exact (hr.take _).drop _
    · cases e
      rename_i x
      obtain ⟨t, rfl, hz⟩ := r
      refine ⟨subs_str, ?_⟩
      subst el eu
      have hp : ∀ (t' : Tok) (k : Nat), 1 ≤ k → Kp B s { s with toks := k } ∧ VR s.heap S as (.str ⟨(slcL lo hi x.cps.toList).toArray⟩) (.str (Txt.slice x lo hi) t') := fun t' k tk =>
        ⟨Kp.toks O I tk, t', by rw [slice_is], by show (slcL lo hi x.cps.toList).toArray.size ≤ sizeLine; rw [List.size_toArray]; exact Nat.le_trans (slcL_length _ _ _) (by rw [Array.length_toList]; exact hz)⟩
      refine wpAny_tk I (wpAny_getItem_str_slice (l := pl) (u := pu) (st := none) hs rfl ?_)
      have hle : (Txt.slice x lo hi).length ≤ sizeLine := Nat.le_trans (Txt.slice_le x _ _) hz
      have eT : (if (((none : Option (Int × Tok)).map (·.1)).getD 1 == 1 && (slicePicked x pl pu none).length == x.length) = true then x else (⟨((slicePicked x pl pu none).filterMap (x.cps[·]?)).toArray⟩ : Str)) = Txt.slice x lo hi := by
        unfold Txt.slice slicePicked
        rw [ml, mu]
        rfl
      unfold sliceMade
      exact post_val_or_str ⟨by rw [eT]; exact hle, fun t' k => by rw [eT]; exact fun tk => hp t' k tk⟩
    · cases e
  · cases e
end
end Mine
namespace Mine
variable {B : BW}
section
variable {c : Cx} {env : Env} {S as : List Addr} {V K : Vs} {H : Hs} {s : Shared} {A : Around} {d : Nat} {E : Value → Shared → Prop}
theorem evalArgs_any {f : Value} {args : List (Bool × Sem Value)} {Q : Args → Shared → Prop} (hp : args.any (·.1) = false)
    (h : wpAny (model B.prog B.w) A (spliced args) (fun vs s' => Q ⟨vs, []⟩ s') E s) : wpAny (model B.prog B.w) A (evalArgs f true args []) Q E s := by
  match args, hp with
  | [], _ =>
    unfold evalArgs
    show wpAny (model B.prog B.w) A (spliced [] >>= _) Q E s
    refine wpAny_bind (wpAny_mono h (fun vs s' h' => ?_) fun _ _ x => x)
    refine wpAny_holding ?_
    exact wpAny_bind (wpAny_pure (wpAny_bind (wpAny_pure (wpAny_pure h'))))
  | (false, x) :: rest, _ => exact Calls.evalArgs_plain h
  | (true, x) :: rest, hp => cases hp
theorem callWith_any (O : B.Ok) {pos : Pos} {f : Value} {first : List Value} {args : List (Bool × Sem Value)} {Q : Value → Shared → Prop} (hp : args.any (·.1) = false) (hc : Callable B f)
    (h : wpAny (model B.prog B.w) A (spliced args) (fun vs s₁ => Inv B s₁ ∧ wpAny (model B.prog B.w) A (call f (first ++ vs)) Q E s₁) E s) :
    wpAny (model B.prog B.w) A (callWith pos f first args []) Q E s := by
  rcases hc with ⟨id, rfl⟩ | ⟨T, rfl⟩ | ⟨a, o, fd, rfl, ho, hd⟩
  · exact Calls.callWith_builtin hp (evalArgs_any hp (wpAny_mono h (fun _ _ x => x.2) fun _ _ x => x))
  · exact PySem.callWith_type hp (evalArgs_any hp (wpAny_mono h (fun _ _ x => x.2) fun _ _ x => x))
  · exact Calls.callWith_function (o := o) (fd := fd) (evalArgs_any hp (wpAny_mono h (fun _ _ x => ⟨⟨x.1.base _ _ ho, hd⟩, x.2⟩) fun _ _ x => x))
theorem not_starred {m : ME} {y : Expr} {p : Pos} : isE c m (.Starred y p) = false := by
  cases m <;> simp [isE, cstIs, nameIs, globIs]
theorem starEach_cons {m : ME} {x : Expr} {xs : List Expr} (h : isE c m x = true) : starEach (x :: xs) env = (false, eval x env) :: starEach xs env := by
  cases x with
  | Starred y p => rw [not_starred] at h; cases h
  | _ => rfl
theorem any_starEach : ∀ {es : MEs} {xs : List Expr}, isEs c es xs = true → (starEach xs env).any (·.1) = false
  | .nil, [], _ => rfl
  | .cons m es, x :: xs, h => by
    have h' := Bool.and_eq_true_iff.mp (show (isE c m x && isEs c es xs) = true from h)
    rw [starEach_cons h'.1, List.any_cons, any_starEach h'.2]
    rfl
theorem any_backTo {es : MEs} {xs : List Expr} {pos : Pos} (h : isEs c es xs = true) : (backTo pos (starEach xs env)).any (·.1) = false := by
  unfold backTo
  rw [List.any_map]
  exact any_starEach h
theorem meth_rule {o : Expr} {name : Str} {apos pos : Pos} {args : List Expr} {Q : Value → Shared → Prop} (hs : notSuper o = true) (hp : (apos.endLine == pos.line) = true) (hn : (starEach args env).any (·.1) = false) (hlen : args.length < 30)
    (h : wpAny (model B.prog B.w) A (eval o env) (fun ov s₁ => ∀ pl, wpAny (model B.prog B.w) A (getMethod ov name pl) (fun fx s₂ => wpAny (model B.prog B.w) A (callWith pos fx.1 fx.2 (backTo pos (starEach args env)) []) Q E s₂) E s₁) E s) :
    wpAny (model B.prog B.w) A (eval (.Call (.Attribute o name apos) args [] pos) env) Q E s := by
  have hb : attributeBase o name env (eval o env) = eval o env := by
    unfold attributeBase
    split
    · cases hs
    · rfl
  have hf : ∀ trees : List (Bool × Sem Value), trees.any (·.1) = false → methodCallForm (args.length + ([] : List Keyword).length) trees (backToKw pos (keywordEach [] env)) = true := by
    intro trees ht
    unfold methodCallForm
    have e1 : trees.all (fun x => !x.1) = true := by
      rw [List.all_eq_not_any_not]
      simpa using ht
    rw [e1]
    simp only [backToKw, keywordEach, List.map_nil, List.all_nil, List.isEmpty_nil, if_true, Bool.true_and, List.length_nil, decide_eq_true_eq]
    omega
  have hback : (backTo pos (starEach args env)).any (·.1) = false := by
    unfold backTo
    rw [List.any_map]
    exact hn
  show wpAny (model B.prog B.w) A (do
    let ov ← attributeBase o name env (eval o env)
    standAt apos.atName
    methodCall o name apos pos env ov (args.length + ([] : List Keyword).length) (backTo pos (starEach args env)) (backToKw pos (keywordEach [] env))) Q E s
  rw [hb]
  refine wpAny_bind (wpAny_mono h (fun ov s₁ h₁ => wpAny_bind (wpAny_standAt ?_)) fun _ _ x => x)
  unfold methodCall
  rw [hf _ hback]
  refine wpAny_bind (wpAny_holding ?_)
  unfold calleeOf
  simp only [if_true]
  refine wpAny_mono (h₁ _) (fun fx s₂ h₂ => ?_) fun _ _ x => x
  obtain ⟨f, first⟩ := fx
  dsimp only
  refine wpAny_bind ?_
  unfold methodCallPos
  rw [if_pos (by rw [hp]; rfl)]
  exact wpAny_pure h₂
theorem strs_VRs {h : Heap} : ∀ {l : List (Str × Tok)}, (∀ p ∈ l, p.1.length ≤ sizeLine) → VRs h S as ((l.map (·.1)).map .str) (strValues l)
  | [], _ => rfl
  | (x, t) :: l, hl => ⟨_, _, rfl, ⟨t, rfl, hl _ (.head _)⟩, strs_VRs fun p hp => hl p (.tail _ hp)⟩
theorem split_count {x y : Str} (hy : y.length = 1) : (Txt.split x y).length ≤ x.length + 1 := by
  have := StrLaws.join_split x y
  match h : Txt.split x y with
  | [] => simp
  | a :: l =>
    rw [h] at this
    have e := len_join_cons y a l
    rw [this, hy] at e
    rw [List.length_cons]
    omega
theorem split_rule {x y : Str} {t u : Tok} {Q : Value → Shared → Prop} (hy : y.length = 1) (hx : x.length ≤ 1000000)
    (hq : ∀ l k, l.map (·.1) = Txt.split x y → Q (.ref s.heap.objs.size) { s with heap := s.heap.push { cls := .type "list", data := .seq (strValues l).toArray }, toks := k }) :
    wpAny (model B.prog B.w) A (call (.builtin "str.split") [.str x t, .str y u]) Q E s := by
  have hy' : (y.length == 0) = false := by rw [hy]; rfl
  have hsz : x.length ≤ sizeLine := by rw [sizeLine_eq]; omega
  cases h1 : (decide (x.length < y.length) || decide (Builtin.Str.strKind x < Builtin.Str.strKind y))
  · cases hf : (Builtin.Str.occurrences x y 0 x.length (x.length + 1)).isEmpty
    · have es : Txt.split x y = Builtin.Str.partsBetween x (Builtin.Str.occurrences x y 0 x.length (x.length + 1)) y.length := (if_neg (ne_true_of_eq_false h1)).trans (if_neg (ne_true_of_eq_false hf))
      have hsz2 : (Builtin.Str.partsBetween x (Builtin.Str.occurrences x y 0 x.length (x.length + 1)) y.length).length ≤ sizeLine := by
        rw [← es, sizeLine_eq]; have := split_count (x := x) hy; omega
      refine call_meets F.slot_str_split (typeIs_str _ _ _) F.entry_str_split (F.args_str_split_2 _ _) (meets_str_split_sep x y t u h1 hy' hf hsz hsz2) ?_
      show wants Q E _ { s with toks := _, heap := s.heap.push { cls := .type "list", data := .seq (strsFrom s.toks (Builtin.Str.partsBetween x (Builtin.Str.occurrences x y 0 x.length (x.length + 1)) y.length)).toArray } }
      rw [strsFrom_eq]
      exact hq (numbered s.toks _) _ ((numbered_texts _ _).trans es.symm)
    · exact call_meets F.slot_str_split (typeIs_str _ _ _) F.entry_str_split (F.args_str_split_2 _ _) (meets_str_split_not_found x y t u h1 hy' hf)
        (hq [(x, t)] s.toks ((if_neg (ne_true_of_eq_false h1)).trans (if_pos hf)).symm)
  · exact call_meets F.slot_str_split (typeIs_str _ _ _) F.entry_str_split (F.args_str_split_2 _ _) (meets_str_split_cannot_occur x y t u h1)
      (hq [(x, t)] s.toks (if_pos h1).symm)
def MethS (B : BW) (A : Around) (S as : List Addr) (m : Str) (x : PV) (ys : List PV) (z : PV) (id : String) : Prop :=
  (∀ (h : Heap) v, VR h S as x v → ∀ pl (s' : Shared) (Q : Value × List Value → Shared → Prop) E, Q (.builtin id, [v]) s' → wpAny (model B.prog B.w) A (getMethod v m pl) Q E s') ∧
  ∀ (s : Shared) v us E, Inv B s → s.heap.objs.size ∉ S ∧ s.heap.objs.size ∉ as → VR s.heap S as x v → VRs s.heap S [] ys us →
    wpAny (model B.prog B.w) A (call (.builtin id) (v :: us)) (fun w s' => Kp B s s' ∧ VR s'.heap S as z w) E s
theorem meth_str1 {m : Str} {x y : Str} {z : PV} {id : String} (hg : ∀ t pl (s' : Shared) (Q : Value × List Value → Shared → Prop) E, Q (.builtin id, [.str x t]) s' → wpAny (model B.prog B.w) A (getMethod (.str x t) m pl) Q E s')
    (hc : ∀ (s : Shared) t t' E, Inv B s → s.heap.objs.size ∉ S ∧ s.heap.objs.size ∉ as → x.length ≤ sizeLine → wpAny (model B.prog B.w) A (call (.builtin id) [.str x t, .str y t']) (fun w s' => Kp B s s' ∧ VR s'.heap S as z w) E s) :
    MethS B A S as m (.str x) [.str y] z id := by
  refine ⟨fun h v r => ?_, fun s v us E I hfr r r' => ?_⟩
  · obtain ⟨t, rfl, _⟩ := r
    exact hg t
  · obtain ⟨t, rfl, hz⟩ := r
    obtain ⟨u, w, rfl, ⟨t', rfl, hz'⟩, hw⟩ := r'
    rw [show w = [] from hw]
    exact hc s t t' E I hfr hz
theorem meth_sound (O : B.Ok) {m : Str} {x z : PV} {ys : List PV} (e : methP m x ys = some z) : ∃ id, MethS B A S as m x ys z id := by
  unfold methP at e
  split at e
  · rename_i x y
    split at e
    · rename_i hm; cases e; have hm' := beq_iff_eq.mp hm; subst hm'
      exact ⟨"str.rfind", meth_str1 (fun t pl s' Q E h => GM.rfind h) fun s t t' E I hfr hz => SC.rfind ⟨Kp.inc O I, _, rfl⟩⟩
    split at e
    · rename_i hm; cases e; have hm' := beq_iff_eq.mp hm; subst hm'
      exact ⟨"str.rstrip", meth_str1 (fun t pl s' Q E h => GM.rstrip h) fun s t t' E I hfr hz => wpAny_tk I (SC.rstripChars (fun t' k tk => ⟨Kp.toks O I tk, _, rfl, Nat.le_trans (len_rstripChars x y) hz⟩) hz)⟩
    split at e
    · rename_i hm; cases e; have hm' := beq_iff_eq.mp hm; subst hm'
      exact ⟨"str.startswith", meth_str1 (fun t pl s' Q E h => GM.startswith h) fun s t t' E I hfr hz => SC.startswith ⟨Kp.refl I, rfl⟩⟩
    split at e
    · rename_i hm; cases e; have hm' := beq_iff_eq.mp hm; subst hm'
      exact ⟨"str.endswith", meth_str1 (fun t pl s' Q E h => GM.endswith h) fun s t t' E I hfr hz => SC.endswith ⟨Kp.refl I, rfl⟩⟩
    split at e
    · rename_i hm
      have hm' := beq_iff_eq.mp hm
      subst hm'
      split at e
      · rename_i hp
        cases e
        obtain ⟨h1, h2⟩ := hp
        refine ⟨"str.split", meth_str1 (fun t pl s' Q E h => GM.split h) fun s t t' E I hfr hz => wpAny_tk I (split_rule h1 h2 fun l k hl tk => ⟨Kp.pushT O I tk, _, _, rfl, hfr.1, hfr.2, ⟨_, Heap.get?_push_size _ rfl, rfl, _, rfl⟩, ?_, ?_⟩)⟩
        · have := split_count (x := x) h1
          have e2 : l.length = (Txt.split x y).length := by rw [← hl, List.length_map]
          rw [List.size_toArray, strValues, List.length_map, e2, sizeLine_eq]
          omega
        · rw [← hl]
          refine strs_VRs fun p hp => ?_
          have hmem : p.1 ∈ Txt.split x y := hl ▸ List.mem_map_of_mem hp
          have := join_mem_le y (Txt.split x y) p.1 hmem
          rw [StrLaws.join_split] at this
          exact Nat.le_trans this hz
      · cases e
    · cases e
  · rename_i x ys'
    split at e
    · rename_i hm
      have hm' := beq_iff_eq.mp hm
      subst hm'
      split at e
      · rename_i zs hzs
        split at e
        · rename_i hlen
          cases e
          refine ⟨"str.join", fun h v r => ?_, fun s v us E I hfr r r' => ?_⟩
          · obtain ⟨t, rfl, _⟩ := r
            exact fun pl s' Q E h => GM.join h
          · obtain ⟨t, rfl, hz⟩ := r
            obtain ⟨u, w, rfl, ⟨a, vs, rfl, _, _, hl, hz', hr⟩, hw⟩ := r'
            rw [show w = [] from hw]
            refine wpAny_tk I (join_list hl (strsOf_vals hzs hr) hlen fun t' k tk => ⟨Kp.toks O I tk, t', by rw [show Txt.join x zs = Str.join x zs from StrLaws.glued_eq_join _ _], ?_⟩)
            have := StrLaws.join_length_le x zs
            rw [sizeLine_eq]
            omega
        · cases e
      · cases e
    · cases e
  · cases e
theorem spliced_cons_any {m : ME} {x : Expr} {xs : List Expr} {pos : Pos} {Q : List Value → Shared → Prop} (hm : isE c m x = true)
    (h : wpAny (model B.prog B.w) A (eval x env) (fun v s₁ => wpAny (model B.prog B.w) A (spliced (backTo pos (starEach xs env))) (fun vs s₂ => Q (v :: vs) s₂) E s₁) E s) :
    wpAny (model B.prog B.w) A (spliced (backTo pos (starEach (x :: xs) env))) Q E s := by
  rw [starEach_cons hm]
  exact Calls.spliced_cons h
theorem glob_rule (O : B.Ok) (hE : EnvOk c env) (I : Inv B s) {f : Str} {x : Expr} {v : Value} {Q : Value → Shared → Prop} (hg : globIs c f x = true) (hv : Gv B f = some v) (h : Q v s) :
    wpAny (model B.prog B.w) A (eval x env) Q E s := by
  unfold globIs at hg
  split at hg
  · rename_i g p
    simp only [Bool.and_eq_true] at hg
    obtain ⟨⟨h1, h2⟩, h3⟩ := hg
    have e := beq_iff_eq.mp h1
    subst e
    have hk := hE.gn f (by simpa using h2)
    refine wpAny_Name ?_ (by simpa using h3)
    rw [loadName_read hE.kind hk]
    unfold Gv at hv
    cases q : B.mg f with
    | some u =>
      rw [q] at hv; cases hv
      exact Calls.loadGlobal_global (by rw [hE.glob]; exact I.g O) q h
    | none =>
      rw [q] at hv
      exact Calls.loadGlobal_builtin (by rw [hE.glob]; exact I.g O) q (by rw [hE.bi]; exact I.b O) hv h
  · cases hg
theorem loc_rule (hE : EnvOk c env) (F : FR B c env S as V K H s) {i : Nat} {x : Expr} {pv : PV} {Q : Value → Shared → Prop} (hn : nameIs c.nm i x = true) (hv : (V[i]?).join = some pv)
    (h : ∀ v, VR s.heap S as pv v → Q v s) : wpAny (model B.prog B.w) A (eval x env) Q E s := by
  unfold nameIs at hn
  split at hn
  · rename_i y p
    simp only [Bool.and_eq_true] at hn
    have e := beq_iff_eq.mp hn.1
    obtain ⟨m, hm, hmap⟩ := F.loc
    have hv' : V[i]? = some (some pv) := by
      cases q : V[i]? with
      | none => rw [q] at hv; cases hv
      | some o => rw [q] at hv; rw [show o = some pv from hv]
    obtain ⟨v, hmv, r⟩ := hmap i y pv e hv'
    exact wpAny_Name (wpAny_loadName_local hE.kind (hE.loc i y e) hm hmv (h v r)) (by simpa using hn.2)
  · cases hn
theorem cel_rule (hE : EnvOk c env) (F : FR B c env S as V K H s) {j : Nat} {y : Str} {p : Pos} {pv : PV} {Q : Value → Shared → Prop} (hn : (c.cn[j]? == some y && c.ck.contains y && y != ("__debug__" : Str)) = true) (hv : (K[j]?).join = some pv)
    (h : ∀ v, VR s.heap S as pv v → Q v s) : wpAny (model B.prog B.w) A (eval (.Name y p) env) Q E s := by
  simp only [Bool.and_eq_true] at hn
  obtain ⟨⟨h1, h2⟩, h3⟩ := hn
  have e := beq_iff_eq.mp h1
  have hk : y ∈ c.ck := by simpa using h2
  obtain ⟨a, v, hl, hi, hval⟩ := F.cel j y e hk
  have hv' : K[j]? = some (some pv) := by
    cases q : K[j]? with
    | none => rw [q] at hv; cases hv
    | some o => rw [q] at hv; rw [show o = some pv from hv]
  obtain ⟨u, hu, r⟩ := hval pv hv'
  subst hu
  exact wpAny_Name (wpAny_loadName_cell hE.kind (hE.cel y hk) hl hi (h u r)) (by simpa using h3)
theorem cst_rule (O : B.Ok) (I : Inv B s) {pv : PV} {x : Expr} (hc : cstIs pv x = true) :
    wpAny (model B.prog B.w) A (eval x env) (fun v s' => Kp B s s' ∧ VR s'.heap S as pv v) E s := by
  unfold cstIs at hc
  split at hc
  · simp only [Bool.and_eq_true, decide_eq_true_eq] at hc
    have e := beq_iff_eq.mp hc.1
    subst e
    exact wpAny_mkText ⟨Kp.inc O I, _, rfl, hc.2⟩
  · have e := beq_iff_eq.mp hc
    subst e
    exact wpAny_Constant_int ⟨Kp.inc O I, _, rfl⟩
  · rename_i i j k p q
    have e := beq_iff_eq.mp hc
    subst e
    show wpAny (model B.prog B.w) A (do let v ← eval (.Constant (.int j) k p) env; standAt q; holding [v] (unaryOp .USub v)) _ E s
    refine wpAny_bind (wpAny_Constant_int (wpAny_bind (wpAny_standAt (wpAny_holding (PyProof.Rows.neg_int ⟨Kp.toks O I (by omega), _, rfl⟩)))))
  · have e := beq_iff_eq.mp hc
    subst e
    exact wpAny_pure ⟨Kp.refl I, rfl⟩
  · exact wpAny_pure ⟨Kp.refl I, rfl⟩
  · cases hc
end
end Mine
namespace Mine
variable {B : BW} {Ω : Om} {d : Nat}
def EvOk (B : BW) (Ω : Om) (d : Nat) (m : ME) : Prop :=
  ∀ (c : Cx) (env : Env) (S as : List Addr) (V K : Vs) (H : Hs) (s : Shared) (A : Around) (x : Expr) (pv : PV) (E : Value → Shared → Prop),
    EnvOk c env → AOk d A → FR B c env S as V K H s → isE c m x = true → evalB Ω m false V K H = some pv →
    wpAny (model B.prog B.w) A (eval x env) (fun v s' => Kp B s s' ∧ VR s'.heap S as pv v) E s
def EvsOk (B : BW) (Ω : Om) (d : Nat) (ms : MEs) : Prop :=
  ∀ (c : Cx) (env : Env) (S as : List Addr) (V K : Vs) (H : Hs) (s : Shared) (A : Around) (xs : List Expr) (pos : Pos) (ps : List PV) (E : Value → Shared → Prop),
    EnvOk c env → AOk d A → FR B c env S as V K H s → isEs c ms xs = true → evalsB Ω ms V K H = some ps →
    wpAny (model B.prog B.w) A (spliced (backTo pos (starEach xs env))) (fun vs s' => Kp B s s' ∧ VRs s'.heap S as ps vs) E s
def BoolOk (B : BW) (Ω : Om) (d : Nat) (op : BoolOp) (ms : MEs) : Prop :=
  ∀ (c : Cx) (env : Env) (S as : List Addr) (V K : Vs) (H : Hs) (s : Shared) (A : Around) (xs : List Expr) (pos : Pos) (pv : PV) (E : Value → Shared → Prop),
    EnvOk c env → AOk d A → FR B c env S as V K H s → isEs c ms xs = true → boolB Ω op ms false V K H = some pv →
    wpAny (model B.prog B.w) A (boolOp pos op (evalEach xs env)) (fun v s' => Kp B s s' ∧ VR s'.heap S as pv v) E s
def TestOk (B : BW) (Ω : Om) (d : Nat) (m : ME) : Prop :=
  ∀ (c : Cx) (env : Env) (S as : List Addr) (V K : Vs) (H : Hs) (s : Shared) (A : Around) (x : Expr) (pv : PV) (E : Value → Shared → Prop),
    EnvOk c env → AOk d A → FR B c env S as V K H s → isE c m x = true → evalB Ω m true V K H = some pv →
    wpAny (model B.prog B.w) A (isTrue x env (eval x env)) (fun t s' => Kp B s s' ∧ pv = .bool t) E s
def TestsOk (B : BW) (Ω : Om) (d : Nat) (op : BoolOp) (ms : MEs) : Prop :=
  ∀ (c : Cx) (env : Env) (S as : List Addr) (V K : Vs) (H : Hs) (s : Shared) (A : Around) (xs : List Expr) (pv : PV) (E : Value → Shared → Prop),
    EnvOk c env → AOk d A → FR B c env S as V K H s → isEs c ms xs = true → boolB Ω op ms true V K H = some pv →
    wpAny (model B.prog B.w) A (allTrue op xs env) (fun t s' => Kp B s s' ∧ pv = .bool t) E s
def plainTest : Expr → Bool
  | .UnaryOp .Not _ _ => false
  | .BoolOp .. => false
  | .IfExp .. => false
  | .Compare .. => false
  | _ => true
theorem isTrue_of_plain {x : Expr} (h : plainTest x = true) (env : Env) (whole : Sem Value) : isTrue x env whole = (do let v ← whole; standAt x.pos; holding [v] (truthy v)) := by
  cases x <;> first | rfl | cases h | skip
  rename_i op y p
  cases op <;> first | rfl | cases h
theorem fin_true {H : Hs} {o : Option PV} {pv : PV} (h : fin true H o = some pv) : ∃ v b, o = some v ∧ truthyP H v = some b ∧ pv = .bool b := by
  unfold fin at h
  cases o with
  | none => cases h
  | some v =>
    dsimp only at h
    cases q : truthyP H v with
    | none => rw [q] at h; cases h
    | some b => rw [q] at h; cases h; exact ⟨v, b, rfl, q, rfl⟩
theorem test_of_ev (O : B.Ok) {m : ME} (hm : EvOk B Ω d m) (hf : ∀ V K H, evalB Ω m true V K H = fin true H (evalB Ω m false V K H)) (hp : ∀ c x, isE c m x = true → plainTest x = true) : TestOk B Ω d m := by
  intro c env S as V K H s A x pv E hE hA F hx he
  rw [hf] at he
  obtain ⟨v, b, h1, h2, rfl⟩ := fin_true he
  rw [isTrue_of_plain (hp c x hx)]
  refine wpAny_bind (wpAny_mono (hm c env S as V K H s A x v E hE hA F hx h1) (fun w s₁ h₁ => wpAny_bind (wpAny_standAt (wpAny_holding ?_))) fun _ _ e => e)
  exact wpAny_mono (truthy_sound O (F.kp O h₁.1) h2 h₁.2) (fun t s₂ h₃ => ⟨h₁.1.trans h₃.1, by rw [h₃.2]⟩) fun _ _ e => e
theorem ev_cst (O : B.Ok) (v : PV) : EvOk B Ω d (.cst v) := fun c env S as V K H s A x pv E hE hA F hx he => by
  cases he; exact cst_rule O F.inv hx
theorem ev_loc (i : Nat) : EvOk B Ω d (.loc i) := fun c env S as V K H s A x pv E hE hA F hx he =>
  loc_rule hE F hx he fun v r => ⟨Kp.refl F.inv, r⟩
theorem ev_cel (j : Nat) : EvOk B Ω d (.cel j) := fun c env S as V K H s A x pv E hE hA F hx he => by
  cases x <;> first | cases hx | exact cel_rule hE F hx he fun v r => ⟨Kp.refl F.inv, r⟩
theorem ev_glob (O : B.Ok) (hΩ : OmOk B d Ω) (f : Str) : EvOk B Ω d (.glob f) := fun c env S as V K H s A x pv E hE hA F hx he => by
  obtain ⟨v, rfl, hv⟩ := hΩ.gl f pv he
  exact glob_rule O hE F.inv hx hv ⟨Kp.refl F.inv, rfl⟩
theorem test_cst (O : B.Ok) (v : PV) : TestOk B Ω d (.cst v) := test_of_ev O (ev_cst O v) (fun _ _ _ => rfl) fun c x h => by
  have h : cstIs v x = true := h
  unfold cstIs at h
  split at h <;> first | rfl | cases h
theorem test_loc (O : B.Ok) (i : Nat) : TestOk B Ω d (.loc i) := test_of_ev O (ev_loc i) (fun _ _ _ => rfl) fun c x h => by
  cases x <;> first | rfl | cases h
theorem test_cel (O : B.Ok) (i : Nat) : TestOk B Ω d (.cel i) := test_of_ev O (ev_cel i) (fun _ _ _ => rfl) fun c x h => by
  cases x <;> first | rfl | cases h
theorem test_glob (O : B.Ok) (hΩ : OmOk B d Ω) (i : Str) : TestOk B Ω d (.glob i) := test_of_ev O (ev_glob O hΩ i) (fun _ _ _ => rfl) fun c x h => by
  cases x <;> first | rfl | cases h
theorem both_some {α : Type} {f : PV → PV → Option α} {a b : Option PV} {r : α} (h : both f a b = some r) : ∃ x y, a = some x ∧ b = some y ∧ f x y = some r := by
  cases a <;> cases b <;> first | cases h | exact ⟨_, _, rfl, rfl, h⟩
theorem ev_bin (O : B.Ok) {op : Operator} {a b : ME} (ha : EvOk B Ω d a) (hb : EvOk B Ω d b) : EvOk B Ω d (.bin op a b) := fun c env S as V K H s A x pv E hE hA F hx he => by
  cases x <;> first | cases hx | skip
  rename_i l op' r pos
  have hx : (op == op' && isE c a l && isE c b r) = true := hx
  simp only [Bool.and_eq_true] at hx
  have e := beq_iff_eq.mp hx.1.1
  subst e
  have he : binO H op (evalB Ω a false V K H) (evalB Ω b false V K H) = some pv := he
  unfold binO at he
  split at he
  · rename_i u w h1 h2
    obtain ⟨u', w', f1, f2, f3⟩ := both_some he
    refine wpAny_BinOp (wpAny_mono (ha c env S as V K H s A l u E hE hA F hx.1.2 h1) (fun v s₁ k₁ => ?_) fun _ _ e => e)
    have F₁ := F.kp O k₁.1
    refine wpAny_mono (hb c env S as V K H s₁ A r w E hE hA F₁ hx.2 h2) (fun v' s₂ k₂ => ?_) fun _ _ e => e
    have F₂ := F₁.kp O k₂.1
    have r1 := k₁.2.mono (h' := s₂.heap) fun b o e => k₂.1.get O F₁.inv e
    exact wpAny_mono (bin_sound O hA F₂ f3 (r1.frz1t F₂ f1) (k₂.2.frz1t F₂ f2)) (fun _ s₃ k₃ => ⟨(k₁.1.trans k₂.1).trans k₃.1, k₃.2⟩) fun _ _ e => e
  · cases he
theorem ev_cmp (O : B.Ok) {op : CmpOp} {a b : ME} (ha : EvOk B Ω d a) (hb : EvOk B Ω d b) : EvOk B Ω d (.cmp op a b) := fun c env S as V K H s A x pv E hE hA F hx he => by
  cases x <;> first | cases hx | skip
  rename_i l ops cs pos
  match ops, cs, hx with
  | [op'], [r], hx =>
    have hx : (op == op' && isE c a l && isE c b r && !behindInMarks op r) = true := hx
    simp only [Bool.and_eq_true, Bool.not_eq_true'] at hx
    have e := beq_iff_eq.mp hx.1.1.1
    subst e
    have he : cmpO H op (evalB Ω a false V K H) (evalB Ω b false V K H) = some pv := he
    unfold cmpO at he
    split at he
    · rename_i u w h1 h2
      cases q : cmpP H op u w with
      | none => rw [q] at he; cases he
      | some t =>
        rw [q] at he; cases he
        refine wpAny_Compare1 (wpAny_mono (ha c env S as V K H s A l u E hE hA F hx.1.1.2 h1) (fun v s₁ k₁ => ?_) fun _ _ e => e) hx.2
        have F₁ := F.kp O k₁.1
        refine wpAny_mono (hb c env S as V K H s₁ A r w E hE hA F₁ hx.1.2 h2) (fun v' s₂ k₂ => ?_) fun _ _ e => e
        have F₂ := F₁.kp O k₂.1
        have r1 := k₁.2.mono (h' := s₂.heap) fun b o e => k₂.1.get O F₁.inv e
        exact wpAny_mono (cmp_sound hA F₂ q r1 k₂.2) (fun _ s₃ k₃ => ⟨(k₁.1.trans k₂.1).trans k₃.1, k₃.2⟩) fun _ _ e => e
    · cases he
theorem test_cmp (O : B.Ok) {op : CmpOp} {a b : ME} (ha : EvOk B Ω d a) (hb : EvOk B Ω d b) : TestOk B Ω d (.cmp op a b) := fun c env S as V K H s A x pv E hE hA F hx he => by
  cases x <;> first | cases hx | skip
  rename_i l ops cs pos
  match ops, cs, hx with
  | [op'], [r], hx =>
    have hx : (op == op' && isE c a l && isE c b r && !behindInMarks op r) = true := hx
    simp only [Bool.and_eq_true, Bool.not_eq_true'] at hx
    have e := beq_iff_eq.mp hx.1.1.1
    subst e
    obtain ⟨v, t', he', ht, rfl⟩ := fin_true (H := H) (o := cmpO H op (evalB Ω a false V K H) (evalB Ω b false V K H)) he
    clear he
    have he := he'
    clear he'
    unfold cmpO at he
    split at he
    · rename_i u w h1 h2
      cases q : cmpP H op u w with
      | none => rw [q] at he; cases he
      | some t =>
        rw [q] at he; cases he
        cases ht
        refine wpAny_isTrue_Compare1 (wpAny_mono (ha c env S as V K H s A l u E hE hA F hx.1.1.2 h1) (fun v s₁ k₁ => ?_) fun _ _ e => e) hx.2
        have F₁ := F.kp O k₁.1
        refine wpAny_mono (hb c env S as V K H s₁ A r w E hE hA F₁ hx.1.2 h2) (fun v' s₂ k₂ => ?_) fun _ _ e => e
        have F₂ := F₁.kp O k₂.1
        have r1 := k₁.2.mono (h' := s₂.heap) fun b o e => k₂.1.get O F₁.inv e
        refine wpAny_mono (cmp_sound hA F₂ q r1 k₂.2) (fun z s₃ k₃ => ?_) fun _ _ e => e
        rw [k₃.2]
        exact wpAny_truthy_bool ⟨(k₁.1.trans k₂.1).trans k₃.1, rfl⟩
    · cases he
theorem test_bin (O : B.Ok) {op : Operator} {a b : ME} (ha : EvOk B Ω d a) (hb : EvOk B Ω d b) : TestOk B Ω d (.bin op a b) := test_of_ev O (ev_bin O ha hb) (fun _ _ _ => rfl) fun c x h => by
  cases x <;> first | rfl | cases h
theorem test_not (O : B.Ok) {a : ME} (ha : TestOk B Ω d a) : TestOk B Ω d (.notE a) := fun c env S as V K H s A x pv E hE hA F hx he => by
  cases x <;> first | cases hx | skip
  rename_i op y pos
  cases op <;> first | cases hx | skip
  have hx : isE c a y = true := hx
  have he : (match evalB Ω a true V K H with | some (.bool b) => some (PV.bool !b) | _ => none) = some pv := by
    have : evalB Ω (.notE a) true V K H = some pv := he
    simp only [evalB] at this
    split at this
    · rename_i q; rw [q]; exact this
    · cases this
  split at he
  · rename_i b q
    cases he
    show wpAny (model B.prog B.w) A (do return !(← isTrue y env (eval y env))) _ E s
    exact wpAny_bind (wpAny_mono (ha c env S as V K H s A y _ E hE hA F hx q) (fun t s₁ k => wpAny_pure ⟨k.1, by have := k.2; cases this; rfl⟩) fun _ _ e => e)
  · cases he
end Mine
namespace Mine
variable {B : BW} {Ω : Om} {d : Nat}
theorem FR.vr {c : Cx} {env : Env} {S as : List Addr} {V K : Vs} {H : Hs} {s s' : Shared} (O : B.Ok) (F : FR B c env S as V K H s) (k : Kp B s s') {pv : PV} {v : Value} {S' as' : List Addr} (r : VR s.heap S' as' pv v) : VR s'.heap S' as' pv v :=
  r.mono fun _ _ e => k.get O F.inv e
theorem FR.vrs {c : Cx} {env : Env} {S as : List Addr} {V K : Vs} {H : Hs} {s s' : Shared} (O : B.Ok) (F : FR B c env S as V K H s) (k : Kp B s s') {pv : List PV} {v : List Value} {S' as' : List Addr} (r : VRs s.heap S' as' pv v) : VRs s'.heap S' as' pv v :=
  r.mono fun _ _ e => k.get O F.inv e
theorem evs_nil : EvsOk B Ω d .nil := fun c env S as V K H s A xs pos ps E hE hA F hx he => by
  cases xs with
  | nil => cases he; exact Calls.spliced_nil ⟨Kp.refl F.inv, rfl⟩
  | cons => cases hx
theorem evs_cons (O : B.Ok) {m : ME} {ms : MEs} (hm : EvOk B Ω d m) (hms : EvsOk B Ω d ms) : EvsOk B Ω d (.cons m ms) := fun c env S as V K H s A xs pos ps E hE hA F hx he => by
  cases xs with
  | nil => cases hx
  | cons x xs =>
    have hx : (isE c m x && isEs c ms xs) = true := hx
    simp only [Bool.and_eq_true] at hx
    have he : (match evalB Ω m false V K H, evalsB Ω ms V K H with | some x, some xs => some (x :: xs) | _, _ => none) = some ps := he
    split at he
    · rename_i u us h1 h2
      cases he
      refine spliced_cons_any hx.1 (wpAny_mono (hm c env S as V K H s A x u E hE hA F hx.1 h1) (fun v s₁ k₁ => ?_) fun _ _ e => e)
      have F₁ := F.kp O k₁.1
      exact wpAny_mono (hms c env S as V K H s₁ A xs pos us E hE hA F₁ hx.2 h2) (fun vs s₂ k₂ => ⟨k₁.1.trans k₂.1, _, _, rfl, F₁.vr O k₂.1 k₁.2, k₂.2⟩) fun _ _ e => e
    · cases he
theorem bool_one {op : BoolOp} {m : ME} (hm : EvOk B Ω d m) : BoolOk B Ω d op (.cons m .nil) := fun c env S as V K H s A xs pos pv E hE hA F hx he => by
  cases xs with
  | nil => cases hx
  | cons x xs =>
    have hx : (isE c m x && isEs c .nil xs) = true := hx
    simp only [Bool.and_eq_true] at hx
    cases xs with
    | nil => exact hm c env S as V K H s A x pv E hE hA F hx.1 he
    | cons => cases hx.2
theorem bool_more (O : B.Ok) {op : BoolOp} {m m' : ME} {ms : MEs} (hm : EvOk B Ω d m) (hms : BoolOk B Ω d op (.cons m' ms)) : BoolOk B Ω d op (.cons m (.cons m' ms)) := fun c env S as V K H s A xs pos pv E hE hA F hx he => by
  cases xs with
  | nil => cases hx
  | cons x xs =>
    have hx : (isE c m x && isEs c (.cons m' ms) xs) = true := hx
    simp only [Bool.and_eq_true] at hx
    cases xs with
    | nil => cases hx.2
    | cons y ys =>
      have he : (match evalB Ω m false V K H with
        | some x => (match truthyP H x with
          | some t => if t == (op == .Or) then some x else boolB Ω op (.cons m' ms) false V K H
          | none => none)
        | none => none) = some pv := he
      split at he
      · rename_i u h1
        split at he
        · rename_i t h2
          show wpAny (model B.prog B.w) A (do
            let v ← eval x env
            standAt pos
            let t ← holding [v] (truthy v)
            match op, t with
            | .And, false | .Or, true => pure v
            | _, _ => boolOp pos op (evalEach (y :: ys) env)) _ E s
          refine wpAny_bind (wpAny_mono (hm c env S as V K H s A x u E hE hA F hx.1 h1) (fun v s₁ k₁ => ?_) fun _ _ e => e)
          have F₁ := F.kp O k₁.1
          refine wpAny_bind (wpAny_standAt (wpAny_bind (wpAny_holding (wpAny_mono (truthy_sound O F₁ h2 k₁.2) (fun b s₂ k₂ => ?_) fun _ _ e => e))))
          obtain ⟨k₂, rfl⟩ := k₂
          have F₂ := F₁.kp O k₂
          have stop : pv = u → wpAny (model B.prog B.w) A (pure v) (fun v s' => Kp B s s' ∧ VR s'.heap S as pv v) E s₂ := fun e => by
            subst e; exact wpAny_pure ⟨k₁.1.trans k₂, F₁.vr O k₂ k₁.2⟩
          have go : boolB Ω op (.cons m' ms) false V K H = some pv → wpAny (model B.prog B.w) A (boolOp pos op (evalEach (y :: ys) env)) (fun v s' => Kp B s s' ∧ VR s'.heap S as pv v) E s₂ := fun e =>
            wpAny_mono (hms c env S as V K H s₂ A (y :: ys) pos pv E hE hA F₂ hx.2 e) (fun w s₃ k₃ => ⟨(k₁.1.trans k₂).trans k₃.1, k₃.2⟩) fun _ _ e => e
          cases op <;> cases b <;> first
            | exact go (by simpa using he)
            | exact stop (by simpa using he.symm)
        · cases he
      · cases he
theorem tests_one {op : BoolOp} {m : ME} (hm : TestOk B Ω d m) : TestsOk B Ω d op (.cons m .nil) := fun c env S as V K H s A xs pv E hE hA F hx he => by
  cases xs with
  | nil => cases hx
  | cons x xs =>
    have hx : (isE c m x && isEs c .nil xs) = true := hx
    simp only [Bool.and_eq_true] at hx
    cases xs with
    | nil =>
      show wpAny (model B.prog B.w) A (do
        match op, ← isTrue x env (eval x env) with
        | .And, false => pure false
        | .Or, true => pure true
        | _, _ => allTrue op [] env) _ E s
      refine wpAny_bind (wpAny_mono (hm c env S as V K H s A x pv E hE hA F hx.1 he) (fun b s₁ k₁ => ?_) fun _ _ e => e)
      obtain ⟨k₁, rfl⟩ := k₁
      cases op <;> cases b <;> exact wpAny_pure ⟨k₁, rfl⟩
    | cons => cases hx.2
theorem tests_more (O : B.Ok) {op : BoolOp} {m m' : ME} {ms : MEs} (hm : TestOk B Ω d m) (hms : TestsOk B Ω d op (.cons m' ms)) : TestsOk B Ω d op (.cons m (.cons m' ms)) := fun c env S as V K H s A xs pv E hE hA F hx he => by
  cases xs with
  | nil => cases hx
  | cons x xs =>
    have hx : (isE c m x && isEs c (.cons m' ms) xs) = true := hx
    simp only [Bool.and_eq_true] at hx
    have he : (match evalB Ω m true V K H with
      | some x => (match truthyP H x with
        | some t => if t == (op == .Or) then some x else boolB Ω op (.cons m' ms) true V K H
        | none => none)
      | none => none) = some pv := he
    split at he
    · rename_i u h1
      show wpAny (model B.prog B.w) A (do
        match op, ← isTrue x env (eval x env) with
        | .And, false => pure false
        | .Or, true => pure true
        | _, _ => allTrue op xs env) _ E s
      refine wpAny_bind (wpAny_mono (hm c env S as V K H s A x u E hE hA F hx.1 h1) (fun b s₁ k₁ => ?_) fun _ _ e => e)
      obtain ⟨k₁, rfl⟩ := k₁
      have he : (if b == (op == .Or) then some (PV.bool b) else boolB Ω op (.cons m' ms) true V K H) = some pv := he
      have go : boolB Ω op (.cons m' ms) true V K H = some pv → wpAny (model B.prog B.w) A (allTrue op xs env) (fun t s' => Kp B s s' ∧ pv = .bool t) E s₁ := fun e =>
        wpAny_mono (hms c env S as V K H s₁ A xs pv E hE hA (F.kp O k₁) hx.2 e) (fun w s₃ k₃ => ⟨k₁.trans k₃.1, k₃.2⟩) fun _ _ e => e
      cases op <;> cases b <;> first
        | exact go (by simpa using he)
        | exact wpAny_pure ⟨k₁, by simpa using he.symm⟩
    · cases he
theorem ev_bool {op : BoolOp} {ms : MEs} (h : BoolOk B Ω d op ms) : EvOk B Ω d (.boolE op ms) := fun c env S as V K H s A x pv E hE hA F hx he => by
  cases x <;> first | cases hx | skip
  rename_i op' xs pos
  have hx : (op == op' && isEs c ms xs) = true := hx
  simp only [Bool.and_eq_true] at hx
  have e := beq_iff_eq.mp hx.1
  subst e
  exact h c env S as V K H s A xs pos pv E hE hA F hx.2 he
theorem test_bool {op : BoolOp} {ms : MEs} (h : TestsOk B Ω d op ms) : TestOk B Ω d (.boolE op ms) := fun c env S as V K H s A x pv E hE hA F hx he => by
  cases x <;> first | cases hx | skip
  rename_i op' xs pos
  have hx : (op == op' && isEs c ms xs) = true := hx
  simp only [Bool.and_eq_true] at hx
  have e := beq_iff_eq.mp hx.1
  subst e
  exact h c env S as V K H s A xs pv E hE hA F hx.2 he
theorem ite_cases {t : Option PV} {a b : Option PV} {pv : PV} (h : (match t with | some (.bool true) => a | some (.bool false) => b | _ => none) = some pv) :
    ∃ k : Bool, t = some (.bool k) ∧ (if k then a else b) = some pv := by
  split at h
  · exact ⟨true, rfl, h⟩
  · exact ⟨false, rfl, h⟩
  · cases h
theorem ev_ite (O : B.Ok) {t a b : ME} (ht : TestOk B Ω d t) (ha : EvOk B Ω d a) (hb : EvOk B Ω d b) : EvOk B Ω d (.ite t a b) := fun c env S as V K H s A x pv E hE hA F hx he => by
  cases x <;> first | cases hx | skip
  rename_i t' a' b' pos
  have hx : (isE c t t' && isE c a a' && isE c b b') = true := hx
  simp only [Bool.and_eq_true] at hx
  obtain ⟨k, h1, h2⟩ := ite_cases (t := evalB Ω t true V K H) (a := evalB Ω a false V K H) (b := evalB Ω b false V K H) he
  show wpAny (model B.prog B.w) A (do if ← isTrue t' env (eval t' env) then eval a' env else eval b' env) _ E s
  refine wpAny_bind (wpAny_mono (ht c env S as V K H s A t' _ E hE hA F hx.1.1 h1) (fun z s₁ k₁ => ?_) fun _ _ e => e)
  obtain ⟨k₁, e⟩ := k₁
  cases e
  have F₁ := F.kp O k₁
  cases k with
  | true => exact wpAny_mono (ha c env S as V K H s₁ A a' pv E hE hA F₁ hx.1.2 (by simpa using h2)) (fun w s₂ k₂ => ⟨k₁.trans k₂.1, k₂.2⟩) fun _ _ e => e
  | false => exact wpAny_mono (hb c env S as V K H s₁ A b' pv E hE hA F₁ hx.2 (by simpa using h2)) (fun w s₂ k₂ => ⟨k₁.trans k₂.1, k₂.2⟩) fun _ _ e => e
theorem test_ite (O : B.Ok) {t a b : ME} (ht : TestOk B Ω d t) (ha : TestOk B Ω d a) (hb : TestOk B Ω d b) : TestOk B Ω d (.ite t a b) := fun c env S as V K H s A x pv E hE hA F hx he => by
  cases x <;> first | cases hx | skip
  rename_i t' a' b' pos
  have hx : (isE c t t' && isE c a a' && isE c b b') = true := hx
  simp only [Bool.and_eq_true] at hx
  obtain ⟨k, h1, h2⟩ := ite_cases (t := evalB Ω t true V K H) (a := evalB Ω a true V K H) (b := evalB Ω b true V K H) he
  show wpAny (model B.prog B.w) A (do if ← isTrue t' env (eval t' env) then isTrue a' env (eval a' env) else isTrue b' env (eval b' env)) _ E s
  refine wpAny_bind (wpAny_mono (ht c env S as V K H s A t' _ E hE hA F hx.1.1 h1) (fun z s₁ k₁ => ?_) fun _ _ e => e)
  obtain ⟨k₁, e⟩ := k₁
  cases e
  have F₁ := F.kp O k₁
  cases k with
  | true => exact wpAny_mono (ha c env S as V K H s₁ A a' pv E hE hA F₁ hx.1.2 (by simpa using h2)) (fun w s₂ k₂ => ⟨k₁.trans k₂.1, k₂.2⟩) fun _ _ e => e
  | false => exact wpAny_mono (hb c env S as V K H s₁ A b' pv E hE hA F₁ hx.2 (by simpa using h2)) (fun w s₂ k₂ => ⟨k₁.trans k₂.1, k₂.2⟩) fun _ _ e => e
end Mine
namespace Mine
variable {B : BW} {Ω : Om} {d : Nat}
theorem cmpO_some {H : Hs} {op : CmpOp} {a b : Option PV} {r : PV} (h : cmpO H op a b = some r) : ∃ x y k, a = some x ∧ b = some y ∧ cmpP H op x y = some k ∧ r = .bool k := by
  unfold cmpO at h
  split at h
  · rename_i x y
    cases q : cmpP H op x y with
    | none => rw [q] at h; cases h
    | some k => rw [q] at h; cases h; exact ⟨_, _, _, rfl, rfl, q, rfl⟩
  · cases h
theorem test_cmp2 (O : B.Ok) {op₁ op₂ : CmpOp} {a b m : ME} (ha : EvOk B Ω d a) (hb : EvOk B Ω d b) (hm : EvOk B Ω d m) : TestOk B Ω d (.cmp2 op₁ op₂ a b m) := fun c env S as V K H s A x pv E hE hA F hx he => by
  cases x <;> first | cases hx | skip
  rename_i l ops cs pos
  match ops, cs, hx with
  | [p₁, p₂], [r₁, r₂], hx =>
    have hx : (op₁ == p₁ && op₂ == p₂ && isE c a l && isE c b r₁ && isE c m r₂ && !behindInMarks op₂ r₂) = true := hx
    simp only [Bool.and_eq_true, Bool.not_eq_true'] at hx
    obtain ⟨⟨⟨⟨⟨e1, e2⟩, xa⟩, xb⟩, xm⟩, hmark⟩ := hx
    have e1 := beq_iff_eq.mp e1
    have e2 := beq_iff_eq.mp e2
    subst e1 e2
    obtain ⟨k, h1, h2⟩ := ite_cases (t := cmpO H op₁ (evalB Ω a false V K H) (evalB Ω b false V K H)) (a := cmpO H op₂ (evalB Ω b false V K H) (evalB Ω m false V K H)) (b := some (.bool false)) he
    obtain ⟨u, w, k', q1, q2, q3, e⟩ := cmpO_some h1
    cases e
    show wpAny (model B.prog B.w) A (do testChain pos (← eval l env) [op₁, op₂] (eval r₁ env :: [markedBehindIn op₂ r₂ (eval r₂ env)])) _ E s
    rw [markedBehindIn_of_false hmark]
    refine wpAny_bind (wpAny_mono (ha c env S as V K H s A l u E hE hA F xa q1) (fun v s₁ k₁ => ?_) fun _ _ e => e)
    have F₁ := F.kp O k₁.1
    show wpAny (model B.prog B.w) A (do
      let rv ← holding [v] (eval r₁ env)
      standAt pos
      let z ← holding [v, rv] (compareOp op₁ v rv)
      release [v, rv] [z]
      if ← holding [z, rv] (truthy z) then testChain pos rv [op₂] [eval r₂ env] else pure false) _ E s₁
    refine wpAny_bind (wpAny_holding (wpAny_mono (hb c env S as V K H s₁ A r₁ w E hE hA F₁ xb q2) (fun v' s₂ k₂ => ?_) fun _ _ e => e))
    have F₂ := F₁.kp O k₂.1
    refine wpAny_bind (wpAny_standAt (wpAny_bind (wpAny_holding (wpAny_mono (cmp_sound hA F₂ q3 (F₁.vr O k₂.1 k₁.2) k₂.2) (fun z s₃ k₃ => ?_) fun _ _ e => e))))
    obtain ⟨k₃, rfl⟩ := k₃
    have F₃ := F₂.kp O k₃
    refine wpAny_bind (wpAny_release (wpAny_bind (wpAny_holding (wpAny_truthy_bool ?_))))
    cases k with
    | false => cases h2; exact wpAny_pure ⟨(k₁.1.trans k₂.1).trans k₃, rfl⟩
    | true =>
      obtain ⟨u', w', t, g1, g2, g3, rfl⟩ := cmpO_some (show cmpO H op₂ (evalB Ω b false V K H) (evalB Ω m false V K H) = some pv from h2)
      rw [q2] at g1
      cases g1
      show wpAny (model B.prog B.w) A (do
        let rv ← holding [v'] (eval r₂ env)
        standAt pos
        let z ← operate [v', rv] (compareOp op₂ v' rv)
        holding [z] (truthy z)) _ E s₃
      refine wpAny_bind (wpAny_holding (wpAny_mono (hm c env S as V K H s₃ A r₂ w' E hE hA F₃ xm g2) (fun v₂ s₄ k₄ => ?_) fun _ _ e => e))
      have F₄ := F₃.kp O k₄.1
      refine wpAny_bind (wpAny_standAt (wpAny_bind (wpAny_operating (wpAny_mono (cmp_sound hA F₄ g3 (F₃.vr O k₄.1 (F₂.vr O k₃ k₂.2)) k₄.2) (fun z s₅ k₅ => ?_) fun _ _ e => e))))
      obtain ⟨k₅, rfl⟩ := k₅
      exact wpAny_holding (wpAny_truthy_bool ⟨(((k₁.1.trans k₂.1).trans k₃).trans k₄.1).trans k₅, rfl⟩)
theorem ev_lst (O : B.Ok) {ms : MEs} (h : EvsOk B Ω d ms) : EvOk B Ω d (.lst ms) := fun c env S as V K H s A x pv E hE hA F hx he => by
  cases x <;> first | cases hx | skip
  rename_i xs pos
  have hx : isEs c ms xs = true := hx
  have he : lstO (evalsB Ω ms V K H) = some pv := he
  cases q : evalsB Ω ms V K H with
  | none => rw [q] at he; cases he
  | some ps =>
    rw [q] at he
    have he : (if cleans ps && decide (ps.length ≤ sizeLine) then some (PV.lst ps) else none) = some pv := he
    split at he
    · rename_i hc
      simp only [Bool.and_eq_true, decide_eq_true_eq] at hc
      cases he
      refine List_ (wpAny_mono (h c env S as V K H s A xs pos ps E hE hA F hx q) (fun vs s₁ k₁ => ?_) fun _ _ e => e)
      have F₁ := F.kp O k₁.1
      have hl := k₁.2.length
      exact wpAny_newList ⟨k₁.1.trans (Kp.push O k₁.1.inv), fresh_lst (k := s₁.toks) O F₁ (by rw [List.size_toArray, hl]; exact hc.2) k₁.2⟩ (by rw [hl]; exact hc.2)
    · cases he
theorem ev_tup (O : B.Ok) {ms : MEs} (h : EvsOk B Ω d ms) : EvOk B Ω d (.tup ms) := fun c env S as V K H s A x pv E hE hA F hx he => by
  cases x <;> first | cases hx | skip
  rename_i xs k pos
  have hx : isEs c ms xs = true := hx
  have he : tupO (evalsB Ω ms V K H) = some pv := he
  cases q : evalsB Ω ms V K H with
  | none => rw [q] at he; cases he
  | some ps =>
    rw [q] at he
    have he : (if cleans ps && decide (ps.length ≤ sizeLine) then some (PV.tup ps) else none) = some pv := he
    split at he
    · rename_i hc
      simp only [Bool.and_eq_true, decide_eq_true_eq] at hc
      cases he
      refine Tuple_ (wpAny_mono (h c env S as V K H s A xs pos ps E hE hA F hx q) (fun vs s₁ k₁ => ?_) fun _ _ e => e)
      have F₁ := F.kp O k₁.1
      have hl := k₁.2.length
      exact wpAny_newTuple ⟨k₁.1.trans (Kp.push O k₁.1.inv), _, _, rfl, F₁.fresh.1, F₁.fresh.2, ⟨_, Heap.get?_push_size _ rfl, rfl, _, rfl⟩, by rw [List.size_toArray, hl]; exact hc.2, F₁.vrs O (Kp.push O k₁.1.inv) k₁.2⟩ (by rw [hl]; exact hc.2)
    · cases he
theorem call_fn (O : B.Ok) (hΩ : OmOk B d Ω) {c : Cx} {env : Env} {S as : List Addr} {V K : Vs} {H : Hs} {s : Shared} {A : Around} {f : Value} {F' : List PV → Option PV} {xs ys : List PV} {r : PV} {vs : List Value} {E : Value → Shared → Prop}
    (hA : AOk d A) (F : FR B c env S as V K H s) (hf : FnSpec B d f F') (hxs : frzs H xs = some ys) (hr : F' ys = some r) (rv : VRs s.heap S as xs vs) :
    wpAny (model B.prog B.w) A (call f vs) (fun v s' => Kp B s s' ∧ ∃ S', VR s'.heap S' [] r v ∧ (xs.any isLoc = false → S' = S ++ as)) E s := by
  cases hl : xs.any isLoc with
  | true =>
    exact wpAny_mono (hf A s S ys vs r E hA F.inv F.held (rv.frzs F hxs) hr) (fun v s' ⟨k, h⟩ => ⟨k, _, h, fun e => by cases e⟩) fun _ _ e => e
  | false =>
    obtain ⟨rfl, hc⟩ := frzs_noLoc hl hxs
    have held : Held (S ++ as) s.heap := fun a ha => (List.mem_append.mp ha).elim (F.held a) (F.heldAs a)
    have rv' : VRs s.heap (S ++ as) [] ys vs := VRs.clean (fun a h1 h2 => ⟨fun hm => (List.mem_append.mp hm).elim h1 h2, by simp⟩) hc rv
    exact wpAny_mono (hf A s (S ++ as) ys vs r E hA F.inv held rv' hr) (fun v s' ⟨k, h⟩ => ⟨k, _, h, fun _ => rfl⟩) fun _ _ e => e
theorem any_flat_or {r : PV} {xs : List PV} {h : Heap} {S S' as : List Addr} {v : Value} (hc : clean r = true) (hf : (flat r || !xs.any isLoc) = true) (hr : VR h S' [] r v) (hS : xs.any isLoc = false → S' = S ++ as) : VR h S as r v := by
  rcases Bool.or_eq_true_iff.mp hf with q | q
  · exact hr.flat q
  · have := hS (by simpa using q)
    subst this
    exact hr.clean (fun a h1 _ => ⟨fun hm => h1 (List.mem_append_left _ hm), fun hm => h1 (List.mem_append_right _ hm)⟩) hc
theorem glob_callee (O : B.Ok) {c : Cx} {env : Env} {f : Str} {g : Expr} {xs : List Expr} {pos : Pos} {ms : MEs} {s : Shared} {A : Around} {v : Value} {Q : Value → Shared → Prop} {E : Value → Shared → Prop}
    (hE : EnvOk c env) (I : Inv B s) (hg : globIs c f g = true) (hv : Gv B f = some v) (hcal : Callable B v) (hxs : isEs c ms xs = true)
    (h : wpAny (model B.prog B.w) A (spliced (backTo pos (starEach xs env))) (fun vs s₁ => Inv B s₁ ∧ wpAny (model B.prog B.w) A (call v vs) Q E s₁) E s) :
    wpAny (model B.prog B.w) A (eval (.Call g xs [] pos) env) Q E s := by
  have hn : ∃ y p, g = .Name y p := by
    unfold globIs at hg
    split at hg
    · exact ⟨_, _, rfl⟩
    · cases hg
  obtain ⟨y, p, rfl⟩ := hn
  refine Call_ (glob_rule O hE I hg hv (callWith_any O (any_backTo hxs) hcal ?_))
  simpa using h
theorem ev_call (O : B.Ok) (hΩ : OmOk B d Ω) {f : Str} {ms : MEs} (h : EvsOk B Ω d ms) : EvOk B Ω d (.call f ms) := fun c env S as V K H s A x pv E hE hA F hx he => by
  cases x <;> first | cases hx | skip
  rename_i g xs ks pos
  match ks, hx with
  | [], hx =>
    have hx : (globIs c f g && isEs c ms xs) = true := hx
    simp only [Bool.and_eq_true] at hx
    have he : callO H (Ω.fn f) (evalsB Ω ms V K H) = some pv := he
    unfold callO at he
    split at he
    · rename_i F' ps hf hps
      split at he
      · rename_i ys hys
        split at he
        · rename_i r hr
          split at he
          · rename_i hc
            simp only [Bool.and_eq_true] at hc
            cases he
            obtain ⟨v, hv, hcal, hspec⟩ := hΩ.fn f F' hf
            refine glob_callee O hE F.inv hx.1 hv hcal hx.2 (wpAny_mono (h c env S as V K H s A xs pos ps E hE hA F hx.2 hps) (fun vs s₁ k₁ => ⟨k₁.1.inv, ?_⟩) fun _ _ e => e)
            have F₁ := F.kp O k₁.1
            refine wpAny_mono (call_fn O hΩ hA F₁ hspec hys hr k₁.2) (fun w s₂ k₂ => ?_) fun _ _ e => e
            obtain ⟨k₂, S', hr', hS⟩ := k₂
            exact ⟨k₁.1.trans k₂, any_flat_or hc.1 hc.2 hr' hS⟩
          · cases he
        · cases he
      · cases he
    · cases he
theorem ev_meth (O : B.Ok) {m : Str} {o : ME} {ms : MEs} (ho : EvOk B Ω d o) (h : EvsOk B Ω d ms) : EvOk B Ω d (.meth m o ms) := fun c env S as V K H s A x pv E hE hA F hx he => by
  cases x <;> first | cases hx | skip
  rename_i g xs ks pos
  cases g <;> first | cases hx | skip
  rename_i y m' ap
  match ks, hx with
  | [], hx =>
    have hx : (m == m' && isE c o y && isEs c ms xs && notSuper y && ap.endLine == pos.line && decide (xs.length < 30)) = true := hx
    simp only [Bool.and_eq_true, decide_eq_true_eq] at hx
    obtain ⟨⟨⟨⟨⟨e1, xo⟩, xs'⟩, ns⟩, ep⟩, hlen⟩ := hx
    have e1 := beq_iff_eq.mp e1
    subst e1
    have he : methO H m (evalB Ω o false V K H) (evalsB Ω ms V K H) = some pv := he
    unfold methO at he
    split at he
    · rename_i u ps hu hps
      split at he
      · rename_i zs hzs
        refine meth_rule ns ep (any_starEach xs') hlen (wpAny_mono (ho c env S as V K H s A y u E hE hA F xo hu) (fun v s₁ k₁ => ?_) fun _ _ e => e)
        intro pl
        have F₁ := F.kp O k₁.1
        obtain ⟨id, hg, hcall⟩ := meth_sound (A := A) (S := S) (as := as) O he
        refine hg _ v k₁.2 pl s₁ _ _ ?_
        refine callWith_any O (any_backTo xs') (.inl ⟨id, rfl⟩) (wpAny_mono (h c env S as V K H s₁ A xs pos ps E hE hA F₁ xs' hps) (fun us s₂ k₂ => ⟨k₂.1.inv, ?_⟩) fun _ _ e => e)
        have F₂ := F₁.kp O k₂.1
        exact wpAny_mono (hcall s₂ v us E F₂.inv F₂.fresh (F₁.vr O k₂.1 k₁.2) (k₂.2.frzs F₂ hzs)) (fun w s₃ k₃ => ⟨(k₁.1.trans k₂.1).trans k₃.1, k₃.2⟩) fun _ _ e => e
      · cases he
    · cases he
end Mine
namespace Mine
variable {B : BW} {Ω : Om} {d : Nat}
theorem ev_idx (O : B.Ok) {a i : ME} (ha : EvOk B Ω d a) (hi : EvOk B Ω d i) : EvOk B Ω d (.idx a i) := fun c env S as V K H s A x pv E hE hA F hx he => by
  cases x <;> first | cases hx | skip
  rename_i l k pos
  have hx : (isE c a l && isE c i k) = true := hx
  simp only [Bool.and_eq_true] at hx
  have he : idxO H (evalB Ω a false V K H) (evalB Ω i false V K H) = some pv := he
  unfold idxO at he
  split at he
  · rename_i u w h1 h2
    refine sub_rule (wpAny_mono (ha c env S as V K H s A l u E hE hA F hx.1 h1) (fun v s₁ k₁ => ?_) fun _ _ e => e)
    have F₁ := F.kp O k₁.1
    refine wpAny_mono (hi c env S as V K H s₁ A k w E hE hA F₁ hx.2 h2) (fun v' s₂ k₂ => ?_) fun _ _ e => e
    have F₂ := F₁.kp O k₂.1
    have r1 := F₁.vr O k₂.1 k₁.2
    exact ⟨idx_subs F₂ he r1, wpAny_mono (idx_sound O F₂ he r1 k₂.2) (fun _ s₃ k₃ => ⟨(k₁.1.trans k₂.1).trans k₃.1, k₃.2⟩) fun _ _ e => e⟩
  · cases he
theorem part_rule (O : B.Ok) {m : ME} (hm : EvOk B Ω d m) {c : Cx} {env : Env} {S as : List Addr} {V K : Vs} {H : Hs} {s : Shared} {A : Around} {o : Option Expr} {pv : PV} {E : Value → Shared → Prop}
    (hE : EnvOk c env) (hA : AOk d A) (F : FR B c env S as V K H s) (hx : optB o (isNoneC m) (fun y => isE c m y) = true) (he : evalB Ω m false V K H = some pv) :
    wpAny (model B.prog B.w) A (evalPart o env) (fun v s' => Kp B s s' ∧ VR s'.heap S as pv v) E s := by
  cases o with
  | none =>
    have hx : isNoneC m = true := hx
    unfold isNoneC at hx
    split at hx
    · cases he; exact wpAny_pure ⟨Kp.refl F.inv, rfl⟩
    · cases hx
  | some l => exact hm c env S as V K H s A l pv E hE hA F hx he
theorem ev_slc (O : B.Ok) {a lo hi : ME} (ha : EvOk B Ω d a) (hlo : EvOk B Ω d lo) (hhi : EvOk B Ω d hi) : EvOk B Ω d (.slc a lo hi) := fun c env S as V K H s A x pv E hE hA F hx he => by
  cases x <;> first | cases hx | skip
  rename_i y k pos
  cases k <;> first | cases hx | skip
  rename_i l u st p
  cases st with
  | some _ => cases hx
  | none =>
    have hx : (isE c a y && optB l (isNoneC lo) (fun y => isE c lo y) && optB u (isNoneC hi) (fun y => isE c hi y)) = true := hx
    simp only [Bool.and_eq_true] at hx
    have he : slcO H (evalB Ω a false V K H) (evalB Ω lo false V K H) (evalB Ω hi false V K H) = some pv := he
    unfold slcO at he
    split at he
    · rename_i w wl wu h1 h2 h3
      split at he
      · rename_i z hz
        refine sub_rule (wpAny_mono (ha c env S as V K H s A y w E hE hA F hx.1.1 h1) (fun v s₁ k₁ => ?_) fun _ _ e => e)
        have F₁ := F.kp O k₁.1
        refine wpAny_Slice (wpAny_mono (part_rule O hlo hE hA F₁ hx.1.2 h2) (fun vl s₂ k₂ => ?_) fun _ _ e => e)
        have F₂ := F₁.kp O k₂.1
        refine wpAny_mono (part_rule O hhi hE hA F₂ hx.2 h3) (fun vu s₃ k₃ => ?_) fun _ _ e => e
        have F₃ := F₂.kp O k₃.1
        rw [evalPart_none]
        refine wpAny_pure ?_
        have kp : Kp B s₃ { s₃ with heap := s₃.heap.push { cls := .type "slice", data := .fields #[vl, vu, .none] } } := Kp.push O F₃.inv
        have F₄ := F₃.kp O kp
        have r := F₃.vr O kp (F₂.vr O k₃.1 (F₁.vr O k₂.1 k₁.2))
        obtain ⟨hs, hw⟩ := slc_sound (A := A) (E := E) O F₄ he (r.frz1t F₄ hz) (F₃.vr O kp (F₂.vr O k₃.1 k₂.2)) (F₃.vr O kp k₃.2) (Heap.IsSliceOf.new _ _ _ _)
        exact ⟨hs, wpAny_mono hw (fun _ s₅ k₅ => ⟨(((k₁.1.trans k₂.1).trans k₃.1).trans kp).trans k₅.1, k₅.2⟩) fun _ _ e => e⟩
      · cases he
    · cases he
theorem ev_fmt (O : B.Ok) {m : ME} (hm : EvOk B Ω d m) : EvOk B Ω d (.fmt m) := fun c env S as V K H s A x pv E hE hA F hx he => by
  cases x <;> first | cases hx | skip
  rename_i y k sp pos
  cases sp with
  | some _ => cases hx
  | none =>
    have hx : (k == -1 && isE c m y) = true := hx
    simp only [Bool.and_eq_true] at hx
    have e := beq_iff_eq.mp hx.1
    subst e
    have he : fmtO (evalB Ω m false V K H) = some pv := he
    unfold fmtO at he
    split at he
    · rename_i z h1
      cases he
      refine FormattedValue_plain (wpAny_mono (hm c env S as V K H s A y _ E hE hA F hx.2 h1) (fun v s₁ k₁ => ?_) fun _ _ e => e)
      obtain ⟨k₁, t, rfl, hz⟩ := k₁
      exact wpAny_tk k₁.inv (formatField_str (fun t' tk htk => ⟨k₁.trans (Kp.toks O k₁.inv htk), _, rfl, hz⟩) hz)
    · cases he
def JoinsOk (B : BW) (Ω : Om) (d : Nat) (ms : MEs) : Prop :=
  ∀ (c : Cx) (env : Env) (S as : List Addr) (V K : Vs) (H : Hs) (s : Shared) (A : Around) (xs : List Expr) (ps : List PV) (acc out : Str) (E : Value → Shared → Prop),
    EnvOk c env → AOk d A → FR B c env S as V K H s → isEs c ms xs = true → evalsB Ω ms V K H = some ps → acc.length ≤ sizeLine → fmtP ps acc = some out →
    wpAny (model B.prog B.w) A (joinParts acc (evalEach xs env)) (fun v s' => Kp B s s' ∧ VR s'.heap S as (.str out) v) E s
theorem joins_nil (O : B.Ok) : JoinsOk B Ω d .nil := fun c env S as V K H s A xs ps acc out E hE hA F hx he hacc hf => by
  cases xs with
  | cons => cases hx
  | nil =>
    cases he
    cases hf
    exact joinParts_nil ⟨Kp.inc O F.inv, _, rfl, hacc⟩ hacc
theorem joins_cons (O : B.Ok) {m : ME} {ms : MEs} (hm : EvOk B Ω d m) (hms : JoinsOk B Ω d ms) : JoinsOk B Ω d (.cons m ms) := fun c env S as V K H s A xs ps acc out E hE hA F hx he hacc hf => by
  cases xs with
  | nil => cases hx
  | cons x xs =>
    have hx : (isE c m x && isEs c ms xs) = true := hx
    simp only [Bool.and_eq_true] at hx
    have he : (match evalB Ω m false V K H, evalsB Ω ms V K H with | some x, some xs => some (x :: xs) | _, _ => none) = some ps := he
    split at he
    · rename_i u us h1 h2
      cases he
      unfold fmtP at hf
      split at hf
      · rename_i e; cases e
      · rename_i y r acc' e
        cases e
        split at hf
        · rename_i hlen
          refine joinParts_cons (wpAny_mono (hm c env S as V K H s A x _ E hE hA F hx.1 h1) (fun v s₁ k₁ => ?_) fun _ _ e => e)
          obtain ⟨k₁, t, rfl, hz⟩ := k₁
          exact ⟨hlen, wpAny_mono (hms c env S as V K H s₁ A xs us _ out E hE hA (F.kp O k₁) hx.2 h2 hlen hf) (fun _ s₂ k₂ => ⟨k₁.trans k₂.1, k₂.2⟩) fun _ _ e => e⟩
        · cases hf
      · cases hf
    · cases he
theorem ev_fstr {ms : MEs} (h : JoinsOk B Ω d ms) : EvOk B Ω d (.fstr ms) := fun c env S as V K H s A x pv E hE hA F hx he => by
  cases x <;> first | cases hx | skip
  rename_i xs pos
  have hx : (isEs c ms xs && decide (2 ≤ xs.length)) = true := hx
  simp only [Bool.and_eq_true, decide_eq_true_eq] at hx
  have he : fstrO (evalsB Ω ms V K H) = some pv := he
  cases q : evalsB Ω ms V K H with
  | none => rw [q] at he; cases he
  | some ps =>
    rw [q] at he
    have he : (fmtP ps Str.empty).map .str = some pv := he
    cases q' : fmtP ps Str.empty with
    | none => rw [q'] at he; cases he
    | some out =>
      rw [q'] at he; cases he
      match xs, hx with
      | x₁ :: x₂ :: r, hx => exact JoinedStr_many (h c env S as V K H s A _ ps Str.empty out E hE hA F hx.1 q (by show 0 ≤ _; omega) q')
      | [_], hx => have := hx.2; simp at this
      | [], hx => have := hx.2; simp at this
theorem star_list {a : Addr} {vs : Array Value} {s : Shared} {A : Around} {E : Value → Shared → Prop} {Q : List Value → Shared → Prop} (hl : s.heap.IsList a vs) (hz : vs.size ≤ sizeLine)
    (h : ∀ h', (∀ b o, s.heap.get? b = some o → h'.get? b = some o) → Q vs.toList { s with heap := h' }) : StarOf (model B.prog B.w) A E (.ref a) Q s := by
  obtain ⟨o, ho, hc, n, hd⟩ := id hl
  have hT' : s.TypeIs (.ref a) "list" := ⟨o, ho, hc⟩
  have z : wpAny (model B.prog B.w) A (collect (.ref a)) Q E s := wpAny_collect_seq a (.inl rfl) ho hc hd h hz
  unfold StarOf notIterableAtAll
  exact wpAny_bind (wpAny_specialOf hT' PySem.F.slot_list_iter.lookup (wpAny_pure ⟨rfl, z⟩))
theorem callWith_star (O : B.Ok) {A : Around} {E : Value → Shared → Prop} {s : Shared} {pos : Pos} {f : Value} {x : Sem Value} {rest : List (Bool × Sem Value)} {Q : Value → Shared → Prop} (hst : rest.any (·.1) = true)
    (hc : ∃ a o fd, f = .ref a ∧ B.b₀.get? a = some o ∧ o.data = .func fd)
    (h : wpAny (model B.prog B.w) A (spliced ((false, x) :: rest)) (fun vs s₁ => Inv B s₁ ∧ wpAny (model B.prog B.w) A (call f vs) Q E s₁) E s) :
    wpAny (model B.prog B.w) A (callWith pos f [] ((false, x) :: rest) []) Q E s := by
  obtain ⟨a, o, fd, rfl, ho, hd⟩ := hc
  unfold callWith
  have h' : wpAny (model B.prog B.w) A (evalArgs (.ref a) true ((false, x) :: rest) []) (fun z s₁ => Inv B s₁ ∧ wpAny (model B.prog B.w) A (call (.ref a) z.pos z.kw) Q E s₁) E s := Calls.evalArgs_plain h
  refine wpAny_bind (wpAny_holding (wpAny_mono h' (fun z s₁ h₁ => wpAny_bind (wpAny_standAt ?_)) fun _ _ x => x))
  simp only [List.any_cons, Bool.false_or, hst, Bool.true_or]
  refine wpAny_bind (m := keeperOf (.ref a)) ?_
  unfold keeperOf
  refine wpAny_bind (wpAny_load (h₁.1.base _ _ ho) ?_)
  rw [hd]
  refine wpAny_pure ?_
  dsimp only
  refine wpAny_bind (wpAny_mono (Q := Q) ?_ (fun r s₂ hr => wpAny_bind (wpAny_holding (wpAny_point (wpAny_pure hr)))) fun _ _ x => x)
  unfold callMarked
  exact Calls.wpAny_keep h₁.2
theorem frz_clean {H : Hs} {x : PV} (h : clean x = true) : frz H x = some x ∧ isLoc x = false := by
  cases x <;> first | exact ⟨rfl, rfl⟩ | exact ⟨if_pos h, rfl⟩ | cases h
theorem frzs_clean {H : Hs} : ∀ {xs : List PV}, cleans xs = true → frzs H xs = some xs ∧ xs.any isLoc = false
  | [], _ => ⟨rfl, rfl⟩
  | x :: xs, h => by
    have h' := Bool.and_eq_true_iff.mp (show (clean x && cleans xs) = true from h)
    obtain ⟨a1, a2⟩ := frz_clean (H := H) h'.1
    obtain ⟨b1, b2⟩ := frzs_clean (H := H) h'.2
    refine ⟨?_, by rw [List.any_cons, a2, b2]; rfl⟩
    unfold frzs
    rw [a1, b1]
theorem ev_callS (O : B.Ok) (hΩ : OmOk B d Ω) {f : Str} {a b : ME} (ha : EvOk B Ω d a) (hb : EvOk B Ω d b) : EvOk B Ω d (.callS f a b) := fun c env S as V K H s A x pv E hE hA F hx he => by
  cases x <;> first | cases hx | skip
  rename_i g xs ks pos
  match xs, ks, hx with
  | [y, .Starred z p], [], hx =>
    have hx : (globIs c f g && isE c a y && isE c b z) = true := hx
    simp only [Bool.and_eq_true] at hx
    have he : callSO (Ω.fs f) (evalB Ω a false V K H) (evalB Ω b false V K H) = some pv := he
    unfold callSO at he
    split at he
    · rename_i F' u us hf h1 h2
      split at he
      · rename_i hcu
        split at he
        · rename_i r hr
          split at he
          · rename_i hcr
            cases he
            obtain ⟨a', o, fd, hv, ho, hd, hspec⟩ := hΩ.fs f F' hf
            have hn : ∃ y p, g = .Name y p := by
              have := hx.1.1
              unfold globIs at this
              split at this
              · exact ⟨_, _, rfl⟩
              · cases this
            obtain ⟨yn, pn, rfl⟩ := hn
            refine Call_ (glob_rule O hE F.inv hx.1.1 hv ?_)
            rw [starEach_cons hx.1.2]
            show wpAny (model B.prog B.w) A (callWith pos (.ref a') [] ((false, eval y env) :: [(true, (do let v ← eval z env; standAt pos; pure v))]) []) _ E s
            refine callWith_star O rfl ⟨a', o, fd, rfl, ho, hd⟩ ?_
            refine Calls.spliced_cons (wpAny_mono (ha c env S as V K H s A y u E hE hA F hx.1.2 h1) (fun w s₁ k₁ => ?_) fun _ _ e => e)
            have F₁ := F.kp O k₁.1
            refine ks_spliced (wpAny_mono (hb c env S as V K H s₁ A z (.lst us) E hE hA F₁ hx.2 h2) (fun w₂ s₂ k₂ => ?_) fun _ _ e => e)
            have F₂ := F₁.kp O k₂.1
            have rw1 := F₁.vr O k₂.1 k₁.2
            obtain ⟨k₂, al, vs, rfl, hS, has, hl, hz, hrs⟩ := k₂
            refine star_list hl hz fun h' hk => ?_
            have kp : Kp B s₂ { s₂ with heap := h' } := Kp.of_keep O (k := s₂.toks) F₂.inv hk F₂.inv.tk
            have F₃ := F₂.kp O kp
            refine Calls.spliced_nil ⟨kp.inv, ?_⟩
            rw [List.append_nil]
            have hcall := call_fn (E := E) O hΩ hA F₃ hspec (frzs_clean hcu).1 hr ⟨_, _, rfl, F₂.vr O kp rw1, F₂.vrs O kp hrs⟩
            refine wpAny_mono hcall (fun w₄ s₄ k₄ => ?_) fun _ _ e => e
            obtain ⟨k₄, S', hr', hS'⟩ := k₄
            exact ⟨((k₁.1.trans k₂).trans kp).trans k₄, any_flat_or hcr (by rw [(frzs_clean (H := H) hcu).2]; simp) hr' hS'⟩
          · cases he
        · cases he
      · cases he
    · cases he
end Mine
namespace Mine
variable {B : BW} {Ω : Om} {d : Nat}
structure Kg (B : BW) (X : List Addr) (G : List Nat) (s s' : Shared) : Prop where
  keep : ∀ b o, b ≠ B.T → b ∉ X → s.heap.get? b = some o → s'.heap.get? b = some o
  gens : ∀ (g : Nat) (x : GenState), g ∉ G → s.gens[g]? = some x → s'.gens[g]? = some x
  inv : Inv B s'
abbrev Kq (B : BW) (X : List Addr) (s s' : Shared) : Prop := Kg B X [] s s'
theorem Kp.g {s s' : Shared} {X : List Addr} {G : List Nat} (k : Kp B s s') : Kg B X G s s' := ⟨fun b o n _ e => k.keep b o n e, fun g x _ e => k.gens g x e, k.inv⟩
theorem Kp.q {s s' : Shared} {X : List Addr} (k : Kp B s s') : Kq B X s s' := k.g
theorem Kg.trans {X : List Addr} {G : List Nat} {s s₁ s₂ : Shared} (x : Kg B X G s s₁) (y : Kg B X G s₁ s₂) : Kg B X G s s₂ :=
  ⟨fun b o n m e => y.keep b o n m (x.keep b o n m e), fun g z m e => y.gens g z m (x.gens g z m e), y.inv⟩
theorem Kg.mono {X Y : List Addr} {G G' : List Nat} {s s₁ : Shared} (x : Kg B X G s s₁) (h : ∀ a ∈ X, a ∈ Y) (hG : ∀ g ∈ G, g ∈ G' := by simp) : Kg B Y G' s s₁ :=
  ⟨fun b o n m e => x.keep b o n (fun q => m (h b q)) e, fun g z m e => x.gens g z (fun q => m (hG g q)) e, x.inv⟩
theorem Kg.fresh {X Y : List Addr} {G G' : List Nat} {s s₁ : Shared} (x : Kg B X G s s₁) (h : ∀ a ∈ X, a ∈ Y ∨ s.heap.get? a = none) (hG : ∀ g ∈ G, g ∈ G' ∨ s.gens[g]? = none := by simp) : Kg B Y G' s s₁ :=
  ⟨fun b o n m e => x.keep b o n (fun q => (h b q).elim m fun z => by rw [z] at e; cases e) e, fun g z m e => x.gens g z (fun q => (hG g q).elim m fun z => by rw [z] at e; cases e) e, x.inv⟩
theorem Kg.p {s s₁ : Shared} {X : List Addr} {G : List Nat} (x : Kg B X G s s₁) (h : ∀ a ∈ X, s.heap.get? a = none) (hG : ∀ g ∈ G, s.gens[g]? = none := by simp) : Kp B s s₁ :=
  ⟨fun b o n e => x.keep b o n (fun q => by rw [h b q] at e; cases e) e, fun g z e => x.gens g z (fun q => by rw [hG g q] at e; cases e) e, x.inv⟩
theorem Kg.get (O : B.Ok) {s s' : Shared} {X : List Addr} {G : List Nat} (I : Inv B s) (k : Kg B X G s s') {b : Addr} {o : Obj} (hb : b ∉ X) (e : s.heap.get? b = some o) (h : o.cls ≠ .none ∨ ∀ vs, o.data ≠ .fields vs) : s'.heap.get? b = some o :=
  k.keep b o (I.neT O e h) hb e
theorem Kq.at (O : B.Ok) {s : Shared} {h : Heap} {k : Nat} {a : Addr} (I : Inv B s) (tk : 1 ≤ k) (hx : Heap.ExtBut a s.heap h) (ha : ∀ o, s.heap.get? a = some o → ¬ Pr o) (hb : B.b₀.get? a = none) : Kq B [a] s { s with heap := h, toks := k } :=
  ⟨fun b o _ m e => hx b o (by simpa using m) e, fun _ _ _ e => e,
   ⟨fun b o e => hx b o (by rintro rfl; rw [hb] at e; cases e) (I.base b o e),
    O.Tb_keep _ _ I.tb fun b o e p => hx b o (by rintro rfl; exact ha o e p) e, I.bare, I.os, tk⟩⟩
def NotVR (o : Obj) : Prop := (o.cls ≠ .type "tuple" ∨ ∀ x n, o.data ≠ .seq x n) ∧ (o.cls ≠ .type "list" ∨ ∀ x n, o.data ≠ .seq x n) ∧ (o.cls ≠ .type "range" ∨ ∀ x, o.data ≠ .fields x) ∧ (o.cls ≠ .type "builtin_function_or_method" ∨ ∀ x, o.data ≠ .fields x)
def Apart (h : Heap) (S as X : List Addr) : Prop := ∀ a ∈ X, ∀ o, h.get? a = some o → NotVR o ∨ (o.cls = .type "list" ∧ (a ∈ S ∨ a ∈ as))
theorem NotVR.dict {o : Obj} {x n} (h : o.data = .dict x n) : NotVR o := by
  refine ⟨.inr ?_, .inr ?_, .inr ?_, .inr ?_⟩ <;> intros <;> rw [h] <;> nofun
theorem NotVR.cell {o : Obj} {x} (h : o.data = .cell x) : NotVR o := by
  refine ⟨.inr ?_, .inr ?_, .inr ?_, .inr ?_⟩ <;> intros <;> rw [h] <;> nofun
section
variable {h h' : Heap} {S as X : List Addr}
mutual
theorem VR.monoX (hk : ∀ b o, b ∉ X → h.get? b = some o → o.cls ≠ .none → h'.get? b = some o) (hX : Apart h S as X) : ∀ {pv : PV} {v : Value}, VR h S as pv v → VR h' S as pv v
  | .none, _, e => e
  | .bool _, _, e => e
  | .int _, _, e => e
  | .str _, _, e => e
  | .val _, _, e => e
  | .loc _, _, e => e
  | .tup xs, _, ⟨a, vs, e, h1, h2, ⟨o, ho, hc, n, hd⟩, hz, hr⟩ => ⟨a, vs, e, h1, h2, ⟨o, hk _ _ (fun hm => by
      rcases hX a hm o ho with q | ⟨q, _⟩
      · rcases q.1 with q | q
        · exact q hc
        · exact q _ _ hd
      · rw [hc] at q; exact absurd q (by decide)) ho (by rw [hc]; nofun), hc, n, hd⟩, hz, VRs.monoX hk hX hr⟩
  | .lst xs, _, ⟨a, vs, e, h1, h2, ⟨o, ho, hc, n, hd⟩, hz, hr⟩ => ⟨a, vs, e, h1, h2, ⟨o, hk _ _ (fun hm => by
      rcases hX a hm o ho with q | ⟨_, q⟩
      · rcases q.2.1 with q | q
        · exact q hc
        · exact q _ _ hd
      · exact q.elim h1 h2) ho (by rw [hc]; nofun), hc, n, hd⟩, hz, VRs.monoX hk hX hr⟩
  | .rng _ _, _, ⟨r, e, t, u, z, hr⟩ => ⟨r, e, t, u, z, hk _ _ (fun hm => by
      rcases hX r hm _ hr with q | ⟨q, _⟩
      · rcases q.2.2.1 with q | q
        · exact q rfl
        · exact q _ rfl
      · exact absurd (show Value.type "range" = Value.type "list" from q) (by decide)) hr (by nofun)⟩
  | .bm _, _, ⟨a, m, e, hv, hm⟩ => ⟨a, m, e, hv, hk _ _ (fun hx => by
      rcases hX m hx _ hm with q | ⟨q, _⟩
      · rcases q.2.2.2 with q | q
        · exact q rfl
        · exact q _ rfl
      · exact absurd (show Value.type "builtin_function_or_method" = Value.type "list" from q) (by decide)) hm (by nofun)⟩
theorem VRs.monoX (hk : ∀ b o, b ∉ X → h.get? b = some o → o.cls ≠ .none → h'.get? b = some o) (hX : Apart h S as X) : ∀ {xs : List PV} {vs : List Value}, VRs h S as xs vs → VRs h' S as xs vs
  | [], _, e => e
  | _ :: _, _, ⟨v, r, e, h1, h2⟩ => ⟨v, r, e, VR.monoX hk hX h1, VRs.monoX hk hX h2⟩
end
mutual
theorem VR.freshS {a' : Addr} (hf : h.get? a' = none) : ∀ {pv : PV} {v : Value}, VR h S as pv v → VR h (a' :: S) as pv v
  | .none, _, e => e
  | .bool _, _, e => e
  | .int _, _, e => e
  | .str _, _, e => e
  | .val _, _, e => e
  | .loc l, _, e => e
  | .tup xs, _, ⟨a, vs, e, h1, h2, ⟨o, ho, hc⟩, hz, hr⟩ => ⟨a, vs, e, fun hm => (List.mem_cons.mp hm).elim (fun q => by rw [q, hf] at ho; cases ho) h1, h2, ⟨o, ho, hc⟩, hz, VRs.freshS hf hr⟩
  | .lst xs, _, ⟨a, vs, e, h1, h2, ⟨o, ho, hc⟩, hz, hr⟩ => ⟨a, vs, e, fun hm => (List.mem_cons.mp hm).elim (fun q => by rw [q, hf] at ho; cases ho) h1, h2, ⟨o, ho, hc⟩, hz, VRs.freshS hf hr⟩
  | .rng _ _, _, e => e
  | .bm l, _, e => e
theorem VRs.freshS {a' : Addr} (hf : h.get? a' = none) : ∀ {xs : List PV} {vs : List Value}, VRs h S as xs vs → VRs h (a' :: S) as xs vs
  | [], _, e => e
  | _ :: _, _, ⟨v, r, e, h1, h2⟩ => ⟨v, r, e, VR.freshS hf h1, VRs.freshS hf h2⟩
end
mutual
theorem VR.lessS {S' : List Addr} (hS : ∀ a ∈ S, a ∈ S') : ∀ {pv : PV} {v : Value}, VR h S' as pv v → VR h S as pv v
  | .none, _, e => e
  | .bool _, _, e => e
  | .int _, _, e => e
  | .str _, _, e => e
  | .val _, _, e => e
  | .loc l, _, e => e
  | .tup xs, _, ⟨a, vs, e, h1, h2, ho, hz, hr⟩ => ⟨a, vs, e, fun hm => h1 (hS a hm), h2, ho, hz, VRs.lessS hS hr⟩
  | .lst xs, _, ⟨a, vs, e, h1, h2, ho, hz, hr⟩ => ⟨a, vs, e, fun hm => h1 (hS a hm), h2, ho, hz, VRs.lessS hS hr⟩
  | .rng _ _, _, e => e
  | .bm l, _, e => e
theorem VRs.lessS {S' : List Addr} (hS : ∀ a ∈ S, a ∈ S') : ∀ {xs : List PV} {vs : List Value}, VRs h S' as xs vs → VRs h S as xs vs
  | [], _, e => e
  | _ :: _, _, ⟨v, r, e, h1, h2⟩ => ⟨v, r, e, VR.lessS hS h1, VRs.lessS hS h2⟩
end
end
end Mine
namespace Mine
variable {B : BW} {Ω : Om} {d : Nat}
section
variable {c : Cx} {env : Env} {S as X : List Addr} {G : List Nat} {V V' K K' : Vs} {H : Hs} {s s' : Shared} {A : Around} {E : Value → Shared → Prop}
theorem Ns.kq (O : B.Ok) {L : Addr} {m : Str → Option Value} (I : Inv B s) (n : s.heap.Ns L m) (k : Kg B X G s s') (hL : L ∉ X) : s'.heap.Ns L m := by
  obtain ⟨o, es, ep, e, hd, r⟩ := n
  exact ⟨o, es, ep, k.get O I hL e (.inr fun vs h => by rw [hd] at h; cases h), hd, r⟩
theorem IsCell.kq (O : B.Ok) {a : Addr} {v : Option Value} (I : Inv B s) (n : s.heap.IsCell a v) (k : Kg B X G s s') (hL : a ∉ X) : s'.heap.IsCell a v := by
  obtain ⟨o, e, hd⟩ := n
  exact ⟨o, k.get O I hL e (.inr fun vs h => by rw [hd] at h; cases h), hd⟩
theorem Kg.up (O : B.Ok) (I : Inv B s) (k : Kg B X G s s') : ∀ b o, b ∉ X → s.heap.get? b = some o → o.cls ≠ .none → s'.heap.get? b = some o := fun b o hb e h => k.get O I hb e (.inl h)
def LocOk (c : Cx) (env : Env) (S as : List Addr) (V : Vs) (h : Heap) : Prop :=
  ∃ m, h.Ns env.locals m ∧ ∀ (i : Nat) x pv, c.nm[i]? = some x → V[i]? = some (some pv) → ∃ v, m x = some v ∧ VR h S as pv v
def CelOk (c : Cx) (env : Env) (S as : List Addr) (K : Vs) (h : Heap) : Prop :=
  ∀ (j : Nat) x, c.cn[j]? = some x → x ∈ c.ck → ∃ a v, env.cells.lookup x = some a ∧ h.IsCell a v ∧ ∀ pv, K[j]? = some (some pv) → ∃ u, v = some u ∧ VR h S as pv u
theorem FR.locKq (O : B.Ok) (F : FR B c env S as V K H s) (k : Kg B X G s s') (hX : Apart s.heap S as X) (hL : env.locals ∉ X) : LocOk c env S as V s'.heap := by
  obtain ⟨m, n, h⟩ := F.loc
  exact ⟨m, Ns.kq O F.inv n k hL, fun i x pv hx hv => let ⟨v, e, r⟩ := h i x pv hx hv; ⟨v, e, r.monoX (k.up O F.inv) hX⟩⟩
theorem FR.celKq (O : B.Ok) (F : FR B c env S as V K H s) (k : Kg B X G s s') (hX : Apart s.heap S as X) (hC : ∀ x ∈ c.ck, ∀ a, env.cells.lookup x = some a → a ∉ X) : CelOk c env S as K s'.heap := fun j x hx hc => by
  obtain ⟨a, v, hl, hi, h⟩ := F.cel j x hx hc
  exact ⟨a, v, hl, IsCell.kq O F.inv hi k (hC x hc a hl), fun pv hv => let ⟨u, e, r⟩ := h pv hv; ⟨u, e, r.monoX (k.up O F.inv) hX⟩⟩
theorem FR.kqH (O : B.Ok) (F : FR B c env S as V K H s) (k : Kg B X G s s') (hX : Apart s.heap S as X) (hS : Held S s'.heap) (has : ∀ a ∈ as, a ∉ X)
    (hL : LocOk c env S as V' s'.heap) (hC : CelOk c env S as K' s'.heap) : FR B c env S as V' K' H s' :=
  { inv := k.inv
    held := hS
    loc := hL
    cel := hC
    len := F.len
    nodup := F.nodup
    disj := F.disj
    base := F.base
    baseAs := F.baseAs
    baseC := F.baseC
    own := fun l a xs ha hx => by
      obtain ⟨vs, ⟨n, e⟩, hz, r⟩ := F.own l a xs ha hx
      exact ⟨vs, ⟨n, k.up O F.inv _ _ (has a (List.mem_of_getElem? ha)) e (by nofun)⟩, hz, VRs.monoX (k.up O F.inv) hX r⟩ }
theorem FR.kq (O : B.Ok) (F : FR B c env S as V K H s) (k : Kg B X G s s') (hX : Apart s.heap S as X) (hS : ∀ a ∈ S, a ∉ X) (has : ∀ a ∈ as, a ∉ X)
    (hL : LocOk c env S as V' s'.heap) (hC : CelOk c env S as K' s'.heap) : FR B c env S as V' K' H s' :=
  F.kqH O k hX (fun a ha => let ⟨vs, n, e⟩ := F.held a ha; ⟨vs, n, k.up O F.inv _ _ (hS a ha) e nofun⟩) has hL hC
theorem FR.locDict (F : FR B c env S as V K H s) : ∃ o x n, s.heap.get? env.locals = some o ∧ o.data = .dict x n := by
  obtain ⟨m, ⟨o, es, ep, e, hd, _⟩, _⟩ := F.loc
  exact ⟨o, es, ep, e, hd⟩
theorem FR.apartLoc (F : FR B c env S as V K H s) : Apart s.heap S as [env.locals] := fun a ha o ho => by
  obtain ⟨o', x, n, e, hd⟩ := F.locDict
  rw [List.mem_singleton.mp ha, e] at ho
  cases ho
  exact .inl (NotVR.dict hd)
theorem FR.celCell (F : FR B c env S as V K H s) {x : Str} (hx : x ∈ c.ck) {a : Addr} (ha : env.cells.lookup x = some a) (hcn : ∃ j : Nat, c.cn[j]? = some x) : ∃ o v, s.heap.get? a = some o ∧ o.data = .cell v := by
  obtain ⟨j, hj⟩ := hcn
  obtain ⟨a', v, hl, ⟨o, e, hd⟩, _⟩ := F.cel j x hj hx
  rw [ha] at hl; cases hl
  exact ⟨o, v, e, hd⟩
theorem FR.locNeCell (F : FR B c env S as V K H s) {x : Str} (hx : x ∈ c.ck) {a : Addr} (ha : env.cells.lookup x = some a) (hcn : ∃ j : Nat, c.cn[j]? = some x) : a ≠ env.locals := by
  obtain ⟨o, v, e, hd⟩ := F.celCell hx ha hcn
  rintro rfl
  obtain ⟨o', y, n, e', hd'⟩ := F.locDict
  rw [e] at e'; cases e'
  rw [hd] at hd'; cases hd'
theorem Held.ne_dict {h : Heap} (x : Held S h) {L : Addr} {o : Obj} {y n} (e : h.get? L = some o) (hd : o.data = .dict y n) : ∀ a ∈ S, a ∉ [L] := fun a ha hm => by
  rw [List.mem_singleton.mp hm] at ha
  obtain ⟨vs, k, e'⟩ := x _ ha
  rw [e] at e'; cases e'; cases hd
theorem Held.ne_cell {h : Heap} (x : Held S h) {L : Addr} {o : Obj} {y} (e : h.get? L = some o) (hd : o.data = .cell y) : ∀ a ∈ S, a ∉ [L] := fun a ha hm => by
  rw [List.mem_singleton.mp hm] at ha
  obtain ⟨vs, k, e'⟩ := x _ ha
  rw [e] at e'; cases e'; cases hd
theorem LocOk.set {h : Heap} {i : Nat} {x : Str} {pv : PV} {v : Value} {m : Str → Option Value} (hE : EnvOk c env) (hx : c.nm[i]? = some x) (r : VR h S as pv v)
    (hn : h.Ns env.locals fun y => if y = x then some v else m y) (hm : ∀ (i : Nat) x pv, c.nm[i]? = some x → V[i]? = some (some pv) → ∃ v, m x = some v ∧ VR h S as pv v) :
    LocOk c env S as (V.set i (some pv)) h := by
  refine ⟨_, hn, fun k y qv hy hv => ?_⟩
  by_cases hki : k = i
  · subst hki
    rw [hx] at hy; cases hy
    rw [List.getElem?_set_self' ] at hv
    refine ⟨v, if_pos rfl, ?_⟩
    cases hq : V[k]? with
    | none => rw [hq] at hv; cases hv
    | some z => rw [hq] at hv; cases hv; exact r
  · rw [List.getElem?_set_ne (fun e => hki e.symm)] at hv
    obtain ⟨u, hu, hr⟩ := hm k y qv hy hv
    have hne : y ≠ x := by
      rintro rfl
      obtain ⟨h1, h2⟩ := List.getElem?_eq_some_iff.mp hx
      obtain ⟨h3, h4⟩ := List.getElem?_eq_some_iff.mp hy
      exact hki ((List.getElem_inj hE.nodup).mp (h4.trans h2.symm))
    exact ⟨u, by rw [if_neg hne]; exact hu, hr⟩
theorem store_sound (O : B.Ok) (hE : EnvOk c env) (F : FR B c env S as V K H s) {i : Nat} {x : Str} {pv : PV} {v : Value} (hx : c.nm[i]? = some x) (r : VR s.heap S as pv v) :
    wpAny (model B.prog B.w) A (storeName env x v) (fun _ s' => Kq B [env.locals] s s' ∧ FR B c env S as (V.set i (some pv)) K H s') E s := by
  obtain ⟨m, hn, hmap⟩ := F.loc
  refine wpAny_storeName_local (hE.loc i x hx) hn (fun h' hn' hs => ?_) hE.plain
  obtain ⟨o₀, y₀, n₀, e₀, hd₀⟩ := F.locDict
  have kq : Kq B [env.locals] s { s with heap := h', toks := s.toks + 1 } := Kq.at O F.inv (by omega) hs.extBut (fun o ho p => by
    rw [e₀] at ho; cases ho
    obtain ⟨_, vs, hd⟩ := p
    rw [hd₀] at hd; cases hd) F.base
  exact ⟨kq, F.kq O kq F.apartLoc (F.held.ne_dict e₀ hd₀) (F.heldAs.ne_dict e₀ hd₀)
    (LocOk.set hE hx (r.monoX (kq.up O F.inv) F.apartLoc) hn' fun k y qv hy hv => let ⟨u, hu, hr⟩ := hmap k y qv hy hv; ⟨u, hu, hr.monoX (kq.up O F.inv) F.apartLoc⟩)
    (F.celKq O kq F.apartLoc fun x hx a ha hm => F.locNeCell hx ha (hE.celn x hx) (List.mem_singleton.mp hm))⟩
end
end Mine
namespace Mine
variable {B : BW} {Ω : Om} {d : Nat}
section
variable {c : Cx} {env : Env} {S as X : List Addr} {V V' K K' : Vs} {H : Hs} {s s' : Shared} {A : Around} {E : Value → Shared → Prop}
theorem Kq.vr (O : B.Ok) (F : FR B c env S as V K H s) (k : Kq B [env.locals] s s') {x : PV} {v : Value} (r : VR s.heap S as x v) : VR s'.heap S as x v := r.monoX (k.up O F.inv) F.apartLoc
theorem Kq.vrs (O : B.Ok) (F : FR B c env S as V K H s) (k : Kq B [env.locals] s s') {x : List PV} {v : List Value} (r : VRs s.heap S as x v) : VRs s'.heap S as x v := VRs.monoX (k.up O F.inv) F.apartLoc r
theorem CelOk.set {h : Heap} {j : Nat} {x : Str} {pv : PV} {v : Value} {a : Addr} (hE : EnvOk c env) (hx : c.cn[j]? = some x) (ha : env.cells.lookup x = some a) (r : VR h S as pv v) (hc : h.IsCell a (some v)) (hm : ∀ (k : Nat) y, k ≠ j → c.cn[k]? = some y → y ∈ c.ck → ∃ b u, env.cells.lookup y = some b ∧ h.IsCell b u ∧ ∀ pv, K[k]? = some (some pv) → ∃ w, u = some w ∧ VR h S as pv w) :
    CelOk c env S as (K.set j (some pv)) h := fun k y hy hyc => by
  by_cases hkj : k = j
  · subst hkj
    rw [hx] at hy; cases hy
    refine ⟨a, some v, ha, hc, fun qv hq => ⟨v, rfl, ?_⟩⟩
    rw [List.getElem?_set_self'] at hq
    cases hz : K[k]? with
    | none => rw [hz] at hq; cases hq
    | some z => rw [hz] at hq; cases hq; exact r
  · obtain ⟨b, u, h1, h2, h3⟩ := hm k y hkj hy hyc
    exact ⟨b, u, h1, h2, fun qv hq => h3 qv (by rwa [List.getElem?_set_ne (fun e => hkj e.symm)] at hq)⟩
theorem cell_sound (O : B.Ok) (hE : EnvOk c env) (F : FR B c env S as V K H s) {j : Nat} {x : Str} {pv : PV} {v : Value} (hx : c.cn[j]? = some x) (hxc : x ∈ c.ck) (r : VR s.heap S as pv v) :
    wpAny (model B.prog B.w) A (storeName env x v) (fun _ s' => (∃ a, env.cells.lookup x = some a ∧ Kq B [a] s s') ∧ FR B c env S as V (K.set j (some pv)) H s') E s := by
  obtain ⟨a, v₀, ha, hi, _⟩ := F.cel j x hx hxc
  refine wpAny_storeName_cell hE.kind (hE.cel x hxc) ha hi fun h' hc' hs => ?_
  obtain ⟨o₀, e₀, hd₀⟩ := hi
  have kq : Kq B [a] s { s with heap := h', toks := s.toks } := Kq.at O F.inv F.inv.tk hs.extBut (fun o ho p => by
    rw [e₀] at ho; cases ho
    obtain ⟨_, vs, hd⟩ := p
    rw [hd₀] at hd; cases hd) (F.baseC x hxc a ha)
  have ap : Apart s.heap S as [a] := fun b hb o ho => by
    rw [List.mem_singleton.mp hb, e₀] at ho; cases ho
    exact .inl (NotVR.cell hd₀)
  refine ⟨⟨a, ha, kq⟩, F.kq O kq ap (F.held.ne_cell e₀ hd₀) (F.heldAs.ne_cell e₀ hd₀) (F.locKq O kq ap (fun hm => F.locNeCell hxc ha (hE.celn x hxc) (List.mem_singleton.mp hm).symm)) ?_⟩
  refine CelOk.set hE hx ha (r.monoX (kq.up O F.inv) ap) hc' fun k y hk hy hyc => ?_
  obtain ⟨b, u, h1, h2, h3⟩ := F.cel k y hy hyc
  have hb : b ∉ [a] := fun hm => by
    rw [List.mem_singleton.mp hm] at h1
    have := hE.cinj x hxc y hyc a ha h1
    subst this
    obtain ⟨h1, h2⟩ := List.getElem?_eq_some_iff.mp hx
    obtain ⟨h3, h4⟩ := List.getElem?_eq_some_iff.mp hy
    exact hk ((List.getElem_inj hE.cdup).mp (h4.trans h2.symm))
  exact ⟨b, u, h1, IsCell.kq O F.inv h2 kq hb, fun pv hv => let ⟨w, e, r⟩ := h3 pv hv; ⟨w, e, r.monoX (kq.up O F.inv) ap⟩⟩
theorem nameIs_eq {l : List Str} {i : Nat} {e : Expr} (h : nameIs l i e = true) : ∃ x p, e = .Name x p ∧ l[i]? = some x := by
  cases e with
  | Name x p => unfold nameIs at h; rw [Bool.and_eq_true_iff] at h; exact ⟨x, p, rfl, eq_of_beq h.1⟩
  | _ => cases h
theorem name_sound (O : B.Ok) (hE : EnvOk c env) (F : FR B c env S as V K H s) {i : Nat} {e : Expr} {pv : PV} {v : Value} (hx : nameIs c.nm i e = true) (r : VR s.heap S as pv v) :
    wpAny (model B.prog B.w) A (assign e env v) (fun _ s' => Kq B [env.locals] s s' ∧ FR B c env S as (V.set i (some pv)) K H s') E s := by
  obtain ⟨x, p, rfl, hi⟩ := nameIs_eq hx
  exact wpAny_assign_Name (store_sound O hE F hi r)
theorem namesAre_plain {l : List Str} : ∀ {is : List Nat} {es : List Expr}, namesAre l is es = true → (assignEach es env).length = is.length ∧ (assignEach es env).findIdx? (·.1) = none
  | [], [], _ => ⟨rfl, rfl⟩
  | i :: is, e :: es, h => by
    unfold namesAre at h
    rw [Bool.and_eq_true_iff] at h
    obtain ⟨x, p, rfl, hi⟩ := nameIs_eq h.1
    obtain ⟨h1, h2⟩ := namesAre_plain h.2
    have e0 : assignEach (.Name x p :: es) env = (false, assign (.Name x p) env) :: assignEach es env := rfl
    rw [e0]
    refine ⟨by rw [List.length_cons, List.length_cons, h1], ?_⟩
    rw [List.findIdx?_cons]
    simp [h2]
  | [], _ :: _, h => by cases h
  | _ :: _, [], h => by cases h
theorem names_sound (O : B.Ok) (hE : EnvOk c env) : ∀ {is : List Nat} {es : List Expr} {xs : List PV} {vs : List Value} {V V' : Vs} {s : Shared}, FR B c env S as V K H s → namesAre c.nm is es = true → VRs s.heap S as xs vs → setAll is xs V = some V' →
    wpAny (model B.prog B.w) A (assignInOrder ((assignEach es env).map (·.2)) vs) (fun _ s' => Kq B [env.locals] s s' ∧ FR B c env S as V' K H s') E s
  | [], [], xs, vs, V, V', s, F, _, r, h => by
    cases xs with
    | nil => cases h; rw [show vs = [] from r]; exact wpAny_pure ⟨(Kp.refl F.inv).q, F⟩
    | cons _ _ => cases h
  | i :: is, e :: es, xs, vs, V, V', s, F, hn, r, h => by
    unfold namesAre at hn
    rw [Bool.and_eq_true_iff] at hn
    cases xs with
    | nil => cases h
    | cons x xs =>
      obtain ⟨v, vs', rfl, h1, h2⟩ := r
      obtain ⟨y, p, rfl, hi⟩ := nameIs_eq hn.1
      show wpAny _ A (assignInOrder (assign (.Name y p) env :: (assignEach es env).map (·.2)) (v :: vs')) _ E s
      refine assignInOrder_cons (wpAny_mono (name_sound O hE F hn.1 h1) (fun _ s₁ ⟨k₁, F₁⟩ => ?_) fun _ _ e => e)
      refine wpAny_mono (names_sound O hE F₁ hn.2 (k₁.vrs O F h2) h) (fun _ s₂ ⟨k₂, F₂⟩ => ⟨k₁.trans k₂, F₂⟩) fun _ _ e => e
  | [], _ :: _, _, _, _, _, _, _, h, _, _ => by cases h
  | _ :: _, [], _, _, _, _, _, _, h, _, _ => by cases h
theorem setAll_length : ∀ {is : List Nat} {xs : List PV} {V V' : Vs}, setAll is xs V = some V' → is.length = xs.length
  | [], [], _, _, _ => rfl
  | _ :: _, [], _, _, h => by cases h
  | [], _ :: _, _, _, h => by cases h
  | i :: is, x :: xs, V, V', h => by rw [List.length_cons, List.length_cons, setAll_length (show setAll is xs (V.set i (some x)) = some V' from h)]
theorem tup_sound (O : B.Ok) (hE : EnvOk c env) (hA : A.handled = none) (F : FR B c env S as V K H s) {is : List Nat} {es : List Expr} {x1} {pos : Pos} {pv : PV} {v : Value} (hx : namesAre c.nm is es = true) (r : VR s.heap S as pv v) (h : bindT (.tup is) pv V = some V') :
    wpAny (model B.prog B.w) A (assign (.Tuple es x1 pos) env v) (fun _ s' => Kq B [env.locals] s s' ∧ FR B c env S as V' K H s') E s := by
  cases pv with
  | tup xs =>
    obtain ⟨a, vs, rfl, hS, has, ht, hz, hr⟩ := r
    obtain ⟨h1, h2⟩ := namesAre_plain (env := env) hx
    have hl := setAll_length (show setAll is xs V = some V' from h)
    refine wpAny_assign_Tuple hA (show s.heap.IsTuple a vs from ht) (by rw [h1, hl, ← hr.length]; simp) h2 fun h' hx' => ?_
    have kp : Kp B s { s with heap := h' } := Kp.of_keep (k := s.toks) O F.inv (fun b o e => hx' b o (Nat.ne_of_lt (Heap.lt_size e)) e) F.inv.tk
    have F₁ := F.kp O kp
    refine wpAny_mono (names_sound O hE F₁ hx (F.vrs O kp hr) h) (fun _ s₂ ⟨k₂, F₂⟩ => ⟨kp.q.trans k₂, F₂⟩) fun _ _ e => e
  | _ => cases h
theorem tgt_sound (O : B.Ok) (hE : EnvOk c env) (hA : A.handled = none) (F : FR B c env S as V K H s) {t : Tgt} {e : Expr} {pv : PV} {v : Value} (hx : tgtIs c.nm t e = true) (r : VR s.heap S as pv v) (h : bindT t pv V = some V') :
    wpAny (model B.prog B.w) A (assign e env v) (fun _ s' => Kq B [env.locals] s s' ∧ FR B c env S as V' K H s') E s := by
  cases t with
  | one i => cases h; exact name_sound O hE F hx r
  | tup is =>
    cases e with
    | Tuple es x1 pos => exact tup_sound O hE hA F hx r h
    | _ => cases hx
end
end Mine
namespace Mine
variable {B : BW} {Ω : Om} {d : Nat}
structure Wlk (B : BW) (d : Nat) (it : Value) (X fp : List Addr) (G : List Nat) (xs : List PV) (St : Nat → Shared → Prop) (El : Shared → List Addr → List Addr → Prop) : Prop where
  next : ∀ (i : Nat) (s : Shared) (S as : List Addr) (A : Around) (E : Value → Shared → Prop), AOk d A → Inv B s → Held S s.heap → Held as s.heap → St i s → El s S as →
    wpAny (model B.prog B.w) A (pyNext it) (fun o s' => Kg B X G s s' ∧ match xs[i]? with
      | none => o = none
      | some x => ∃ v, o = some v ∧ St (i + 1) s' ∧ VR s'.heap S as x v) E s
  frame : ∀ (i : Nat) (s s' : Shared) (Y : List Addr) (G' : List Nat), Inv B s → St i s → Kg B Y G' s s' → (∀ b ∈ fp, b ∉ Y) → (∀ g ∈ G', g ∉ G) → St i s'
  go : ∀ (i : Nat) (s : Shared) (A : Around) (E : Value → Shared → Prop) (t : Expr) (v : Value) (Q : Unit → Shared → Prop), St i s → Q () s → wpAny (model B.prog B.w) A (letOwnedTupleGo t it v) Q E s
  self : ∀ (s : Shared) (A : Around) (E : Value → Shared → Prop) (Q : Value → Shared → Prop), AOk d A → St 0 s → Q it s → wpAny (model B.prog B.w) A (pyIter it) Q E s
  there : ∀ (i : Nat) (s : Shared), St i s → ∀ a ∈ X, s.heap.get? a ≠ none
  ap : ∀ (i : Nat) (s : Shared), St i s → ∀ a ∈ X, ∀ o, s.heap.get? a = some o → NotVR o
  elF : ∀ (s s' : Shared) (S as Y : List Addr) (G' : List Nat), Inv B s → El s S as → Kg B Y G' s s' → Apart s.heap S as Y → El s' S as
  elG : ∀ (s : Shared) (S as : List Addr) (a : Addr), El s S as → s.heap.get? a = none → El s S (as ++ [a])
  elS : ∀ (s : Shared) (S as : List Addr) (a : Addr), El s S as → s.heap.get? a = none → El s (a :: S) as
theorem letGo {it : Addr} {o : Obj} {n : String} {s : Shared} {A : Around} {E : Value → Shared → Prop} {t : Expr} {v : Value} {Q : Unit → Shared → Prop} (ho : s.heap.get? it = some o) (hc : o.cls = .type n)
    (hn : ["enumerate", "zip", "dict_itemiterator", "dict_reverseitemiterator", "odict_iterator", "itertools.zip_longest", "itertools.pairwise"].contains n = false) (h : Q () s) :
    wpAny (model B.prog B.w) A (letOwnedTupleGo t (.ref it) v) Q E s := by
  have key : wpAny (model B.prog B.w) A (do
      let (.ref r, .ref a) := (Value.ref it, v) | return
      let o ← load r
      match o.cls, o.data with
      | .type n, .fields vs =>
        if ["enumerate", "zip", "dict_itemiterator", "dict_reverseitemiterator", "odict_iterator", "itertools.zip_longest", "itertools.pairwise"].contains n && vs[0]? == some (rawInt a) then
          rule "for.unpacks-the-owned-tuple"
          updateField r 0 .none
      | _, _ => pure ()) Q E s := by
    cases v with
    | ref a =>
      refine wpAny_bind (wpAny_load ho ?_)
      rw [hc]
      cases o.data with
      | fields vs =>
        dsimp only
        rw [hn, Bool.false_and, if_neg (by decide)]
        exact wpAny_pure h
      | _ => exact wpAny_pure h
    | _ => exact wpAny_pure h
  cases t <;> first | exact key | exact wpAny_pure h
theorem wlk_of {I : Addr} {fp : List Addr} {n : Nat} {P : Nat → Value → Prop} {St : Nat → Heap → Prop} {cn : String} {xs : List PV} {El : Shared → List Addr → List Addr → Prop} (O : B.Ok) {A₀ : Around} (hA₀ : A₀.handled = none)
    (W : ∀ A : Around, A.handled = none → Walks B.prog B.w A I fp [I] n P St) (hb : B.b₀.get? I = none) (hn : n = xs.length)
    (hIo : ∀ i h, St i h → ∃ o, h.get? I = some o ∧ o.cls = .type cn)
    (hcn : cn ≠ "code" ∧ ["enumerate", "zip", "dict_itemiterator", "dict_reverseitemiterator", "odict_iterator", "itertools.zip_longest", "itertools.pairwise"].contains cn = false)
    (hcls : ∀ i h b o, St i h → b ∈ fp → h.get? b = some o → o.cls ≠ .none)
    (hP : ∀ i v x s s' S as, P i v → xs[i]? = some x → El s S as → Inv B s → Kg B [I] [] s s' → Apart s.heap S as [I] → VR s'.heap S as x v)
    (hEl : ∀ (s s' : Shared) (S as Y : List Addr) (G' : List Nat), Inv B s → El s S as → Kg B Y G' s s' → Apart s.heap S as Y → El s' S as)
    (hElG : ∀ (s : Shared) (S as : List Addr) (a : Addr), El s S as → s.heap.get? a = none → El s S (as ++ [a]))
    (hElS : ∀ (s : Shared) (S as : List Addr) (a : Addr), El s S as → s.heap.get? a = none → El s (a :: S) as)
    (hcn' : cn ≠ "tuple" ∧ cn ≠ "list" ∧ cn ≠ "range" ∧ cn ≠ "builtin_function_or_method") :
    Wlk B d (.ref I) [I] fp [] xs (fun i s => i ≤ n ∧ St i s.heap) El where
  next := fun i s S as A E hA hI hS has ⟨hle, hst⟩ hel => by
    have ap : Apart s.heap S as [I] := fun a ha o ho => by
      obtain ⟨o', e, hc⟩ := hIo i _ hst
      rw [List.mem_singleton.mp ha, e] at ho; cases ho
      exact .inl ⟨.inl fun h => hcn'.1 (by rw [hc] at h; injection h), .inl fun h => hcn'.2.1 (by rw [hc] at h; injection h), .inl fun h => hcn'.2.2.1 (by rw [hc] at h; injection h), .inl fun h => hcn'.2.2.2 (by rw [hc] at h; injection h)⟩
    have kq : ∀ h' tk, (∀ b o, b ∉ [I] → s.heap.get? b = some o → h'.get? b = some o) → 1 ≤ tk → Kq B [I] s { s with heap := h', toks := tk } := fun h' tk hk ht =>
      Kq.at O hI ht (fun b o hb e => hk b o (by simpa using hb) e) (fun o e p => by
        obtain ⟨o', e', hc⟩ := hIo i _ hst
        rw [e] at e'; cases e'
        rcases p.1 with q | q
        · rw [hc] at q; exact hcn.1 (by injection q)
        · rw [hc] at q; cases q) hb
    by_cases hi : i < n
    · refine wpAny_tk hI ((W A hA.handled).item i s _ E hi hst fun v h' tk hp hst' hk ht => ?_)
      refine ⟨kq h' tk hk ht, ?_⟩
      rw [List.getElem?_eq_getElem (hn ▸ hi)]
      exact ⟨v, rfl, ⟨hi, hst'⟩, hP i v _ s _ S as hp (List.getElem?_eq_getElem (hn ▸ hi)) hel hI (kq h' tk hk ht) ap⟩
    · obtain rfl : i = n := Nat.le_antisymm hle (Nat.not_lt.mp hi)
      refine wpAny_tk hI ((W A hA.handled).done s _ E hst fun h' tk hk ht => ?_)
      refine ⟨kq h' tk hk ht, ?_⟩
      rw [List.getElem?_eq_none (by omega)]
  frame := fun i s s' Y G' hI ⟨hle, hst⟩ k hY _ => ⟨hle, (W A₀ hA₀).frame i _ _ hst fun b hb o e => k.keep b o (hI.neT O e (.inl (hcls i _ b o hst hb e))) (hY b hb) e⟩
  go := fun i s A E t v Q ⟨_, hst⟩ h => by
    obtain ⟨o, e, hc⟩ := hIo i _ hst
    exact letGo e hc hcn.2 h
  self := fun s A E Q hA ⟨_, hst⟩ h => (W A hA.handled).self 0 s Q E hst h
  there := fun i s ⟨_, hst⟩ a ha h => by
    obtain ⟨o', e, hc⟩ := hIo i _ hst
    rw [List.mem_singleton.mp ha, e] at h; cases h
  ap := fun i s ⟨_, hst⟩ a ha o ho => by
    obtain ⟨o', e, hc⟩ := hIo i _ hst
    rw [List.mem_singleton.mp ha, e] at ho; cases ho
    exact ⟨.inl fun h => hcn'.1 (by rw [hc] at h; injection h), .inl fun h => hcn'.2.1 (by rw [hc] at h; injection h), .inl fun h => hcn'.2.2.1 (by rw [hc] at h; injection h), .inl fun h => hcn'.2.2.2 (by rw [hc] at h; injection h)⟩
  elF := hEl
  elG := hElG
  elS := hElS
def FpOk (s : Shared) (S as fp : List Addr) : Prop := ∀ b ∈ fp, s.heap.get? b = none ∨ ∃ o, s.heap.get? b = some o ∧ b ∉ S ∧ b ∉ as ∧ (o.cls = .type "list" ∨ o.cls = .type "tuple") ∧ ∃ x n, o.data = .seq x n
theorem fresh_none (h : Heap) : h.get? h.objs.size = none := by
  cases e : h.get? h.objs.size with
  | none => rfl
  | some o => exact absurd (Heap.lt_size e) (Nat.lt_irrefl _)
theorem seq_el {xs : List PV} {vs : List Value} (O : B.Ok) : (∀ (s s' : Shared) (S as Y : List Addr) (G' : List Nat), Inv B s → VRs s.heap S as xs vs → Kg B Y G' s s' → Apart s.heap S as Y → VRs s'.heap S as xs vs) ∧
    (∀ (s : Shared) (S as : List Addr) (a : Addr), VRs s.heap S as xs vs → s.heap.get? a = none → VRs s.heap S (as ++ [a]) xs vs) ∧
    (∀ (s : Shared) (S as : List Addr) (a : Addr), VRs s.heap S as xs vs → s.heap.get? a = none → VRs s.heap (a :: S) as xs vs) :=
  ⟨fun s s' S as Y G' I r k ap => VRs.monoX (k.up O I) ap r, fun s S as a r h => VRs.grow h r, fun s S as a r h => VRs.freshS h r⟩
theorem range_small {a b : Int} (hl : -1000000 ≤ a ∧ a ≤ 1000000 ∧ -1000000 ≤ b ∧ b ≤ 1000000) (hn : Builtin.Range.rangeSize a b 1 = (((b - a).toNat : Nat) : Int)) : Builtin.Range.small a b 1 = true := by
  unfold Builtin.Range.small Builtin.Range.rangeFitsLong
  rw [hn]
  simp
  omega
def Src (h : Heap) (S as ac : List Addr) (u : PV) (v : Value) : Prop := match u with
  | .lst xs => ∃ a vs, v = .ref a ∧ a ∉ S ∧ a ∉ ac ∧ h.IsList a vs ∧ vs.size ≤ sizeLine ∧ VRs h S as xs vs.toList
  | .tup xs => ∃ a vs, v = .ref a ∧ a ∉ S ∧ a ∉ ac ∧ IsTup h a vs ∧ vs.size ≤ sizeLine ∧ VRs h S as xs vs.toList
  | .rng a b => ∃ r, v = .ref r ∧ IsRng h r a b
  | _ => False
theorem Src.of_vr {h : Heap} {S as : List Addr} {u : PV} {v : Value} {xs : List PV} (r : VR h S as u v) (hi : itemsP u = some xs) : Src h S as as u v := by
  cases u <;> first | exact r | cases hi
theorem Src.of_frz {c : Cx} {env : Env} {S as : List Addr} {V K : Vs} {H : Hs} {s : Shared} (F : FR B c env S as V K H s) {u w : PV} {v : Value} {xs : List PV} (r : VR s.heap S as w v) (hf : frz1 H w = some u) (hi : itemsP u = some xs) : Src s.heap S as [] u v := by
  unfold frz1 at hf
  split at hf
  · rename_i l
    split at hf
    · rename_i xs hx
      split at hf
      · cases hf
        obtain ⟨a, ha, rfl⟩ := r
        obtain ⟨vs, pl, hz, hr⟩ := F.own l a _ ha hx
        exact ⟨a, vs, rfl, F.disj a (List.mem_of_getElem? ha), by simp, pl.isList, hz, hr⟩
      · cases hf
    · cases hf
  · split at hf
    · cases hf
      cases u with
      | lst ys => obtain ⟨a, vs, e, h1, h2, h3⟩ := r; exact ⟨a, vs, e, h1, by simp, h3⟩
      | tup ys => obtain ⟨a, vs, e, h1, h2, h3⟩ := r; exact ⟨a, vs, e, h1, by simp, h3⟩
      | rng a b => exact r
      | _ => cases hi
    · cases hf
theorem iter_sound (O : B.Ok) {s : Shared} {S as ac : List Addr} {u : PV} {val : Value} {xs : List PV} {A : Around} {E : Value → Shared → Prop} (I : Inv B s) (hA : AOk d A) (r : Src s.heap S as ac u val) (h : itemsP u = some xs) :
    wpAny (model B.prog B.w) A (pyIter val) (fun it s' => ∃ I fp St El, it = .ref I ∧ s.heap.get? I = none ∧ Wlk B d it [I] fp [] xs St El ∧ St 0 s' ∧ El s' S as ∧ Kp B s s' ∧ FpOk s S ac fp ∧ I ∈ fp ∧ (∀ b ∈ fp, s'.heap.get? b ≠ none) ∧ xs.length ≤ sizeLine) E s := by
  have hb : B.b₀.get? s.heap.objs.size = none := by
    cases e : B.b₀.get? s.heap.objs.size with
    | none => rfl
    | some o => rw [← fresh_none s.heap, I.base _ _ e]
  cases u with
  | lst ys =>
    cases h
    obtain ⟨a, vs, rfl, h1, h2, hl, hz, hr⟩ := r
    have hlt : a < s.heap.objs.size := by obtain ⟨o, e, _⟩ := hl; exact Heap.lt_size e
    refine wpAny_pyIter_list hl ?_
    have kp := Kp.push (s := s) (o := { cls := .type "list_iterator", data := .fields #[.ref a, .int 0 0] }) O I
    refine ⟨s.heap.objs.size, [s.heap.objs.size, a], _, fun s S as => VRs s.heap S as xs vs.toList, rfl, fresh_none _,
      wlk_of (cn := "list_iterator") O hA.handled (fun A hh => Walks.list hh s.heap.objs.size a (Nat.ne_of_lt hlt) vs) hb (by rw [← hr.length]; simp) (fun i h st => let ⟨o, e, hc, _⟩ := st.1; ⟨o, e, hc⟩) (by decide) ?_ ?_ (seq_el O).1 (seq_el O).2.1 (seq_el O).2.2 (by decide), ⟨Nat.zero_le _, ⟨_, Heap.get?_push_size _ rfl, rfl, rfl⟩, hl.push _⟩, VRs.mono (fun b o e _ => Heap.get?_push_of_some _ e) hr, kp, ?_, List.mem_cons_self, fun b hb => by
        obtain ⟨o, e, _⟩ := hl
        rcases List.mem_cons.mp hb with rfl | hb
        · show (s.heap.push _).get? _ ≠ none
          rw [Heap.get?_push_size _ rfl]; nofun
        · rw [List.mem_singleton.mp hb]
          show (s.heap.push _).get? _ ≠ none
          rw [Heap.get?_push_of_some _ e]; nofun, by rw [← hr.length]; simpa using hz⟩
    · intro i h b o st hm e
      rcases List.mem_cons.mp hm with rfl | hm
      · obtain ⟨o', e', hc, _⟩ := st.1; rw [e] at e'; cases e'; rw [hc]; nofun
      · rw [List.mem_singleton.mp hm] at e
        obtain ⟨o', e', hc, _⟩ := st.2; rw [e] at e'; cases e'; rw [hc]; nofun
    · intro i v x s₁ s₂ S' as' hp hx hel I₁ k ap
      obtain ⟨v', hv, r'⟩ := VRs.get (VRs.monoX (k.up O I₁) ap hel) hx
      rw [show vs.toList[i]? = some v by simpa using hp] at hv
      cases hv; exact r'
    · intro b hm
      rcases List.mem_cons.mp hm with rfl | hm
      · exact .inl (fresh_none _)
      · rw [List.mem_singleton.mp hm]
        obtain ⟨o, e, hc, n, hd⟩ := hl
        exact .inr ⟨o, e, h1, h2, .inl hc, _, n, hd⟩
  | tup ys =>
    cases h
    obtain ⟨a, vs, rfl, h1, h2, hl, hz, hr⟩ := r
    have hl : s.heap.IsTuple a vs := hl
    have hlt : a < s.heap.objs.size := by obtain ⟨o, e, _⟩ := hl; exact Heap.lt_size e
    refine wpAny_pyIter_tuple hl ?_
    have kp := Kp.push (s := s) (o := { cls := .type "tuple_iterator", data := .fields #[.ref a, .int 0 0] }) O I
    refine ⟨s.heap.objs.size, [s.heap.objs.size, a], _, fun s S as => VRs s.heap S as xs vs.toList, rfl, fresh_none _,
      wlk_of (cn := "tuple_iterator") O hA.handled (fun A hh => Walks.tuple hh s.heap.objs.size a (Nat.ne_of_lt hlt) vs) hb (by rw [← hr.length]; simp) (fun i h st => let ⟨o, e, hc, _⟩ := st.1; ⟨o, e, hc⟩) (by decide) ?_ ?_ (seq_el O).1 (seq_el O).2.1 (seq_el O).2.2 (by decide), ⟨Nat.zero_le _, ⟨_, Heap.get?_push_size _ rfl, rfl, rfl⟩, hl.push _⟩, VRs.mono (fun b o e _ => Heap.get?_push_of_some _ e) hr, kp, ?_, List.mem_cons_self, fun b hb => by
        obtain ⟨o, e, _⟩ := hl
        rcases List.mem_cons.mp hb with rfl | hb
        · show (s.heap.push _).get? _ ≠ none
          rw [Heap.get?_push_size _ rfl]; nofun
        · rw [List.mem_singleton.mp hb]
          show (s.heap.push _).get? _ ≠ none
          rw [Heap.get?_push_of_some _ e]; nofun, by rw [← hr.length]; simpa using hz⟩
    · intro i h b o st hm e
      rcases List.mem_cons.mp hm with rfl | hm
      · obtain ⟨o', e', hc, _⟩ := st.1; rw [e] at e'; cases e'; rw [hc]; nofun
      · rw [List.mem_singleton.mp hm] at e
        obtain ⟨o', e', hc, _⟩ := st.2; rw [e] at e'; cases e'; rw [hc]; nofun
    · intro i v x s₁ s₂ S' as' hp hx hel I₁ k ap
      obtain ⟨v', hv, r'⟩ := VRs.get (VRs.monoX (k.up O I₁) ap hel) hx
      rw [show vs.toList[i]? = some v by simpa using hp] at hv
      cases hv; exact r'
    · intro b hm
      rcases List.mem_cons.mp hm with rfl | hm
      · exact .inl (fresh_none _)
      · rw [List.mem_singleton.mp hm]
        obtain ⟨o, e, hc, n, hd⟩ := hl
        exact .inr ⟨o, e, h1, h2, .inr hc, _, n, hd⟩
  | rng a b =>
    obtain ⟨r, rfl, t, u, z, hr⟩ := r
    change (if _ then _ else _) = _ at h
    split at h
    · rename_i hlim
      cases h
      have hn : Builtin.Range.rangeSize a b 1 = (((b - a).toNat : Nat) : Int) := by
        unfold Builtin.Range.rangeSize
        simp only [show (1 : Int) > 0 by decide, if_true, Int.ediv_one]
        split <;> omega
      refine wpAny_pyIter_range hr (range_small hlim hn) ?_
      rw [hn]
      have kp := Kp.push (s := s) (o := { cls := .type "range_iterator", data := .fields #[rawInt a, rawInt (((b - a).toNat : Nat) : Int), rawInt 1] }) O I
      refine ⟨s.heap.objs.size, [s.heap.objs.size], _, fun s S as => True, rfl, fresh_none _,
        wlk_of (cn := "range_iterator") O hA.handled (fun A hh => LCg.range_walks hh a (b - a).toNat) hb (by simp) (fun i h st => ⟨_, st, rfl⟩) (by decide) ?_ ?_ (fun _ _ _ _ _ _ _ _ _ _ => trivial) (fun _ _ _ _ _ _ => trivial) (fun _ _ _ _ _ _ => trivial) (by decide), ⟨Nat.zero_le _, ?_⟩, trivial, kp, ?_, List.mem_cons_self, fun b hb => by
          rw [List.mem_singleton.mp hb]
          show (s.heap.push _).get? _ ≠ none
          rw [Heap.get?_push_size _ rfl]; nofun, ?_⟩
      · intro i h b o st hm e
        rw [List.mem_singleton.mp hm] at e
        have st' : h.get? s.heap.objs.size = some _ := st
        rw [e] at st'; cases st'; nofun
      · intro i v x s₁ s₂ S' as' hp hx hel I₁ k ap
        obtain ⟨t, rfl⟩ := hp
        obtain ⟨hi, rfl⟩ := List.getElem?_eq_some_iff.mp hx
        simp only [List.getElem_map, List.getElem_range]
        exact ⟨t, rfl⟩
      · show IsRangeIter _ _ _ _ _
        simpa using Heap.get?_push_size _ rfl
      · intro b hm
        rw [List.mem_singleton.mp hm]
        exact .inl (fresh_none _)
      · simp only [List.length_map, List.length_range]
        rw [sizeLine_eq]; omega
    · cases h
  | _ => cases h
end Mine
namespace Mine
variable {B : BW} {Ω : Om} {d : Nat}
section
variable {c : Cx} {env : Env} {S as X : List Addr} {G : List Nat} {V V' K K' : Vs} {H : Hs} {s s' : Shared} {A : Around} {E : Value → Shared → Prop}
structure Off (c : Cx) (env : Env) (S as X : List Addr) : Prop where
  loc : env.locals ∉ X
  cel : ∀ x ∈ c.ck, ∀ a, env.cells.lookup x = some a → a ∉ X
  S : ∀ a ∈ S, a ∉ X
  as : ∀ a ∈ as, a ∉ X
theorem FR.off (O : B.Ok) (F : FR B c env S as V K H s) (k : Kg B X G s s') (ap : ∀ a ∈ X, ∀ o, s.heap.get? a = some o → NotVR o) (o : Off c env S as X) : FR B c env S as V K H s' :=
  have ap' : Apart s.heap S as X := fun a ha o ho => .inl (ap a ha o ho)
  F.kq O k ap' o.S o.as (F.locKq O k ap' o.loc) (F.celKq O k ap' o.cel)
theorem FR.offOf (F : FR B c env S as V K H s) (hE : EnvOk c env) (h : ∀ a ∈ X, s.heap.get? a = none) : Off c env S as X where
  loc := fun hm => by
    obtain ⟨o, x, n, e, _⟩ := F.locDict
    rw [h _ hm] at e; cases e
  cel := fun x hx a ha hm => by
    obtain ⟨o, v, e, _⟩ := F.celCell hx ha (hE.celn x hx)
    rw [h _ hm] at e; cases e
  S := fun a ha hm => by
    obtain ⟨vs, n, e⟩ := F.held a ha
    rw [h _ hm] at e; cases e
  as := fun a ha hm => by
    obtain ⟨vs, n, e⟩ := F.heldAs a ha
    rw [h _ hm] at e; cases e
theorem FR.weakV (F : FR B c env S as V K H s) (h : ∀ (i : Nat) (pv : PV), V'[i]? = some (some pv) → V[i]? = some (some pv)) : FR B c env S as V' K H s :=
  { F with loc := let ⟨m, n, g⟩ := F.loc; ⟨m, n, fun i x pv hx hv => g i x pv hx (h i pv hv)⟩ }
theorem lookup_map_kind {g : Str → NameKind → NameKind} : ∀ {l : List (Str × NameKind)} {x : Str}, (l.map fun p => (p.1, g p.1 p.2)).lookup x = (l.lookup x).map (g x)
  | [], x => rfl
  | (n, k) :: r, x => by
    rw [List.map_cons, List.lookup_cons, List.lookup_cons]
    cases hx : x == n with
    | true => simp only [hx]; rw [eq_of_beq hx]; rfl
    | false => simp only [hx]; exact lookup_map_kind
theorem kindOf_relabel {sc : Scope} {cl : List (Str × Addr)} {C : Addr} {x : Str} : (compEnvC sc cl C env).kindOf x = (sc.names.lookup x).map fun k => if (k == .free && env.scope.kind == .function && env.kindOf x == some .cell) then .cell else k := by
  show (List.map _ sc.names).lookup x = _
  rw [← lookup_map_kind (g := fun n k => if (k == .free && env.scope.kind == .function && env.kindOf n == some .cell) then .cell else k)]
  congr 1
  apply List.map_congr_left
  rintro ⟨n, k⟩ _
  dsimp only
  split <;> rfl
structure ScOk (c : Cx) (ns : List Str) (sc : Scope) : Prop where
  kind : sc.kind = .function
  loc : ∀ n ∈ ns, sc.names.lookup n = some .local
  all : ∀ p ∈ sc.names, p.2 = .local ∨ p.2 = .globalImplicit ∨ (p.2 = .free ∧ p.1 ∈ c.ck)
  look : ∀ p ∈ sc.names, sc.names.lookup p.1 = some p.2
  nodup : ns.Nodup
theorem scopeIs_ok {ns : List Str} {sc : Scope} (h : scopeIs c ns sc = true) : ScOk c ns sc := by
  unfold scopeIs at h
  simp only [Bool.and_eq_true, decide_eq_true_eq] at h
  obtain ⟨⟨⟨⟨⟨⟨⟨⟨h1, h2⟩, h3⟩, h4⟩, _⟩, _⟩, h5⟩, _⟩, _⟩ := h
  refine ⟨eq_of_beq h1, fun n hn => eq_of_beq (List.all_eq_true.mp h2 n hn), fun p hp => ?_, fun p hp => eq_of_beq (List.all_eq_true.mp h4 p hp), h5⟩
  have := List.all_eq_true.mp h3 p hp
  simp only [Bool.or_eq_true, Bool.and_eq_true] at this
  rcases this with (q | q) | ⟨q, r⟩
  · exact .inl (eq_of_beq q)
  · exact .inr (.inl (eq_of_beq q))
  · exact .inr (.inr ⟨eq_of_beq q, by simpa using r⟩)
theorem closure_go : ∀ (l : List (Str × NameKind)) (acc : List (Str × Addr)), (∀ p ∈ l, p.2 = .free → ∃ a, env.cells.lookup p.1 = some a) →
    ∃ cl, (forIn l acc (fun (x : Str × NameKind) r => do
      if (x.2 == NameKind.free) = true then do let a ← cellOf env x.1; pure (ForInStep.yield ((x.1, a) :: r)) else pure (ForInStep.yield r)) : Sem _) = pure cl ∧
      (∀ q ∈ cl, q ∈ acc ∨ env.cells.lookup q.1 = some q.2) ∧ (∀ q ∈ acc, q ∈ cl) ∧ ∀ p ∈ l, p.2 = .free → ∃ a, (p.1, a) ∈ cl
  | [], acc, _ => ⟨acc, rfl, fun q hq => .inl hq, fun q hq => hq, fun p hp => by cases hp⟩
  | (n, k) :: l, acc, h => by
    rw [List.forIn_cons]
    by_cases hk : k = .free
    · obtain ⟨a, ha⟩ := h (n, k) List.mem_cons_self hk
      obtain ⟨cl, e, h1, h2, h3⟩ := closure_go l ((n, a) :: acc) fun p hp => h p (List.mem_cons_of_mem _ hp)
      refine ⟨cl, ?_, fun q hq => ?_, fun q hq => h2 q (List.mem_cons_of_mem _ hq), fun p hp hf => ?_⟩
      · simp only [hk, beq_self_eq_true, if_true]
        unfold cellOf
        rw [ha]
        exact e
      · rcases h1 q hq with q' | q'
        · rcases List.mem_cons.mp q' with rfl | q'
          · exact .inr ha
          · exact .inl q'
        · exact .inr q'
      · rcases List.mem_cons.mp hp with rfl | hp
        · exact ⟨a, h2 _ List.mem_cons_self⟩
        · exact h3 p hp hf
    · obtain ⟨cl, e, h1, h2, h3⟩ := closure_go l acc fun p hp => h p (List.mem_cons_of_mem _ hp)
      refine ⟨cl, ?_, h1, h2, fun p hp hf => ?_⟩
      · have : (k == NameKind.free) = false := by simpa using hk
        simp only [this, Bool.false_eq_true, if_false]
        exact e
      · rcases List.mem_cons.mp hp with rfl | hp
        · exact absurd hf hk
        · exact h3 p hp hf
theorem lookup_of_mem {cl : List (Str × Addr)} (h : ∀ q ∈ cl, env.cells.lookup q.1 = some q.2) {x : Str} {a : Addr} (hm : (x, a) ∈ cl) : cl.lookup x = env.cells.lookup x := by
  induction cl with
  | nil => cases hm
  | cons q r ih =>
    obtain ⟨y, b⟩ := q
    rw [List.lookup_cons]
    cases hx : x == y with
    | true => simp only []; rw [eq_of_beq hx]; exact (h _ List.mem_cons_self).symm
    | false =>
      simp only []
      refine ih (fun q hq => h q (List.mem_cons_of_mem _ hq)) ?_
      rcases List.mem_cons.mp hm with e | hm
      · cases e; simp at hx
      · exact hm
theorem closure_ok (hE : EnvOk c env) (F : FR B c env S as V K H s) {ns : List Str} {sc : Scope} (h : ScOk c ns sc) :
    ∃ cl, closureFor sc env = pure cl ∧ ∀ x ∈ (inner c ns sc).ck, cl.lookup x = env.cells.lookup x := by
  have hc : ∀ p ∈ sc.names, p.2 = .free → ∃ a, env.cells.lookup p.1 = some a := fun p hp hf => by
    rcases h.all p hp with q | q | ⟨_, q⟩
    · rw [q] at hf; cases hf
    · rw [q] at hf; cases hf
    · obtain ⟨j, hj⟩ := hE.celn _ q
      obtain ⟨a, v, hl, _⟩ := F.cel j _ hj q
      exact ⟨a, hl⟩
  obtain ⟨cl, e, h1, h2, h3⟩ := closure_go sc.names [] hc
  refine ⟨cl, ?_, fun x hx => ?_⟩
  · unfold closureFor
    rw [← e]
    simp only [bind_pure]
  · obtain ⟨p, hp, rfl⟩ := List.mem_map.mp hx
    obtain ⟨hp1, hp2⟩ := List.mem_filter.mp hp
    obtain ⟨a, ha⟩ := h3 p hp1 (eq_of_beq hp2)
    exact lookup_of_mem (fun q hq => (h1 q hq).elim (fun z => by cases z) id) ha
theorem inner_ck {ns : List Str} {sc : Scope} (h : ScOk c ns sc) : ∀ x ∈ (inner c ns sc).ck, x ∈ c.ck ∧ sc.names.lookup x = some .free := fun x hx => by
  obtain ⟨p, hp, rfl⟩ := List.mem_map.mp hx
  obtain ⟨hp1, hp2⟩ := List.mem_filter.mp hp
  refine ⟨?_, by rw [h.look p hp1, eq_of_beq hp2]⟩
  rcases h.all p hp1 with q | q | ⟨_, q⟩
  · rw [q] at hp2; cases hp2
  · rw [q] at hp2; cases hp2
  · exact q
theorem inner_env (hE : EnvOk c env) {ns : List Str} {sc : Scope} (h : ScOk c ns sc) {cl : List (Str × Addr)} (hcl : ∀ x ∈ (inner c ns sc).ck, cl.lookup x = env.cells.lookup x) (C : Addr) : EnvOk (inner c ns sc) (compEnvC sc cl C env) where
  code := fun a h => by cases h
  kind := h.kind
  glob := hE.glob
  bi := hE.bi
  loc := fun i x hx => by rw [kindOf_relabel, h.loc x (List.mem_of_getElem? hx)]; rfl
  cel := fun x hx => by
    obtain ⟨h1, h2⟩ := inner_ck h x hx
    rw [kindOf_relabel, h2, Option.map_some, hE.kind, hE.cel x h1]; rfl
  gn := fun x hx => by
    obtain ⟨p, hp, rfl⟩ := List.mem_map.mp hx
    obtain ⟨hp1, hp2⟩ := List.mem_filter.mp hp
    rw [kindOf_relabel, h.look p hp1, eq_of_beq hp2]; rfl
  nodup := h.nodup
  cdup := hE.cdup
  celn := fun x hx => hE.celn x (inner_ck h x hx).1
  cinj := fun x hx y hy a h1 h2 => hE.cinj x (inner_ck h x hx).1 y (inner_ck h y hy).1 a ((hcl x hx).symm.trans h1) ((hcl y hy).symm.trans h2)
end
end Mine
namespace Mine
variable {B : BW} {Ω : Om} {d : Nat}
def turnOf (e : Expr) (depth : Nat) (target iter : Expr) (it acc : Value) (env : Env) (body : Sem Unit) : Sem Fin := do
      standAt iter.pos
      match ← pyNext it with
      | none => pure (.done .next)
      | some v =>
        letOwnedTupleGo target it v
        assign target env v
        let mut ok := true
        for c in ([] : List Expr) do
          if ok then ok ← isTrue c env (eval c env)
        if ok then
          body
        again (.compLoop e depth it acc env)
theorem turn_one (elt target iter : Expr) (scope : Scope) (pos : Pos) (it acc : Value) (env : Env) :
    compTurn (.ListComp elt [⟨target, iter, [], 0⟩] scope pos) 0 it acc env = turnOf (.ListComp elt [⟨target, iter, [], 0⟩] scope pos) 0 target iter it acc env (do let _ ← call (.builtin "list.append") [acc, ← eval elt env]) := by rfl
theorem turn_two0 (elt target iter target₂ iter₂ : Expr) (scope : Scope) (pos : Pos) (it acc : Value) (env : Env) :
    compTurn (.ListComp elt [⟨target, iter, [], 0⟩, ⟨target₂, iter₂, [], 0⟩] scope pos) 0 it acc env = turnOf (.ListComp elt [⟨target, iter, [], 0⟩, ⟨target₂, iter₂, [], 0⟩] scope pos) 0 target iter it acc env (do
      let x ← eval iter₂ env
      standAt iter₂.pos
      let x ← foldedSetIterable iter₂ env x
      let _ ← runOwn (.compStart (.ListComp elt [⟨target, iter, [], 0⟩, ⟨target₂, iter₂, [], 0⟩] scope pos) 1 (← holding [x] (pyIter x)) acc env) env) := by
  unfold compTurn turnOf
  simp only [List.getElem?_cons_zero, List.getElem?_cons_succ, List.forIn_nil, bind_assoc, pure_bind, if_true, bne_self_eq_false, Bool.false_eq_true, if_false]
  rfl
theorem turn_two1 (elt target iter target₂ iter₂ : Expr) (scope : Scope) (pos : Pos) (it acc : Value) (env : Env) :
    compTurn (.ListComp elt [⟨target, iter, [], 0⟩, ⟨target₂, iter₂, [], 0⟩] scope pos) 1 it acc env = turnOf (.ListComp elt [⟨target, iter, [], 0⟩, ⟨target₂, iter₂, [], 0⟩] scope pos) 1 target₂ iter₂ it acc env (do let _ ← call (.builtin "list.append") [acc, ← eval elt env]) := by rfl
section
variable {A : Around} {R : Result → Shared → Prop} {s : Shared}
theorem loop_rule {e elt : Expr} {gens : List Comprehension} {scope : Scope} {pos : Pos} (he : e = .ListComp elt gens scope pos) {depth : Nat} {target iter : Expr} {it acc : Value} {env : Env} {body : Sem Unit} (hturn : compTurn e depth it acc env = turnOf e depth target iter it acc env body) (I : Nat → Shared → Prop)
    (turn : ∀ n s E, I n s → wpAny (model B.prog B.w) A (pyNext it) (fun r s₁ => match r with
      | none => R (.ok .next) s₁
      | some v => wpAny (model B.prog B.w) A (letOwnedTupleGo target it v) (fun _ s₁' => wpAny (model B.prog B.w) A (assign target env v) (fun _ s₂ =>
          wpAny (model B.prog B.w) A body (fun _ s₅ => ∃ m, m < n ∧ I m s₅) E s₂) E s₁') E s₁) E s)
    (n : Nat) (h : I n s) : codeAny (model B.prog B.w) A (.compLoop e depth it acc env) R s := by
  subst he
  refine codeAny_loop rfl I (fun n s hI => ?_) n h
  show wpAny _ A ((compTurn (.ListComp elt gens scope pos) depth it acc env).onRaise (fun x => do noteFrame x env; theTreesLotGoes x)) _ _ s
  refine wpAny_noted ?_
  rw [hturn]
  unfold turnOf
  refine wpAny_bind (wpAny_standAt (wpAny_bind (wpAny_mono (turn n s _ hI) (fun r s₁ h₁ => ?_) fun _ _ h' => h')))
  cases r with
  | none => exact wpAny_pure h₁
  | some v =>
    refine wpAny_bind (wpAny_mono h₁ (fun _ s₁' h₁' => ?_) fun _ _ h' => h')
    refine wpAny_bind (wpAny_mono h₁' (fun _ s₂ h₂ => wpAny_bind (wpAny_tests_nil ?_)) fun _ _ h' => h')
    exact wpAny_bind (wpAny_mono h₂ (fun _ s₅ h₅ => wpAny_pure ⟨rfl, h₅⟩) fun _ _ h' => h')
end
def Runs (F : PV → Option (List PV)) : List PV → List PV → Prop
  | [], os => os = []
  | x :: xs, os => ∃ o r, F x = some o ∧ Runs F xs r ∧ os = o ++ r
theorem Runs.of_map {f : PV → Option (List PV)} : ∀ {xs : List PV} {oss : List (List PV)}, mapO f xs = some oss → Runs f xs oss.flatten
  | [], oss, h => by cases h; rfl
  | x :: xs, oss, h => by
    unfold mapO at h
    split at h
    · rename_i y ys h1 h2
      cases h
      exact ⟨y, ys.flatten, h1, Runs.of_map h2, rfl⟩
    · cases h
theorem Runs.of_map1 {f : PV → Option PV} : ∀ {xs : List PV} {os : List PV}, mapO f xs = some os → Runs (fun x => (f x).map fun y => [y]) xs os
  | [], oss, h => by cases h; rfl
  | x :: xs, oss, h => by
    unfold mapO at h
    split at h
    · rename_i y ys h1 h2
      cases h
      exact ⟨[y], ys, by show (f x).map _ = _; rw [h1]; rfl, Runs.of_map1 h2, rfl⟩
    · cases h
section
variable {c : Cx} {env : Env} {S as X : List Addr} {G : List Nat} {V V' K K' : Vs} {H : Hs} {s s' : Shared} {A : Around} {E : Value → Shared → Prop}
theorem comp_loop (O : B.Ok) (hE : EnvOk c env) (hA : AOk d A) {e elt : Expr} {gens : List Comprehension} {scope : Scope} {pos : Pos} (he : e = .ListComp elt gens scope pos) {depth : Nat} {target iter : Expr} {D : Addr} {body : Sem Unit} (hturn : ∀ it, compTurn e depth it (.ref D) env = turnOf e depth target iter it (.ref D) env body)
    {t : Tgt} (htgt : tgtIs c.nm t target = true) {V₀ : Vs} {F : PV → Option (List PV)} {I : Addr} {fp : List Addr} {xs : List PV} {St : Nat → Shared → Prop} {El : Shared → List Addr → List Addr → Prop} (W : Wlk B d (.ref I) [I] fp [] xs St El)
    (hbind : ∀ x o, F x = some o → ∃ V₁, bindT t x V₀ = some V₁ ∧ ∀ (i : Nat) (pv : PV), V₀[i]? = some (some pv) → V₁[i]? = some (some pv))
    (hbody : ∀ x o V₁ s (ys : Array Value) (done : List PV) (E : Value → Shared → Prop), F x = some o → bindT t x V₀ = some V₁ → FR B c env S as V₁ K H s → s.heap.PlainList D ys → VRs s.heap S as done ys.toList → done.length + o.length ≤ sizeLine →
      wpAny (model B.prog B.w) A body (fun _ s' => ∃ ys', Kg B [env.locals, D] [] s s' ∧ FR B c env S as V₁ K H s' ∧ s'.heap.PlainList D ys' ∧ VRs s'.heap S as (done ++ o) ys'.toList) E s)
    (hD : D ∈ S) (hfp : ∀ b ∈ fp, b ≠ env.locals ∧ b ≠ D) (off : Off c env S as [I])
    {outs : List PV} (hruns : Runs F xs outs) {ys₀ : Array Value} {done₀ : List PV} (FR₀ : FR B c env S as V₀ K H s) (hP : s.heap.PlainList D ys₀) (hV : VRs s.heap S as done₀ ys₀.toList) (hsz : done₀.length + outs.length ≤ sizeLine) (hst : St 0 s) (hel : El s S as)
    {R : Result → Shared → Prop} (hR : ∀ s' (ys' : Array Value), Kg B [env.locals, D, I] [] s s' → FR B c env S as V₀ K H s' → s'.heap.PlainList D ys' → VRs s'.heap S as (done₀ ++ outs) ys'.toList → R (.ok .next) s') :
    codeAny (model B.prog B.w) A (.compLoop e depth (.ref I) (.ref D) env) R s := by
  refine loop_rule he (hturn (.ref I)) (fun n s' => ∃ i ys done rest, n = xs.length - i ∧ Kg B [env.locals, D, I] [] s s' ∧ FR B c env S as V₀ K H s' ∧ s'.heap.PlainList D ys ∧ VRs s'.heap S as done ys.toList ∧ done ++ rest = done₀ ++ outs ∧ Runs F (xs.drop i) rest ∧ St i s' ∧ El s' S as)
    (fun n s₁ E hI => ?_) xs.length ⟨0, ys₀, done₀, outs, rfl, (Kp.refl FR₀.inv).g, FR₀, hP, hV, rfl, by simpa using hruns, hst, hel⟩
  obtain ⟨i, ys, done, rest, rfl, k, F₁, hP₁, hV₁, hsum, hr, hst₁, hel₁⟩ := hI
  refine wpAny_mono (W.next i s₁ S as A E hA F₁.inv F₁.held F₁.heldAs hst₁ hel₁) (fun o s₂ ⟨k₂, h₂⟩ => ?_) fun _ _ e => e
  have apI : ∀ a ∈ [I], ∀ o, s₁.heap.get? a = some o → NotVR o := W.ap i s₁ hst₁
  have apI' : Apart s₁.heap S as [I] := fun a ha o ho => .inl (apI a ha o ho)
  have F₂ := F₁.off O k₂ apI off
  have hDI : D ∉ [I] := off.S D hD
  have hP₂ : s₂.heap.PlainList D ys := let ⟨n, e⟩ := hP₁; ⟨n, k₂.up O F₁.inv _ _ hDI e nofun⟩
  have hV₂ : VRs s₂.heap S as done ys.toList := VRs.monoX (k₂.up O F₁.inv) apI' hV₁
  have hel₂ := W.elF _ _ _ _ _ _ F₁.inv hel₁ k₂ apI'
  have m1 : ∀ a ∈ [I], a ∈ [env.locals, D, I] := by simp
  cases hx : xs[i]? with
  | none =>
    rw [hx] at h₂
    subst h₂
    have : xs.drop i = [] := List.drop_eq_nil_of_le (by simpa using hx)
    rw [this] at hr
    rw [show rest = [] from hr, List.append_nil] at hsum
    exact hR s₂ ys (k.trans (k₂.mono m1)) F₂ hP₂ (hsum ▸ hV₂)
  | some x =>
    rw [hx] at h₂
    obtain ⟨v, rfl, hst₂, hv⟩ := h₂
    obtain ⟨hi, hxe⟩ := List.getElem?_eq_some_iff.mp hx
    rw [List.drop_eq_getElem_cons hi, hxe] at hr
    obtain ⟨o, r, hF, hr', rfl⟩ := hr
    obtain ⟨V₁, hb, hmono⟩ := hbind x o hF
    refine W.go (i + 1) s₂ A E target v _ hst₂ ?_
    refine wpAny_mono (tgt_sound O hE hA.handled F₂ htgt hv hb) (fun _ s₃ ⟨k₃, F₃⟩ => ?_) fun _ _ e => e
    have hP₃ : s₃.heap.PlainList D ys := let ⟨n, e⟩ := hP₂; ⟨n, k₃.up O F₂.inv _ _ (by obtain ⟨o, x, n, e, hd⟩ := F₂.locDict; exact F₂.held.ne_dict e hd D hD) e nofun⟩
    have hV₃ := k₃.vrs O F₂ hV₂
    have hlen := congrArg List.length hsum
    simp only [List.length_append] at hlen
    refine wpAny_mono (hbody x o V₁ s₃ ys done E hF hb F₃ hP₃ hV₃ (by omega)) (fun _ s₄ ⟨ys', k₄, F₄, hP₄, hV₄⟩ => ?_) fun _ _ e => e
    have ap₄ : Apart s₃.heap S as [env.locals, D] := fun a ha o ho => by
      rcases List.mem_cons.mp ha with rfl | ha
      · exact F₃.apartLoc _ List.mem_cons_self o ho
      · rw [List.mem_singleton.mp ha] at ho ⊢
        obtain ⟨n, e⟩ := hP₃
        rw [e] at ho; cases ho
        exact .inr ⟨rfl, .inl hD⟩
    have fpL : ∀ b ∈ fp, b ∉ [env.locals] := fun b hb hm => (hfp b hb).1 (List.mem_singleton.mp hm)
    have fpLD : ∀ b ∈ fp, b ∉ [env.locals, D] := fun b hb hm => by
      rcases List.mem_cons.mp hm with q | q
      · exact (hfp b hb).1 q
      · exact (hfp b hb).2 (List.mem_singleton.mp q)
    have hst₃ := W.frame _ _ _ _ _ F₂.inv hst₂ k₃ fpL (by simp)
    have hst₄ := W.frame _ _ _ _ _ F₃.inv hst₃ k₄ fpLD (by simp)
    have hel₃ := W.elF _ _ _ _ _ _ F₂.inv hel₂ k₃ F₂.apartLoc
    have hel₄ := W.elF _ _ _ _ _ _ F₃.inv hel₃ k₄ ap₄
    exact ⟨xs.length - (i + 1), by omega, i + 1, ys', done ++ o, r, rfl, ((k.trans (k₂.mono m1)).trans (k₃.mono (by simp))).trans (k₄.mono (by simp)), F₄.weakV hmono, hP₄, hV₄, by rw [List.append_assoc]; exact hsum, hr', hst₄, hel₄⟩
end
end Mine
namespace Mine
variable {B : BW} {Ω : Om} {d : Nat}
section
variable {c : Cx} {env : Env} {S as X : List Addr} {G : List Nat} {V V' K K' : Vs} {H : Hs} {s s' : Shared} {A : Around} {E : Value → Shared → Prop}
theorem base_none {b : Addr} (I : Inv B s) (h : s.heap.get? b = none) : B.b₀.get? b = none := by
  cases e : B.b₀.get? b with
  | none => rfl
  | some o => rw [← h, I.base _ _ e]
theorem vrs_freshS {h : Heap} {a : Addr} (hf : h.get? a = none) {x : PV} {v : Value} (r : VR h S as x v) : VR h (a :: S) as x v := r.freshS hf
theorem none_get {n i : Nat} {pv : PV} (h : (List.replicate n (none : Option PV))[i]? = some (some pv)) : False := by
  rw [List.getElem?_replicate] at h
  split at h <;> cases h
theorem comp_core (O : B.Ok) (hE : EnvOk c env) (hA : AOk d A) {e elt target iter : Expr} {rest : List Comprehension} {ns : List Str} {sc : Scope} {pos : Pos} (he : e = .ListComp elt (⟨target, iter, [], 0⟩ :: rest) sc pos) (hsc : ScOk c ns sc)
    {cl : List (Str × Addr)} (hcl : ∀ x ∈ (inner c ns sc).ck, cl.lookup x = env.cells.lookup x)
    {body : Addr → Env → Sem Unit} (hturn : ∀ it D env, compTurn e 0 it (.ref D) env = turnOf e 0 target iter it (.ref D) env (body D env))
    {t : Tgt} (htgt : tgtIs ns t target = true) {F : PV → Option (List PV)} {I : Addr} {fp : List Addr} {xs : List PV} {St : Nat → Shared → Prop} {El : Shared → List Addr → List Addr → Prop} (W : Wlk B d (.ref I) [I] fp [] xs St El)
    (hbind : ∀ x o, F x = some o → ∃ V₁, bindT t x (List.replicate ns.length none) = some V₁)
    (hbody : ∀ (D C : Addr) x o V₁ s (ys : Array Value) (done : List PV) (E : Value → Shared → Prop), B.b₀.get? D = none → F x = some o → bindT t x (List.replicate ns.length none) = some V₁ → EnvOk (inner c ns sc) (compEnvC sc cl C env) → FR B (inner c ns sc) (compEnvC sc cl C env) (D :: S) as V₁ K H s → s.heap.PlainList D ys → VRs s.heap (D :: S) as done ys.toList → done.length + o.length ≤ sizeLine →
      wpAny (model B.prog B.w) A (body D (compEnvC sc cl C env)) (fun _ s' => ∃ ys', Kg B [C, D] [] s s' ∧ FR B (inner c ns sc) (compEnvC sc cl C env) (D :: S) as V₁ K H s' ∧ s'.heap.PlainList D ys' ∧ VRs s'.heap (D :: S) as (done ++ o) ys'.toList) E s)
    {s₂ : Shared} (F₂ : FR B c env S as V K H s₂) (hI : s.heap.get? I = none) (off : Off c env S as [I]) (hfp : ∀ b ∈ fp, s₂.heap.get? b ≠ none) (hIf : I ∈ fp) (hst : St 0 s₂) (hel : El s₂ S as)
    {outs : List PV} (hruns : Runs F xs outs) (hsz : outs.length ≤ sizeLine)
    {RR : Value → Addr → Result → Shared → Prop}
    (hRR : ∀ D C s' (ys : Array Value), s₂.heap.get? D = none → s₂.heap.get? C = none → D ≠ C → Kg B [C, D, I] [] s₂ s' → (∃ m, s'.heap.Ns C m) → s'.heap.PlainList D ys → VRs s'.heap (D :: S) as outs ys.toList → RR (.ref D) C (.ok .next) s') :
    wpAny (model B.prog B.w) A (newList []) (fun acc s₃ => wpAny (model B.prog B.w) A (newFunctionEnv sc env.globals cl [] env.qual none .none (some env)) (fun cenv s₄ =>
      codeAny (model B.prog B.w) A (.compStart e 0 (.ref I) acc { cenv with scope := relabel sc env }) (RR acc cenv.locals) s₄) E s₃) E s₂ := by
  have hcell : ∀ y ∈ sc.names, y.2 ≠ .cell := fun y hy h => by
    rcases hsc.all y hy with q | q | ⟨q, _⟩ <;> (rw [q] at h; cases h)
  refine wpAny_newObj_type (wpAny_newFunctionEnv hcell (by intro y hy; simp at hy) (fun h₁ hns₁ hsb₁ => ?_) hsc.kind)
  dsimp only at hns₁ hsb₁ ⊢
  generalize hH2 : s₂.heap.push { cls := .type "list", dict := none, data := .seq ([] : List Value).toArray } = H2 at hns₁ hsb₁ ⊢
  have hC : H2.objs.size = s₂.heap.objs.size + 1 := by rw [← hH2, Heap.size_push]
  have hDC : s₂.heap.objs.size ≠ H2.objs.size := by rw [hC]; exact Nat.ne_of_lt (Nat.lt_succ_self _)
  have hD0 : s₂.heap.get? s₂.heap.objs.size = none := fresh_none _
  have hC0 : s₂.heap.get? H2.objs.size = none := by
    cases e : s₂.heap.get? H2.objs.size with
    | none => rfl
    | some o => exact absurd (Heap.lt_size e) (by rw [hC]; exact Nat.not_lt.mpr (Nat.le_succ _))
  have old : ∀ b o, s₂.heap.get? b = some o → h₁.get? b = some o := fun b o e => hsb₁.extBut b o (by rintro rfl; rw [hC0] at e; cases e) (Heap.get?_push_of_some _ (hH2 ▸ Heap.get?_push_of_some _ e))
  have hacc : h₁.PlainList s₂.heap.objs.size #[] := ⟨_, hsb₁.extBut _ _ hDC (Heap.get?_push_of_some _ (hH2 ▸ Heap.get?_push_size _ rfl))⟩
  generalize s₂.heap.objs.size = D at hDC hD0 hacc ⊢
  generalize H2.objs.size = C at hDC hC0 hns₁ ⊢
  have kp : Kp B s₂ { s₂ with heap := h₁, toks := s₂.toks + ([] : List (Str × Value)).length } := Kp.of_keep O F₂.inv old F₂.inv.tk
  have F₄ := F₂.kp O kp
  have hEi := inner_env hE hsc hcl C
  have F₅ : FR B (inner c ns sc) (compEnvC sc cl C env) (D :: S) as (List.replicate ns.length none) K H { s₂ with heap := h₁, toks := s₂.toks + ([] : List (Str × Value)).length } :=
    { inv := F₄.inv
      held := fun a ha => by
        rcases List.mem_cons.mp ha with rfl | ha
        · exact ⟨_, hacc⟩
        · exact F₄.held a ha
      loc := ⟨_, hns₁, fun i x pv _ hv => (none_get hv).elim⟩
      cel := fun j x hx hc => by
        obtain ⟨h1, h2⟩ := inner_ck hsc x hc
        obtain ⟨a, v, ha, hi, hk⟩ := F₂.cel j x hx h1
        exact ⟨a, v, (hcl x hc).trans ha, IsCell.kp O F₂.inv hi kp, fun pv hv => let ⟨u, e, r⟩ := hk pv hv; ⟨u, e, F₂.vr O kp (r.freshS hD0)⟩⟩
      len := F₂.len
      nodup := F₂.nodup
      disj := fun a ha hm => by
        rcases List.mem_cons.mp hm with rfl | hm
        · obtain ⟨vs, n, e⟩ := F₂.heldAs a ha
          rw [hD0] at e; cases e
        · exact F₂.disj a ha hm
      base := base_none F₂.inv hC0
      baseAs := F₂.baseAs
      baseC := fun x hx a ha => F₂.baseC x (inner_ck hsc x hx).1 a ((hcl x hx).symm.trans ha)
      own := fun l a xs ha hx => by
        obtain ⟨vs, ⟨n, e⟩, hz, r⟩ := F₂.own l a xs ha hx
        exact ⟨vs, ⟨n, old _ _ e⟩, hz, F₂.vrs O kp (VRs.freshS hD0 r)⟩ }
  have ap0 : ∀ Y : List Addr, (∀ a ∈ Y, False) → Apart s₂.heap (D :: S) as Y := fun Y h a ha => (h a ha).elim
  have hst₄ : St 0 { s₂ with heap := h₁, toks := s₂.toks + ([] : List (Str × Value)).length } := W.frame _ _ _ [] [] F₂.inv hst kp.g (by simp) (by simp)
  have hel₄ := W.elF _ _ _ _ [] [] F₂.inv (W.elS _ _ _ _ hel hD0) kp.g (ap0 [] (by simp))
  have hne : ∀ b ∈ fp, b ≠ C ∧ b ≠ D := fun b hb => ⟨by rintro rfl; exact hfp _ hb hC0, by rintro rfl; exact hfp _ hb hD0⟩
  have offI : Off (inner c ns sc) (compEnvC sc cl C env) (D :: S) as [I] :=
    { loc := fun hm => (hne I hIf).1 (List.mem_singleton.mp hm).symm
      cel := fun x hx a ha => off.cel x (inner_ck hsc x hx).1 a ((hcl x hx).symm.trans ha)
      S := fun a ha hm => by
        rcases List.mem_cons.mp ha with rfl | ha
        · exact (hne I hIf).2 (List.mem_singleton.mp hm).symm
        · exact off.S a ha hm
      as := off.as }
  have loop : codeAny (model B.prog B.w) A (.compLoop e 0 (.ref I) (.ref D) (compEnvC sc cl C env)) (RR (.ref D) C) { s₂ with heap := h₁, toks := s₂.toks + ([] : List (Str × Value)).length } := by
    refine comp_loop O hEi hA he (fun it => hturn it D _) htgt W (fun x o h => let ⟨V₁, hb⟩ := hbind x o h; ⟨V₁, hb, fun i pv hv => (none_get hv).elim⟩)
      (fun x o V₁ s ys done E h hb F hP hV hz => hbody D C x o V₁ s ys done E (base_none F₂.inv hD0) h hb hEi F hP hV hz) List.mem_cons_self hne offI hruns F₅ hacc (done₀ := []) rfl (by simpa using hsz) hst₄ hel₄ fun s' ys' k F' hP hV => ?_
    exact hRR D C s' ys' hD0 hC0 hDC (kp.g.trans k) (let ⟨m, n, _⟩ := F'.loc; ⟨m, n⟩) hP hV
  subst he
  exact codeAny_compStart_list loop (W.self _ A _ _ hA hst₄ loop)
theorem comp_end (O : B.Ok) {D C I : Addr} {s₂ s' : Shared} {ys : Array Value} {outs : List PV} {h' : Heap} (F₂ : FR B c env S as V K H s₂) (hD : s₂.heap.get? D = none) (hC : s₂.heap.get? C = none) (hDC : D ≠ C) (k : Kg B [C, D, I] [] s₂ s') (hn : ∃ m, s'.heap.Ns C m)
    (hP : s'.heap.PlainList D ys) (hV : VRs s'.heap (D :: S) as outs ys.toList) (hsz : outs.length ≤ sizeLine) (hs : Heap.SameBut C s'.heap h') :
    Kg B [I] [] s₂ { s' with heap := h' } ∧ VR h' S as (.lst outs) (.ref D) := by
  obtain ⟨m, o, es, ep, e, hd, _⟩ := hn
  have kq : Kq B [C] s' { s' with heap := h' } := Kq.at (k := s'.toks) O k.inv k.inv.tk hs.extBut (fun o' ho p => by
    rw [e] at ho; cases ho
    obtain ⟨_, vs, hd'⟩ := p
    rw [hd] at hd'; cases hd') (base_none F₂.inv hC)
  have ap : Apart s'.heap S as [C] := fun a ha o' ho => by
    rw [List.mem_singleton.mp ha, e] at ho; cases ho
    exact .inl (NotVR.dict hd)
  refine ⟨(k.trans (kq.mono (by simp))).fresh (fun a ha => ?_), D, ys, rfl, fun hm => ?_, fun hm => ?_, ?_, ?_, ?_⟩
  · rcases List.mem_cons.mp ha with rfl | ha
    · exact .inr hC
    · rcases List.mem_cons.mp ha with rfl | ha
      · exact .inr hD
      · exact .inl ha
  · obtain ⟨vs, n, e'⟩ := F₂.held D hm; rw [hD] at e'; cases e'
  · obtain ⟨vs, n, e'⟩ := F₂.heldAs D hm; rw [hD] at e'; cases e'
  · exact (hP.extBut hs.extBut hDC).isList
  · have := hV.length; simp at this; omega
  · exact VRs.monoX (kq.up O k.inv) ap (VRs.lessS (fun a ha => List.mem_cons_of_mem _ ha) hV)
theorem body_one (O : B.Ok) {m : ME} (hm : EvOk B Ω d m) {ci : Cx} {cenv : Env} {D : Addr} {x : Expr} {V₁ : Vs} {ys : Array Value} {done : List PV} {pv : PV} (hA : AOk d A) (hE : EnvOk ci cenv) (hx : isE ci m x = true) (F : FR B ci cenv (D :: S) as V₁ K H s)
    (hDb : B.b₀.get? D = none) (hP : s.heap.PlainList D ys) (hV : VRs s.heap (D :: S) as done ys.toList) (hsz : done.length + 1 ≤ sizeLine) (he : evalB Ω m false V₁ K H = some pv) :
    wpAny (model B.prog B.w) A (do let _ ← call (.builtin "list.append") [.ref D, ← eval x cenv]) (fun _ s' => ∃ ys', Kg B [D] [] s s' ∧ FR B ci cenv (D :: S) as V₁ K H s' ∧ s'.heap.PlainList D ys' ∧ VRs s'.heap (D :: S) as (done ++ [pv]) ys'.toList) E s := by
  refine wpAny_bind (wpAny_mono (hm ci cenv (D :: S) as V₁ K H s A x pv E hE hA F hx he) (fun v s₁ ⟨k₁, r₁⟩ => ?_) fun _ _ e => e)
  have F₁ := F.kp O k₁
  have hP₁ : s₁.heap.PlainList D ys := let ⟨n, e⟩ := hP; ⟨n, k₁.get O F.inv e nofun⟩
  have hV₁ := F.vrs O k₁ hV
  have hl : ys.size = done.length := by have := hV.length; simpa using this
  refine wpAny_bind (wpAny_list_append_plain hP₁ (fun h' hP' hs => wpAny_pure ?_) (by omega))
  obtain ⟨n, e⟩ := hP₁
  have kq : Kq B [D] s₁ { s₁ with heap := h' } := Kq.at (k := s₁.toks) O F₁.inv F₁.inv.tk hs.extBut (fun o ho p => by
    rw [e] at ho; cases ho
    obtain ⟨_, vs, hd⟩ := p
    cases hd) hDb
  have ap : Apart s₁.heap (D :: S) as [D] := fun a ha o ho => by
    rw [List.mem_singleton.mp ha] at ho ⊢
    rw [e] at ho; cases ho
    exact .inr ⟨rfl, .inl List.mem_cons_self⟩
  have hLD : cenv.locals ∉ [D] := fun hm => by
    obtain ⟨o, x, n', e', hd⟩ := F₁.locDict
    rw [List.mem_singleton.mp hm, e] at e'; cases e'; cases hd
  refine ⟨_, k₁.g.trans kq, F₁.kqH O kq ap (fun a ha => ?_) (fun a ha hm => ?_) (F₁.locKq O kq ap hLD) (F₁.celKq O kq ap fun y hy a ha hm => ?_), hP', ?_⟩
  · by_cases haD : a = D
    · subst haD; exact ⟨_, hP'⟩
    · obtain ⟨vs, n', e'⟩ := F₁.held a ha
      exact ⟨vs, n', hs.extBut a _ haD e'⟩
  · rw [List.mem_singleton.mp hm] at ha
    exact F₁.disj _ ha List.mem_cons_self
  · obtain ⟨o, v, e', hd⟩ := F₁.celCell hy ha (hE.celn y hy)
    rw [List.mem_singleton.mp hm, e] at e'; cases e'; cases hd
  · rw [Array.toList_push]
    exact (VRs.monoX (kq.up O F₁.inv) ap hV₁).append ⟨v, [], rfl, VR.monoX (kq.up O F₁.inv) ap r₁, rfl⟩
end
end Mine
namespace Mine
variable {B : BW} {Ω : Om} {d : Nat}
section
variable {c : Cx} {env : Env} {S as X : List Addr} {G : List Nat} {V V' K K' : Vs} {H : Hs} {s s' : Shared} {A : Around} {E : Value → Shared → Prop}
theorem notSet_of_isE {m : ME} {x : Expr} (h : isE c m x = true) (env : Env) : ∀ v, foldedSetIterable x env v = pure v := by
  intro v
  cases x with
  | Set es k p => cases m <;> first | (cases h; done) | skip
                  rename_i v
                  cases v <;> cases h
  | _ => rfl
theorem fin_false {H : Hs} {o : Option PV} {pv : PV} (h : fin false H o = some pv) : o = some pv := h
theorem overO_some {H : Hs} {o : Option PV} {xs : List PV} (h : overO H o = some xs) : ∃ v u, o = some v ∧ frz1 H v = some u ∧ itemsP u = some xs := by
  unfold overO at h
  cases o with
  | none => cases h
  | some v =>
    dsimp only at h
    cases hu : frz1 H v with
    | none => rw [hu] at h; cases h
    | some u => rw [hu] at h; exact ⟨v, u, rfl, hu, h⟩
theorem lstO_some {o : Option (List PV)} {pv : PV} (h : lstO o = some pv) : ∃ xs, o = some xs ∧ pv = .lst xs ∧ xs.length ≤ sizeLine := by
  unfold lstO at h
  cases o with
  | none => cases h
  | some xs =>
    dsimp only [tidy] at h
    split at h
    · rename_i hh
      cases h
      rw [Bool.and_eq_true, decide_eq_true_eq] at hh
      exact ⟨xs, rfl, rfl, hh.2⟩
    · cases h
theorem comp_src (O : B.Ok) {m : ME} (hm : EvOk B Ω d m) (hE : EnvOk c env) (hA : AOk d A) (F : FR B c env S as V K H s) {x : Expr} (hx : isE c m x = true) {xs : List PV} (ho : overO H (evalB Ω m false V K H) = some xs) {Q : Value → Shared → Prop}
    (hQ : ∀ (s₁ s₂ : Shared) (I : Addr) (fp : List Addr) (St : Nat → Shared → Prop) (El : Shared → List Addr → List Addr → Prop), FR B c env S as V K H s₂ → Kp B s s₂ → s₁.heap.get? I = none → Wlk B d (.ref I) [I] fp [] xs St El → St 0 s₂ → El s₂ S as → I ∈ fp → (∀ b ∈ fp, s₂.heap.get? b ≠ none) → Off c env S as [I] → s.heap.get? I = none → (∀ b ∈ fp, b ≠ env.locals ∧ b ∉ S) → Q (.ref I) s₂) :
    wpAny (model B.prog B.w) A (eval x env) (fun v s₁ => wpAny (model B.prog B.w) A (pyIter v) Q E s₁) E s := by
  obtain ⟨v, u, h1, h2, h3⟩ := overO_some ho
  refine wpAny_mono (hm c env S as V K H s A x v E hE hA F hx h1) (fun val s₁ ⟨k₁, r₁⟩ => ?_) fun _ _ e => e
  have F₁ := F.kp O k₁
  refine wpAny_mono (iter_sound O F₁.inv hA (Src.of_frz F₁ r₁ h2 h3) h3) (fun it s₂ ⟨I, fp, St, El, e, hI, W, hst, hel, k₂, hfo, hIf, hfp, _⟩ => ?_) fun _ _ e => e
  subst e
  refine hQ s₁ s₂ I fp St El (F₁.kp O k₂) (k₁.trans k₂) hI W hst hel hIf hfp (F₁.offOf hE (by simpa using hI)) ?_ ?_
  · cases e : s.heap.get? I with
    | none => rfl
    | some o =>
    by_cases hT : I = B.T
    · obtain ⟨o', e', _⟩ := O.Tb_T _ F₁.inv.tb
      rw [← hT, hI] at e'; cases e'
    · rw [k₁.keep I o hT e] at hI; cases hI
  · intro b hb
    obtain ⟨o', y, n', e', hd'⟩ := F₁.locDict
    rcases hfo b hb with q | ⟨o, e, h1, _, _, y', n, hd⟩
    · refine ⟨(by rintro rfl; rw [q] at e'; cases e'), fun hm => ?_⟩
      obtain ⟨vs, n, e⟩ := F₁.held b hm
      rw [q] at e; cases e
    · exact ⟨(by rintro rfl; rw [e] at e'; cases e'; rw [hd] at hd'; cases hd'), h1⟩
theorem isE_comp {ns : List Str} {t : Tgt} {it e : ME} {x : Expr} (h : isE c (.comp ns t it e) x = true) :
    ∃ elt tg iter sc pos, x = .ListComp elt [⟨tg, iter, [], 0⟩] sc pos ∧ scopeIs c ns sc = true ∧ tgtIs ns t tg = true ∧ isE c it iter = true ∧ isE (inner c ns sc) e elt = true := by
  cases x <;> first | (cases h; done) | skip
  rename_i elt gens sc pos
  rcases gens with _ | ⟨⟨tg, iter, ifs, k⟩, _ | ⟨g, gs⟩⟩
  · cases h
  · rcases ifs with _ | ⟨i, is⟩
    · have hk : k = 0 := by
        cases k with
        | ofNat n => cases n with
          | zero => rfl
          | succ n => cases h
        | negSucc n => cases h
      subst hk
      have h : (scopeIs c ns sc && tgtIs ns t tg && isE c it iter && isE (inner c ns sc) e elt) = true := h
      simp only [Bool.and_eq_true] at h
      exact ⟨elt, tg, iter, sc, pos, rfl, h.1.1.1, h.1.1.2, h.1.2, h.2⟩
    · cases h
  · simp [isE] at h
theorem isE_comp2 {ns : List Str} {i j : Nat} {it it₂ e : ME} {x : Expr} (h : isE c (.comp2 ns i it j it₂ e) x = true) :
    ∃ elt tg iter tg₂ iter₂ sc pos, x = .ListComp elt [⟨tg, iter, [], 0⟩, ⟨tg₂, iter₂, [], 0⟩] sc pos ∧ scopeIs c ns sc = true ∧ nameIs ns i tg = true ∧ isE c it iter = true ∧ nameIs ns j tg₂ = true ∧ i ≠ j ∧ isE (inner c ns sc) it₂ iter₂ = true ∧ isE (inner c ns sc) e elt = true := by
  cases x <;> first | (cases h; done) | skip
  rename_i elt gens sc pos
  rcases gens with _ | ⟨⟨tg, iter, ifs, k⟩, _ | ⟨⟨tg₂, iter₂, ifs₂, k₂⟩, _ | ⟨g, gs⟩⟩⟩
  · cases h
  · simp [isE] at h
  · rcases ifs with _ | ⟨_, _⟩
    · rcases ifs₂ with _ | ⟨_, _⟩
      · have hk : k = 0 := by
          cases k with
          | ofNat n => cases n with
            | zero => rfl
            | succ n => cases h
          | negSucc n => cases h
        subst hk
        have hk₂ : k₂ = 0 := by
          cases k₂ with
          | ofNat n => cases n with
            | zero => rfl
            | succ n => cases h
          | negSucc n => cases h
        subst hk₂
        have h : (scopeIs c ns sc && nameIs ns i tg && isE c it iter && nameIs ns j tg₂ && i != j && isE (inner c ns sc) it₂ iter₂ && isE (inner c ns sc) e elt) = true := h
        simp only [Bool.and_eq_true, bne_iff_ne] at h
        obtain ⟨⟨⟨⟨⟨⟨h1, h2⟩, h3⟩, h4⟩, h5⟩, h6⟩, h7⟩ := h
        exact ⟨elt, tg, iter, tg₂, iter₂, sc, pos, rfl, h1, h2, h3, h4, h5, h6, h7⟩
      · simp [isE] at h
    · simp [isE] at h
  · simp [isE] at h
theorem ev_comp (O : B.Ok) {ns : List Str} {t : Tgt} {it e : ME} (hit : EvOk B Ω d it) (he : EvOk B Ω d e) : EvOk B Ω d (.comp ns t it e) := fun c env S as V K H s A x pv E hE hA F hx hev => by
  obtain ⟨elt, tg, iter, sc, pos, rfl, hsc, htg, hxi, hxe⟩ := isE_comp hx
  have hsc := scopeIs_ok hsc
  have hev : (match overO H (evalB Ω it false V K H) with
    | some xs => lstO (mapO (fun x => match bindT t x (List.replicate ns.length none) with
      | some V' => evalB Ω e false V' K H
      | none => none) xs)
    | none => none) = some pv := hev
  cases ho : overO H (evalB Ω it false V K H) with
  | none => rw [ho] at hev; cases hev
  | some xs =>
    rw [ho] at hev
    obtain ⟨outs, hm, rfl, hsz⟩ := lstO_some hev
    obtain ⟨cl, hclos, hcl⟩ := closure_ok hE F hsc
    rw [eval_ListComp]
    refine wpAny_comprehension_free (use := none) rfl (notSet_of_isE hxi env) hclos hsc.kind (fun y hy h => by rw [hsc.look y hy, h]) (comp_src O hit hE hA F hxi ho ?_)
    intro s₁ s₂ I fp St El F₂ k₂ hI₁ W hst hel hIf hfp off hI _
    refine comp_core O hE hA rfl hsc hcl (body := fun D env => (do let _ ← call (.builtin "list.append") [.ref D, ← eval elt env])) (fun it D env => turn_one _ _ _ _ _ _ _ _) htg W (fun x o h => ?_)
      (fun D C x o V₁ s ys done E hDb h hb hEi F hP hV hz => ?_) F₂ hI₁ off hfp hIf hst hel (Runs.of_map1 hm) hsz fun D C s' ys hD hC hDC k hn hP hV => ?_
    · cases hb : bindT t x (List.replicate ns.length none) with
      | none => rw [hb] at h; cases h
      | some V₁ => exact ⟨V₁, rfl⟩
    · rw [hb] at h
      cases hv : evalB Ω e false V₁ K H with
      | none => simp only [hv] at h; cases h
      | some y =>
        simp only [hv] at h
        cases h
        refine wpAny_mono (body_one O he hA hEi hxe F hDb hP hV hz hv) (fun _ s' ⟨ys', k, r⟩ => ⟨ys', k.mono (by simp), r⟩) fun _ _ e => e
    · obtain ⟨m, hn'⟩ := hn
      refine ⟨m, hn', fun h' hs => ?_⟩
      obtain ⟨k', r⟩ := comp_end O F₂ hD hC hDC k ⟨m, hn'⟩ hP hV hsz hs
      exact ⟨(k₂.g.trans k').p (by simpa using hI), r⟩
end
end Mine
namespace Mine
variable {B : BW} {Ω : Om} {d : Nat}
section
variable {c : Cx} {env : Env} {S as X : List Addr} {G : List Nat} {V V' K K' : Vs} {H : Hs} {s s' : Shared} {A : Around} {E : Value → Shared → Prop}
theorem start_one {elt target iter target₂ iter₂ : Expr} {scope : Scope} {pos : Pos} {it acc : Value} {env : Env} {R : Result → Shared → Prop}
    (h0 : codeAny (model B.prog B.w) A (.compLoop (.ListComp elt [⟨target, iter, [], 0⟩, ⟨target₂, iter₂, [], 0⟩] scope pos) 1 it acc env) R s)
    (h : ∀ E, wpAny (model B.prog B.w) A (pyIter it) (fun it' s' => codeAny (model B.prog B.w) A (.compLoop (.ListComp elt [⟨target, iter, [], 0⟩, ⟨target₂, iter₂, [], 0⟩] scope pos) 1 it' acc env) R s') E s) :
    codeAny (model B.prog B.w) A (.compStart (.ListComp elt [⟨target, iter, [], 0⟩, ⟨target₂, iter₂, [], 0⟩] scope pos) 1 it acc env) R s := by
  refine codeAny_of_tree ?_
  show wpAny _ _ ((compStart (.ListComp elt [⟨target, iter, [], 0⟩, ⟨target₂, iter₂, [], 0⟩] scope pos) 1 it acc env).onRaise (fun x => do noteFrame x env; standAt theWindowsPlace)) _ _ s
  refine wpAny_notedAt ?_
  unfold compStart
  show wpAny _ _ (ask >>= _) _ _ s
  refine wpAny_bind (wpAny_askSetting (wpAny_ite ?_))
  split
  · first
      | exact wpAny_bind (wpAny_pure (wpAny_pure (And.intro rfl h0)))
      | exact wpAny_pure (And.intro rfl h0)
  · first
      | exact wpAny_bind (wpAny_rule (wpAny_bind (wpAny_standAt (wpAny_bind (wpAny_mono (h _) (fun it' s' h' => wpAny_pure (And.intro rfl h')) fun _ _ x => x)))))
      | (refine wpAny_bind (wpAny_rule ?_); show wpAny _ _ (standAt iter₂.pos >>= _) _ _ s; exact wpAny_bind (wpAny_standAt (wpAny_bind (wpAny_mono (h _) (fun it' s' h' => wpAny_pure (And.intro rfl h')) fun _ _ x => x))))
theorem AOk.mark (hA : AOk d A) : AOk d (A.mark none) := ⟨hA.handled, hA.depth, hA.units⟩
theorem body_two (O : B.Ok) {m₂ m : ME} (hm₂ : EvOk B Ω d m₂) (hm : EvOk B Ω d m) {ci : Cx} {cenv : Env} {D : Addr} {elt target iter target₂ iter₂ : Expr} {scope : Scope} {pos : Pos} {V₁ : Vs} {ys : Array Value} {done o xs₂ : List PV} {j : Nat}
    (hA : AOk d A) (hE : EnvOk ci cenv) (hx₂ : isE ci m₂ iter₂ = true) (hx : isE ci m elt = true) (htg : nameIs ci.nm j target₂ = true) (hj : ∀ pv, V₁[j]? ≠ some (some pv))
    (F : FR B ci cenv (D :: S) as V₁ K H s) (hDb : B.b₀.get? D = none) (hP : s.heap.PlainList D ys) (hV : VRs s.heap (D :: S) as done ys.toList) (hsz : done.length + o.length ≤ sizeLine)
    (ho : overO H (evalB Ω m₂ false V₁ K H) = some xs₂) (hmap : mapO (fun y => evalB Ω m false (V₁.set j (some y)) K H) xs₂ = some o) :
    wpAny (model B.prog B.w) A (do
      let x ← eval iter₂ cenv
      standAt iter₂.pos
      let x ← foldedSetIterable iter₂ cenv x
      let _ ← runOwn (.compStart (.ListComp elt [⟨target, iter, [], 0⟩, ⟨target₂, iter₂, [], 0⟩] scope pos) 1 (← holding [x] (pyIter x)) (.ref D) cenv) cenv) (fun _ s' => ∃ ys', Kg B [cenv.locals, D] [] s s' ∧ FR B ci cenv (D :: S) as V₁ K H s' ∧ s'.heap.PlainList D ys' ∧ VRs s'.heap (D :: S) as (done ++ o) ys'.toList) E s := by
  refine wpAny_bind (wpAny_mono (comp_src O hm₂ hE hA F hx₂ ho ?_) (fun v s₁ h => wpAny_bind (wpAny_standAt (wpAny_bind (wpAny_of_eq (notSet_of_isE hx₂ cenv v) (wpAny_bind (wpAny_holding h)))))) fun _ _ e => e)
  intro s₁ s₂ I fp St El F₂ k₂ hI₁ W hst hel hIf hfp off hI hbs
  have hP₂ : s₂.heap.PlainList D ys := let ⟨n, e⟩ := hP; ⟨n, k₂.get O F.inv e nofun⟩
  have hV₂ := F.vrs O k₂ hV
  have hne : ∀ b ∈ fp, b ≠ cenv.locals ∧ b ≠ D := fun b hb => ⟨(hbs b hb).1, fun e => (hbs b hb).2 (e ▸ List.mem_cons_self)⟩
  refine wpAny_bind (wpAny_runOwn ?_ nofun)
  have loop : ∀ R : Result → Shared → Prop, (∀ s' (ys' : Array Value), Kg B [cenv.locals, D, I] [] s₂ s' → FR B ci cenv (D :: S) as V₁ K H s' → s'.heap.PlainList D ys' → VRs s'.heap (D :: S) as (done ++ o) ys'.toList → R (.ok .next) s') →
      codeAny (model B.prog B.w) (A.mark none) (.compLoop (.ListComp elt [⟨target, iter, [], 0⟩, ⟨target₂, iter₂, [], 0⟩] scope pos) 1 (.ref I) (.ref D) cenv) R s₂ := fun R hR =>
    comp_loop O hE hA.mark rfl (fun it => turn_two1 _ _ _ _ _ _ _ _ _ _) (t := .one j) htg W (fun x o h => ⟨_, rfl, fun i pv hv => by
        by_cases hij : j = i
        · subst hij; exact absurd hv (hj pv)
        · rwa [List.getElem?_set_ne hij]⟩)
      (fun y o' V₂ s ys done E h hb F hP hV hz => by
        cases hb
        cases hv : evalB Ω m false (V₁.set j (some y)) K H with
        | none => rw [hv] at h; cases h
        | some z =>
          rw [hv] at h
          cases h
          exact wpAny_mono (body_one O hm hA.mark hE hx F hDb hP hV hz hv) (fun _ s' ⟨ys', k, r⟩ => ⟨ys', k.mono (by simp), r⟩) fun _ _ e => e)
      List.mem_cons_self hne off (Runs.of_map1 hmap) F₂ hP₂ hV₂ hsz hst hel hR
  have fin : ∀ s' (ys' : Array Value), Kg B [cenv.locals, D, I] [] s₂ s' → FR B ci cenv (D :: S) as V₁ K H s' → s'.heap.PlainList D ys' → VRs s'.heap (D :: S) as (done ++ o) ys'.toList →
      ∃ ys', Kg B [cenv.locals, D] [] s s' ∧ FR B ci cenv (D :: S) as V₁ K H s' ∧ s'.heap.PlainList D ys' ∧ VRs s'.heap (D :: S) as (done ++ o) ys'.toList := fun s' ys' k F' hP' hV' =>
    ⟨ys', (k₂.g.trans k).fresh (fun a ha => by
      rcases List.mem_cons.mp ha with rfl | ha
      · exact .inl List.mem_cons_self
      · rcases List.mem_cons.mp ha with rfl | ha
        · exact .inl (by simp)
        · rw [List.mem_singleton.mp ha]; exact .inr hI), F', hP', hV'⟩
  refine start_one (loop _ fun s' ys' k F' hP' hV' => wpAny_pure (fin s' ys' k F' hP' hV')) fun E => W.self s₂ (A.mark none) E _ hA.mark hst (loop _ fun s' ys' k F' hP' hV' => wpAny_pure (fin s' ys' k F' hP' hV'))
theorem ev_comp2 (O : B.Ok) {ns : List Str} {i j : Nat} {it it₂ e : ME} (hit : EvOk B Ω d it) (hit₂ : EvOk B Ω d it₂) (he : EvOk B Ω d e) : EvOk B Ω d (.comp2 ns i it j it₂ e) := fun c env S as V K H s A x pv E hE hA F hx hev => by
  obtain ⟨elt, tg, iter, tg₂, iter₂, sc, pos, rfl, hsc, htg, hxi, htg₂, hij, hx₂, hxe⟩ := isE_comp2 hx
  have hsc := scopeIs_ok hsc
  have hev : (match overO H (evalB Ω it false V K H) with
    | some xs => lstO ((mapO (fun x => match overO H (evalB Ω it₂ false ((List.replicate ns.length none).set i (some x)) K H) with
        | some xs₂ => mapO (fun y => evalB Ω e false (((List.replicate ns.length none).set i (some x)).set j (some y)) K H) xs₂
        | none => none) xs).map List.flatten)
    | none => none) = some pv := hev
  cases ho : overO H (evalB Ω it false V K H) with
  | none => rw [ho] at hev; cases hev
  | some xs =>
    rw [ho] at hev
    obtain ⟨outs, hm, rfl, hsz⟩ := lstO_some hev
    cases hmo : mapO (fun x => match overO H (evalB Ω it₂ false ((List.replicate ns.length none).set i (some x)) K H) with
        | some xs₂ => mapO (fun y => evalB Ω e false (((List.replicate ns.length none).set i (some x)).set j (some y)) K H) xs₂
        | none => none) xs with
    | none => rw [hmo] at hm; cases hm
    | some oss =>
    rw [hmo] at hm
    cases hm
    obtain ⟨cl, hclos, hcl⟩ := closure_ok hE F hsc
    rw [eval_ListComp]
    refine wpAny_comprehension_free (use := none) rfl (notSet_of_isE hxi env) hclos hsc.kind (fun y hy h => by rw [hsc.look y hy, h]) (comp_src O hit hE hA F hxi ho ?_)
    intro s₁ s₂ I fp St El F₂ k₂ hI₁ W hst hel hIf hfp off hI _
    refine comp_core O hE hA rfl hsc hcl (fun it D env => turn_two0 _ _ _ _ _ _ _ _ _ _) (t := .one i) htg W (fun x o h => ⟨_, rfl⟩)
      (fun D C x o V₁ s ys done E hDb h hb hEi F hP hV hz => ?_) F₂ hI₁ off hfp hIf hst hel (Runs.of_map hmo) hsz fun D C s' ys hD hC hDC k hn hP hV => ?_
    · cases hb
      cases ho₂ : overO H (evalB Ω it₂ false ((List.replicate ns.length none).set i (some x)) K H) with
      | none => simp only [ho₂] at h; cases h
      | some xs₂ =>
        simp only [ho₂] at h
        refine body_two O hit₂ he hA hEi hx₂ hxe htg₂ (fun pv hpv => ?_) F hDb hP hV hz ho₂ h
        rw [List.getElem?_set_ne hij] at hpv
        exact none_get hpv
    · obtain ⟨m, hn'⟩ := hn
      refine ⟨m, hn', fun h' hs => ?_⟩
      obtain ⟨k', r⟩ := comp_end O F₂ hD hC hDC k ⟨m, hn'⟩ hP hV hsz hs
      exact ⟨(k₂.g.trans k').p (by simpa using hI), r⟩
end
end Mine
namespace Mine
variable {B : BW} {Ω : Om} {d : Nat}
theorem notIn_eq (r : Expr) : behindInMarks .Eq r = false := by
  cases r <;> first | rfl | skip
  have : (CmpOp.Eq == CmpOp.In || CmpOp.Eq == CmpOp.NotIn) = false := rfl
  simp only [behindInMarks, this, Bool.and_false, Bool.false_and]
theorem ev_eqc (O : B.Ok) (hΩ : OmOk B d Ω) {f : Str} {ms : MEs} {b : ME} (h : EvsOk B Ω d ms) (hb : EvOk B Ω d b) : EvOk B Ω d (.eqc f ms b) := fun c env S as V K H s A x pv E hE hA F hx he => by
  cases x <;> first | (cases hx; done) | skip
  rename_i l ops cs pos
  cases l <;> first | (cases hx; done) | skip
  rename_i g xs ks pos'
  match ks, ops, cs, hx with
  | [], [.Eq], [r], hx =>
    have hx : (globIs c f g && isEs c ms xs && isE c b r) = true := hx
    simp only [Bool.and_eq_true] at hx
    have he : eqcO H (Ω.fn f) (evalsB Ω ms V K H) (evalB Ω b false V K H) = some pv := he
    unfold eqcO at he
    split at he
    · rename_i F' ps y hf hps hy
      split at he
      · rename_i zs u hzs hu
        split at he
        · rename_i r' hr
          cases q : eqP r' u with
          | none => rw [q] at he; cases he
          | some t =>
            rw [q] at he; cases he
            obtain ⟨v, hv, hcal, hspec⟩ := hΩ.fn f F' hf
            refine wpAny_Compare1 (Q := fun v s' => Kp B s s' ∧ VR s'.heap S as (.bool t) v) (glob_callee O hE F.inv hx.1.1 hv hcal hx.1.2 (wpAny_mono (h c env S as V K H s A xs pos' ps E hE hA F hx.1.2 hps) (fun vs s₁ k₁ => ⟨k₁.1.inv, ?_⟩) fun _ _ e => e)) (notIn_eq r)
            have F₁ := F.kp O k₁.1
            refine wpAny_mono (call_fn O hΩ hA F₁ hspec hzs hr k₁.2) (fun w s₂ k₂ => ?_) fun _ _ e => e
            obtain ⟨k₂, S', hr', hS⟩ := k₂
            have F₂ := F₁.kp O k₂
            refine wpAny_mono (hb c env S as V K H s₂ A r y E hE hA F₂ hx.2 hy) (fun w' s₃ k₃ => ?_) fun _ _ e => e
            have F₃ := F₂.kp O k₃.1
            exact wpAny_mono (eq_sound F₃.inv hA q (F₂.vr O k₃.1 hr') (k₃.2.frz F₃ hu)) (fun z s₄ k₄ => ⟨((k₁.1.trans k₂).trans k₃.1).trans k₄.1, k₄.2⟩) fun _ _ e => e
        · cases he
      · cases he
    · cases he
theorem test_none {m : ME} (h : ∀ V K H, evalB Ω m true V K H = none) : TestOk B Ω d m := fun c env S as V K H s A x pv E hE hA F hx he => by rw [h] at he; cases he
theorem ev_none {m : ME} (h : ∀ V K H, evalB Ω m false V K H = none) : EvOk B Ω d m := fun c env S as V K H s A x pv E hE hA F hx he => by rw [h] at he; cases he
mutual
theorem ev_all (O : B.Ok) (hΩ : OmOk B d Ω) : ∀ m : ME, EvOk B Ω d m
  | .cst v => ev_cst O v
  | .loc i => ev_loc i
  | .cel j => ev_cel j
  | .glob f => ev_glob O hΩ f
  | .boolE op es => ev_bool (bool_all O hΩ op es)
  | .notE a => ev_none fun _ _ _ => rfl
  | .bin op a b => ev_bin O (ev_all O hΩ a) (ev_all O hΩ b)
  | .ite t a b => ev_ite O (test_all O hΩ t) (ev_all O hΩ a) (ev_all O hΩ b)
  | .cmp op a b => ev_cmp O (ev_all O hΩ a) (ev_all O hΩ b)
  | .cmp2 o₁ o₂ a b m => ev_none fun _ _ _ => rfl
  | .lst es => ev_lst O (evs_all O hΩ es)
  | .tup es => ev_tup O (evs_all O hΩ es)
  | .call f es => ev_call O hΩ (evs_all O hΩ es)
  | .callS f a b => ev_callS O hΩ (ev_all O hΩ a) (ev_all O hΩ b)
  | .meth m o es => ev_meth O (ev_all O hΩ o) (evs_all O hΩ es)
  | .idx a i => ev_idx O (ev_all O hΩ a) (ev_all O hΩ i)
  | .slc a lo hi => ev_slc O (ev_all O hΩ a) (ev_all O hΩ lo) (ev_all O hΩ hi)
  | .fstr es => ev_fstr (joins_all O hΩ es)
  | .fmt e => ev_fmt O (ev_all O hΩ e)
  | .comp ns t it e => ev_comp O (ev_all O hΩ it) (ev_all O hΩ e)
  | .comp2 ns i it j it₂ e => ev_comp2 O (ev_all O hΩ it) (ev_all O hΩ it₂) (ev_all O hΩ e)
  | .eqc f es b => ev_eqc O hΩ (evs_all O hΩ es) (ev_all O hΩ b)
theorem evs_all (O : B.Ok) (hΩ : OmOk B d Ω) : ∀ ms : MEs, EvsOk B Ω d ms
  | .nil => evs_nil
  | .cons e es => evs_cons O (ev_all O hΩ e) (evs_all O hΩ es)
theorem joins_all (O : B.Ok) (hΩ : OmOk B d Ω) : ∀ ms : MEs, JoinsOk B Ω d ms
  | .nil => joins_nil O
  | .cons e es => joins_cons O (ev_all O hΩ e) (joins_all O hΩ es)
theorem bool_all (O : B.Ok) (hΩ : OmOk B d Ω) (op : BoolOp) : ∀ ms : MEs, BoolOk B Ω d op ms
  | .nil => fun c env S as V K H s A xs pos pv E hE hA F hx he => by cases he
  | .cons e .nil => bool_one (ev_all O hΩ e)
  | .cons e (.cons e' es) => bool_more O (ev_all O hΩ e) (bool_all O hΩ op (.cons e' es))
theorem tests_all (O : B.Ok) (hΩ : OmOk B d Ω) (op : BoolOp) : ∀ ms : MEs, TestsOk B Ω d op ms
  | .nil => fun c env S as V K H s A xs pv E hE hA F hx he => by cases he
  | .cons e .nil => tests_one (test_all O hΩ e)
  | .cons e (.cons e' es) => tests_more O (test_all O hΩ e) (tests_all O hΩ op (.cons e' es))
theorem test_all (O : B.Ok) (hΩ : OmOk B d Ω) : ∀ m : ME, TestOk B Ω d m
  | .cst v => test_cst O v
  | .loc i => test_loc O i
  | .cel j => test_cel O j
  | .glob f => test_glob O hΩ f
  | .boolE op es => test_bool (tests_all O hΩ op es)
  | .notE a => test_not O (test_all O hΩ a)
  | .bin op a b => test_bin O (ev_all O hΩ a) (ev_all O hΩ b)
  | .ite t a b => test_ite O (test_all O hΩ t) (test_all O hΩ a) (test_all O hΩ b)
  | .cmp op a b => test_cmp O (ev_all O hΩ a) (ev_all O hΩ b)
  | .cmp2 o₁ o₂ a b m => test_cmp2 O (ev_all O hΩ a) (ev_all O hΩ b) (ev_all O hΩ m)
  | .lst es => test_of_ev O (ev_lst O (evs_all O hΩ es)) (fun _ _ _ => rfl) fun c x h => by cases x <;> first | rfl | (cases h; done)
  | .tup es => test_of_ev O (ev_tup O (evs_all O hΩ es)) (fun _ _ _ => rfl) fun c x h => by cases x <;> first | rfl | (cases h; done)
  | .call f es => test_of_ev O (ev_call O hΩ (evs_all O hΩ es)) (fun _ _ _ => rfl) fun c x h => by cases x <;> first | rfl | (cases h; done)
  | .callS f a b => test_of_ev O (ev_callS O hΩ (ev_all O hΩ a) (ev_all O hΩ b)) (fun _ _ _ => rfl) fun c x h => by cases x <;> first | rfl | (cases h; done)
  | .meth m o es => test_of_ev O (ev_meth O (ev_all O hΩ o) (evs_all O hΩ es)) (fun _ _ _ => rfl) fun c x h => by cases x <;> first | rfl | (cases h; done)
  | .idx a i => test_of_ev O (ev_idx O (ev_all O hΩ a) (ev_all O hΩ i)) (fun _ _ _ => rfl) fun c x h => by cases x <;> first | rfl | (cases h; done)
  | .slc a lo hi => test_of_ev O (ev_slc O (ev_all O hΩ a) (ev_all O hΩ lo) (ev_all O hΩ hi)) (fun _ _ _ => rfl) fun c x h => by cases x <;> first | rfl | (cases h; done)
  | .fstr es => test_of_ev O (ev_fstr (joins_all O hΩ es)) (fun _ _ _ => rfl) fun c x h => by cases x <;> first | rfl | (cases h; done)
  | .fmt e => test_of_ev O (ev_fmt O (ev_all O hΩ e)) (fun _ _ _ => rfl) fun c x h => by cases x <;> first | rfl | (cases h; done)
  | .comp ns t it e => test_of_ev O (ev_comp O (ev_all O hΩ it) (ev_all O hΩ e)) (fun _ _ _ => rfl) fun c x h => by cases x <;> first | rfl | (cases h; done)
  | .comp2 ns i it j it₂ e => test_of_ev O (ev_comp2 O (ev_all O hΩ it) (ev_all O hΩ it₂) (ev_all O hΩ e)) (fun _ _ _ => rfl) fun c x h => by cases x <;> first | rfl | (cases h; done)
  | .eqc f es b => test_none fun _ _ _ => rfl
end
end Mine
namespace Mine
variable {B : BW} {Ω : Om} {d : Nat}
section
variable {c : Cx} {env : Env} {S as X : List Addr} {G : List Nat} {V V' K K' : Vs} {H : Hs} {s s' : Shared} {A : Around} {E : Value → Shared → Prop}
theorem FR.own_new (O : B.Ok) (F : FR B c env S as V K H s) (k : Kp B s s') {a : Addr} (h0 : s.heap.get? a = none) {vs : Array Value} {xs : List PV} (hp : s'.heap.PlainList a vs) (hz : vs.size ≤ sizeLine) (r : VRs s'.heap S (as ++ [a]) xs vs.toList) :
    FR B c env S (as ++ [a]) V K (H ++ [xs]) s' :=
  have up : ∀ {x : PV} {v : Value}, VR s.heap S as x v → VR s'.heap S (as ++ [a]) x v := fun q => F.vr O k (q.grow h0)
  have ups : ∀ {x : List PV} {v : List Value}, VRs s.heap S as x v → VRs s'.heap S (as ++ [a]) x v := fun q => F.vrs O k (VRs.grow h0 q)
  { inv := k.inv
    held := F.held.kp O F.inv k
    loc := let ⟨m, n, h⟩ := F.loc; ⟨m, Ns.kp O F.inv n k, fun i x pv hx hv => let ⟨v, e, r⟩ := h i x pv hx hv; ⟨v, e, up r⟩⟩
    cel := fun j x hx hc => let ⟨b, v, hl, hi, h⟩ := F.cel j x hx hc; ⟨b, v, hl, IsCell.kp O F.inv hi k, fun pv hv => let ⟨u, e, r⟩ := h pv hv; ⟨u, e, up r⟩⟩
    len := by rw [List.length_append, List.length_append, F.len]; rfl
    nodup := by
      rw [List.nodup_append]
      refine ⟨F.nodup, (by simp), fun x hx y hy => ?_⟩
      rw [List.mem_singleton.mp hy]
      rintro rfl
      obtain ⟨vs, n, e⟩ := F.heldAs x hx
      rw [h0] at e; cases e
    disj := fun x hx hm => by
      rcases List.mem_append.mp hx with hx | hx
      · exact F.disj x hx hm
      · rw [List.mem_singleton.mp hx] at hm
        obtain ⟨vs, n, e⟩ := F.held a hm
        rw [h0] at e; cases e
    base := F.base
    baseAs := fun x hx => by
      rcases List.mem_append.mp hx with hx | hx
      · exact F.baseAs x hx
      · rw [List.mem_singleton.mp hx]; exact base_none F.inv h0
    baseC := F.baseC
    own := fun l b ys hb hy => by
      by_cases hl : l < as.length
      · rw [List.getElem?_append_left hl] at hb
        rw [List.getElem?_append_left (F.len ▸ hl)] at hy
        obtain ⟨us, ⟨n, e⟩, hz, r⟩ := F.own l b ys hb hy
        exact ⟨us, ⟨n, k.get O F.inv e nofun⟩, hz, ups r⟩
      · have hl' : l = as.length := by
          have := (List.getElem?_eq_some_iff.mp hb).1
          rw [List.length_append, List.length_singleton] at this
          omega
        subst hl'
        rw [List.getElem?_append_right (Nat.le_refl _), Nat.sub_self] at hb
        rw [F.len, List.getElem?_append_right (Nat.le_refl _), Nat.sub_self] at hy
        cases hb; cases hy
        exact ⟨vs, hp, hz, r⟩ }
theorem FR.asAt (F : FR B c env S as V K H s) {a : Addr} {vs : Array Value} (ha : a ∈ as) (hp : s.heap.PlainList a vs) : Apart s.heap S as [a] ∧ env.locals ∉ [a] ∧ (∀ b ∈ S, b ∉ [a]) := by
  obtain ⟨n, e⟩ := hp
  refine ⟨fun b hb o ho => ?_, fun hm => ?_, fun b hb hm => ?_⟩
  · rw [List.mem_singleton.mp hb] at ho ⊢
    rw [e] at ho; cases ho
    exact .inr ⟨rfl, .inr ha⟩
  · obtain ⟨o, x, n', e', hd⟩ := F.locDict
    rw [List.mem_singleton.mp hm, e] at e'; cases e'; cases hd
  · rw [List.mem_singleton.mp hm] at hb
    exact F.disj a ha hb
theorem FR.push (O : B.Ok) (hE : EnvOk c env) (F : FR B c env S as V K H s) {l : Nat} {a : Addr} {xs : List PV} {vs : Array Value} {pv : PV} {v : Value} {h' : Heap} (ha : as[l]? = some a) (hx : H[l]? = some xs) (hsz : xs.length < sizeLine)
    (r : VR s.heap S as pv v) (hp : s.heap.PlainList a vs) (hrs : VRs s.heap S as xs vs.toList) (hp' : h'.PlainList a (vs.push v)) (hs : Heap.SameBut a s.heap h') :
    Kq B [a] s { s with heap := h' } ∧ FR B c env S as V K (H.set l (xs ++ [pv])) { s with heap := h' } := by
  have ham := List.mem_of_getElem? ha
  obtain ⟨ap, hL, hS⟩ := F.asAt ham hp
  obtain ⟨n, e⟩ := hp
  have kq : Kq B [a] s { s with heap := h' } := Kq.at (k := s.toks) O F.inv F.inv.tk hs.extBut (fun o ho p => by
    rw [e] at ho; cases ho
    obtain ⟨_, vs, hd⟩ := p
    cases hd) (F.baseAs a ham)
  refine ⟨kq, ?_⟩
  have hll : l < H.length := (List.getElem?_eq_some_iff.mp hx).1
  exact
  { inv := kq.inv
    held := fun b hb => let ⟨us, n, e⟩ := F.held b hb; ⟨us, n, kq.up O F.inv _ _ (hS b hb) e nofun⟩
    loc := F.locKq O kq ap hL
    cel := F.celKq O kq ap fun y hy b hb hm => by
      obtain ⟨o, w, e', hd⟩ := F.celCell hy hb (hE.celn y hy)
      rw [List.mem_singleton.mp hm, e] at e'; cases e'; cases hd
    len := by rw [List.length_set]; exact F.len
    nodup := F.nodup
    disj := F.disj
    base := F.base
    baseAs := F.baseAs
    baseC := F.baseC
    own := fun l' b ys hb hy => by
      by_cases hll' : l' = l
      · subst hll'
        rw [ha] at hb; cases hb
        rw [List.getElem?_set_self hll] at hy
        cases hy
        refine ⟨_, hp', ?_, ?_⟩
        · rw [Array.size_push]
          have := hrs.length
          simp at this
          omega
        · rw [Array.toList_push]
          exact (VRs.monoX (kq.up O F.inv) ap hrs).append ⟨v, [], rfl, VR.monoX (kq.up O F.inv) ap r, rfl⟩
      · rw [List.getElem?_set_ne (fun e => hll' e.symm)] at hy
        obtain ⟨us, ⟨n', e'⟩, hz, r'⟩ := F.own l' b ys hb hy
        have hne : b ∉ [a] := fun hm => by
          rw [List.mem_singleton.mp hm] at hb
          obtain ⟨h1, h2⟩ := List.getElem?_eq_some_iff.mp ha
          obtain ⟨h3, h4⟩ := List.getElem?_eq_some_iff.mp hb
          exact hll' ((List.getElem_inj F.nodup).mp (h4.trans h2.symm))
        exact ⟨us, ⟨n', kq.up O F.inv _ _ hne e' nofun⟩, hz, VRs.monoX (kq.up O F.inv) ap r'⟩ }
def cellsOf (c : Cx) (env : Env) : List Addr := c.ck.filterMap fun x => env.cells.lookup x
def Mut (c : Cx) (env : Env) (as : List Addr) : List Addr := env.locals :: (cellsOf c env ++ as)
def FlOk (S : List Addr) (h : Heap) : Fl → Flow → Prop
  | .next, f => f = .next
  | .brk, f => f = .brk
  | .cont, f => f = .cont
  | .ret u, f => ∃ v, f = .ret v ∧ VR h S [] u v
structure Aft (B : BW) (c : Cx) (env : Env) (S as : List Addr) (s : Shared) (fl : Fl) (τ : St) (f : Flow) (s' : Shared) (new : List Addr) : Prop where
  fr : FR B c env S (as ++ new) τ.V τ.K τ.H s'
  new : ∀ a ∈ new, s.heap.get? a = none
  k : Kq B (Mut c env as) s s'
  fl : FlOk S s'.heap fl f
def ExOk (B : BW) (Ω : Om) (d : Nat) (n : Nat) (m : MS) : Prop :=
  ∀ (c : Cx) (env : Env) (S as : List Addr) (σ τ : St) (fl : Fl) (s : Shared) (A : Around) (x : Stmt) (E : Value → Shared → Prop),
    EnvOk c env → AOk d A → FR B c env S as σ.V σ.K σ.H s → isS c m x = true → execM Ω n m σ = some (fl, τ) →
    wpAny (model B.prog B.w) A (exec x env) (fun f s' => ∃ new, Aft B c env S as s fl τ f s' new) E s
def ExsOk (B : BW) (Ω : Om) (d : Nat) (n : Nat) (ms : MSs) : Prop :=
  ∀ (c : Cx) (env : Env) (S as : List Addr) (σ τ : St) (fl : Fl) (s : Shared) (A : Around) (xs : List Stmt) (E : Value → Shared → Prop),
    EnvOk c env → AOk d A → FR B c env S as σ.V σ.K σ.H s → isSs c ms xs = true → execsM Ω n ms σ = some (fl, τ) →
    wpAny (model B.prog B.w) A (execs xs env) (fun f s' => ∃ new, Aft B c env S as s fl τ f s' new) E s
theorem Mut.loc : env.locals ∈ Mut c env as := List.mem_cons_self
theorem Mut.cell {x : Str} (hx : x ∈ c.ck) {a : Addr} (ha : env.cells.lookup x = some a) : a ∈ Mut c env as :=
  List.mem_cons_of_mem _ (List.mem_append_left _ (List.mem_filterMap.mpr ⟨x, hx, ha⟩))
theorem Mut.own {a : Addr} (ha : a ∈ as) : a ∈ Mut c env as := List.mem_cons_of_mem _ (List.mem_append_right _ ha)
theorem Mut.more {new : List Addr} {a : Addr} (h : a ∈ Mut c env (as ++ new)) : a ∈ Mut c env as ∨ a ∈ new := by
  rcases List.mem_cons.mp h with rfl | h
  · exact .inl Mut.loc
  · rcases List.mem_append.mp h with h | h
    · exact .inl (List.mem_cons_of_mem _ (List.mem_append_left _ h))
    · rcases List.mem_append.mp h with h | h
      · exact .inl (Mut.own h)
      · exact .inr h
theorem Kg.none_back (O : B.Ok) {a : Addr} (k : Kg B X G s s') (I : Inv B s) (h : s'.heap.get? a = none) (hX : ∀ b ∈ X, s'.heap.get? b ≠ none) : s.heap.get? a = none := by
  cases e : s.heap.get? a with
  | none => rfl
  | some o =>
    by_cases hT : a = B.T
    · obtain ⟨o', e', _⟩ := O.Tb_T _ k.inv.tb
      rw [← hT, h] at e'; cases e'
    · by_cases hx : a ∈ X
      · exact absurd h (hX a hx)
      · rw [k.keep a o hT hx e] at h; cases h
theorem FR.mutThere (F : FR B c env S as V K H s) (hE : EnvOk c env) : ∀ b ∈ Mut c env as, s.heap.get? b ≠ none := fun b hb h => by
  rcases List.mem_cons.mp hb with rfl | hb
  · obtain ⟨o, x, n, e, _⟩ := F.locDict
    rw [h] at e; cases e
  · rcases List.mem_append.mp hb with hb | hb
    · obtain ⟨x, hx, ha⟩ := List.mem_filterMap.mp hb
      obtain ⟨o, v, e, _⟩ := F.celCell hx ha (hE.celn x hx)
      rw [h] at e; cases e
    · obtain ⟨vs, n, e⟩ := F.heldAs b hb
      rw [h] at e; cases e
theorem Aft.then (O : B.Ok) (hE : EnvOk c env) {s₁ s₂ : Shared} {fl₁ fl₂ : Fl} {τ₁ τ₂ : St} {f₁ f₂ : Flow} {n₁ n₂ : List Addr} (F : FR B c env S as V K H s) (x : Aft B c env S as s fl₁ τ₁ f₁ s₁ n₁) (y : Aft B c env S (as ++ n₁) s₁ fl₂ τ₂ f₂ s₂ n₂) : Aft B c env S as s fl₂ τ₂ f₂ s₂ (n₁ ++ n₂) where
  fr := by have := y.fr; rwa [List.append_assoc] at this
  new := fun a ha => by
    rcases List.mem_append.mp ha with ha | ha
    · exact x.new a ha
    · exact x.k.none_back O F.inv (y.new a ha) fun b hb => x.fr.mutThere hE b (by
        rcases List.mem_cons.mp hb with rfl | hb
        · exact Mut.loc
        · rcases List.mem_append.mp hb with hb | hb
          · exact List.mem_cons_of_mem _ (List.mem_append_left _ hb)
          · exact Mut.own (List.mem_append_left _ hb))
  k := ((x.k.mono (Y := Mut c env (as ++ n₁)) fun a ha => by
      rcases List.mem_cons.mp ha with rfl | ha
      · exact Mut.loc
      · rcases List.mem_append.mp ha with hb | hb
        · exact List.mem_cons_of_mem _ (List.mem_append_left _ hb)
        · exact Mut.own (List.mem_append_left _ hb)).trans y.k).fresh fun a ha => (Mut.more ha).imp id (x.new a)
  fl := y.fl
theorem Aft.one {τ : St} {fl : Fl} {f : Flow} (F : FR B c env S as τ.V τ.K τ.H s') (k : Kq B (Mut c env as) s s') (h : FlOk S s'.heap fl f) : Aft B c env S as s fl τ f s' [] :=
  ⟨by rw [List.append_nil]; exact F, by simp, k, h⟩
end
end Mine
namespace Mine
variable {B : BW} {Ω : Om} {d n : Nat}
section
variable {c : Cx} {env : Env} {S as X : List Addr} {G : List Nat} {V V' K K' : Vs} {H : Hs} {s s' : Shared} {A : Around} {E : Value → Shared → Prop}
theorem exs_nil : ExsOk B Ω d n .nil := fun c env S as σ τ fl s A xs E hE hA F hx he => by
  cases xs with
  | nil => cases he; exact wpAny_execs_nil ⟨[], Aft.one F (Kp.refl F.inv).q rfl⟩
  | cons _ _ => cases hx
theorem exs_cons (O : B.Ok) {m : MS} {ms : MSs} (hm : ExOk B Ω d n m) (hms : ExsOk B Ω d n ms) : ExsOk B Ω d n (.cons m ms) := fun c env S as σ τ fl s A xs E hE hA F hx he => by
  cases xs with
  | nil => cases hx
  | cons x xs =>
    have hx : (isS c m x && isSs c ms xs) = true := hx
    rw [Bool.and_eq_true] at hx
    have he : (match execM Ω n m σ with
      | some (.next, τ) => execsM Ω n ms τ
      | some (f, τ) => some (f, τ)
      | none => none) = some (fl, τ) := he
    cases h1 : execM Ω n m σ with
    | none => rw [h1] at he; cases he
    | some p =>
      obtain ⟨f₁, τ₁⟩ := p
      rw [h1] at he
      refine wpAny_execs_cons (wpAny_mono (hm c env S as σ τ₁ f₁ s A x E hE hA F hx.1 h1) (fun f s₁ ⟨n₁, a₁⟩ => ?_) fun _ _ e => e)
      cases f₁ with
      | next =>
        have hf := a₁.fl
        rw [show f = .next from hf]
        exact wpAny_mono (hms c env S (as ++ n₁) τ₁ τ fl s₁ A xs E hE hA a₁.fr hx.2 he) (fun f₂ s₂ ⟨n₂, a₂⟩ => ⟨_, Aft.then O hE F a₁ a₂⟩) fun _ _ e => e
      | brk => cases he; have hf := a₁.fl; rw [show f = .brk from hf] at a₁ ⊢; exact ⟨n₁, a₁⟩
      | cont => cases he; have hf := a₁.fl; rw [show f = .cont from hf] at a₁ ⊢; exact ⟨n₁, a₁⟩
      | ret u => cases he; obtain ⟨v, rfl, _⟩ := a₁.fl; exact ⟨n₁, a₁⟩
theorem testM_some {m : ME} {b : Bool} (h : testM Ω m V K H = some b) : evalB Ω m true V K H = some (.bool b) := by
  unfold testM at h
  split at h
  · rename_i q; cases h; exact q
  · cases h
theorem ex_if (O : B.Ok) {t : ME} {b o : MSs} (ht : TestOk B Ω d t) (hb : ExsOk B Ω d n b) (ho : ExsOk B Ω d n o) : ExOk B Ω d n (.ife t b o) := fun c env S as σ τ fl s A x E hE hA F hx he => by
  cases x <;> first | (cases hx; done) | skip
  rename_i test body orelse pos
  have hx : (isE c t test && isSs c b body && isSs c o orelse) = true := hx
  simp only [Bool.and_eq_true] at hx
  have he : (match testM Ω t σ.V σ.K σ.H with
    | some true => execsM Ω n b σ
    | some false => execsM Ω n o σ
    | none => none) = some (fl, τ) := he
  cases h1 : testM Ω t σ.V σ.K σ.H with
  | none => rw [h1] at he; cases he
  | some k =>
    rw [h1] at he
    refine wpAny_If (wpAny_mono (ht c env S as σ.V σ.K σ.H s A test _ E hE hA F hx.1.1 (testM_some h1)) (fun z s₁ ⟨k₁, hz⟩ => ?_) fun _ _ e => e)
    cases hz
    have F₁ := F.kp O k₁
    have a₁ : Aft B c env S as s .next σ .next s₁ [] := Aft.one F₁ k₁.q rfl
    have key : ∀ {ms : MSs} {ys : List Stmt}, ExsOk B Ω d n ms → isSs c ms ys = true → execsM Ω n ms σ = some (fl, τ) → wpAny (model B.prog B.w) A (execs ys env) (fun f s' => ∃ new, Aft B c env S as s fl τ f s' new) E s₁ := fun h hy he =>
      wpAny_mono (h c env S (as ++ []) σ τ fl s₁ A _ E hE hA a₁.fr hy he) (fun f₂ s₂ ⟨n₂, a₂⟩ => ⟨_, Aft.then O hE F a₁ a₂⟩) fun _ _ e => e
    cases k with
    | true => simp only [if_true]; exact key hb hx.1.2 he
    | false => simp only [Bool.false_eq_true, if_false]; exact key ho hx.2 he
theorem ex_ret (O : B.Ok) {m : ME} (hm : EvOk B Ω d m) : ExOk B Ω d n (.ret m) := fun c env S as σ τ fl s A x E hE hA F hx he => by
  cases x <;> first | (cases hx; done) | skip
  rename_i e pos
  cases e with
  | none => cases hx
  | some y =>
    have hx : isE c m y = true := hx
    have he : (match evalM Ω m σ.V σ.K σ.H with
      | some v => match frz σ.H v with
        | some u => some (Fl.ret u, σ)
        | none => none
      | none => none) = some (fl, τ) := he
    cases h1 : evalM Ω m σ.V σ.K σ.H with
    | none => rw [h1] at he; cases he
    | some pv =>
      rw [h1] at he
      dsimp only at he
      cases h2 : frz σ.H pv with
      | none => rw [h2] at he; cases he
      | some u =>
        rw [h2] at he
        cases he
        refine wpAny_Return_some (wpAny_mono (hm c env S as σ.V σ.K σ.H s A y pv E hE hA F hx h1) (fun v s₁ ⟨k₁, r₁⟩ => ?_) fun _ _ e => e)
        have F₁ := F.kp O k₁
        exact ⟨[], Aft.one F₁ k₁.q ⟨v, rfl, r₁.frz F₁ h2⟩⟩
theorem ex_brk : ExOk B Ω d n .brk := fun c env S as σ τ fl s A x E hE hA F hx he => by
  cases x <;> first | (cases hx; done) | skip
  cases he
  exact wpAny_Break ⟨[], Aft.one F (Kp.refl F.inv).q rfl⟩
theorem ex_cont : ExOk B Ω d n .cont := fun c env S as σ τ fl s A x E hE hA F hx he => by
  cases x <;> first | (cases hx; done) | skip
  cases he
  exact wpAny_Continue ⟨[], Aft.one F (Kp.refl F.inv).q rfl⟩
theorem ex_asrt (O : B.Ok) {m : ME} (hm : TestOk B Ω d m) : ExOk B Ω d n (.asrt m) := fun c env S as σ τ fl s A x E hE hA F hx he => by
  cases x <;> first | (cases hx; done) | skip
  rename_i test msg pos
  cases msg with
  | some _ => cases hx
  | none =>
    have hx : isE c m test = true := hx
    have he : (match testM Ω m σ.V σ.K σ.H with
      | some true => some (Fl.next, σ)
      | _ => none) = some (fl, τ) := he
    cases h1 : testM Ω m σ.V σ.K σ.H with
    | none => rw [h1] at he; cases he
    | some k =>
      rw [h1] at he
      cases k with
      | false => cases he
      | true =>
        cases he
        refine wpAny_Assert_holds (wpAny_mono (hm c env S as σ.V σ.K σ.H s A test _ E hE hA F hx (testM_some h1)) (fun z s₁ ⟨k₁, hz⟩ => ?_) fun _ _ e => e)
        cases hz
        exact ⟨rfl, [], Aft.one (F.kp O k₁) k₁.q rfl⟩
theorem ex_try (O : B.Ok) {b : MSs} (hb : ExsOk B Ω d n b) : ExOk B Ω d n (.tryP b) := fun c env S as σ τ fl s A x E hE hA F hx he => by
  cases x <;> first | (cases hx; done) | skip
  rename_i body hs orelse final pos
  cases orelse <;> first | (cases hx; done) | skip
  cases final <;> first | (cases hx; done) | skip
  have hx : isSs c b body = true := hx
  have he : execsM Ω n b σ = some (fl, τ) := he
  rw [arm_exec_Try]
  refine wpAny_bind (wpAny_standAt ?_)
  unfold tryStmt
  simp only [List.isEmpty_nil, if_true]
  refine wpAny_bind (wpAny_attempt (wpAny_mono (hb c env S as σ τ fl s A body (fun _ _ => False) hE hA F hx he) (fun f s₁ ⟨n₁, a₁⟩ => ?_) fun _ _ e => e.elim))
  cases f with
  | next => exact wpAny_execs_nil ⟨n₁, a₁⟩
  | brk => exact wpAny_pure ⟨n₁, a₁⟩
  | cont => exact wpAny_pure ⟨n₁, a₁⟩
  | ret v => exact wpAny_pure ⟨n₁, a₁⟩
theorem ex_whl (O : B.Ok) {t : ME} {b : MSs} (ht : TestOk B Ω d t) (hb : ExsOk B Ω d n b) : ExOk B Ω d n (.whl t b) := fun c env S as σ τ fl s A x E hE hA F hx he => by
  cases x <;> first | (cases hx; done) | skip
  rename_i test body orelse pos
  cases orelse <;> first | (cases hx; done) | skip
  have hx : (isE c t test && isSs c b body) = true := hx
  simp only [Bool.and_eq_true] at hx
  have he : whlN (fun τ => testM Ω t τ.V τ.K τ.H) (execsM Ω n b) n σ = some (fl, τ) := he
  refine wpAny_While (codeAny_whileLoop (fun k s' => ∃ σ' new, Aft B c env S as s .next σ' .next s' new ∧ whlN (fun τ => testM Ω t τ.V τ.K τ.H) (execsM Ω n b) k σ' = some (fl, τ)) (fun k s₁ hI => ?_) n ⟨σ, [], Aft.one F (Kp.refl F.inv).q rfl, he⟩)
  obtain ⟨σ', new, a₁, hw⟩ := hI
  cases k with
  | zero => cases hw
  | succ k =>
    have hw : (match testM Ω t σ'.V σ'.K σ'.H with
      | some false => some (Fl.next, σ')
      | some true => match execsM Ω n b σ' with
        | some (.next, τ) => whlN (fun τ => testM Ω t τ.V τ.K τ.H) (execsM Ω n b) k τ
        | some (.cont, τ) => whlN (fun τ => testM Ω t τ.V τ.K τ.H) (execsM Ω n b) k τ
        | some (.brk, τ) => some (.next, τ)
        | some (.ret v, τ) => some (.ret v, τ)
        | none => none
      | none => none) = some (fl, τ) := hw
    cases h1 : testM Ω t σ'.V σ'.K σ'.H with
    | none => rw [h1] at hw; cases hw
    | some z =>
      rw [h1] at hw
      refine wpAny_mono (ht c env S (as ++ new) σ'.V σ'.K σ'.H s₁ A test _ _ hE hA a₁.fr hx.1 (testM_some h1)) (fun z' s₂ ⟨k₂, hz⟩ => ?_) fun _ _ e => e
      cases hz
      have F₂ := a₁.fr.kp O k₂
      have a₂ : Aft B c env S as s .next σ' .next s₂ new := by
        have := Aft.then O hE F a₁ (Aft.one (τ := σ') F₂ k₂.q (show FlOk S s₂.heap .next .next from rfl))
        rwa [List.append_nil] at this
      cases z with
      | false =>
        cases hw
        simp only [Bool.false_eq_true, if_false]
        exact wpAny_execs_nil ⟨new, a₂⟩
      | true =>
        simp only [if_true]
        dsimp only at hw
        cases h2 : execsM Ω n b σ' with
        | none => rw [h2] at hw; cases hw
        | some p =>
          obtain ⟨f₁, τ₁⟩ := p
          rw [h2] at hw
          refine wpAny_mono (hb c env S (as ++ new) σ' τ₁ f₁ s₂ A body _ hE hA F₂ hx.2 h2) (fun f s₃ ⟨n₃, a₃⟩ => ?_) fun _ _ e => e
          have a₄ := Aft.then O hE F a₂ a₃
          cases f₁ with
          | next =>
            have hf := a₃.fl
            rw [show f = .next from hf] at a₄ ⊢
            exact ⟨k, Nat.lt_succ_self _, τ₁, _, a₄, hw⟩
          | cont =>
            have hf := a₃.fl
            rw [show f = .cont from hf]
            exact ⟨k, Nat.lt_succ_self _, τ₁, _, { a₄ with fl := rfl }, hw⟩
          | brk =>
            cases hw
            have hf := a₃.fl
            rw [show f = .brk from hf]
            exact ⟨_, { a₄ with fl := rfl }⟩
          | ret u =>
            cases hw
            obtain ⟨v, rfl, _⟩ := a₃.fl
            exact ⟨_, a₄⟩
end
end Mine
namespace Mine
variable {B : BW} {Ω : Om} {d n : Nat}
section
variable {c : Cx} {env : Env} {S as X : List Addr} {G : List Nat} {V V' K K' : Vs} {H : Hs} {s s' : Shared} {A : Around} {E : Value → Shared → Prop}
theorem FR.apartMut (F : FR B c env S as V K H s) (hE : EnvOk c env) : Apart s.heap S as (Mut c env as) := fun a ha o ho => by
  rcases List.mem_cons.mp ha with rfl | ha
  · exact F.apartLoc _ List.mem_cons_self o ho
  · rcases List.mem_append.mp ha with hb | hb
    · obtain ⟨x, hx, hl⟩ := List.mem_filterMap.mp hb
      obtain ⟨o', v, e, hd⟩ := F.celCell hx hl (hE.celn x hx)
      rw [e] at ho; cases ho
      exact .inl (NotVR.cell hd)
    · obtain ⟨vs, n, e⟩ := F.heldAs a hb
      rw [e] at ho; cases ho
      exact .inr ⟨rfl, .inr hb⟩
theorem Mut.sub {new : List Addr} : ∀ a ∈ Mut c env as, a ∈ Mut c env (as ++ new) := fun a ha => by
  rcases List.mem_cons.mp ha with rfl | ha
  · exact Mut.loc
  · rcases List.mem_append.mp ha with hb | hb
    · exact List.mem_cons_of_mem _ (List.mem_append_left _ hb)
    · exact Mut.own (List.mem_append_left _ hb)
theorem el_grow {it : Value} {X fp : List Addr} {G : List Nat} {xs : List PV} {St : Nat → Shared → Prop} {El : Shared → List Addr → List Addr → Prop} (W : Wlk B d it X fp G xs St El) {s : Shared} {S : List Addr} : ∀ (l as : List Addr), El s S as → (∀ a ∈ l, s.heap.get? a = none) → El s S (as ++ l)
  | [], as, h, _ => by rw [List.append_nil]; exact h
  | a :: l, as, h, hn => by
    have := el_grow W l (as ++ [a]) (W.elG s S as a h (hn a List.mem_cons_self)) fun b hb => hn b (List.mem_cons_of_mem _ hb)
    rwa [List.append_assoc] at this
theorem for_loop (O : B.Ok) (hE : EnvOk c env) (hA : AOk d A) {it : Value} {fp : List Addr} {xs : List PV} {St : Nat → Shared → Prop} {El : Shared → List Addr → List Addr → Prop} (W : Wlk B d it X fp G xs St El) {t : Tgt} {target : Expr} {body : List Stmt} {b : MSs}
    (htgt : tgtIs c.nm t target = true) (hb : ExsOk B Ω d n b) (hbody : isSs c b body = true) {σ τ : Mine.St} {fl : Fl} (hf : forL t (execsM Ω n b) xs σ = some (fl, τ)) (F : FR B c env S as σ.V σ.K σ.H s)
    (hst : St 0 s) (hel : El s S as) (off : Off c env S as X) (hfp : ∀ b ∈ fp, b ∉ Mut c env as ∧ s.heap.get? b ≠ none)
    {R : Result → Shared → Prop} (hR : ∀ f s' new, FR B c env S (as ++ new) τ.V τ.K τ.H s' → (∀ a ∈ new, s.heap.get? a = none) → Kg B (X ++ Mut c env as) G s s' → FlOk S s'.heap fl f → R (.ok f) s') :
    codeAny (model B.prog B.w) A (.forLoop target it body [] env) R s := by
  refine codeAny_forLoop_any (fun k s' => ∃ i σ' new, k = xs.length - i ∧ FR B c env S (as ++ new) σ'.V σ'.K σ'.H s' ∧ (∀ a ∈ new, s.heap.get? a = none) ∧ Kg B (X ++ Mut c env as) G s s' ∧ St i s' ∧ El s' S (as ++ new) ∧ forL t (execsM Ω n b) (xs.drop i) σ' = some (fl, τ))
    (fun k s₁ hI => ?_) xs.length ⟨0, σ, [], rfl, by rw [List.append_nil]; exact F, by simp, (Kp.refl F.inv).g, hst, by rw [List.append_nil]; exact hel, hf⟩
  obtain ⟨i, σ', new, rfl, F₁, hnew, k₁, hst₁, hel₁, hf₁⟩ := hI
  have offN : Off c env S (as ++ new) X := ⟨off.loc, off.cel, off.S, fun a ha hm => by
    rcases List.mem_append.mp ha with ha | ha
    · exact off.as a ha hm
    · exact W.there 0 s hst a hm (hnew a ha)⟩
  refine wpAny_mono (W.next i s₁ S (as ++ new) A _ hA F₁.inv F₁.held F₁.heldAs hst₁ hel₁) (fun o s₂ ⟨k₂, h₂⟩ => ?_) fun _ _ e => e
  have apX := W.ap i s₁ hst₁
  have F₂ := F₁.off O k₂ apX offN
  have hel₂ := W.elF _ _ _ _ _ _ F₁.inv hel₁ k₂ (fun a ha o ho => .inl (apX a ha o ho))
  have k₂' : Kg B (X ++ Mut c env as) G s s₂ := k₁.trans (k₂.mono (fun a ha => List.mem_append_left _ ha) (fun g hg => hg))
  cases hx : xs[i]? with
  | none =>
    rw [hx] at h₂
    subst h₂
    have : xs.drop i = [] := List.drop_eq_nil_of_le (by simpa using hx)
    rw [this] at hf₁
    cases hf₁
    exact wpAny_execs_nil (hR .next s₂ new F₂ hnew k₂' rfl)
  | some x =>
    rw [hx] at h₂
    obtain ⟨v, rfl, hst₂, hv⟩ := h₂
    obtain ⟨hi, hxe⟩ := List.getElem?_eq_some_iff.mp hx
    rw [List.drop_eq_getElem_cons hi, hxe] at hf₁
    have hf₁ : (match bindT t x σ'.V with
      | some V' => match execsM Ω n b { σ' with V := V' } with
        | some (.next, τ) => forL t (execsM Ω n b) (xs.drop (i + 1)) τ
        | some (.cont, τ) => forL t (execsM Ω n b) (xs.drop (i + 1)) τ
        | some (.brk, τ) => some (.next, τ)
        | some (.ret v, τ) => some (.ret v, τ)
        | none => none
      | none => none) = some (fl, τ) := hf₁
    cases hbt : bindT t x σ'.V with
    | none => rw [hbt] at hf₁; cases hf₁
    | some V₁ =>
      rw [hbt] at hf₁
      dsimp only at hf₁
      cases h3 : execsM Ω n b { σ' with V := V₁ } with
      | none => rw [h3] at hf₁; cases hf₁
      | some p =>
        obtain ⟨f₁, τ₁⟩ := p
        rw [h3] at hf₁
        refine W.go (i + 1) s₂ A _ target v _ hst₂ ?_
        refine wpAny_mono (tgt_sound O hE hA.handled F₂ htgt hv hbt) (fun _ s₃ ⟨k₃, F₃⟩ => ?_) fun _ _ e => e
        refine wpAny_mono (hb c env S (as ++ new) { σ' with V := V₁ } τ₁ f₁ s₃ A body _ hE hA F₃ hbody h3) (fun f s₄ ⟨n₄, a₄⟩ => ?_) fun _ _ e => e
        have fpN : ∀ b ∈ fp, b ∉ Mut c env (as ++ new) := fun b hb hm => (Mut.more hm).elim (hfp b hb).1 fun q => (hfp b hb).2 (hnew b q)
        have hst₃ := W.frame _ _ _ _ _ F₂.inv hst₂ k₃ (fun b hb hm => fpN b hb (List.mem_singleton.mp hm ▸ Mut.loc)) (by simp)
        have hst₄ := W.frame _ _ _ _ _ F₃.inv hst₃ a₄.k fpN (by simp)
        have hel₃ := W.elF _ _ _ _ _ _ F₂.inv hel₂ k₃ F₂.apartLoc
        have hel₃' := el_grow W n₄ _ hel₃ a₄.new
        have ap₄ : Apart s₃.heap S ((as ++ new) ++ n₄) (Mut c env (as ++ new)) := fun a ha o ho => (F₃.apartMut hE a ha o ho).imp id fun q => ⟨q.1, q.2.imp id fun z => List.mem_append_left _ z⟩
        have hel₄ := W.elF _ _ _ _ _ _ F₃.inv hel₃' a₄.k ap₄
        have kb : Kg B (X ++ Mut c env (as ++ new)) G s s₄ := ((k₂'.mono (fun a ha => by
            rcases List.mem_append.mp ha with q | q
            · exact List.mem_append_left _ q
            · exact List.mem_append_right _ (Mut.sub a q)) (fun g hg => hg)).trans (k₃.mono (fun a ha => List.mem_append_right _ (List.mem_singleton.mp ha ▸ Mut.loc)) (by simp))).trans (a₄.k.mono (fun a ha => List.mem_append_right _ ha) (by simp))
        have k₄ : Kg B (X ++ Mut c env as) G s s₄ := kb.fresh (fun a ha => by
            rcases List.mem_append.mp ha with q | q
            · exact .inl (List.mem_append_left _ q)
            · exact (Mut.more q).imp (fun z => List.mem_append_right _ z) (hnew a)) fun g hg => .inl hg
        have hnew₄ : ∀ a ∈ new ++ n₄, s.heap.get? a = none := fun a ha => by
          rcases List.mem_append.mp ha with q | q
          · exact hnew a q
          · have h3n := a₄.new a q
            have k₃' : Kg B (X ++ Mut c env as) G s s₃ := k₂'.trans (k₃.mono (fun a ha => List.mem_append_right _ (List.mem_singleton.mp ha ▸ Mut.loc)) (by simp))
            refine k₃'.none_back O F.inv h3n fun b hb => ?_
            rcases List.mem_append.mp hb with z | z
            · exact W.there _ s₃ hst₃ b z
            · exact F₃.mutThere hE b (Mut.sub b z)
        have F₄ := a₄.fr
        rw [List.append_assoc] at F₄ hel₄
        cases f₁ with
        | next =>
          have hfl := a₄.fl
          rw [show f = .next from hfl]
          exact ⟨xs.length - (i + 1), by omega, i + 1, τ₁, _, rfl, F₄, hnew₄, k₄, hst₄, hel₄, hf₁⟩
        | cont =>
          have hfl := a₄.fl
          rw [show f = .cont from hfl]
          exact ⟨xs.length - (i + 1), by omega, i + 1, τ₁, _, rfl, F₄, hnew₄, k₄, hst₄, hel₄, hf₁⟩
        | brk =>
          cases hf₁
          have hfl := a₄.fl
          rw [show f = .brk from hfl]
          exact hR .next s₄ _ F₄ hnew₄ k₄ rfl
        | ret u =>
          cases hf₁
          obtain ⟨v, rfl, r⟩ := a₄.fl
          exact hR (.ret v) s₄ _ F₄ hnew₄ k₄ ⟨v, rfl, r⟩
end
end Mine
namespace Mine
variable {B : BW} {Ω : Om} {d n : Nat}
section
variable {c : Cx} {env : Env} {S as X : List Addr} {G : List Nat} {V V' K K' : Vs} {H : Hs} {s s' : Shared} {A : Around} {E : Value → Shared → Prop}
theorem Kp.noneBack (O : B.Ok) {a : Addr} (k : Kp B s s') (I : Inv B s) (h : s'.heap.get? a = none) : s.heap.get? a = none := Kg.none_back (X := []) (G := []) O k.g I h (by simp)
theorem FpOk.mut {fp : List Addr} (h : FpOk s S as fp) (F : FR B c env S as V K H s) (hE : EnvOk c env) : ∀ b ∈ fp, b ∉ Mut c env as := fun b hb hm => by
  rcases h b hb with q | ⟨o, e, h1, h2, _, x, n, hd⟩
  · exact F.mutThere hE b hm q
  · rcases List.mem_cons.mp hm with rfl | hm
    · obtain ⟨o', y, n', e', hd'⟩ := F.locDict
      rw [e] at e'; cases e'; rw [hd] at hd'; cases hd'
    · rcases List.mem_append.mp hm with hm | hm
      · obtain ⟨y, hy, hl⟩ := List.mem_filterMap.mp hm
        obtain ⟨o', w, e', hd'⟩ := F.celCell hy hl (hE.celn y hy)
        rw [e] at e'; cases e'; rw [hd] at hd'; cases hd'
      · exact h2 hm
theorem ex_for (O : B.Ok) {t : Tgt} {m : ME} {b : MSs} (hm : EvOk B Ω d m) (hb : ExsOk B Ω d n b) : ExOk B Ω d n (.for_ t m b) := fun c env S as σ τ fl s A x E hE hA F hx he => by
  cases x <;> first | (cases hx; done) | skip
  rename_i target iter body orelse pos
  cases orelse <;> first | (cases hx; done) | skip
  have hx : (tgtIs c.nm t target && isE c m iter && isSs c b body) = true := hx
  simp only [Bool.and_eq_true] at hx
  have he : (match evalM Ω m σ.V σ.K σ.H with
    | some v => if isLoc v then none else match itemsP v with
      | some xs => forL t (execsM Ω n b) xs σ
      | none => none
    | none => none) = some (fl, τ) := he
  cases h1 : evalM Ω m σ.V σ.K σ.H with
  | none => rw [h1] at he; cases he
  | some v =>
    rw [h1] at he
    dsimp only at he
    split at he
    · cases he
    · cases h2 : itemsP v with
      | none => rw [h2] at he; cases he
      | some xs =>
        rw [h2] at he
        refine wpAny_For (wpAny_mono (hm c env S as σ.V σ.K σ.H s A iter v E hE hA F hx.1.2 h1) (fun val s₁ ⟨k₁, r₁⟩ => ?_) fun _ _ e => e) (notSet_of_isE hx.1.2 env)
        have F₁ := F.kp O k₁
        refine wpAny_mono (iter_sound O F₁.inv hA (Src.of_vr r₁ h2) h2) (fun it s₂ ⟨I, fp, St, El, e, hI, W, hst, hel, k₂, hfo, hIf, hfp, _⟩ => ?_) fun _ _ e => e
        subst e
        have F₂ := F₁.kp O k₂
        refine for_loop O hE hA W hx.1.1 hb hx.2 he F₂ hst hel (F₁.offOf hE (by simpa using hI)) (fun b hb => ⟨hfo.mut F₁ hE b hb, hfp b hb⟩) fun f s' new F' hnew k fok => ?_
        refine ⟨new, F', fun a ha => k₁.noneBack O F.inv (k₂.noneBack O F₁.inv (hnew a ha)), ?_, fok⟩
        refine ((k₁.g.trans k₂.g).trans k).fresh fun a ha => ?_
        rcases List.mem_append.mp ha with q | q
        · rw [List.mem_singleton.mp q]; exact .inr (k₁.noneBack O F.inv hI)
        · exact .inl q
theorem swaps_no {x : Expr} (h : notComp x = true) (t : Option Expr) (l : Nat) (env : Env) : swapsWith x t l env = pure false := by
  cases x <;> first | rfl | cases h
theorem asg_core (O : B.Ok) (hE : EnvOk c env) {i : Nat} {t x : Expr} {pos : Pos} (hn : nameIs c.nm i t = true) (hc : notComp x = true) {σ : St} {pv : PV} {τ : St} (hτ : τ.V = σ.V.set i (some pv) ∧ τ.K = σ.K ∧ τ.H = σ.H)
    (h : wpAny (model B.prog B.w) A (eval x env) (fun v s₁ => ∃ new, FR B c env S (as ++ new) σ.V σ.K σ.H s₁ ∧ (∀ a ∈ new, s.heap.get? a = none) ∧ Kq B (Mut c env as) s s₁ ∧ VR s₁.heap S (as ++ new) pv v) E s) :
    wpAny (model B.prog B.w) A (exec (.Assign [t] x pos) env) (fun f s' => ∃ new, Aft B c env S as s .next τ f s' new) E s := by
  obtain ⟨y, p, rfl, hi⟩ := nameIs_eq hn
  refine wpAny_Assign_Name (wpAny_mono h (fun v s₁ ⟨new, F₁, hnew, k₁, r₁⟩ => ?_) fun _ _ e => e) (swaps_no hc _ _ _)
  refine wpAny_mono (store_sound O hE F₁ hi r₁) (fun _ s₂ ⟨k₂, F₂⟩ => ?_) fun _ _ e => e
  refine ⟨new, ?_, hnew, k₁.trans (k₂.mono fun a ha => List.mem_singleton.mp ha ▸ Mut.loc), rfl⟩
  rw [hτ.1, hτ.2.1, hτ.2.2]; exact F₂
theorem ex_asg (O : B.Ok) {i : Nat} {m : ME} (hm : EvOk B Ω d m) : ExOk B Ω d n (.asg i m) := fun c env S as σ τ fl s A x E hE hA F hx he => by
  cases x <;> first | (cases hx; done) | skip
  rename_i ts y pos
  rcases ts with _ | ⟨t, _ | ⟨_, _⟩⟩ <;> first | (cases hx; done) | skip
  have hx : (nameIs c.nm i t && isE c m y && notComp y) = true := hx
  simp only [Bool.and_eq_true] at hx
  have he : (match evalM Ω m σ.V σ.K σ.H with
    | some v => some (Fl.next, { σ with V := σ.V.set i (some v) })
    | none => none) = some (fl, τ) := he
  cases h1 : evalM Ω m σ.V σ.K σ.H with
  | none => rw [h1] at he; cases he
  | some pv =>
    rw [h1] at he
    cases he
    refine asg_core O hE hx.1.1 hx.2 (σ := σ) (pv := pv) ⟨rfl, rfl, rfl⟩ (wpAny_mono (hm c env S as σ.V σ.K σ.H s A y pv E hE hA F hx.1.2 h1) (fun v s₁ ⟨k₁, r₁⟩ => ?_) fun _ _ e => e)
    exact ⟨[], by rw [List.append_nil]; exact F.kp O k₁, by simp, k₁.q, by rw [List.append_nil]; exact r₁⟩
theorem nil_rule (O : B.Ok) {x : Expr} (h : isNil x = true) {Q : Value → Shared → Prop} (hQ : Q (.ref s.heap.objs.size) { s with heap := s.heap.push { cls := .type "list", data := .seq #[] } }) : wpAny (model B.prog B.w) A (eval x env) Q E s := by
  cases x <;> first | (cases h; done) | skip
  rename_i es p
  cases es <;> first | (cases h; done) | skip
  exact wpAny_List_spliced (Calls.spliced_nil ⟨Nat.zero_le _, hQ⟩)
theorem isNil_comp {x : Expr} (h : isNil x = true) : notComp x = true := by
  cases x <;> first | rfl | (cases h; done)
theorem ex_newL (O : B.Ok) {i : Nat} : ExOk B Ω d n (.newL i) := fun c env S as σ τ fl s A x E hE hA F hx he => by
  cases x <;> first | (cases hx; done) | skip
  rename_i ts y pos
  rcases ts with _ | ⟨t, _ | ⟨_, _⟩⟩ <;> first | (cases hx; done) | skip
  have hx : (nameIs c.nm i t && isNil y) = true := hx
  simp only [Bool.and_eq_true] at hx
  cases he
  have F₁ := F.own_new O (Kp.push (s := s) (o := { cls := .type "list", data := .seq #[] }) O F.inv) (fresh_none _) (vs := #[]) (xs := []) ⟨_, Heap.get?_push_size _ rfl⟩ (Nat.zero_le _) rfl
  obtain ⟨z, p, rfl, hi⟩ := nameIs_eq hx.1
  refine wpAny_Assign_Name (nil_rule O hx.2 ?_) (swaps_no (isNil_comp hx.2) _ _ _)
  refine wpAny_mono (store_sound O hE F₁ hi (pv := .loc σ.H.length) ⟨_, by rw [← F.len, List.getElem?_append_right (Nat.le_refl _), Nat.sub_self]; rfl, rfl⟩) (fun _ s₂ ⟨k₂, F₂⟩ => ?_) fun _ _ e => e
  refine ⟨[s.heap.objs.size], F₂, fun a ha => List.mem_singleton.mp ha ▸ fresh_none _, ?_, rfl⟩
  exact (Kp.push (s := s) (o := { cls := .type "list", data := .seq #[] }) O F.inv).g.trans (k₂.mono fun a ha => List.mem_singleton.mp ha ▸ Mut.loc)
end
end Mine
namespace Mine
variable {B : BW} {Ω : Om} {d n : Nat}
section
variable {c : Cx} {env : Env} {S as X : List Addr} {G : List Nat} {V V' K K' : Vs} {H : Hs} {s s' : Shared} {A : Around} {E : Value → Shared → Prop}
theorem celIs_eq {j : Nat} {t : Expr} (h : celIs c j t = true) : ∃ y p, t = .Name y p ∧ c.cn[j]? = some y ∧ y ∈ c.ck := by
  cases t <;> first | (cases h; done) | skip
  rename_i y p
  have h : (c.cn[j]? == some y && c.ck.contains y) = true := h
  rw [Bool.and_eq_true] at h
  exact ⟨y, p, rfl, eq_of_beq h.1, by simpa using h.2⟩
theorem Kq.cellMut {x : Str} (hx : x ∈ c.ck) (h : ∃ a, env.cells.lookup x = some a ∧ Kq B [a] s s') : Kq B (Mut c env as) s s' := by
  obtain ⟨a, ha, k⟩ := h
  exact k.mono fun b hb => List.mem_singleton.mp hb ▸ Mut.cell hx ha
theorem ex_newC (O : B.Ok) {j : Nat} : ExOk B Ω d n (.newC j) := fun c env S as σ τ fl s A x E hE hA F hx he => by
  cases x <;> first | (cases hx; done) | skip
  rename_i ts y pos
  rcases ts with _ | ⟨t, _ | ⟨_, _⟩⟩ <;> first | (cases hx; done) | skip
  have hx : (celIs c j t && isNil y) = true := hx
  simp only [Bool.and_eq_true] at hx
  cases he
  have F₁ := F.own_new O (Kp.push (s := s) (o := { cls := .type "list", data := .seq #[] }) O F.inv) (fresh_none _) (vs := #[]) (xs := []) ⟨_, Heap.get?_push_size _ rfl⟩ (Nat.zero_le _) rfl
  obtain ⟨z, p, rfl, hi, hc⟩ := celIs_eq hx.1
  refine wpAny_Assign_Name (nil_rule O hx.2 ?_) (swaps_no (isNil_comp hx.2) _ _ _)
  refine wpAny_mono (cell_sound O hE F₁ hi hc (pv := .loc σ.H.length) ⟨_, by rw [← F.len, List.getElem?_append_right (Nat.le_refl _), Nat.sub_self]; rfl, rfl⟩) (fun _ s₂ ⟨k₂, F₂⟩ => ?_) fun _ _ e => e
  refine ⟨[s.heap.objs.size], F₂, fun a ha => List.mem_singleton.mp ha ▸ fresh_none _, ?_, rfl⟩
  exact (Kp.push (s := s) (o := { cls := .type "list", data := .seq #[] }) O F.inv).g.trans (Kq.cellMut hc k₂)
theorem ex_asgC (O : B.Ok) {j : Nat} {m : ME} (hm : EvOk B Ω d m) : ExOk B Ω d n (.asgC j m) := fun c env S as σ τ fl s A x E hE hA F hx he => by
  cases x <;> first | (cases hx; done) | skip
  rename_i ts y pos
  rcases ts with _ | ⟨t, _ | ⟨_, _⟩⟩ <;> first | (cases hx; done) | skip
  have hx : (celIs c j t && isE c m y && notComp y) = true := hx
  simp only [Bool.and_eq_true] at hx
  have he : (match evalM Ω m σ.V σ.K σ.H with
    | some v => some (Fl.next, { σ with K := σ.K.set j (some v) })
    | none => none) = some (fl, τ) := he
  cases h1 : evalM Ω m σ.V σ.K σ.H with
  | none => rw [h1] at he; cases he
  | some pv =>
    rw [h1] at he
    cases he
    obtain ⟨z, p, rfl, hi, hc⟩ := celIs_eq hx.1.1
    refine wpAny_Assign_Name (wpAny_mono (hm c env S as σ.V σ.K σ.H s A y pv E hE hA F hx.1.2 h1) (fun v s₁ ⟨k₁, r₁⟩ => ?_) fun _ _ e => e) (swaps_no hx.2 _ _ _)
    refine wpAny_mono (cell_sound O hE (F.kp O k₁) hi hc r₁) (fun _ s₂ ⟨k₂, F₂⟩ => ?_) fun _ _ e => e
    exact ⟨[], Aft.one F₂ (k₁.q.trans (Kq.cellMut hc k₂)) rfl⟩
theorem ex_asgT (O : B.Ok) {is : List Nat} {m : ME} (hm : EvOk B Ω d m) : ExOk B Ω d n (.asgT is m) := fun c env S as σ τ fl s A x E hE hA F hx he => by
  cases x <;> first | (cases hx; done) | skip
  rename_i ts y pos
  rcases ts with _ | ⟨t, _ | ⟨_, _⟩⟩ <;> first | (cases hx; done) | skip
  have hx : (tgtIs c.nm (.tup is) t && isE c m y && notComp y && !isTuple y) = true := hx
  simp only [Bool.and_eq_true, Bool.not_eq_true'] at hx
  have he : (match evalM Ω m σ.V σ.K σ.H with
    | some v => match bindT (.tup is) v σ.V with
      | some V' => some (Fl.next, { σ with V := V' })
      | none => none
    | none => none) = some (fl, τ) := he
  cases h1 : evalM Ω m σ.V σ.K σ.H with
  | none => rw [h1] at he; cases he
  | some pv =>
    rw [h1] at he
    dsimp only at he
    cases h2 : bindT (.tup is) pv σ.V with
    | none => rw [h2] at he; cases he
    | some V' =>
      rw [h2] at he
      cases he
      cases t <;> first | (cases hx.1.1.1; done) | skip
      rename_i es x1 p _
      refine Assign_Tuple (wpAny_mono (hm c env S as σ.V σ.K σ.H s A y pv E hE hA F hx.1.1.2 h1) (fun v s₁ ⟨k₁, r₁⟩ => ?_) fun _ _ e => e) (show swapsWith y (some (.Tuple es x1 p)) pos.line env = pure false from swaps_no hx.1.2 _ _ _) ?_
      · refine wpAny_mono (tup_sound O hE hA.handled (F.kp O k₁) (show namesAre c.nm is es = true from hx.1.1.1) r₁ h2) (fun _ s₂ ⟨k₂, F₂⟩ => ?_) fun _ _ e => e
        exact ⟨[], Aft.one F₂ (k₁.q.trans (k₂.mono fun a ha => List.mem_singleton.mp ha ▸ Mut.loc)) rfl⟩
      · have := hx.2
        cases y <;> first | rfl | (cases this; done)
theorem ex_newLL (O : B.Ok) {i : Nat} : ExOk B Ω d n (.newLL i) := fun c env S as σ τ fl s A x E hE hA F hx he => by
  cases x <;> first | (cases hx; done) | skip
  rename_i ts y pos
  rcases ts with _ | ⟨t, _ | ⟨_, _⟩⟩ <;> first | (cases hx; done) | skip
  have hx : (nameIs c.nm i t && isNilNil y) = true := hx
  simp only [Bool.and_eq_true] at hx
  cases he
  have hy : ∃ z p, y = .List [z] p ∧ isNil z = true := by
    have := hx.2
    cases y <;> first | (cases this; done) | skip
    rename_i es p _
    rcases es with _ | ⟨z, _ | ⟨_, _⟩⟩ <;> first | (cases this; done) | skip
    exact ⟨z, p, rfl, this⟩
  obtain ⟨z, p, rfl, hz⟩ := hy
  obtain ⟨w, p', rfl, hi⟩ := nameIs_eq hx.1
  have kp₁ := Kp.push (s := s) (o := { cls := .type "list", data := .seq #[] }) O F.inv
  have F₁ := F.own_new O kp₁ (fresh_none _) (vs := #[]) (xs := []) ⟨_, Heap.get?_push_size _ rfl⟩ (Nat.zero_le _) rfl
  have kp₂ := Kp.push (s := { s with heap := s.heap.push { cls := .type "list", data := .seq #[] } }) (o := { cls := .type "list", data := .seq #[.ref s.heap.objs.size] }) O F₁.inv
  have h0 := fresh_none (s.heap.push { cls := .type "list", data := .seq #[] })
  have F₂ := F₁.own_new O kp₂ h0 (vs := #[.ref s.heap.objs.size]) (xs := [.loc σ.H.length]) ⟨_, Heap.get?_push_size _ rfl⟩ (by rw [sizeLine_eq]; show 1 ≤ 16777216; omega) ⟨_, [], rfl, ⟨s.heap.objs.size, by rw [← F.len, List.getElem?_append_left (by simp), List.getElem?_append_right (Nat.le_refl _), Nat.sub_self]; rfl, rfl⟩, rfl⟩
  refine wpAny_Assign_Name (wpAny_List_spliced ?_) (swaps_no rfl _ _ _)
  have hst : starEach [z] env = [(false, eval z env)] := by cases z <;> first | rfl | (cases hz; done)
  rw [hst]
  refine Calls.spliced_cons (nil_rule O hz (Calls.spliced_nil ⟨by rw [sizeLine_eq]; show 1 ≤ 16777216; omega, ?_⟩))
  rw [List.append_assoc, List.append_assoc] at F₂
  refine wpAny_mono (store_sound O hE F₂ hi (pv := .loc (σ.H.length + 1)) ⟨_, by rw [← F.len, List.getElem?_append_right (by omega), show as.length + 1 - as.length = 1 by omega]; rfl, rfl⟩) (fun _ s₂ ⟨k₂, F₃⟩ => ?_) fun _ _ e => e
  refine ⟨_, F₃, fun a ha => ?_, (kp₁.g.trans kp₂.g).trans (k₂.mono fun a ha => List.mem_singleton.mp ha ▸ Mut.loc), rfl⟩
  rcases List.mem_cons.mp ha with rfl | ha
  · exact fresh_none _
  · rw [List.mem_singleton.mp ha]
    exact kp₁.noneBack O F.inv h0
end
end Mine
namespace Mine
variable {B : BW} {Ω : Om} {d n : Nat}
section
variable {c : Cx} {env : Env} {S as X : List Addr} {G : List Nat} {V V' K K' : Vs} {H : Hs} {s s' : Shared} {A : Around} {E : Value → Shared → Prop}
def isStar : Expr → Bool
  | .Starred .. => true
  | _ => false
theorem notStarOf {m : ME} {x : Expr} (h : isE c m x = true) : isStar x = false := by
  cases x <;> first | rfl | (rw [not_starred] at h; cases h)
theorem swapped_two (hE : EnvOk c env) {i j : Nat} {m m' : ME} {n₁ n₂ : Str} {p₁ p₂ p p' : Pos} {k k'} {x y : Expr} (h1 : c.nm[i]? = some n₁) (h2 : c.nm[j]? = some n₂) (hij : i ≠ j) (hl : (p₁.line == p₂.line) = true) (hx : isE c m x = true) (hy : isE c m' y = true)
    (hf : (foldedForSure 8 x && foldedForSure 8 y) = false) (hc : (constantsAlone 8 x && constantsAlone 8 y) = false) :
    swappedStores [.Tuple [.Name n₁ p₁, .Name n₂ p₂] k p] (.Tuple [x, y] k' p') env = pure (some [n₁, n₂]) := by
  have hne : n₁ ≠ n₂ := by
    rintro rfl
    obtain ⟨a1, a2⟩ := List.getElem?_eq_some_iff.mp h1
    obtain ⟨b1, b2⟩ := List.getElem?_eq_some_iff.mp h2
    exact hij ((List.getElem_inj hE.nodup).mp (a2.trans b2.symm))
  have hbk : env.blockKind = .function := by unfold Env.blockKind; rw [hE.kind]; rfl
  unfold swappedStores
  have e1 := notStarOf hx
  have e2 := notStarOf hy
  have l1 : (p₂.line == p₁.line) = true := by rw [eq_of_beq hl]; exact beq_self_eq_true _
  have allf : [x, y].all (foldedForSure 8) = false := by simpa using hf
  have allc : [x, y].all (constantsAlone 8) = false := by simpa using hc
  have dup : ([n₁, n₂].eraseDups.length != 2) = false := by
    have : ¬ (n₂ == n₁) = true := fun h => hne (eq_of_beq h).symm
    simp [List.eraseDups_cons, hne.symm]
  simp only [hbk]
  refine (if_neg (by simp)).trans ?_
  refine (if_neg ?_).trans ?_
  · show ¬ ((isStar x || (isStar y || false)) = true)
    rw [e1, e2]; decide
  have q1 : Expr.pos (.Name n₁ p₁) = p₁ := rfl
  have q2 : Expr.pos (.Name n₂ p₂) = p₂ := rfl
  simp only [List.filterMap_cons, List.filterMap_nil, List.head?_cons, Option.map_some, Option.getD_some, q1, hE.loc i _ h1, hE.loc j _ h2, beq_self_eq_true, Bool.true_and, if_true, l1, allf, allc, Bool.false_eq_true, if_false]
  rw [if_neg (by simp only [List.length_cons, List.length_nil]; rw [dup]; decide)]
theorem pairOf_eq {e a b : Expr} (h : pairOf e = some (a, b)) : ∃ k p, e = .Tuple [a, b] k p := by
  cases e <;> first | (cases h; done) | skip
  rename_i es k p
  rcases es with _ | ⟨x, _ | ⟨y, _ | ⟨z, zs⟩⟩⟩ <;> first | (cases h; done) | skip
  cases h
  exact ⟨k, p, rfl⟩
theorem ex_asgTT (O : B.Ok) (hΩ : OmOk B d Ω) {i j : Nat} {ma mb : ME} : ExOk B Ω d n (.asgTT i j ma mb) := fun c env S as σ τ fl s A x E hE hA F hx he => by
  cases x <;> first | (cases hx; done) | skip
  rename_i ts y pos
  rcases ts with _ | ⟨t, _ | ⟨_, _⟩⟩ <;> first | (cases hx; done) | skip
  have hq : (match pairOf t, pairOf y with
    | some (t, u), some (x, y) => nameIs c.nm i t && nameIs c.nm j u && i != j && t.pos.line == u.pos.line && isE c ma x && isE c mb y && !(foldedForSure 8 x && foldedForSure 8 y) && !(constantsAlone 8 x && constantsAlone 8 y)
    | _, _ => false) = true := hx
  clear hx
  split at hq
  · rename_i t₁ t₂ x₁ x₂ ht hy
    obtain ⟨k, p, rfl⟩ := pairOf_eq ht
    obtain ⟨k', p', rfl⟩ := pairOf_eq hy
    simp only [Bool.and_eq_true, Bool.not_eq_true', bne_iff_ne] at hq
    obtain ⟨⟨⟨⟨⟨⟨⟨hn₁, hn₂⟩, hij⟩, hl⟩, hxa⟩, hxb⟩, hf⟩, hc⟩ := hq
    obtain ⟨n₁, p₁, rfl, hi⟩ := nameIs_eq hn₁
    obtain ⟨n₂, p₂, rfl, hj⟩ := nameIs_eq hn₂
    have he : (match evalM Ω ma σ.V σ.K σ.H, evalM Ω mb σ.V σ.K σ.H with
      | some x, some y => if clean x && clean y then some (Fl.next, { σ with V := (σ.V.set i (some x)).set j (some y) }) else none
      | _, _ => none) = some (fl, τ) := he
    split at he
    · rename_i u w h1 h2
      split at he
      · rename_i hcl
        cases he
        rw [Bool.and_eq_true] at hcl
        have htup : evalB Ω (.tup (.cons ma (.cons mb .nil))) false σ.V σ.K σ.H = some (.tup [u, w]) := by
          have e1 : evalsB Ω (.cons ma (.cons mb .nil)) σ.V σ.K σ.H = some [u, w] := by
            show (match evalB Ω ma false σ.V σ.K σ.H, (match evalB Ω mb false σ.V σ.K σ.H, some [] with | some x, some xs => some (x :: xs) | _, _ => none) with | some x, some xs => some (x :: xs) | _, _ => none) = _
            rw [show evalB Ω ma false σ.V σ.K σ.H = some u from h1, show evalB Ω mb false σ.V σ.K σ.H = some w from h2]
          show tupO (evalsB Ω (.cons ma (.cons mb .nil)) σ.V σ.K σ.H) = _
          rw [e1]
          show (if (clean u && (clean w && true)) && decide (2 ≤ sizeLine) then some (PV.tup [u, w]) else none) = _
          rw [hcl.1, hcl.2, sizeLine_eq]; rfl
        have hisE : isE c (.tup (.cons ma (.cons mb .nil))) (.Tuple [x₁, x₂] k' p') = true := by
          show (isE c ma x₁ && (isE c mb x₂ && true)) = true
          rw [hxa, hxb]; rfl
        refine Assign_Tuple_swapped (names := [n₁, n₂]) (wpAny_mono (ev_all O hΩ _ c env S as σ.V σ.K σ.H s A _ _ E hE hA F hisE htup) (fun v s₁ ⟨k₁, r₁⟩ => ?_) fun _ _ e => e) rfl
          (swapped_two hE hi hj hij hl hxa hxb hf hc)
        have F₁ := F.kp O k₁
        obtain ⟨a, vs, rfl, _, _, ht', hz, v₁, vr, e1, r1, v₂, vr', e2, r2, e3⟩ := r₁
        have hvs : vs.toList = [v₁, v₂] := by rw [e1, e2, show vr' = [] from e3]
        have hsz : ([n₁, n₂] : List Str).length = vs.size := by rw [← Array.length_toList, hvs]; rfl
        rw [hsz]
        refine wpAny_unpackItems_tuple hA.handled (show s₁.heap.IsTuple a vs from ht') fun h' hx' => ?_
        have kp : Kp B s₁ { s₁ with heap := h' } := Kp.of_keep (k := s₁.toks) O F₁.inv (fun b o e => hx' b o (Nat.ne_of_lt (Heap.lt_size e)) e) F₁.inv.tk
        have F₂ := F₁.kp O kp
        rw [hvs]
        show wpAny _ A (assignInOrder [bindName env n₂, bindName env n₁] [v₂, v₁]) _ E _
        refine assignInOrder_cons (wpAny_bindName (wpAny_mono (store_sound O hE F₂ hj (F₁.vr O kp r2)) (fun _ s₃ ⟨k₃, F₃⟩ => ?_) fun _ _ e => e))
        refine assignInOrder_cons (wpAny_bindName (wpAny_mono (store_sound O hE F₃ hi (k₃.vr O F₂ (F₁.vr O kp r1))) (fun _ s₄ ⟨k₄, F₄⟩ => ?_) fun _ _ e => e))
        refine wpAny_pure ⟨[], Aft.one ?_ ((((k₁.trans kp).q).trans (k₃.mono fun a ha => List.mem_singleton.mp ha ▸ Mut.loc)).trans (k₄.mono fun a ha => List.mem_singleton.mp ha ▸ Mut.loc)) rfl⟩
        rw [List.set_comm _ _ hij]
        exact F₄
      · cases he
    · cases he
  · cases hq
end
end Mine
namespace Mine
variable {B : BW} {Ω : Om} {d n : Nat}
section
variable {c : Cx} {env : Env} {S as X : List Addr} {G : List Nat} {V V' K K' : Vs} {H : Hs} {s s' : Shared} {A : Around} {E : Value → Shared → Prop}
theorem attrCall_eq {m : Str} {x o : Expr} {xs : List Expr} (h : attrCall m x = some (o, xs)) : ∃ ap p, x = .Call (.Attribute o m ap) xs [] p ∧ notSuper o = true ∧ (ap.endLine == p.line) = true := by
  cases x <;> first | (cases h; done) | skip
  rename_i f ys ks p
  cases f <;> first | (cases h; done) | skip
  rename_i ob m' ap
  cases ks <;> first | (cases h; done) | skip
  have h : (if m' == m && notSuper ob && ap.endLine == p.line then some (ob, ys) else none) = some (o, xs) := h
  split at h
  · rename_i hc
    simp only [Bool.and_eq_true] at hc
    cases h
    have := eq_of_beq hc.1.1
    subst this
    exact ⟨ap, p, rfl, hc.1.2, hc.2⟩
  · cases h
theorem EnvOk.calm (hE : EnvOk c env) : interactive env = false := by
  unfold interactive
  rw [hE.kind]; rfl
theorem append_core (O : B.Ok) (hE : EnvOk c env) (hA : AOk d A) {x ob y : Expr} {pos : Pos} {mo : ME} (ho : EvOk B Ω d mo) {σ : St} (F : FR B c env S as σ.V σ.K σ.H s) (hxo : isE c mo ob = true) {l : Nat} (hl : evalM Ω mo σ.V σ.K σ.H = some (.loc l)) (hx : attrCall "append" x = some (ob, [y]))
    (hst : starEach [y] env = [(false, eval y env)]) {H' H'' : Hs} {pv : PV} (hpush : pushAt σ.H l pv = some H') (new : List Addr)
    (hy : ∀ s₁, Kp B s s₁ → FR B c env S as σ.V σ.K σ.H s₁ → wpAny (model B.prog B.w) A (eval y env) (fun v s₂ => ∃ new, (∀ a ∈ new, s₁.heap.get? a = none) ∧ Kp B s₁ s₂ ∧ FR B c env S (as ++ new) σ.V σ.K (σ.H ++ H'') s₂ ∧ VR s₂.heap S (as ++ new) pv v) E s₁) :
    wpAny (model B.prog B.w) A (exec (.Expr x pos) env) (fun f s' => ∃ new, Aft B c env S as s .next ⟨σ.V, σ.K, H' ++ H''⟩ f s' new) E s := by
  obtain ⟨ap, p, rfl, ns, ep⟩ := attrCall_eq hx
  refine wpAny_Expr (meth_rule ns ep (by rw [hst]; rfl) (by show 1 < 30; omega) (wpAny_mono (ho c env S as σ.V σ.K σ.H s A ob _ E hE hA F hxo hl) (fun v s₁ ⟨k₁, r₁⟩ => ?_) fun _ _ e => e)) hE.calm rfl
  intro pl
  have F₁ := F.kp O k₁
  obtain ⟨a, ha, rfl⟩ := r₁
  unfold pushAt at hpush
  cases hxs : σ.H[l]? with
  | none => rw [hxs] at hpush; cases hpush
  | some xs =>
    rw [hxs] at hpush
    dsimp only at hpush
    split at hpush
    · rename_i hlt
      cases hpush
      obtain ⟨vs, ⟨n, e⟩, hz, hr⟩ := F₁.own l a xs ha hxs
      refine Calls.getMethod_list_append e rfl rfl ?_
      dsimp only
      rw [hst]
      refine callWith_any O rfl (.inl ⟨_, rfl⟩) (Calls.spliced_cons (wpAny_mono (hy s₁ k₁ F₁) (fun v s₂ ⟨new, hnew, k₂, F₂, r₂⟩ => Calls.spliced_nil ?_) fun _ _ e => e))
      refine ⟨k₂.inv, ?_⟩
      have hll : l < σ.H.length := (List.getElem?_eq_some_iff.mp hxs).1
      have ha' : (as ++ new)[l]? = some a := by rw [List.getElem?_append_left (List.getElem?_eq_some_iff.mp ha).1]; exact ha
      have hx' : (σ.H ++ H'')[l]? = some xs := by rw [List.getElem?_append_left hll]; exact hxs
      obtain ⟨vs', pl', hz', hr'⟩ := F₂.own l a xs ha' hx'
      have hsz := hr'.length
      show wpAny _ A (call (.builtin "list.append") [.ref a, v]) _ E s₂
      refine wpAny_list_append_plain pl' (fun h' hp' hs => ?_) hz'
      obtain ⟨kq, F₃⟩ := F₂.push O hE ha' hx' hlt r₂ pl' hr' hp' hs
      rw [List.set_append_left _ _ hll] at F₃
      refine ⟨new, F₃, fun b hb => k₁.noneBack O F.inv (hnew b hb), (k₁.trans k₂).q.trans (kq.mono fun b hb => List.mem_singleton.mp hb ▸ Mut.own (List.mem_of_getElem? ha)), rfl⟩
    · cases hpush
theorem ex_app (O : B.Ok) {mo me : ME} (ho : EvOk B Ω d mo) (he' : EvOk B Ω d me) : ExOk B Ω d n (.app mo me) := fun c env S as σ τ fl s A x E hE hA F hx he => by
  cases x <;> first | (cases hx; done) | skip
  rename_i x pos
  have hq : (match attrCall "append" x with
    | some (ob, [y]) => isE c mo ob && isE c me y
    | _ => false) = true := hx
  clear hx
  split at hq
  · rename_i ob y hx
    rw [Bool.and_eq_true] at hq
    have he : (match evalM Ω mo σ.V σ.K σ.H, evalM Ω me σ.V σ.K σ.H with
      | some (.loc l), some v => if clean v then (match pushAt σ.H l v with
        | some H' => some (Fl.next, { σ with H := H' })
        | none => none) else none
      | _, _ => none) = some (fl, τ) := he
    split at he
    · rename_i l v h1 h2
      split at he
      · cases h3 : pushAt σ.H l v with
        | none => rw [h3] at he; cases he
        | some H' =>
          rw [h3] at he
          cases he
          have := append_core (E := E) (pos := pos) O hE hA ho F hq.1 h1 hx (starEach_cons hq.2) (H'' := []) h3 [] (fun s₁ k₁ F₁ => wpAny_mono (he' c env S as σ.V σ.K σ.H s₁ A y v E hE hA F₁ hq.2 h2) (fun w s₂ ⟨k₂, r₂⟩ => ⟨[], by simp, k₂, by rw [List.append_nil, List.append_nil]; exact F₁.kp O k₂, by rw [List.append_nil]; exact r₂⟩) fun _ _ e => e)
          rw [List.append_nil] at this
          exact this
      · cases he
    · cases he
  · cases hq
theorem ex_appN (O : B.Ok) {mo : ME} (ho : EvOk B Ω d mo) : ExOk B Ω d n (.appN mo) := fun c env S as σ τ fl s A x E hE hA F hx he => by
  cases x <;> first | (cases hx; done) | skip
  rename_i x pos
  have hq : (match attrCall "append" x with
    | some (ob, [y]) => isE c mo ob && isNil y
    | _ => false) = true := hx
  clear hx
  split at hq
  · rename_i ob y hx
    rw [Bool.and_eq_true] at hq
    have he : (match evalM Ω mo σ.V σ.K σ.H with
      | some (.loc l) => match pushAt σ.H l (.loc σ.H.length) with
        | some H' => some (Fl.next, { σ with H := H' ++ [[]] })
        | none => none
      | _ => none) = some (fl, τ) := he
    split at he
    · rename_i l h1
      cases h3 : pushAt σ.H l (.loc σ.H.length) with
      | none => rw [h3] at he; cases he
      | some H' =>
        rw [h3] at he
        cases he
        have hst : starEach [y] env = [(false, eval y env)] := by have := hq.2; cases y <;> first | rfl | (cases this; done)
        refine append_core (E := E) O hE hA ho F hq.1 h1 hx hst (H'' := [[]]) h3 [] (fun s₁ k₁ F₁ => nil_rule O hq.2 ?_)
        have kp := Kp.push (s := s₁) (o := { cls := .type "list", data := .seq #[] }) O F₁.inv
        refine ⟨[s₁.heap.objs.size], fun a ha => List.mem_singleton.mp ha ▸ fresh_none _, kp, F₁.own_new O kp (fresh_none _) (vs := #[]) (xs := []) ⟨_, Heap.get?_push_size _ rfl⟩ (Nat.zero_le _) rfl, ?_⟩
        exact ⟨s₁.heap.objs.size, by rw [← F₁.len, List.getElem?_append_right (Nat.le_refl _), Nat.sub_self]; rfl, rfl⟩
    · cases he
  · cases hq
end
end Mine
namespace Mine
variable {B : BW} {Ω : Om} {d n : Nat}
section
variable {c : Cx} {env : Env} {S as X : List Addr} {G : List Nat} {V V' K K' : Vs} {H : Hs} {s s' : Shared} {A : Around} {E : Value → Shared → Prop}
structure CEnd (B : BW) (c : Cx) (env : Env) (S as : List Addr) (V K : Vs) (H : Hs) (s : Shared) (outs : List PV) (D C : Addr) (s' : Shared) : Prop where
  k : Kp B s s'
  hC : s.heap.get? C = none
  ns : ∃ m, s'.heap.Ns C m
  r : VR s'.heap S as (.lst outs) (.ref D)
theorem cend_of (O : B.Ok) {s₂ : Shared} {D C I : Addr} {ys : Array Value} {outs : List PV} (F : FR B c env S as V K H s) (F₂ : FR B c env S as V K H s₂) (k₂ : Kp B s s₂) (hD : s₂.heap.get? D = none) (hC : s₂.heap.get? C = none) (hDC : D ≠ C) (hI : s.heap.get? I = none)
    (k : Kg B [C, D, I] [] s₂ s') (hn : ∃ m, s'.heap.Ns C m) (hP : s'.heap.PlainList D ys) (hV : VRs s'.heap (D :: S) as outs ys.toList) (hsz : outs.length ≤ sizeLine) : CEnd B c env S as V K H s outs D C s' where
  k := (k₂.g.trans k).p fun a ha => by
    rcases List.mem_cons.mp ha with rfl | ha
    · exact k₂.noneBack O F.inv hC
    · rcases List.mem_cons.mp ha with rfl | ha
      · exact k₂.noneBack O F.inv hD
      · rw [List.mem_singleton.mp ha]; exact hI
  hC := k₂.noneBack O F.inv hC
  ns := hn
  r := (comp_end O F₂ hD hC hDC k hn hP hV hsz (Heap.SameBut.refl ..)).2
theorem comp_use (O : B.Ok) (hm : ∀ m : ME, EvOk B Ω d m) {m : ME} {x : Expr} {pv : PV} (hE : EnvOk c env) (hA : AOk d A) (F : FR B c env S as V K H s) {elt : Expr} {gens : List Comprehension} {sc : Scope} {pos p : Pos} {as' : Bool} (hxe : x = .ListComp elt gens sc pos) (hx : isE c m x = true) (hv : evalB Ω m false V K H = some pv)
    {use : Option (Value → Sem Unit)} {Q : Value → Shared → Prop} (hfin : ∀ outs D C s', pv = .lst outs → CEnd B c env S as V K H s outs D C s' → compPost (model B.prog B.w) A E use Q (.ref D) C (.ok .next) s') :
    wpAny (model B.prog B.w) A (comprehension x sc env p (newList []) (firstAsync gens) (firstIter gens env) use) Q E s := by
  subst hxe
  cases m with
  | comp ns t it e =>
    obtain ⟨elt, tg, iter, sc, pos, hex, hsc, htg, hxi, hxe⟩ := isE_comp hx
    cases hex
    have hsc := scopeIs_ok hsc
    have hev : (match overO H (evalB Ω it false V K H) with
      | some xs => lstO (mapO (fun x => match bindT t x (List.replicate ns.length none) with
        | some V' => evalB Ω e false V' K H
        | none => none) xs)
      | none => none) = some pv := hv
    cases ho : overO H (evalB Ω it false V K H) with
    | none => rw [ho] at hev; cases hev
    | some xs =>
      rw [ho] at hev
      obtain ⟨outs, hmo, rfl, hsz⟩ := lstO_some hev
      obtain ⟨cl, hclos, hcl⟩ := closure_ok hE F hsc
      refine wpAny_comprehension_free rfl (notSet_of_isE hxi env) hclos hsc.kind (fun y hy h => by rw [hsc.look y hy, h]) (comp_src O (hm it) hE hA F hxi ho ?_)
      intro s₁ s₂ I fp St El F₂ k₂ hI₁ W hst hel hIf hfp off hI _
      refine comp_core O hE hA rfl hsc hcl (body := fun D env => (do let _ ← call (.builtin "list.append") [.ref D, ← eval elt env])) (fun it D env => turn_one _ _ _ _ _ _ _ _) htg W (fun x o h => ?_)
        (fun D C x o V₁ s ys done E hDb h hb hEi F hP hV hz => ?_) F₂ hI₁ off hfp hIf hst hel (Runs.of_map1 hmo) hsz fun D C s' ys hD hC hDC k hn hP hV => hfin outs D C s' rfl (cend_of O F F₂ k₂ hD hC hDC hI k hn hP hV hsz)
      · cases hb : bindT t x (List.replicate ns.length none) with
        | none => rw [hb] at h; cases h
        | some V₁ => exact ⟨V₁, rfl⟩
      · rw [hb] at h
        cases hv : evalB Ω e false V₁ K H with
        | none => simp only [hv] at h; cases h
        | some y =>
          simp only [hv] at h
          cases h
          refine wpAny_mono (body_one O (hm e) hA hEi hxe F hDb hP hV hz hv) (fun _ s' ⟨ys', k, r⟩ => ⟨ys', k.mono (by simp), r⟩) fun _ _ e => e
  | comp2 ns i it j it₂ e =>
    obtain ⟨elt, tg, iter, tg₂, iter₂, sc, pos, hex, hsc, htg, hxi, htg₂, hij, hx₂, hxe⟩ := isE_comp2 hx
    cases hex
    have hsc := scopeIs_ok hsc
    have hev : (match overO H (evalB Ω it false V K H) with
      | some xs => lstO ((mapO (fun x => match overO H (evalB Ω it₂ false ((List.replicate ns.length none).set i (some x)) K H) with
          | some xs₂ => mapO (fun y => evalB Ω e false (((List.replicate ns.length none).set i (some x)).set j (some y)) K H) xs₂
          | none => none) xs).map List.flatten)
      | none => none) = some pv := hv
    cases ho : overO H (evalB Ω it false V K H) with
    | none => rw [ho] at hev; cases hev
    | some xs =>
      rw [ho] at hev
      obtain ⟨outs, hmo, rfl, hsz⟩ := lstO_some hev
      cases hmo' : mapO (fun x => match overO H (evalB Ω it₂ false ((List.replicate ns.length none).set i (some x)) K H) with
          | some xs₂ => mapO (fun y => evalB Ω e false (((List.replicate ns.length none).set i (some x)).set j (some y)) K H) xs₂
          | none => none) xs with
      | none => rw [hmo'] at hmo; cases hmo
      | some oss =>
      rw [hmo'] at hmo
      cases hmo
      obtain ⟨cl, hclos, hcl⟩ := closure_ok hE F hsc
      refine wpAny_comprehension_free rfl (notSet_of_isE hxi env) hclos hsc.kind (fun y hy h => by rw [hsc.look y hy, h]) (comp_src O (hm it) hE hA F hxi ho ?_)
      intro s₁ s₂ I fp St El F₂ k₂ hI₁ W hst hel hIf hfp off hI _
      refine comp_core O hE hA rfl hsc hcl (fun it D env => turn_two0 _ _ _ _ _ _ _ _ _ _) (t := .one i) htg W (fun x o h => ⟨_, rfl⟩)
        (fun D C x o V₁ s ys done E hDb h hb hEi F hP hV hz => ?_) F₂ hI₁ off hfp hIf hst hel (Runs.of_map hmo') hsz fun D C s' ys hD hC hDC k hn hP hV => hfin _ D C s' rfl (cend_of O F F₂ k₂ hD hC hDC hI k hn hP hV hsz)
      cases hb
      cases ho₂ : overO H (evalB Ω it₂ false ((List.replicate ns.length none).set i (some x)) K H) with
      | none => simp only [ho₂] at h; cases h
      | some xs₂ =>
        simp only [ho₂] at h
        refine body_two O (hm it₂) (hm e) hA hEi hx₂ hxe htg₂ (fun pv hpv => ?_) F hDb hP hV hz ho₂ h
        rw [List.getElem?_set_ne hij] at hpv
        exact none_get hpv
  | cst v => cases v <;> cases hx
  | _ => cases hx
theorem ex_asgK (O : B.Ok) (hm : ∀ m : ME, EvOk B Ω d m) {i : Nat} {m : ME} : ExOk B Ω d n (.asgK i m) := fun c env S as σ τ fl s A x E hE hA F hx he => by
  cases x <;> first | (cases hx; done) | skip
  rename_i ts y pos
  rcases ts with _ | ⟨t, _ | ⟨_, _⟩⟩ <;> first | (cases hx; done) | skip
  have hx : (compSwaps c i y t && isE c m y) = true := hx
  rw [Bool.and_eq_true] at hx
  have he : (match evalM Ω m σ.V σ.K σ.H with
    | some v => some (Fl.next, { σ with V := σ.V.set i (some v) })
    | none => none) = some (fl, τ) := he
  cases h1 : evalM Ω m σ.V σ.K σ.H with
  | none => rw [h1] at he; cases he
  | some pv =>
    rw [h1] at he
    cases he
    have hs := hx.1
    cases t <;> first | (cases hs; done) | skip
    rename_i z tp _
    cases y <;> first | (cases hs; done) | skip
    rename_i elt gens sc pos' _
    have hs : (c.nm[i]? == some z && z != ("__debug__" : Str) && tp.line == pos'.line && !(sc.names.any fun p => p.1 == z && (p.2 == .local || p.2 == .cell))) = true := hs
    simp only [Bool.and_eq_true, Bool.not_eq_true'] at hs
    obtain ⟨⟨⟨hi, hz⟩, hl⟩, hcl⟩ := hs
    have hi := eq_of_beq hi
    have hbk : env.blockKind = .function := by unfold Env.blockKind; rw [hE.kind]; rfl
    have hsw : swapsWith (.ListComp elt gens sc pos') (some (.Name z tp)) pos.line env = pure true := by
      show (pure (env.blockKind == .function && env.kindOf z == some .local && tp.line == pos'.line && !(sc.names.any fun (n, k) => n == z && (k == .local || k == .cell))) : Sem Bool) = pure true
      rw [hbk, hE.loc i z hi, hl]
      have : (sc.names.any fun (n, k) => n == z && (k == .local || k == .cell)) = false := hcl
      rw [this]; rfl
    rw [exec_Assign_Name_used _ _ _ _ hsw]
    refine wpAny_bind (wpAny_standAt (wpAny_bind ?_))
    show wpAny _ A (do let _ ← comprehension (.ListComp elt gens sc pos') sc env (firstIterPos gens pos') (newList []) (firstAsync gens) (firstIter gens env) (some (assign (.Name z tp) env))) _ _ s
    refine wpAny_bind (wpAny_mono (comp_use (as' := false) O hm (Q := fun _ s' => ∃ new, Aft B c env S as s .next { σ with V := σ.V.set i (some pv) } .next s' new) hE hA F rfl hx.2 h1 ?_) (fun _ s' hq => wpAny_pure (wpAny_pure hq)) fun _ _ e => e)
    intro outs D C s' hpv ce
    subst hpv
    have F' := F.kp O ce.k
    show wpAny _ A (assign (.Name z tp) env (.ref D)) _ _ _
    refine wpAny_assign_Name (wpAny_mono (store_sound O hE F' hi ce.r) (fun _ s₂ ⟨k₂, F₂⟩ => ?_) fun _ _ e => e)
    have hCL : C ∉ [env.locals] := fun hm => by
      obtain ⟨o, x, n, e, _⟩ := F.locDict
      rw [← List.mem_singleton.mp hm, ce.hC] at e; cases e
    obtain ⟨m₀, ns⟩ := ce.ns
    have ns₂ := Ns.kq O F'.inv ns k₂ hCL
    refine ⟨m₀, ns₂, fun h' hs => ?_⟩
    obtain ⟨o, es, ep, e, hd, _⟩ := ns₂
    have kq : Kq B [C] s₂ { s₂ with heap := h' } := Kq.at (k := s₂.toks) O F₂.inv F₂.inv.tk hs.extBut (fun o' ho p => by
      rw [e] at ho; cases ho
      obtain ⟨_, vs, hd'⟩ := p
      rw [hd] at hd'; cases hd') (base_none F.inv ce.hC)
    have F₃ := F₂.off O kq (fun a ha o' ho => by
      rw [List.mem_singleton.mp ha, e] at ho; cases ho
      exact NotVR.dict hd) (F.offOf hE (by simpa using ce.hC))
    refine ⟨[], Aft.one F₃ ?_ rfl⟩
    refine (((ce.k.g (X := C :: Mut c env as) (G := [])).trans (k₂.mono fun a ha => List.mem_singleton.mp ha ▸ List.mem_cons_of_mem _ Mut.loc)).trans (kq.mono fun a ha => List.mem_singleton.mp ha ▸ List.mem_cons_self)).fresh fun a ha => ?_
    rcases List.mem_cons.mp ha with rfl | ha
    · exact .inr ce.hC
    · exact .inl ha
end
end Mine
namespace Mine
variable {B : BW} {Ω : Om} {d n : Nat}
section
variable {c : Cx} {env : Env} {S as X : List Addr} {G : List Nat} {V V' K K' : Vs} {H : Hs} {s s' : Shared} {A : Around} {E : Value → Shared → Prop}
theorem aug_core (O : B.Ok) (hE : EnvOk c env) (hA : AOk d A) {i : Nat} {op : Operator} {m : ME} (hm : EvOk B Ω d m) {σ : St} (F : FR B c env S as σ.V σ.K σ.H s) {t x : Expr} {pos : Pos} (hn : nameIs c.nm i t = true) (hx : isE c m x = true) {u w z : PV} (h1 : (σ.V[i]?).join = some u) (h2 : evalM Ω m σ.V σ.K σ.H = some w)
    (hop : ∀ s₂ v v', FR B c env S as σ.V σ.K σ.H s₂ → VR s₂.heap S as u v → VR s₂.heap S as w v' → wpAny (model B.prog B.w) A (inplaceOp op v v') (fun r s₃ => Kp B s₂ s₃ ∧ VR s₃.heap S as z r) E s₂) :
    wpAny (model B.prog B.w) A (exec (.AugAssign t op x pos) env) (fun f s' => ∃ new, Aft B c env S as s .next { σ with V := σ.V.set i (some z) } f s' new) E s := by
  obtain ⟨y, p, rfl, hi⟩ := nameIs_eq hn
  obtain ⟨mm, hmm, hmap⟩ := F.loc
  have hv' : σ.V[i]? = some (some u) := by
    cases q : σ.V[i]? with
    | none => rw [q] at h1; cases h1
    | some o => rw [q] at h1; rw [show o = some u from h1]
  obtain ⟨v, hmv, r⟩ := hmap i y u hi hv'
  refine wpAny_AugAssign_Name (wpAny_loadName_local hE.kind (hE.loc i y hi) hmm hmv ?_)
  refine wpAny_mono (hm c env S as σ.V σ.K σ.H s A x w E hE hA F hx h2) (fun v' s₂ ⟨k₂, r₂⟩ => ?_) fun _ _ e => e
  have F₂ := F.kp O k₂
  refine wpAny_mono (hop s₂ v v' F₂ (F.vr O k₂ r) r₂) (fun q s₃ ⟨k₃, r₃⟩ => ?_) fun _ _ e => e
  refine wpAny_mono (store_sound O hE (F₂.kp O k₃) hi r₃) (fun _ s₄ ⟨k₄, F₄⟩ => ?_) fun _ _ e => e
  exact ⟨[], Aft.one F₄ ((k₂.trans k₃).q.trans (k₄.mono fun a ha => List.mem_singleton.mp ha ▸ Mut.loc)) rfl⟩
theorem ex_aug (O : B.Ok) {i : Nat} {op : Operator} {m : ME} (hm : EvOk B Ω d m) : ExOk B Ω d n (.aug i op m) := fun c env S as σ τ fl s A x E hE hA F hx he => by
  cases x <;> first | (cases hx; done) | skip
  rename_i t op' y pos
  have hx : (nameIs c.nm i t && op == op' && isE c m y) = true := hx
  simp only [Bool.and_eq_true] at hx
  have e := eq_of_beq hx.1.2
  subst e
  have he : (match (σ.V[i]?).join, evalM Ω m σ.V σ.K σ.H with
    | some (.int a), some (.int b) => match binP op (.int a) (.int b) with
      | some v => if op == .Add || op == .Sub then some (Fl.next, { σ with V := σ.V.set i (some v) }) else none
      | none => none
    | some (.str a), some (.str b) => match binP op (.str a) (.str b) with
      | some v => some (Fl.next, { σ with V := σ.V.set i (some v) })
      | none => none
    | _, _ => none) = some (fl, τ) := he
  split at he
  · rename_i a b h1 h2
    cases h3 : binP op (.int a) (.int b) with
    | none => rw [h3] at he; cases he
    | some z =>
      rw [h3] at he
      dsimp only at he
      split at he
      · rename_i hop
        cases he
        refine aug_core O hE hA hm F hx.1.1 hx.2 h1 h2 fun s₂ v v' F₂ r r' => ?_
        obtain ⟨t₁, rfl⟩ := r
        obtain ⟨t₂, rfl⟩ := r'
        cases op <;> first | (cases hop; done) | skip
        · cases h3
          exact iadd_int ⟨Kp.inc O F₂.inv, _, rfl⟩
        · cases h3
          exact isub_int ⟨Kp.inc O F₂.inv, _, rfl⟩
      · cases he
  · rename_i a b h1 h2
    cases h3 : binP op (.str a) (.str b) with
    | none => rw [h3] at he; cases he
    | some z =>
      rw [h3] at he
      cases he
      refine aug_core O hE hA hm F hx.1.1 hx.2 h1 h2 fun s₂ v v' F₂ r r' => ?_
      obtain ⟨t₁, rfl, q1⟩ := r
      obtain ⟨t₂, rfl, q2⟩ := r'
      cases op <;> first | (cases h3; done) | skip
      have h3 : (if a.length + b.length ≤ sizeLine then some (PV.str (a ++ b)) else none) = some z := h3
      split at h3
      · rename_i hsz
        cases h3
        exact wpAny_tk F₂.inv (SB.iadd (fun t k tk => ⟨Kp.toks O F₂.inv tk, _, rfl, by rw [Str.length_append]; exact hsz⟩) hsz)
      · cases h3
  · cases he
end
end Mine
namespace Mine
variable {B : BW} {Ω : Om} {d n : Nat}
section
variable {c : Cx} {env : Env} {S as X : List Addr} {G : List Nat} {V V' K K' : Vs} {H : Hs} {s s' : Shared} {A : Around} {E : Value → Shared → Prop}
theorem strIs_eq {y : Str} {x : Expr} (h : strIs y x = true) : ∃ k p, x = .Constant (.str y) k p := by
  cases x <;> first | (cases h; done) | skip
  rename_i v k p
  cases v <;> first | (cases h; done) | skip
  have h := eq_of_beq h
  subst h
  exact ⟨k, p, rfl⟩
theorem ex_asgR (O : B.Ok) {i j : Nat} {y z : Str} : ExOk B Ω d n (.asgR i j y z) := fun c env S as σ τ fl s A x E hE hA F hx he => by
  cases x <;> first | (cases hx; done) | skip
  rename_i ts w pos
  rcases ts with _ | ⟨t, _ | ⟨_, _⟩⟩ <;> first | (cases hx; done) | skip
  have hq : (nameIs c.nm i t && notComp w && match attrCall "replace" w with
    | some (o, [a, b]) => nameIs c.nm j o && strIs y a && strIs z b
    | _ => false) = true := hx
  clear hx
  rw [Bool.and_eq_true, Bool.and_eq_true] at hq
  obtain ⟨⟨hn, hc⟩, hq⟩ := hq
  split at hq
  · rename_i o a b hw
    simp only [Bool.and_eq_true] at hq
    obtain ⟨ka, pa, rfl⟩ := strIs_eq hq.1.2
    obtain ⟨kb, pb, rfl⟩ := strIs_eq hq.2
    obtain ⟨ap, p, rfl, ns, ep⟩ := attrCall_eq hw
    have he : (match (σ.V[j]?).join with
      | some (.str x) => if (y == z) = false ∧ x.length + (x.length + 1) * z.length ≤ 16777216 ∧ (Txt.replace x y z).length ≤ sizeLine then some (Fl.next, { σ with V := σ.V.set i (some (.str (Txt.replace x y z))) }) else none
      | _ => none) = some (fl, τ) := he
    split at he
    · rename_i x hv
      split at he
      · rename_i hh
        cases he
        refine asg_core O hE hn hc (σ := σ) (pv := .str (Txt.replace x y z)) ⟨rfl, rfl, rfl⟩ (meth_rule ns ep rfl (by show 2 < 30; omega) (loc_rule hE F hq.1.1 hv fun v r pl => ?_))
        obtain ⟨t, rfl, hz⟩ := r
        refine GM.replace ?_
        refine callWith_any O rfl (.inl ⟨_, rfl⟩) ?_
        show wpAny _ A (spliced [(false, eval (.Constant (.str y) ka pa) env), (false, eval (.Constant (.str z) kb pb) env)]) _ _ s
        refine Calls.spliced_cons (Calls.Constant_str (Calls.spliced_cons (Calls.Constant_str (Calls.spliced_nil ?_))))
        have kp : Kp B s { s with toks := s.toks + 1 + 1 } := Kp.inc2 O F.inv
        have tk := F.inv.tk
        refine ⟨kp.inv, ?_⟩
        show wpAny _ A (call (.builtin "str.replace") [.str x t, .str y s.toks, .str z (s.toks + 1)]) _ _ _
        refine wpAny_tk kp.inv (SC.replace (Nat.ne_of_gt (Nat.lt_of_lt_of_le Nat.zero_lt_one tk)) (Nat.succ_ne_zero _) (Nat.ne_of_lt (Nat.lt_succ_self _)) hh.1 hh.2.1 fun t' k htk => ?_)
        have kp₂ : Kp B s { s with toks := k } := Kp.toks O F.inv htk
        exact ⟨[], by rw [List.append_nil]; exact F.kp O kp₂, by simp, kp₂.q, t', rfl, hh.2.2⟩
      · cases he
    · cases he
  · cases hq
end
end Mine
namespace Mine
open Sem (wp)
theorem md_get : typeLookup (.type "method_descriptor") "__get__" = pure (some (.builtin "method_descriptor.__get__")) := by rw [typeLookup_type, builtinLookup_eq_fast]; kernel_rfl
theorem md_set : typeLookup (.type "method_descriptor") "__set__" = pure none := by rw [typeLookup_type, builtinLookup_eq_fast]; kernel_rfl
theorem md_delete : typeLookup (.type "method_descriptor") "__delete__" = pure none := by rw [typeLookup_type, builtinLookup_eq_fast]; kernel_rfl
section
variable {prog : Program} {w : World} {A : Around} {E : Value → Shared → Prop} {s : Shared}
theorem spec_append {name : Str} {r : Option Value} (hl : typeLookup (.type "method_descriptor") name = pure r) {Q : Option Value → Shared → Prop} (h : Q r s) : wpAny (model prog w) A (specialOf (.builtin "list.append") name) Q E s := by
  unfold specialOf
  exact wpAny_bind (wpAny_of_eq type_list_append (wpAny_of_eq hl h))
theorem bound_find {a : Addr} {xs : Array Value} {k : Nat} {Q : Builtin.ObjectAttr.Found → Shared → Prop}
    (hx : s.heap.get? a = some { cls := .type "list", data := .seq xs k }) (h : Q (.bind (.builtin "method_descriptor.__get__") (.builtin "list.append")) s) :
    wpAny (model prog w) A (Builtin.ObjectAttr.find (.ref a) (.type "list") "append") Q E s := by
  have hT : s.TypeIs (.ref a) "list" := ⟨_, hx, rfl⟩
  unfold Builtin.ObjectAttr.find
  refine wpAny_bind (wpAny_of_eq slot_list_append.lookup ?_)
  refine wpAny_bind (spec_append md_get ?_)
  refine wpAny_bind ?_
  unfold Builtin.ObjectAttr.dataDescriptor? 
  refine wpAny_bind ?_
  unfold Builtin.ObjectAttr.takesStores
  refine wpAny_bind (spec_append md_set ?_)
  simp only [Option.isSome_none, Bool.false_eq_true, if_false]
  refine wpAny_bind (spec_append md_delete (wpAny_pure ?_))
  simp only [Option.isSome_none, Bool.false_eq_true, if_false]
  refine wpAny_pure ?_
  dsimp only
  unfold Builtin.ObjectAttr.ownThenClass Builtin.ObjectAttr.inOwnDict Builtin.ObjectAttr.ownDict
  repeat (any_goals (first | assumption | wp_step))
theorem slot_md_get : Slot "method_descriptor" "__get__" "method_descriptor.__get__" :=
  .of (owner := "method_descriptor") (n := "__get__") (by rw [typeLookup_type, builtinLookup_eq_fast]; kernel_rfl) (by decide +kernel) (by decide +kernel) (by decide +kernel)
    (by first | exact .inl (by decide +kernel) | exact .inr (by decide +kernel)) (by rw [isSubtype_type]; kernel_rfl)
theorem entry_md_get : entryFor table "method_descriptor.__get__" = some Builtin.«method_descriptor.__get__» := entryFor_of_tree (by kernel_rfl)
theorem args_md_get (a b c : Value) : argsOk "method_descriptor.__get__" ⟨[a, b, c], []⟩ := by
  unfold argsOk; kernel_rfl
theorem md_typeIs : s.TypeIs (.builtin "list.append") "method_descriptor" := type_list_append
theorem bound_new {a : Addr} {xs : Array Value} {k : Nat} {Q : Value → Shared → Prop}
    (hx : s.heap.get? a = some { cls := .type "list", data := .seq xs k }) (h : Q (.ref s.heap.objs.size) { s with heap := s.heap.push { cls := .type "builtin_function_or_method", data := .fields #[.builtin "list.append", .ref a] } }) :
    wpAny (model prog w) A (call (.builtin "method_descriptor.__get__") [.builtin "list.append", .ref a, .type "list"]) Q E s := by
  have hT : s.TypeIs (.ref a) "list" := ⟨_, hx, rfl⟩
  refine wpAny_call_entry slot_md_get md_typeIs entry_md_get ?_ (args_md_get _ _ _)
  unfold Builtin.«method_descriptor.__get__»
  repeat (any_goals (first | assumption | wp_step))
  have e : ".".intercalate ("list.append".cutAt '.').dropLast = "list" := by decide +kernel
  rw [e]
  refine wpAny_of_eq sub_list_self ?_
  simp only [Bool.not_true, Bool.false_eq_true, if_false]
  repeat (any_goals (first | assumption | wp_step))
  exact ⟨_, rfl, h⟩
theorem bound_meets {a : Addr} {xs : Array Value} {k : Nat} {u : Tok} {Q : Value → Shared → Prop}
    (hx : s.heap.get? a = some { cls := .type "list", data := .seq xs k }) (h : Q (.ref s.heap.objs.size) { s with heap := s.heap.push { cls := .type "builtin_function_or_method", data := .fields #[.builtin "list.append", .ref a] } }) :
    wpAny (model prog w) A (call (.builtin "list.__getattribute__") [.ref a, .str "append" u]) Q E s := by
  have hT : s.TypeIs (.ref a) "list" := ⟨_, hx, rfl⟩
  refine wpAny_call_entry F.slot_list_getattribute hT am_entry_list_getattribute ?_ (F.args_list_getattribute_2 _ _)
  unfold Builtin.«object.__getattribute__»
  repeat (any_goals (first | assumption | ((with_reducible show wpAny _ _ (Builtin.ObjectAttr.find _ _ _) _ _ _); refine bound_find hx ?_) | ((with_reducible show wpAny _ _ (call (Value.builtin "method_descriptor.__get__") _ _) _ _ _); refine bound_new hx ?_) | wp_step))
  exact ⟨_, rfl, h⟩
theorem bound_attr {a : Addr} {xs : Array Value} {k : Nat} {Q : Value → Shared → Prop}
    (hx : s.heap.get? a = some { cls := .type "list", data := .seq xs k }) (h : Q (.ref s.heap.objs.size) { s with heap := s.heap.push { cls := .type "builtin_function_or_method", data := .fields #[.builtin "list.append", .ref a] }, toks := s.toks + 1 }) :
    wpAny (model prog w) A (getAttr (.ref a) "append" true) Q E s := by
  obtain ⟨hp, g, d, tk, os⟩ := s
  have hT : ∀ tk', (⟨hp, g, d, tk', os⟩ : Shared).TypeIs (.ref a) "list" := fun _ => ⟨_, hx, rfl⟩
  have f3 := F.slot_list_getattribute.lookup
  have f4 := F.slot_list_getattribute.bind (.ref a)
  unfold getAttr getAttrBy
  repeat (any_goals (first | assumption | exact hT _ | ((with_reducible show wpAny _ _ (call (Value.builtin "list.__getattribute__") _ _) _ _ _); refine bound_meets hx ?_) | wp_step))
end
end Mine
namespace Mine
open Sem (wp)
def boundOk (a b : Value) : Prop := (match Manifest.signature? "list.append" with
  | none => (pure () : Sem Unit)
  | some sig => Bind.checkArgs "list.append" { sig with full := s!"{Bind.lastOf "list"}.{Bind.lastOf "list.append"}" } ⟨[a, b], []⟩) = pure ()
theorem boundOk_ok (a b : Value) : boundOk a b := by unfold boundOk; kernel_rfl
section
variable {prog : Program} {w : World} {A : Around} {E : Value → Shared → Prop} {s : Shared}
theorem kind_append : builtinKind "list.append" = some .method := by decide +kernel
theorem varargs_append : Manifest.varargsMethods.contains "list.append" = false := by decide +kernel
theorem sub_list_module : isSubtype (.type "list") (.type "module") = pure false := by rw [isSubtype_type]; kernel_rfl
theorem bound_check {a : Addr} {v : Value} {xs : Array Value} {k : Nat} {Q : Unit → Shared → Prop} (hx : s.heap.get? a = some { cls := .type "list", data := .seq xs k }) (h : Q () s) :
    wpAny (model prog w) A (checkBoundCall "list.append" ⟨[.ref a, v], []⟩) Q E s := by
  have hT : s.TypeIs (.ref a) "list" := ⟨_, hx, rfl⟩
  have hok := boundOk_ok (.ref a) v
  unfold boundOk at hok
  unfold checkBoundCall
  cases hsig : Manifest.signature? "list.append" with
  | none => exact wpAny_pure h
  | some sig =>
    rw [hsig] at hok
    dsimp only at hok ⊢
    rw [kind_append]
    dsimp only
    rw [if_neg (by decide)]
    have f1 := sub_list_module
    have f2 := varargs_append
    repeat (any_goals (first | assumption | wp_step))
theorem bound_call {a m : Addr} {v : Value} {items : Array Value} {Q : Value → Shared → Prop} (hm : s.heap.get? m = some { cls := .type "builtin_function_or_method", data := .fields #[.builtin "list.append", .ref a] }) (hl : s.heap.PlainList a items)
    (hQ : ∀ h', h'.PlainList a (items.push v) → Heap.SameBut a s.heap h' → Q .none { s with heap := h' }) (hsz : items.size ≤ sizeLine) :
    wpAny (model prog w) A (call (.ref m) [v]) Q E s := by
  obtain ⟨n, ho⟩ := hl
  refine wpAny_call (codeAny_of_tree ?_)
  show wpAny _ A.in1 (callAny (.ref m) ⟨[v], []⟩) _ _ _
  unfold callAny
  refine wpAny_bind (wpAny_load hm ?_)
  show wpAny _ A.in1 (do checkBoundCall "list.append" ⟨[.ref a, v], []⟩; again (.builtin "list.append" ⟨[.ref a, v], []⟩)) _ _ s
  refine wpAny_bind (bound_check ho (wpAny_pure ⟨plainId_quiet (by decide +kernel) _, codeAny_builtin entry_list_append ?_⟩))
  show wpAny _ _ (updateSeq a (·.push v) >>= fun _ => ret .none) _ _ s
  refine wpAny_bind ?_
  refine wpAny_updateSeq ho rfl (wpAny_pure ?_)
  exact hQ _ ⟨n + 1, by rw [Heap.get?_update_self _ ho (by rw [Obj.mapSeq_push_plain]; rfl), Obj.mapSeq_push_plain]⟩ (Heap.SameBut.update ..)
theorem callWith_bound {B : BW} {pos : Pos} {a m : Addr} {args : List (Bool × Sem Value)} {Q : Value → Shared → Prop} (hp : args.any (·.1) = false)
    (h : wpAny (model B.prog B.w) A (spliced args) (fun vs s₁ => s₁.heap.get? m = some { cls := .type "builtin_function_or_method", data := .fields #[.builtin "list.append", .ref a] } ∧ wpAny (model B.prog B.w) A (call (.ref m) vs) Q E s₁) E s) :
    wpAny (model B.prog B.w) A (callWith pos (.ref m) [] args []) Q E s := by
  unfold callWith
  have h' : wpAny (model B.prog B.w) A (evalArgs (.ref m) true args []) (fun z s₁ => s₁.heap.get? m = some { cls := .type "builtin_function_or_method", data := .fields #[.builtin "list.append", .ref a] } ∧ wpAny (model B.prog B.w) A (call (.ref m) z.pos z.kw) Q E s₁) E s := evalArgs_any hp h
  refine wpAny_bind (wpAny_holding (wpAny_mono h' (fun z s₁ h₁ => wpAny_bind (wpAny_standAt ?_)) fun _ _ x => x))
  refine wpAny_bind (m := keeperOf (.ref m)) ?_
  unfold keeperOf
  refine wpAny_bind (wpAny_load h₁.1 ?_)
  dsimp only
  rw [if_pos (by decide)]
  refine wpAny_pure ?_
  simp only [hp, List.any_nil, Bool.or_false]
  rw [if_pos (by decide)]
  dsimp only
  refine wpAny_bind (wpAny_mono h₁.2 (fun r s₂ hr => wpAny_bind (wpAny_holding (wpAny_point (wpAny_pure hr)))) fun _ _ x => x)
end
section
variable {B : BW} {Ω : Om} {d n : Nat} {c : Cx} {env : Env} {S as X : List Addr} {V V' K K' : Vs} {H : Hs} {s s' : Shared} {A : Around} {E : Value → Shared → Prop}
theorem attrOf_eq {m : Str} {x o : Expr} (h : attrOf m x = some o) : ∃ p, x = .Attribute o m p := by
  cases x <;> first | (cases h; done) | skip
  rename_i ob m' p
  have h : (if m' == m then some ob else none) = some o := h
  split at h
  · rename_i hc
    cases h
    have := eq_of_beq hc
    subst this
    exact ⟨p, rfl⟩
  · cases h
theorem plainCall_eq {x f : Expr} {xs : List Expr} (h : plainCall x = some (f, xs)) : ∃ p, x = .Call f xs [] p := by
  cases x <;> first | (cases h; done) | skip
  rename_i g ys ks p
  cases ks <;> first | (cases h; done) | skip
  cases h
  exact ⟨p, rfl⟩
theorem ex_bnd (O : B.Ok) {i j : Nat} : ExOk B Ω d n (.bnd i j) := fun c env S as σ τ fl s A x E hE hA F hx he => by
  cases x <;> first | (cases hx; done) | skip
  rename_i ts y pos
  rcases ts with _ | ⟨t, _ | ⟨_, _⟩⟩ <;> first | (cases hx; done) | skip
  have hq : (nameIs c.nm i t && match attrOf "append" y with
    | some o => nameIs c.nm j o
    | none => false) = true := hx
  clear hx
  rw [Bool.and_eq_true] at hq
  obtain ⟨hn, hq⟩ := hq
  cases ha : attrOf "append" y with
  | none => rw [ha] at hq; cases hq
  | some o =>
    rw [ha] at hq
    obtain ⟨p, rfl⟩ := attrOf_eq ha
    have he : (match (σ.V[j]?).join with
      | some (.loc l) => some (Fl.next, { σ with V := σ.V.set i (some (.bm l)) })
      | _ => none) = some (fl, τ) := he
    split at he
    · rename_i l hv
      cases he
      refine asg_core O hE hn rfl (σ := σ) (pv := .bm l) ⟨rfl, rfl, rfl⟩ ?_
      rw [arm_eval_Attribute]
      obtain ⟨yn, yp, rfl, hyi⟩ := nameIs_eq hq
      have hb : attributeBase (.Name yn yp) "append" env (eval (.Name yn yp) env) = eval (.Name yn yp) env := rfl
      rw [hb]
      refine wpAny_bind (loc_rule hE F hq hv fun v r => wpAny_bind (wpAny_standAt (wpAny_bind (wpAny_holding ?_))))
      obtain ⟨a, ha', rfl⟩ := r
      have hlH : l < σ.H.length := by rw [← F.len]; exact (List.getElem?_eq_some_iff.mp ha').1
      obtain ⟨vs, ⟨k, e⟩, hz, hr⟩ := F.own l a _ ha' (List.getElem?_eq_getElem hlH)
      refine bound_attr e ?_
      refine wpAny_bind (wpAny_pure (wpAny_pure ?_))
      have kp := Kp.pushT (s := s) (k := s.toks + 1) (o := { cls := .type "builtin_function_or_method", data := .fields #[.builtin "list.append", .ref a] }) O F.inv (by omega)
      exact ⟨[], by rw [List.append_nil]; exact F.kp O kp, by simp, kp.q, a, s.heap.objs.size, by rw [List.append_nil]; exact ha', rfl, Heap.get?_push_size _ rfl⟩
    · cases he
theorem ex_appB (O : B.Ok) {i : Nat} {me : ME} (hm : EvOk B Ω d me) : ExOk B Ω d n (.appB i me) := fun c env S as σ τ fl s A x E hE hA F hx he => by
  cases x <;> first | (cases hx; done) | skip
  rename_i x pos
  have hq : (match plainCall x with
    | some (f, [y]) => nameIs c.nm i f && isE c me y
    | _ => false) = true := hx
  clear hx
  split at hq
  · rename_i f y hp
    rw [Bool.and_eq_true] at hq
    obtain ⟨p, rfl⟩ := plainCall_eq hp
    obtain ⟨fn, fp, rfl, _⟩ := nameIs_eq hq.1
    have he : (match (σ.V[i]?).join, evalM Ω me σ.V σ.K σ.H with
      | some (.bm l), some v => if clean v then (match pushAt σ.H l v with
        | some H' => some (Fl.next, { σ with H := H' })
        | none => none) else none
      | _, _ => none) = some (fl, τ) := he
    split at he
    · rename_i l v h1 h2
      split at he
      · cases hpush : pushAt σ.H l v with
        | none => rw [hpush] at he; cases he
        | some H' =>
          rw [hpush] at he
          cases he
          unfold pushAt at hpush
          cases hxs : σ.H[l]? with
          | none => rw [hxs] at hpush; cases hpush
          | some xs =>
            rw [hxs] at hpush
            dsimp only at hpush
            split at hpush
            · rename_i hlt
              cases hpush
              refine wpAny_Expr (Call_ (loc_rule hE F hq.1 h1 fun fv r => ?_)) hE.calm rfl
              obtain ⟨a, m, ha, rfl, hmo⟩ := r
              refine callWith_bound (a := a) (by unfold backTo; rw [List.any_map, starEach_cons hq.2]; rfl) ?_
              refine spliced_cons_any hq.2 (wpAny_mono (hm c env S as σ.V σ.K σ.H s A y v E hE hA F hq.2 h2) (fun w s₁ ⟨k₁, r₁⟩ => Calls.spliced_nil ?_) fun _ _ e => e)
              have F₁ := F.kp O k₁
              refine ⟨k₁.get O F.inv hmo nofun, ?_⟩
              obtain ⟨vs, pl, hz, hr⟩ := F₁.own l a xs ha hxs
              refine bound_call (k₁.get O F.inv hmo nofun) pl (fun h' hp' hs => ?_) hz
              obtain ⟨kq, F₂⟩ := F₁.push O hE ha hxs hlt r₁ pl hr hp' hs
              exact ⟨[], Aft.one F₂ (k₁.q.trans (kq.mono fun b hb => List.mem_singleton.mp hb ▸ Mut.own (List.mem_of_getElem? ha))) rfl⟩
            · cases hpush
      · cases he
    · cases he
  · cases hq
end
end Mine
namespace Mine
variable {B : BW} {Ω : Om} {d n : Nat}
section
variable {c : Cx} {env : Env} {S as X : List Addr} {V V' K K' : Vs} {H : Hs} {s s' : Shared} {A : Around} {E : Value → Shared → Prop}
theorem FR.setOwn (O : B.Ok) (hE : EnvOk c env) (F : FR B c env S as V K H s) {l : Nat} {a : Addr} {xs xs' : List PV} {vs vs' : Array Value} {h' : Heap} (ha : as[l]? = some a) (hx : H[l]? = some xs) (hp : s.heap.PlainList a vs)
    (hp' : h'.PlainList a vs') (hz : vs'.size ≤ sizeLine) (hrs : VRs s.heap S as xs' vs'.toList) (hs : Heap.SameBut a s.heap h') :
    Kq B [a] s { s with heap := h' } ∧ FR B c env S as V K (H.set l xs') { s with heap := h' } := by
  have ham := List.mem_of_getElem? ha
  obtain ⟨ap, hL, hS⟩ := F.asAt ham hp
  obtain ⟨n, e⟩ := hp
  have kq : Kq B [a] s { s with heap := h' } := Kq.at (k := s.toks) O F.inv F.inv.tk hs.extBut (fun o ho p => by
    rw [e] at ho; cases ho
    obtain ⟨_, vs, hd⟩ := p
    cases hd) (F.baseAs a ham)
  refine ⟨kq, ?_⟩
  have hll : l < H.length := (List.getElem?_eq_some_iff.mp hx).1
  exact
  { inv := kq.inv
    held := fun b hb => let ⟨us, n, e⟩ := F.held b hb; ⟨us, n, kq.up O F.inv _ _ (hS b hb) e nofun⟩
    loc := F.locKq O kq ap hL
    cel := F.celKq O kq ap fun y hy b hb hm => by
      obtain ⟨o, w, e', hd⟩ := F.celCell hy hb (hE.celn y hy)
      rw [List.mem_singleton.mp hm, e] at e'; cases e'; cases hd
    len := by rw [List.length_set]; exact F.len
    nodup := F.nodup
    disj := F.disj
    base := F.base
    baseAs := F.baseAs
    baseC := F.baseC
    own := fun l' b ys hb hy => by
      by_cases hll' : l' = l
      · subst hll'
        rw [ha] at hb; cases hb
        rw [List.getElem?_set_self hll] at hy
        cases hy
        exact ⟨_, hp', hz, VRs.monoX (kq.up O F.inv) ap hrs⟩
      · rw [List.getElem?_set_ne (fun e => hll' e.symm)] at hy
        obtain ⟨us, ⟨n', e'⟩, hz, r'⟩ := F.own l' b ys hb hy
        have hne : b ∉ [a] := fun hm => by
          rw [List.mem_singleton.mp hm] at hb
          obtain ⟨h1, h2⟩ := List.getElem?_eq_some_iff.mp ha
          obtain ⟨h3, h4⟩ := List.getElem?_eq_some_iff.mp hb
          exact hll' ((List.getElem_inj F.nodup).mp (h4.trans h2.symm))
        exact ⟨us, ⟨n', kq.up O F.inv _ _ hne e' nofun⟩, hz, VRs.monoX (kq.up O F.inv) ap r'⟩ }
theorem ex_popS (O : B.Ok) {i : Nat} : ExOk B Ω d n (.popS i) := fun c env S as σ τ fl s A x E hE hA F hx he => by
  cases x <;> first | (cases hx; done) | skip
  rename_i x pos
  have hq : (match attrCall "pop" x with
    | some (ob, []) => nameIs c.nm i ob
    | _ => false) = true := hx
  clear hx
  split at hq
  · rename_i ob hx
    obtain ⟨ap, p, rfl, ns, ep⟩ := attrCall_eq hx
    have he : (match (σ.V[i]?).join with
      | some (.loc l) => match σ.H[l]? with
        | some xs => match xs.getLast? with
          | some (.str _) => some (Fl.next, { σ with H := σ.H.set l xs.dropLast })
          | _ => none
        | none => none
      | _ => none) = some (fl, τ) := he
    split at he
    · rename_i l h1
      cases hxs : σ.H[l]? with
      | none => rw [hxs] at he; cases he
      | some xs =>
        rw [hxs] at he
        dsimp only at he
        split at he
        · rename_i y hlast
          cases he
          refine wpAny_Expr (meth_rule ns ep rfl (by show 0 < 30; omega) (loc_rule hE F hq h1 fun v r pl => ?_)) hE.calm rfl
          obtain ⟨a, ha, rfl⟩ := r
          obtain ⟨vs, ⟨k, e⟩, hz, hr⟩ := F.own l a xs ha hxs
          have hT : s.TypeIs (.ref a) "list" := ⟨_, e, rfl⟩
          have hl : s.heap.IsList a vs := ⟨_, e, rfl, _, rfl⟩
          have hlen := hr.length
          have hne : xs ≠ [] := by rintro rfl; cases hlast
          have hpos : 0 < xs.length := List.length_pos_iff.mpr hne
          have hlast' : xs[xs.length - 1]? = some (.str y) := by rw [← List.getLast?_eq_getElem?]; exact hlast
          obtain ⟨v, hv, t, rfl, hyz⟩ := hr.get hlast'
          have hsz : vs.size = xs.length := by rw [← hlen]; simp
          refine getMethod_list_of PySem.F.slot_list_pop PySem.F.type_list_pop hl ⟨_, e, rfl⟩ ?_
          dsimp only
          refine callWith_any O rfl (.inl ⟨_, rfl⟩) (Calls.spliced_nil ⟨F.inv, ?_⟩)
          show wpAny _ A (call (.builtin "list.pop") [.ref a]) _ _ s
          refine call_meets PySem.F.slot_list_pop hT PySem.F.entry_list_pop (PySem.F.args_list_pop_1 _) (MeetsSeq.list_pop_last a vs k (.str y t) (by rw [hsz]; simpa using hv) hz) ⟨e, ?_⟩
          have hp' : (s.heap.update a (Obj.mapSeq fun xs => xs.eraseIdxIfInBounds (vs.size - 1))).PlainList a (vs.eraseIdxIfInBounds (vs.size - 1)) := by
            exact ⟨_, (Heap.get?_update_self _ e (by rfl)).trans rfl⟩
          have hdrop : (vs.eraseIdxIfInBounds (vs.size - 1)).toList = vs.toList.take (xs.length - 1) := by
            rw [← hsz]
            unfold Array.eraseIdxIfInBounds
            rw [dif_pos (by omega), Array.toList_eraseIdx, ← Array.length_toList, List.eraseIdx_eq_take_drop_succ, List.drop_eq_nil_of_le (by omega), List.append_nil]
          obtain ⟨kq, F₂⟩ := F.setOwn O hE ha hxs ⟨_, e⟩ hp' (by rw [← Array.length_toList, hdrop, List.length_take]; simp; omega) (xs' := xs.dropLast) (by rw [hdrop, List.dropLast_eq_take]; exact hr.take _) (Heap.SameBut.update ..)
          exact ⟨[], Aft.one F₂ (kq.mono fun b hb => List.mem_singleton.mp hb ▸ Mut.own (List.mem_of_getElem? ha)) rfl⟩
        · cases he
    · cases he
  · cases hq
end
end Mine
namespace Mine
variable {B : BW} {Ω : Om} {d n : Nat}
structure GWalk (B : BW) (A : Around) (I : Addr) (g : Nat) (X₀ : List Addr) (xs : List PV) (St : Nat → List Addr → Shared → Prop) : Prop where
  next : ∀ (i : Nat) (X : List Addr) (s : Shared) (E : Value → Shared → Prop), Inv B s → St i X s →
    wpAny (model B.prog B.w) A (pyNext (.ref I)) (fun o s' => ∃ X', (∀ a ∈ X', a ∈ X ∨ s.heap.get? a = none) ∧ Kg B X [g] s s' ∧ match xs[i]? with
      | none => o = none
      | some x => ∃ v, o = some v ∧ St (i + 1) X' s' ∧ ∀ S as, Held S s.heap → Held as s.heap → VR s'.heap S as x v) E s
  frame : ∀ (i : Nat) (X : List Addr) (s s' : Shared) (Y : List Addr) (G' : List Nat), Inv B s → St i X s → Kg B Y G' s s' → (∀ b ∈ X, b ∉ Y) → g ∉ G' → St i X s'
  base : ∀ (i : Nat) (X : List Addr) (s : Shared), St i X s → ∀ a ∈ X₀, a ∈ X
  gen : ∀ (i : Nat) (X : List Addr) (s : Shared), St i X s → s.TypeIs (.ref I) "generator"
  self : ∀ (i : Nat) (X : List Addr) (s : Shared) (E : Value → Shared → Prop) (Q : Value → Shared → Prop), St i X s → Q (.ref I) s → wpAny (model B.prog B.w) A (pyIter (.ref I)) Q E s
  there : ∀ (i : Nat) (X : List Addr) (s : Shared), St i X s → ∀ a ∈ X, s.heap.get? a ≠ none
  ap : ∀ (i : Nat) (X : List Addr) (s : Shared), St i X s → ∀ a ∈ X, ∀ o, s.heap.get? a = some o → NotVR o
section
variable {c : Cx} {env : Env} {S as X : List Addr} {G : List Nat} {V V' K K' : Vs} {H : Hs} {s s' : Shared} {A : Around} {E : Value → Shared → Prop}
theorem Off.mut (o : Off c env S as X) : ∀ b ∈ X, b ∉ Mut c env as := fun b hb hm => by
  rcases List.mem_cons.mp hm with rfl | hm
  · exact o.loc hb
  · rcases List.mem_append.mp hm with hm | hm
    · obtain ⟨x, hx, hl⟩ := List.mem_filterMap.mp hm
      exact o.cel x hx b hl hb
    · exact o.as b hm hb
theorem Off.of_mem (h : ∀ a ∈ X, Off c env S as [a]) : Off c env S as X where
  loc := fun hm => (h _ hm).loc (by simp)
  cel := fun x hx a ha hm => (h _ hm).cel x hx a ha (by simp)
  S := fun a ha hm => (h _ hm).S a ha (by simp)
  as := fun a ha hm => (h _ hm).as a ha (by simp)
theorem Off.at {a : Addr} (o : Off c env S as X) (ha : a ∈ X) : Off c env S as [a] where
  loc := fun hm => o.loc (List.mem_singleton.mp hm ▸ ha)
  cel := fun x hx b hb hm => o.cel x hx b hb (List.mem_singleton.mp hm ▸ ha)
  S := fun b hb hm => o.S b hb (List.mem_singleton.mp hm ▸ ha)
  as := fun b hb hm => o.as b hb (List.mem_singleton.mp hm ▸ ha)
theorem GWalk.go {I : Addr} {g : Nat} {X₀ : List Addr} {xs : List PV} {St : Nat → List Addr → Shared → Prop} (W : GWalk B A I g X₀ xs St) (i : Nat) (X : List Addr) (s : Shared) (t : Expr) (v : Value) (Q : Unit → Shared → Prop) (hst : St i X s) (h : Q () s) :
    wpAny (model B.prog B.w) A (letOwnedTupleGo t (.ref I) v) Q E s := by
  obtain ⟨o, e, hc⟩ := W.gen i X s hst
  exact letGo e hc (by decide) h
theorem for_loopG (O : B.Ok) (hE : EnvOk c env) (hA : AOk d A) {I : Addr} {g : Nat} {xs : List PV} {St : Nat → List Addr → Shared → Prop} (W : GWalk B A I g X xs St) {t : Tgt} {target : Expr} {body : List Stmt} {b : MSs}
    (htgt : tgtIs c.nm t target = true) (hb : ExsOk B Ω d n b) (hbody : isSs c b body = true) {σ τ : Mine.St} {fl : Fl} (hf : forL t (execsM Ω n b) xs σ = some (fl, τ)) (F : FR B c env S as σ.V σ.K σ.H s)
    (hst : St 0 X s) (off : Off c env S as X)
    {R : Result → Shared → Prop} (hR : ∀ f s' new, FR B c env S (as ++ new) τ.V τ.K τ.H s' → (∀ a ∈ new, s.heap.get? a = none) → Kg B (X ++ Mut c env as) [g] s s' → FlOk S s'.heap fl f → R (.ok f) s') :
    codeAny (model B.prog B.w) A (.forLoop target (.ref I) body [] env) R s := by
  refine codeAny_forLoop_any (fun k s' => ∃ i σ' new X₁, k = xs.length - i ∧ FR B c env S (as ++ new) σ'.V σ'.K σ'.H s' ∧ (∀ a ∈ new, s.heap.get? a = none) ∧ Kg B (X ++ Mut c env as) [g] s s' ∧ St i X₁ s' ∧ Off c env S (as ++ new) X₁ ∧ (∀ a ∈ X₁, a ∈ X ∨ s.heap.get? a = none) ∧ (∀ a ∈ X, a ∈ X₁) ∧ forL t (execsM Ω n b) (xs.drop i) σ' = some (fl, τ))
    (fun k s₁ hI => ?_) xs.length ⟨0, σ, [], X, rfl, by rw [List.append_nil]; exact F, by simp, (Kp.refl F.inv).g, hst, by rw [List.append_nil]; exact off, fun a ha => .inl ha, fun a ha => ha, hf⟩
  obtain ⟨i, σ', new, X₁, rfl, F₁, hnew, k₁, hst₁, off₁, hX₁, hth, hf₁⟩ := hI
  refine wpAny_mono (W.next i X₁ s₁ _ F₁.inv hst₁) (fun o s₂ ⟨X₂, hX₂, k₂, h₂⟩ => ?_) fun _ _ e => e
  have apX := W.ap i X₁ s₁ hst₁
  have F₂ := F₁.off O k₂ apX off₁
  have k₂' : Kg B (X ++ Mut c env as) [g] s s₂ := (((k₁.mono (Y := X₁ ++ (X ++ Mut c env as)) (fun a ha => List.mem_append_right _ ha) (fun g hg => hg)).trans (k₂.mono (fun a ha => List.mem_append_left _ ha) (fun g hg => hg))).fresh (fun a ha => by
      rcases List.mem_append.mp ha with q | q
      · exact (hX₁ a q).imp (List.mem_append_left _) id
      · exact .inl q) fun g hg => .inl hg)
  cases hx : xs[i]? with
  | none =>
    rw [hx] at h₂
    subst h₂
    have : xs.drop i = [] := List.drop_eq_nil_of_le (by simpa using hx)
    rw [this] at hf₁
    cases hf₁
    exact wpAny_execs_nil (hR .next s₂ new F₂ hnew k₂' rfl)
  | some x =>
    rw [hx] at h₂
    obtain ⟨v, rfl, hst₂, hv⟩ := h₂
    have hX₂' := W.base _ _ _ hst₂
    have off₂ : Off c env S (as ++ new) X₂ := Off.of_mem fun a ha => by
      rcases hX₂ a ha with q | q
      · exact off₁.at q
      · exact F₁.offOf hE fun b hb => List.mem_singleton.mp hb ▸ q
    have hX₂s : ∀ a ∈ X₂, a ∈ X ∨ s.heap.get? a = none := fun a ha => by
      rcases hX₂ a ha with q | q
      · exact hX₁ a q
      · by_cases hm : a ∈ X
        · exact .inl hm
        · refine .inr (k₁.none_back O F.inv q fun b hb => ?_)
          rcases List.mem_append.mp hb with z | z
          · exact W.there _ _ s₁ hst₁ b (hth b z)
          · exact F₁.mutThere hE b (Mut.sub b z)
    obtain ⟨hi, hxe⟩ := List.getElem?_eq_some_iff.mp hx
    rw [List.drop_eq_getElem_cons hi, hxe] at hf₁
    have hf₁ : (match bindT t x σ'.V with
      | some V' => match execsM Ω n b { σ' with V := V' } with
        | some (.next, τ) => forL t (execsM Ω n b) (xs.drop (i + 1)) τ
        | some (.cont, τ) => forL t (execsM Ω n b) (xs.drop (i + 1)) τ
        | some (.brk, τ) => some (.next, τ)
        | some (.ret v, τ) => some (.ret v, τ)
        | none => none
      | none => none) = some (fl, τ) := hf₁
    cases hbt : bindT t x σ'.V with
    | none => rw [hbt] at hf₁; cases hf₁
    | some V₁ =>
      rw [hbt] at hf₁
      dsimp only at hf₁
      cases h3 : execsM Ω n b { σ' with V := V₁ } with
      | none => rw [h3] at hf₁; cases hf₁
      | some p =>
        obtain ⟨f₁, τ₁⟩ := p
        rw [h3] at hf₁
        refine W.go (i + 1) X₂ s₂ target v _ hst₂ ?_
        refine wpAny_mono (tgt_sound O hE hA.handled F₂ htgt (hv S (as ++ new) F₁.held F₁.heldAs) hbt) (fun _ s₃ ⟨k₃, F₃⟩ => ?_) fun _ _ e => e
        refine wpAny_mono (hb c env S (as ++ new) { σ' with V := V₁ } τ₁ f₁ s₃ A body _ hE hA F₃ hbody h3) (fun f s₄ ⟨n₄, a₄⟩ => ?_) fun _ _ e => e
        have fpN : ∀ b ∈ X₂, b ∉ Mut c env (as ++ new) := off₂.mut
        have hst₃ := W.frame _ _ _ _ _ _ F₂.inv hst₂ k₃ (fun b hb hm => fpN b hb (List.mem_singleton.mp hm ▸ Mut.loc)) (by simp)
        have hst₄ := W.frame _ _ _ _ _ _ F₃.inv hst₃ a₄.k fpN (by simp)
        have kb : Kg B (X ++ Mut c env (as ++ new)) [g] s s₄ := ((k₂'.mono (fun a ha => by
            rcases List.mem_append.mp ha with q | q
            · exact List.mem_append_left _ q
            · exact List.mem_append_right _ (Mut.sub a q)) (fun g hg => hg)).trans (k₃.mono (fun a ha => List.mem_append_right _ (List.mem_singleton.mp ha ▸ Mut.loc)) (by simp))).trans (a₄.k.mono (fun a ha => List.mem_append_right _ ha) (by simp))
        have k₄ : Kg B (X ++ Mut c env as) [g] s s₄ := kb.fresh (fun a ha => by
            rcases List.mem_append.mp ha with q | q
            · exact .inl (List.mem_append_left _ q)
            · exact (Mut.more q).imp (fun z => List.mem_append_right _ z) (hnew a)) fun g hg => .inl hg
        have hnew₄ : ∀ a ∈ new ++ n₄, s.heap.get? a = none := fun a ha => by
          rcases List.mem_append.mp ha with q | q
          · exact hnew a q
          · have h3n := a₄.new a q
            have k₃' : Kg B (X ++ Mut c env as) [g] s s₃ := k₂'.trans (k₃.mono (fun a ha => List.mem_append_right _ (List.mem_singleton.mp ha ▸ Mut.loc)) (by simp))
            refine k₃'.none_back O F.inv h3n fun b hb => ?_
            rcases List.mem_append.mp hb with z | z
            · exact W.there _ _ s₃ hst₃ b (hX₂' b z)
            · exact F₃.mutThere hE b (Mut.sub b z)
        have off₄ : Off c env S ((as ++ new) ++ n₄) X₂ := ⟨off₂.loc, off₂.cel, off₂.S, fun a ha hm => by
          rcases List.mem_append.mp ha with q | q
          · exact off₂.as a q hm
          · exact W.there _ _ s₃ hst₃ a hm (a₄.new a q)⟩
        have F₄ := a₄.fr
        rw [List.append_assoc] at F₄ off₄
        have hth₄ : ∀ a ∈ X, a ∈ X₂ := hX₂'
        cases f₁ with
        | next =>
          have hfl := a₄.fl
          rw [show f = .next from hfl]
          exact ⟨xs.length - (i + 1), by omega, i + 1, τ₁, _, X₂, rfl, F₄, hnew₄, k₄, hst₄, off₄, hX₂s, hth₄, hf₁⟩
        | cont =>
          have hfl := a₄.fl
          rw [show f = .cont from hfl]
          exact ⟨xs.length - (i + 1), by omega, i + 1, τ₁, _, X₂, rfl, F₄, hnew₄, k₄, hst₄, off₄, hX₂s, hth₄, hf₁⟩
        | brk =>
          cases hf₁
          have hfl := a₄.fl
          rw [show f = .brk from hfl]
          exact hR .next s₄ _ F₄ hnew₄ k₄ rfl
        | ret u =>
          cases hf₁
          obtain ⟨v, rfl, r⟩ := a₄.fl
          exact hR (.ret v) s₄ _ F₄ hnew₄ k₄ ⟨v, rfl, r⟩
end
end Mine
namespace Mine
variable {B : BW} {Ω : Om} {d n : Nat}
def ListAt (h : Heap) (a : Addr) (acc : Array Value) : Prop := ∃ c, h.get? a = some { cls := .type "list", dict := none, data := .seq acc c, slots := #[] }
theorem list_upd (O : B.Ok) {s : Shared} {a : Addr} {acc : Array Value} (I : Inv B s) (hb : B.b₀.get? a = none) (h : ListAt s.heap a acc) (f : Array Value → Array Value) :
    Kq B [a] s { s with heap := s.heap.update a (Obj.mapSeq f) } ∧ ListAt (s.heap.update a (Obj.mapSeq f)) a (f acc) := by
  obtain ⟨c, e⟩ := h
  refine ⟨Kq.at O (k := s.toks) I I.tk (fun b o hb e => (Heap.get?_update_other _ _ (Ne.symm hb)).trans e) (fun o e' p => ?_) hb, ⟨_, Heap.get?_update_self _ e rfl⟩⟩
  rw [e] at e'; cases e'
  rcases p.1 with q | q
  · exact absurd (show Value.type "list" = Value.type "code" from q) (by decide)
  · exact absurd (show Value.type "list" = Value.none from q) nofun
theorem ListAt.kg (O : B.Ok) {s s' : Shared} {a : Addr} {acc : Array Value} {X : List Addr} {G : List Nat} (I : Inv B s) (h : ListAt s.heap a acc) (k : Kg B X G s s') (ha : a ∉ X) : ListAt s'.heap a acc := by
  obtain ⟨c, e⟩ := h
  exact ⟨c, k.get O I ha e (.inl nofun)⟩
section
variable {S : List Addr} {s : Shared} {A : Around} {I : Addr} {g : Nat} {X₀ : List Addr} {xs : List PV} {St : Nat → List Addr → Shared → Prop} {E : Value → Shared → Prop}
theorem held_cons {h : Heap} {a : Addr} {acc : Array Value} (hS : Held S h) (e : ListAt h a acc) : Held (a :: S) h := fun b hb => by
  rcases List.mem_cons.mp hb with rfl | hb
  · obtain ⟨c, e⟩ := e; exact ⟨_, c, e⟩
  · exact hS b hb
theorem Held.kgX (O : B.Ok) {s' : Shared} {X : List Addr} {G : List Nat} (hS : Held S s.heap) (I : Inv B s) (k : Kg B X G s s') (h : ∀ a ∈ S, a ∉ X) : Held S s'.heap := fun a ha => by
  obtain ⟨vs, c, e⟩ := hS a ha
  exact ⟨vs, c, k.get O I (h a ha) e (.inl nofun)⟩
theorem extend_loopG (O : B.Ok) (W : GWalk B A.in1 I g X₀ xs St) (hn : xs.length ≤ sizeLine) (S₀ : Addr) (hb : B.b₀.get? S₀ = none) (res : Value) {R : Result → Shared → Prop} :
    ∀ (k i : Nat) (X : List Addr) (s : Shared) (acc : Array Value), xs.length - i = k → i ≤ xs.length → Inv B s → St i X s → S₀ ∉ X → (∀ a ∈ S, a ∉ X) → S₀ ∉ S → ListAt s.heap S₀ acc → VRs s.heap (S₀ :: S) [] (xs.take i) acc.toList → Held S s.heap →
      (∀ s' acc', Kg B (S₀ :: X) [g] s s' → ListAt s'.heap S₀ acc' → VRs s'.heap (S₀ :: S) [] xs acc'.toList → R (.ok (.ret res)) s') →
      codeAny (model B.prog B.w) A (.builtin "list.extend.loop" ⟨[.ref S₀, .ref I, res], []⟩) R s := by
  intro k
  induction k with
  | zero =>
    intro i X s acc hk hi hI hst hSX hSS hS₀ hS hacc hH hR
    have hin : i = xs.length := by omega
    subst hin
    refine codeAny_builtin F.entry_extend_loop ?_
    rw [Around.under_plainId F.plain_extend_loop _]
    show wpAny _ A.in1 (pyNext (.ref I) >>= _) _ _ s
    refine wpAny_bind (wpAny_mono (W.next _ X s _ hI hst) (fun o s' ⟨X', hX, k', h⟩ => ?_) fun _ _ e => e)
    rw [List.getElem?_eq_none (Nat.le_refl _)] at h
    subst h
    have ap : Apart s.heap (S₀ :: S) [] X := fun a ha o ho => .inl (W.ap _ X s hst a ha o ho)
    rw [List.take_length] at hacc
    exact wpAny_pure (hR s' acc (k'.mono (fun a ha => List.mem_cons_of_mem _ ha) fun g hg => hg) (hS.kg O hI k' hSX) (VRs.monoX (k'.up O hI) ap hacc))
  | succ k ih =>
    intro i X s acc hk hi hI hst hSX hSS hS₀ hS hacc hH hR
    have hlt : i < xs.length := by omega
    refine codeAny_builtin F.entry_extend_loop ?_
    rw [Around.under_plainId F.plain_extend_loop _]
    show wpAny _ A.in1 (pyNext (.ref I) >>= _) _ _ s
    refine wpAny_bind (wpAny_mono (W.next i X s _ hI hst) (fun o s' ⟨X', hX, k', h⟩ => ?_) fun _ _ e => e)
    rw [List.getElem?_eq_getElem hlt] at h
    obtain ⟨v, rfl, hst', hv⟩ := h
    have ap : Apart s.heap (S₀ :: S) [] X := fun a ha o ho => .inl (W.ap _ X s hst a ha o ho)
    have hS' := hS.kg O hI k' hSX
    have hv' := hv (S₀ :: S) [] (held_cons hH hS) (fun a ha => by cases ha)
    have hacc' := VRs.monoX (k'.up O hI) ap hacc
    have hH' := hH.kgX O hI k' hSS
    have hSX' : S₀ ∉ X' := fun hm => (hX _ hm).elim hSX fun q => by obtain ⟨c, e⟩ := hS; rw [q] at e; cases e
    have hSS' : ∀ a ∈ S, a ∉ X' := fun a ha hm => (hX _ hm).elim (hSS a ha) fun q => by obtain ⟨vs, c, e⟩ := hH a ha; rw [q] at e; cases e
    have hsz : acc.size = i := by
      have := hacc.length
      rw [List.length_take, Nat.min_eq_left (by omega)] at this
      simpa using this
    obtain ⟨ku, hSu⟩ := list_upd O k'.inv hb hS' (·.push v)
    have apu : Apart s'.heap (S₀ :: S) [] [S₀] := fun a ha o ho => by
      rw [List.mem_singleton.mp ha] at ho ⊢
      obtain ⟨c, e⟩ := hS'
      rw [e] at ho; cases ho
      exact .inr ⟨rfl, .inl List.mem_cons_self⟩
    have hnew : VRs (s'.heap.update S₀ (Obj.mapSeq (·.push v))) (S₀ :: S) [] (xs.take (i + 1)) (acc.push v).toList := by
      rw [Array.toList_push, List.take_add_one, List.getElem?_eq_getElem hlt]
      exact VRs.append (VRs.monoX (ku.up O k'.inv) apu hacc') ⟨v, [], rfl, VR.monoX (ku.up O k'.inv) apu hv', rfl⟩
    show wpAny _ A.in1 (updateSeq S₀ (·.push v) >>= _) _ _ _
    refine wpAny_bind ?_
    obtain ⟨c, e⟩ := id hS'
    refine wpAny_updateSeq e rfl (wpAny_pure ⟨plainId_quiet F.plain_extend_loop _, ih (i + 1) X' _ (acc.push v) (by omega) hlt ku.inv (W.frame _ _ _ _ _ _ k'.inv hst' ku (fun b hb hm => hSX' (List.mem_singleton.mp hm ▸ hb)) (by simp)) hSX' hSS' hS₀ hSu hnew (hH'.kgX O k'.inv ku (fun a ha hm => hS₀ (List.mem_singleton.mp hm ▸ ha))) fun s'' acc' k'' h1 h2 => ?_⟩)
      (by rw [hsz]; omega) (by show (acc.push v).size ≤ sizeLine + 1; rw [Array.size_push, hsz]; omega)
    refine hR s'' acc' ?_ h1 h2
    have k3 : Kg B (X ++ (S₀ :: X')) [g] s s'' := ((k'.mono (fun a ha => List.mem_append_left _ ha) fun g hg => hg).trans (ku.mono (fun a ha => List.mem_append_right _ (List.mem_singleton.mp ha ▸ List.mem_cons_self)) (by simp))).trans (k''.mono (fun a ha => List.mem_append_right _ ha) fun g hg => hg)
    refine k3.fresh (fun a ha => ?_) fun g hg => .inl hg
    rcases List.mem_append.mp ha with q | q
    · exact .inl (List.mem_cons_of_mem _ q)
    · rcases List.mem_cons.mp q with rfl | q
      · exact .inl List.mem_cons_self
      · exact (hX a q).imp (List.mem_cons_of_mem _) id
theorem extend_genG (O : B.Ok) (W : GWalk B A.in1 I g X₀ xs St) (hn : xs.length ≤ sizeLine) (S₀ : Addr) (hb : B.b₀.get? S₀ = none) (res : Value) {R : Result → Shared → Prop} {X : List Addr} (hI : Inv B s) (hst : St 0 X s) (hSX : S₀ ∉ X) (hIS : S₀ ≠ I) (hSS : ∀ a ∈ S, a ∉ X) (hS₀ : S₀ ∉ S) (hS : ListAt s.heap S₀ #[]) (hH : Held S s.heap)
    (hR : ∀ s' acc', Kg B (S₀ :: X) [g] s s' → ListAt s'.heap S₀ acc' → VRs s'.heap (S₀ :: S) [] xs acc'.toList → R (.ok (.ret res)) s') :
    wpAny (model B.prog B.w) A.in1 (Builtin.List.listExtendWith (.ref S₀) (.ref I) res)
      (fun fin s' => match fin with | .done f => R (.ok f) s' | .again c' => c'.quiet = true ∧ codeAny (model B.prog B.w) A c' R s') (fun e s' => R (.error e) s') s := by
  have hT := W.gen 0 X s hst
  unfold Builtin.List.listExtendWith
  refine wpAny_bind (wpAny_typeOf hT ?_)
  have h1 : Builtin.List.listSameRef (.ref S₀) (.ref I) = false := by simp [Builtin.List.listSameRef, hIS]
  have h2 : (Value.type "generator" == Value.type "list") = false := by decide
  have h3 : (Value.type "generator" == Value.type "tuple") = false := by decide
  simp only [h1, h2, h3, Bool.or_false, Bool.false_eq_true, if_false]
  refine wpAny_bind (W.self 0 X _ _ _ hst ?_)
  refine wpAny_bind (wpAny_holding ?_)
  unfold Builtin.List.listLengthHint
  refine wpAny_bind (wpAny_specialOf hT F.gen_no_len ?_)
  show wpAny _ A.in1 (specialOf (Value.ref I) (Str.ofString "__length_hint__") >>= _) _ _ _
  refine wpAny_bind (wpAny_specialOf hT F.gen_no_hint ?_)
  refine wpAny_pure ?_
  show wpAny _ A.in1 (rule "list.extend.makes-room" >>= fun _ => Builtin.List.listTouch (.ref S₀) >>= fun _ =>
    again (.builtin "list.extend.loop" ⟨[.ref S₀, .ref I, res], []⟩)) _ _ _
  refine wpAny_bind (wpAny_rule ?_)
  refine wpAny_bind ?_
  show wpAny _ A.in1 (updateSeq S₀ (·.push .none) >>= fun _ => updateSeq S₀ (·.pop)) _ _ _
  obtain ⟨k₁, hS₁⟩ := list_upd O hI hb hS (·.push .none)
  obtain ⟨c₀, e₀⟩ := id hS
  refine wpAny_bind (wpAny_updateSeq e₀ rfl ?_)
  obtain ⟨k₂, hS₂⟩ := list_upd O k₁.inv hb hS₁ (·.pop)
  obtain ⟨c₁, e₁⟩ := id hS₁
  refine wpAny_updateSeq (hz := by seq_fits) e₁ rfl ?_
  have kk := k₁.trans k₂
  refine wpAny_pure ⟨plainId_quiet F.plain_extend_loop _, extend_loopG O W hn S₀ hb _ xs.length 0 X _ _ rfl (Nat.zero_le _) kk.inv
    (W.frame _ _ _ _ _ _ hI hst kk (fun b hb hm => hSX (List.mem_singleton.mp hm ▸ hb)) (by simp)) hSX hSS hS₀ hS₂ rfl (hH.kgX O hI kk (fun a ha hm => hS₀ (List.mem_singleton.mp hm ▸ ha))) fun s' acc' k' h1 h2 => ?_⟩
  exact hR s' acc' ((kk.mono (fun a ha => List.mem_singleton.mp ha ▸ List.mem_cons_self) (by simp)).trans k') h1 h2
theorem list_initG (O : B.Ok) (W : GWalk B A.in1 I g X₀ xs St) (hn : xs.length ≤ sizeLine) (S₀ : Addr) (hb : B.b₀.get? S₀ = none) {R : Result → Shared → Prop} {X : List Addr} (hI : Inv B s) (hst : St 0 X s) (hSX : S₀ ∉ X) (hIS : S₀ ≠ I) (hSS : ∀ a ∈ S, a ∉ X) (hS₀ : S₀ ∉ S) (hS : ListAt s.heap S₀ #[]) (hH : Held S s.heap)
    (hR : ∀ s' acc', Kg B (S₀ :: X) [g] s s' → ListAt s'.heap S₀ acc' → VRs s'.heap (S₀ :: S) [] xs acc'.toList → R (.ok (.ret .none)) s') :
    wpAny (model B.prog B.w) A.in1 (Builtin.«list.__init__» ⟨[.ref S₀, .ref I], []⟩)
      (fun fin s' => match fin with | .done f => R (.ok f) s' | .again c' => c'.quiet = true ∧ codeAny (model B.prog B.w) A c' R s') (fun e s' => R (.error e) s') s := by
  show wpAny _ A.in1 (do let old ← Builtin.List.listItems (.ref S₀); Builtin.List.listUpdate (.ref S₀) (fun _ => #[]); PySem.letGo old.toList.reverse; Builtin.List.listExtendWith (.ref S₀) (.ref I) .none) _ _ s
  refine wpAny_bind ?_
  unfold Builtin.List.listItems
  obtain ⟨c₀, e₀⟩ := id hS
  refine wpAny_bind (wpAny_seqItems e₀ rfl (wpAny_pure ?_))
  show wpAny _ A.in1 (updateSeq S₀ (fun _ => #[]) >>= fun _ => PySem.letGo (#[] : Array Value).toList.reverse >>= fun _ => Builtin.List.listExtendWith (.ref S₀) (.ref I) .none) _ _ s
  obtain ⟨k₁, hS₁⟩ := list_upd O hI hb hS (fun _ => #[])
  refine wpAny_bind (wpAny_updateSeq e₀ rfl ?_)
  refine wpAny_bind (wpAny_letGo ?_)
  refine extend_genG (S := S) (X := X) O W hn S₀ hb .none k₁.inv (W.frame _ _ _ _ _ _ hI hst k₁ (fun b hb hm => hSX (List.mem_singleton.mp hm ▸ hb)) (by simp)) hSX hIS hSS hS₀ hS₁ (hH.kgX O hI k₁ (fun a ha hm => hS₀ (List.mem_singleton.mp hm ▸ ha))) fun s' acc' k' h1 h2 => ?_
  exact hR s' acc' ((k₁.mono (fun a ha => List.mem_singleton.mp ha ▸ List.mem_cons_self) (by simp)).trans k') h1 h2
theorem call_listG (O : B.Ok) (W : GWalk B A.in1.in1 I g X₀ xs St) (hn : xs.length ≤ sizeLine) {X : List Addr} (hI : Inv B s) (hst : St 0 X s) (hSS : ∀ a ∈ S, a ∉ X) (hH : Held S s.heap) (hX : ∀ a ∈ X, s.heap.get? a ≠ none) :
    wpAny (model B.prog B.w) A (call (.type "list") [.ref I]) (fun v s' => Kg B X [g] s s' ∧ VR s'.heap S [] (.lst xs) v) E s := by
  obtain ⟨oI, eI, _⟩ := W.gen 0 X s hst
  have hL0 : s.heap.get? s.heap.objs.size = none := fresh_none _
  have kp := Kp.push (s := s) (o := { cls := .type "list", data := .seq #[] }) O hI
  refine callType_codes (Q₁ := fun obj s₁ => obj = .ref s.heap.objs.size ∧ s₁ = { s with heap := s.heap.push { cls := .type "list", data := .seq #[] } }) F.called_list (F.typeCall_list_1 _) F.entry_list_init
    (code_list_new _ ⟨rfl, rfl⟩) fun obj s₁ h₁ => ?_
  obtain ⟨rfl, rfl⟩ := h₁
  have hS : (s.heap.push { cls := .type "list", data := .seq #[] }).get? s.heap.objs.size = some { cls := .type "list", data := .seq #[] } := Heap.get?_push_size _ rfl
  refine ⟨⟨_, hS, rfl⟩, F.args_list_init_2 _ _, list_initG (S := S) (X := X) O W hn s.heap.objs.size (base_none hI hL0) kp.inv (W.frame 0 X s _ [] [] hI hst kp.g (fun _ _ h => by cases h) (by simp)) (fun hm => hX _ hm hL0) (fun e => by rw [← e, hL0] at eI; cases eI) hSS hH.fresh ⟨_, hS⟩ (hH.kp O hI kp) fun s' acc' k' h1 h2 => ?_⟩
  refine ⟨rfl, (((kp.g (X := s.heap.objs.size :: X) (G := [g])).trans k').fresh (fun a ha => ?_) fun g hg => .inl hg), s.heap.objs.size, acc', rfl, hH.fresh, by simp, ?_, ?_, VRs.lessS (fun a ha => List.mem_cons_of_mem _ ha) h2⟩
  · rcases List.mem_cons.mp ha with rfl | ha
    · exact .inr hL0
    · exact .inl ha
  · obtain ⟨c, e⟩ := h1; exact ⟨_, e, rfl, c, rfl⟩
  · have := h2.length; rw [show acc'.size = acc'.toList.length by simp, this]; exact hn
end
end Mine
namespace Mine
def GenSpec (B : BW) (d : Nat) (f : Value) (F : List PV → Option (List PV)) : Prop :=
  ∀ (A : Around) (s : Shared) (S : List Addr) (args : List PV) (vals : List Value) (xs : List PV), AOk d A → Inv B s → Held S s.heap → VRs s.heap S [] args vals → F args = some xs →
    codeAny (model B.prog B.w) A (.call f ⟨vals, []⟩) (fun res s' => ∃ (I : Addr) (g : Nat) (X : List Addr) (St : Around → Nat → List Addr → Shared → Prop), res = .ok (.ret (.ref I)) ∧ cleans xs = true ∧ Kp B s s' ∧ (∀ A', AOk 3 A' → GWalk B A' I g X xs (St A') ∧ St A' 0 X s') ∧ (∀ a ∈ X, s.heap.get? a = none) ∧ s.gens[g]? = none) s
structure OmGen (B : BW) (d : Nat) (Ω : Om) : Prop where
  ok : OmOk B d Ω
  gen : ∀ x F, Ω.gen x = some F → ∃ v, Gv B x = some v ∧ Callable B v ∧ 5 ≤ d ∧ GenSpec B d v F
  list : Gv B ("list" : Str) = some (.type "list")
  orc : ∀ (k : Nat) (c : Cx) (env : Env) (S as : List Addr) (V K : Vs) (H : Hs) (s : Shared) (A : Around) (j : Nat) (x : Expr) (pv r : PV) (E : Value → Shared → Prop), EnvOk c env → AOk d A → FR B c env S as V K H s → orcIs c j x = true → (V[j]?).join = some pv → Ω.orc k pv = some r → flat r = true →
    wpAny (model B.prog B.w) A (eval x env) (fun v s' => Kp B s s' ∧ VR s'.heap S as r v) E s
variable {B : BW} {Ω : Om} {d n : Nat}
theorem ex_asgO (O : B.Ok) (hΩ : OmGen B d Ω) {k i j : Nat} : ExOk B Ω d n (.asgO k i j) := fun c env S as σ τ fl s A x E hE hA F hx he => by
  cases x <;> first | (cases hx; done) | skip
  rename_i ts y pos
  rcases ts with _ | ⟨t, _ | ⟨_, _⟩⟩ <;> first | (cases hx; done) | skip
  have hx : (nameIs c.nm i t && orcIs c j y && notComp y) = true := hx
  simp only [Bool.and_eq_true] at hx
  have he : (match (σ.V[j]?).join with
    | some x => match Ω.orc k x with
      | some v => if flat v then some (Fl.next, { σ with V := σ.V.set i (some v) }) else none
      | none => none
    | none => none) = some (fl, τ) := he
  cases h1 : (σ.V[j]?).join with
  | none => rw [h1] at he; cases he
  | some u =>
    rw [h1] at he
    dsimp only at he
    cases h2 : Ω.orc k u with
    | none => rw [h2] at he; cases he
    | some r =>
      rw [h2] at he
      dsimp only at he
      split at he
      · rename_i hf
        cases he
        refine asg_core O hE hx.1.1 hx.2 (σ := σ) (pv := r) ⟨rfl, rfl, rfl⟩ (wpAny_mono (hΩ.orc k c env S as σ.V σ.K σ.H s A j y u r E hE hA F hx.1.2 h1 h2 hf) (fun v s₁ ⟨k₁, r₁⟩ => ?_) fun _ _ e => e)
        exact ⟨[], by rw [List.append_nil]; exact F.kp O k₁, by simp, k₁.q, by rw [List.append_nil]; exact r₁⟩
      · cases he
theorem ex_forG (O : B.Ok) (hΩ : OmGen B d Ω) {t : Tgt} {g : Str} {es : MEs} {b : MSs} (hb : ExsOk B Ω d n b) : ExOk B Ω d n (.forG t g es b) := fun c env S as σ τ fl s A x E hE hA F hx he => by
  cases x <;> first | (cases hx; done) | skip
  rename_i target iter body orelse pos
  cases orelse <;> first | (cases hx; done) | skip
  have hq : (match plainCall iter with
    | some (f, xs) => tgtIs c.nm t target && globIs c g f && isEs c es xs && isSs c b body
    | none => false) = true := hx
  clear hx
  cases hp : plainCall iter with
  | none => rw [hp] at hq; cases hq
  | some q =>
    obtain ⟨f, xs⟩ := q
    rw [hp] at hq
    simp only [Bool.and_eq_true] at hq
    obtain ⟨⟨⟨ht, hg⟩, hes⟩, hbody⟩ := hq
    obtain ⟨p, rfl⟩ := plainCall_eq hp
    have he : (match Ω.gen g, evalsM Ω es σ.V σ.K σ.H with
      | some F, some ys => match frzs σ.H ys with
        | some zs => match F zs with
          | some xs => forL t (execsM Ω n b) xs σ
          | none => none
        | none => none
      | _, _ => none) = some (fl, τ) := he
    split at he
    · rename_i F' ys hF hys
      cases h3 : frzs σ.H ys with
      | none => rw [h3] at he; cases he
      | some zs =>
        rw [h3] at he
        dsimp only at he
        cases h4 : F' zs with
        | none => rw [h4] at he; cases he
        | some us =>
          rw [h4] at he
          obtain ⟨v, hv, hcal, hd, hspec⟩ := hΩ.gen g F' hF
          refine wpAny_For (glob_callee O hE F.inv hg hv hcal hes (wpAny_mono (evs_all O hΩ.ok es c env S as σ.V σ.K σ.H s A xs p ys E hE hA F hes hys) (fun vs s₁ k₁ => ⟨k₁.1.inv, ?_⟩) fun _ _ e => e)) (fun _ => rfl)
          have F₁ := F.kp O k₁.1
          refine wpAny_call (codeAny_mono (hspec A s₁ S zs vs us hA F₁.inv F₁.held (k₁.2.frzs F₁ h3) h4) fun res s₂ h => ?_)
          obtain ⟨I, g', X, St, rfl, hcl, k₂, hW, hX, hg'⟩ := h
          obtain ⟨W, hst⟩ := hW A (hA.mono (by omega))
          have F₂ := F₁.kp O k₂
          refine W.self 0 X s₂ E _ hst ?_
          refine for_loopG O hE hA W ht hb hbody he F₂ hst (F₁.offOf hE hX) fun f s' new F' hnew k fok => ?_
          refine ⟨new, F', fun a ha => k₁.1.noneBack O F.inv (k₂.noneBack O F₁.inv (hnew a ha)), ?_, fok⟩
          refine ((k₁.1.g.trans k₂.g).trans k).fresh (fun a ha => ?_) fun g hg => .inr ?_
          · rcases List.mem_append.mp ha with q | q
            · exact .inr (k₁.1.noneBack O F.inv (hX a q))
            · exact .inl q
          · rw [List.mem_singleton.mp hg]
            cases e : s.gens[g']? with
            | none => rfl
            | some z => rw [k₁.1.gens g' z e] at hg'; cases hg'
    · cases he
theorem ex_forGL (O : B.Ok) (hΩ : OmGen B d Ω) {t : Tgt} {g : Str} {es : MEs} {b : MSs} (hb : ExsOk B Ω d n b) : ExOk B Ω d n (.forGL t g es b) := fun c env S as σ τ fl s A x E hE hA F hx he => by
  cases x <;> first | (cases hx; done) | skip
  rename_i target iter body orelse pos
  cases orelse <;> first | (cases hx; done) | skip
  have hq : (match plainCall iter with
    | some (l, [y]) => match plainCall y with
      | some (f, xs) => tgtIs c.nm t target && globIs c ("list" : Str) l && globIs c g f && isEs c es xs && isSs c b body
      | none => false
    | _ => false) = true := hx
  clear hx
  cases hp : plainCall iter with
  | none => rw [hp] at hq; cases hq
  | some q =>
    obtain ⟨l, ys⟩ := q
    rw [hp] at hq
    rcases ys with _ | ⟨y, _ | ⟨_, _⟩⟩ <;> first | (cases hq; done) | skip
    dsimp only at hq
    cases hp' : plainCall y with
    | none => rw [hp'] at hq; cases hq
    | some q =>
      obtain ⟨f, xs⟩ := q
      rw [hp'] at hq
      simp only [Bool.and_eq_true] at hq
      obtain ⟨⟨⟨⟨ht, hl⟩, hg⟩, hes⟩, hbody⟩ := hq
      obtain ⟨p, rfl⟩ := plainCall_eq hp
      obtain ⟨p', rfl⟩ := plainCall_eq hp'
      have he : (match Ω.gen g, evalsM Ω es σ.V σ.K σ.H with
        | some F, some ys => match frzs σ.H ys with
          | some zs => match F zs with
            | some xs => if xs.length ≤ sizeLine then forL t (execsM Ω n b) xs σ else none
            | none => none
          | none => none
        | _, _ => none) = some (fl, τ) := he
      split at he
      · rename_i F' ys hF hys
        cases h3 : frzs σ.H ys with
        | none => rw [h3] at he; cases he
        | some zs =>
          rw [h3] at he
          dsimp only at he
          cases h4 : F' zs with
          | none => rw [h4] at he; cases he
          | some us =>
            rw [h4] at he
            dsimp only at he
            split at he
            · rename_i hlen
              obtain ⟨v, hv, hcal, hd, hspec⟩ := hΩ.gen g F' hF
              have hy : isE c (.call g es) (.Call f xs [] p') = true := by
                show (globIs c g f && isEs c es xs) = true
                rw [hg, hes]; rfl
              refine wpAny_For (Q := fun f s' => ∃ new, Aft B c env S as s fl τ f s' new) (glob_callee (ms := .cons (.call g es) .nil) O hE F.inv hl hΩ.list (.inr (.inl ⟨_, rfl⟩)) (by show (isE c (.call g es) _ && true) = true; rw [hy]; rfl) (spliced_cons_any hy
                (wpAny_mono (Q := fun w s₂ => ∃ (I : Addr) (g' : Nat) (X : List Addr) (St : Around → Nat → List Addr → Shared → Prop), w = .ref I ∧ cleans us = true ∧ Kp B s s₂ ∧ (∀ A', AOk 3 A' → GWalk B A' I g' X us (St A') ∧ St A' 0 X s₂) ∧ (∀ a ∈ X, s.heap.get? a = none) ∧ s.gens[g']? = none) (glob_callee O hE F.inv hg hv hcal hes (wpAny_mono (evs_all O hΩ.ok es c env S as σ.V σ.K σ.H s A xs p' ys E hE hA F hes hys) (fun vs s₁ k₁ => ⟨k₁.1.inv, ?_⟩) fun _ _ e => e)) (fun w s₂ hw => ?_) fun _ _ e => e))) (fun _ => rfl)
              · have F₁ := F.kp O k₁.1
                refine wpAny_call (codeAny_mono (hspec A s₁ S zs vs us hA F₁.inv F₁.held (k₁.2.frzs F₁ h3) h4) fun res s₂ h => ?_)
                obtain ⟨I, g', X, St, rfl, hcl, k₂, hW, hX, hg'⟩ := h
                refine ⟨I, g', X, St, rfl, hcl, k₁.1.trans k₂, hW, fun a ha => k₁.1.noneBack O F.inv (hX a ha), ?_⟩
                cases e : s.gens[g']? with
                | none => rfl
                | some z => rw [k₁.1.gens g' z e] at hg'; cases hg'
              · obtain ⟨I, g', X, St, rfl, hcl, k₂, hW, hX, hg'⟩ := hw
                have F₂ := F.kp O k₂
                obtain ⟨W, hst⟩ := hW A.in1.in1 (((hA.mono hd).in1).in1)
                have off₂ : Off c env S as X := F.offOf hE hX
                refine wpAny_mono (evs_nil (B := B) (Ω := Ω) (d := d) c env S as σ.V σ.K σ.H s₂ A [] p [] E hE hA F₂ rfl rfl) (fun vs s₃ ⟨k₃, hvs⟩ => ?_) fun _ _ e => e
                rw [show vs = [] from hvs]
                have F₃ := F₂.kp O k₃
                refine ⟨k₃.inv, ?_⟩
                have hst₃ := W.frame 0 X s₂ s₃ [] [] F₂.inv hst k₃.g (fun _ _ h => by cases h) (by simp)
                refine wpAny_mono (call_listG (S := as ++ S) O W hlen k₃.inv hst₃ (fun a ha => (List.mem_append.mp ha).elim (off₂.as a) (off₂.S a)) (fun a ha => (List.mem_append.mp ha).elim (F₃.heldAs a) (F₃.held a)) (W.there 0 X s₃ hst₃)) (fun w s₄ ⟨k₄, r₄⟩ => ?_) fun _ _ e => e
                have apX := W.ap 0 X s₃ hst₃
                have F₄ := F₃.off O k₄ apX off₂
                have r₄' : VR s₄.heap S as (.lst us) w := VR.clean (S := as ++ S) (as := []) (fun a h1 _ => ⟨fun h => h1 (List.mem_append_right _ h), fun h => h1 (List.mem_append_left _ h)⟩) (show clean (.lst us) = true from hcl) r₄
                refine wpAny_mono (iter_sound O F₄.inv hA (Src.of_vr r₄' rfl) rfl) (fun it s₅ ⟨I', fp, St', El, e, hI', W', hst', hel, k₅, hfo, hIf, hfp, _⟩ => ?_) fun _ _ e => e
                subst e
                have F₅ := F₄.kp O k₅
                have kS₄ : Kg B X [g'] s s₄ := (k₂.g.trans k₃.g).trans k₄
                have kp₄ : Kp B s s₄ := kS₄.p hX fun g hg => List.mem_singleton.mp hg ▸ hg'
                have back : ∀ a, s₄.heap.get? a = none → s.heap.get? a = none := fun a ha => kp₄.noneBack O F.inv ha
                refine for_loop O hE hA W' ht hb hbody he F₅ hst' hel (F₄.offOf hE (by simpa using hI')) (fun b hb => ⟨hfo.mut F₄ hE b hb, hfp b hb⟩) fun f s' new F' hnew k fok => ?_
                refine ⟨new, F', fun a ha => back a (k₅.noneBack O F₄.inv (hnew a ha)), ?_, fok⟩
                refine (((kS₄.mono (Y := X ++ ([I'] ++ Mut c env as)) (fun a ha => List.mem_append_left _ ha) fun g hg => hg).trans k₅.g).trans (k.mono (fun a ha => List.mem_append_right _ ha) (by simp))).fresh (fun a ha => ?_) fun g hg => .inr (List.mem_singleton.mp hg ▸ hg')
                rcases List.mem_append.mp ha with q | q
                · exact .inr (hX a q)
                · rcases List.mem_append.mp q with q | q
                  · rw [List.mem_singleton.mp q]; exact .inr (back _ hI')
                  · exact .inl q
            · cases he
      · cases he
mutual
theorem ex_all (O : B.Ok) (hΩ : OmGen B d Ω) : ∀ m : MS, ExOk B Ω d n m
  | .asg i e => ex_asg O (ev_all O hΩ.ok e)
  | .asgK i e => ex_asgK O (ev_all O hΩ.ok)
  | .asgC j e => ex_asgC O (ev_all O hΩ.ok e)
  | .asgT is e => ex_asgT O (ev_all O hΩ.ok e)
  | .asgTT i j a b => ex_asgTT O hΩ.ok
  | .aug i op e => ex_aug O (ev_all O hΩ.ok e)
  | .asgR i j y z => ex_asgR O
  | .asgO k i j => ex_asgO O hΩ
  | .newL i => ex_newL O
  | .newC j => ex_newC O
  | .newLL i => ex_newLL O
  | .app o e => ex_app O (ev_all O hΩ.ok o) (ev_all O hΩ.ok e)
  | .appN o => ex_appN O (ev_all O hΩ.ok o)
  | .bnd i j => ex_bnd O
  | .popS i => ex_popS O
  | .appB i e => ex_appB O (ev_all O hΩ.ok e)
  | .ife t b o => ex_if O (test_all O hΩ.ok t) (exs_all O hΩ b) (exs_all O hΩ o)
  | .whl t b => ex_whl O (test_all O hΩ.ok t) (exs_all O hΩ b)
  | .for_ t it b => ex_for O (ev_all O hΩ.ok it) (exs_all O hΩ b)
  | .forG t g es b => ex_forG O hΩ (exs_all O hΩ b)
  | .forGL t g es b => ex_forGL O hΩ (exs_all O hΩ b)
  | .ret e => ex_ret O (ev_all O hΩ.ok e)
  | .brk => ex_brk
  | .cont => ex_cont
  | .asrt e => ex_asrt O (test_all O hΩ.ok e)
  | .tryP b => ex_try O (exs_all O hΩ b)
  | .dead => fun c env S as σ τ fl s A x E hE hA F hx he => by cases he
theorem exs_all (O : B.Ok) (hΩ : OmGen B d Ω) : ∀ ms : MSs, ExsOk B Ω d n ms
  | .nil => exs_nil
  | .cons e es => exs_cons O (ex_all O hΩ e) (exs_all O hΩ es)
end
end Mine
namespace Mine
variable {B : BW} {Ω : Om} {d n : Nat}
theorem lookup_rev_nodup : ∀ {ps : List Str} {vs : List Value}, ps.Nodup → ∀ (i : Nat) (x : Str) (v : Value), ps[i]? = some x → vs[i]? = some v → (ps.zip vs).reverse.lookup x = some v := by
  intro ps vs hn i x v hx hv
  have hmem : (x, v) ∈ (ps.zip vs).reverse := by
    rw [List.mem_reverse]
    refine List.mem_of_getElem? (i := i) ?_
    rw [List.getElem?_zip_eq_some]
    exact ⟨hx, hv⟩
  have huniq : ∀ w, (x, w) ∈ (ps.zip vs).reverse → w = v := by
    intro w hw
    rw [List.mem_reverse] at hw
    obtain ⟨j, hj⟩ := List.getElem?_of_mem hw
    rw [List.getElem?_zip_eq_some] at hj
    obtain ⟨h1, h2⟩ := hj
    obtain ⟨a1, a2⟩ := List.getElem?_eq_some_iff.mp hx
    obtain ⟨b1, b2⟩ := List.getElem?_eq_some_iff.mp h1
    have : j = i := (List.getElem_inj hn).mp (b2.trans a2.symm)
    subst this
    rw [hv] at h2
    cases h2; rfl
  generalize (ps.zip vs).reverse = l at hmem huniq
  induction l with
  | nil => cases hmem
  | cons q r ih =>
    obtain ⟨y, w⟩ := q
    rw [List.lookup_cons]
    cases hxy : x == y with
    | true =>
      have := eq_of_beq hxy
      subst this
      simp only []
      rw [huniq w List.mem_cons_self]
    | false =>
      simp only []
      rcases List.mem_cons.mp hmem with e | hm
      · cases e; simp at hxy
      · exact ih hm fun w' hw' => huniq w' (List.mem_cons_of_mem _ hw')
structure DefOk (B : BW) (a : Addr) (c : Cx) (D : Df) (params : List Str) : Prop where
  here : ∃ o fd body, B.b₀.get? a = some o ∧ o.data = .func fd ∧ fd.body = .stmts body ∧ B.b₀.CodeRec fd.code fd.qualname ∧ isSs c D.body body = true ∧ fd.globals = mainGlobals ∧ fd.builtins = builtinsNs ∧ (∀ k, c.code = some k → fd.code = .ref k ∧ (fd.qualname ++ ".<locals>." : Str) = ("_translate.<locals>." : Str)) ∧
    (∀ vals : List Value, vals.length = params.length → bindArgs fd ⟨vals, []⟩ = pure (params.zip vals)) ∧ (∀ x ∈ fd.scope.names, x.2 ≠ .cell) ∧ (∀ x ∈ c.nm, fd.scope.names.lookup x = some .local) ∧ (∀ x ∈ c.gn, fd.scope.names.lookup x = some .globalImplicit) ∧
    fd.scope.isCoroutine = false ∧ fd.scope.isGenerator = false ∧ fd.scope.kind = .function
  ck : c.ck = []
  pre : ∀ (i : Nat) x, params[i]? = some x → c.nm[i]? = some x
  pnodup : params.Nodup
  nodup : c.nm.Nodup
  cdup : c.cn.Nodup
theorem def_code (O : B.Ok) (hΩ : OmGen B d Ω) {a : Addr} {c : Cx} {D : Df} {params : List Str} (h : DefOk B a c D params) :
    CodeSpec B (d + 1) (.ref a) (fun args => if args.length = params.length then runDf Ω n D args else none) := by
  intro A s S args vals r hA I hS rv hF
  dsimp only at hF
  split at hF
  · rename_i hlen
    obtain ⟨o, fd, body, ho, hdata, hbody, hcd, hss, hgl, hbi, hcode, hbind, hcell, hloc, hgn, hco, hgen, hk⟩ := h.here
    have hvl : vals.length = params.length := by rw [rv.length, hlen]
    have hpar : ∀ x ∈ params, x ∈ c.nm := fun x hx => by
      obtain ⟨i, hi⟩ := List.getElem?_of_mem hx
      exact List.mem_of_getElem? (h.pre i x hi)
    have pnodup := h.pnodup
    have hcd' : s.heap.CodeRec fd.code fd.qualname := by
      obtain ⟨k, oc, vs, tq, e1, e2, e3⟩ := hcd
      exact ⟨k, oc, vs, tq, e1, I.base _ _ e2, e3⟩
    have hlim := I.lim O
    refine codeAny_call_plain hA.room (I.base _ _ ho) hdata hlim hcd' hbody (hbind vals hvl) hcell (fun x hx => hloc _ (hpar _ (List.of_mem_zip hx).1)) (fun h₀ hns hk₀ => ?_) hco hgen hk
    generalize hL : s.heap.objs.size = L at hns ⊢
    have hL0 : s.heap.get? L = none := hL ▸ fresh_none _
    have kp : Kp B s { s with heap := h₀, toks := s.toks + (params.zip vals).length } := Kp.of_keep O I hk₀ (by have := I.tk; omega)
    have hE : EnvOk c (callEnv fd L a) :=
      { code := fun k hk => hcode k hk
        kind := hk
        glob := hgl
        bi := hbi
        loc := fun i x hx => hloc x (List.mem_of_getElem? hx)
        cel := fun x hx => by rw [h.ck] at hx; cases hx
        gn := fun x hx => hgn x hx
        nodup := h.nodup
        cdup := h.cdup
        celn := fun x hx => by rw [h.ck] at hx; cases hx
        cinj := fun x hx => by rw [h.ck] at hx; cases hx }
    have F : FR B c (callEnv fd L a) S [] (args.map some ++ List.replicate (D.nv - args.length) none) (List.replicate D.nk none) [] { s with heap := h₀, toks := s.toks + (params.zip vals).length } :=
      { inv := kp.inv
        held := hS.kp O I kp
        loc := ⟨_, hns, fun i x pv hx hv => by
          by_cases hi : i < args.length
          · rw [List.getElem?_append_left (by simpa using hi), List.getElem?_map] at hv
            cases ha : args[i]? with
            | none => rw [ha] at hv; cases hv
            | some q =>
              rw [ha] at hv
              cases hv
              obtain ⟨v, hvi, r'⟩ := rv.get ha
              have hxi : params[i]? = some x := by
                have h1 := h.pre i _ (List.getElem?_eq_getElem (hlen ▸ hi))
                rw [hx] at h1
                rw [List.getElem?_eq_getElem (hlen ▸ hi), ← h1]
              exact ⟨v, lookup_rev_nodup pnodup i x v hxi hvi, r'.mono fun b o e _ => hk₀ b o e⟩
          · rw [List.getElem?_append_right (by simpa using hi)] at hv
            exact (none_get hv).elim⟩
        cel := fun j x hx hc => by rw [h.ck] at hc; cases hc
        len := rfl
        nodup := List.nodup_nil
        disj := fun a ha => by cases ha
        base := base_none I hL0
        baseAs := fun a ha => by cases ha
        baseC := fun x hx => by rw [h.ck] at hx; cases hx
        own := fun l a xs ha => by cases ha }
    have hrun : (match execsM Ω n D.body ⟨args.map some ++ List.replicate (D.nv - args.length) none, List.replicate D.nk none, []⟩ with
      | some (.ret v, _) => some v
      | some (.next, _) => some PV.none
      | _ => none) = some r := hF
    cases hx : execsM Ω n D.body ⟨args.map some ++ List.replicate (D.nv - args.length) none, List.replicate D.nk none, []⟩ with
    | none => rw [hx] at hrun; cases hrun
    | some p =>
      obtain ⟨fl, τ⟩ := p
      rw [hx] at hrun
      refine wpAny_mono (exs_all O hΩ D.body c (callEnv fd L a) S [] ⟨_, _, _⟩ τ fl _ (A.deeper (callEnv fd L a)) body _ hE (hA.deeper _) F hss hx) (fun f s' ⟨new, af⟩ => ?_) fun _ _ e => e
      have k : Kp B s s' := (kp.g.trans af.k).p fun b hb => by
        rcases List.mem_cons.mp hb with rfl | hb
        · exact hL0
        · rcases List.mem_append.mp hb with hb | hb
          · obtain ⟨x, hx, _⟩ := List.mem_filterMap.mp hb
            rw [h.ck] at hx; cases hx
          · cases hb
      cases fl with
      | next => cases hrun; have := af.fl; rw [show f = .next from this]; exact ⟨_, rfl, k, rfl⟩
      | brk => cases hrun
      | cont => cases hrun
      | ret u => cases hrun; obtain ⟨v, rfl, r'⟩ := af.fl; exact ⟨v, rfl, k, r'⟩
  · cases hF
theorem def_spec (O : B.Ok) (hΩ : OmGen B d Ω) {a : Addr} {c : Cx} {D : Df} {params : List Str} (h : DefOk B a c D params) :
    FnSpec B (d + 1) (.ref a) (fun args => if args.length = params.length then runDf Ω n D args else none) := (def_code O hΩ h).fn
end Mine
namespace Mine
def MEs.of : List ME → MEs | [] => .nil | x :: xs => .cons x (MEs.of xs)
def MSs.of : List MS → MSs | [] => .nil | x :: xs => .cons x (MSs.of xs)
def findDef (n : Str) : List Stmt → Option (Arguments × List Stmt × Scope)
  | [] => none
  | .FunctionDef m a b _ _ _ sc _ _ _ :: r => if m == n then some (a, b, sc) else findDef n r
  | _ :: r => findDef n r
def bodyOf (n : Str) : List Stmt := match findDef n PySem.Challenge.pw_ik0131_01.main.body with | some (_, b, _) => b | none => []
def jl_t : ME := (.boolE .And (.of [(.cmp .Lt (.loc 8) (.loc 6)), (.cmp .NotEq (.idx (.loc 0) (.loc 8)) (.cst (.str "]")))]))
def jl_b : MSs := .of [.asg 8 (.bin .Add (.loc 8) (.cst (.int 1)))]
def tr_jl : MS := .whl jl_t jl_b
def tr_body : MSs := (.of [.asg 7 (.idx (.loc 0) (.loc 5)), .asg 5 (.bin .Add (.loc 5) (.cst (.int 1))), .ife (.cmp .Eq (.loc 7) (.cst (.str "*"))) (.of [.ife (.boolE .Or (.of [(.notE (.loc 3)), (.cmp .IsNot (.idx (.loc 3) (.cst (.int (-1)))) (.loc 1))])) (.of [.appB 4 (.loc 1)]) (.of [])]) (.of [.ife (.cmp .Eq (.loc 7) (.cst (.str "?"))) (.of [.appB 4 (.loc 2)]) (.of [.ife (.cmp .Eq (.loc 7) (.cst (.str "["))) (.of [.asg 8 (.loc 5), .ife (.boolE .And (.of [(.cmp .Lt (.loc 8) (.loc 6)), (.cmp .Eq (.idx (.loc 0) (.loc 8)) (.cst (.str "!")))])) (.of [.asg 8 (.bin .Add (.loc 8) (.cst (.int 1)))]) (.of []), .ife (.boolE .And (.of [(.cmp .Lt (.loc 8) (.loc 6)), (.cmp .Eq (.idx (.loc 0) (.loc 8)) (.cst (.str "]")))])) (.of [.asg 8 (.bin .Add (.loc 8) (.cst (.int 1)))]) (.of []), tr_jl, .ife (.cmp .GtE (.loc 8) (.loc 6)) (.of [.appB 4 (.cst (.str "\\["))]) (.of [.asg 9 (.slc (.loc 0) (.loc 5) (.loc 8)), .ife (.cmp .NotIn (.cst (.str "-")) (.loc 9)) (.of [.asgR 9 9 "\\" "\\\\"]) (.of [.newL 10, .asg 11 (.ite (.cmp .Eq (.idx (.loc 0) (.loc 5)) (.cst (.str "!"))) (.bin .Add (.loc 5) (.cst (.int 2))) (.bin .Add (.loc 5) (.cst (.int 1)))), .whl (.cst (.bool true)) (.of [.asg 11 (.meth "find" (.loc 0) (.of [(.cst (.str "-")), (.loc 11), (.loc 8)])), .ife (.cmp .Lt (.loc 11) (.cst (.int 0))) (.of [.brk]) (.of []), .app (.loc 10) (.slc (.loc 0) (.loc 5) (.loc 11)), .asg 5 (.bin .Add (.loc 11) (.cst (.int 1))), .asg 11 (.bin .Add (.loc 11) (.cst (.int 3)))]), .asg 12 (.slc (.loc 0) (.loc 5) (.loc 8)), .ife (.loc 12) (.of [.app (.loc 10) (.loc 12)]) (.of [.dead]), .for_ (.one 11) (.call "range" (.of [(.bin .Sub (.call "len" (.of [(.loc 10)])) (.cst (.int 1))), (.cst (.int 0)), (.cst (.int (-1)))])) (.of [.ife (.cmp .Gt (.idx (.idx (.loc 10) (.bin .Sub (.loc 11) (.cst (.int 1)))) (.cst (.int (-1)))) (.idx (.idx (.loc 10) (.loc 11)) (.cst (.int 0)))) (.of [.dead, .dead]) (.of [])]), .dead]), .asgO 0 9 9, .asg 5 (.bin .Add (.loc 8) (.cst (.int 1))), .ife (.notE (.loc 9)) (.of [.appB 4 (.cst (.str "(?!)"))]) (.of [.ife (.cmp .Eq (.loc 9) (.cst (.str "!"))) (.of [.appB 4 (.cst (.str "."))]) (.of [.ife (.cmp .Eq (.idx (.loc 9) (.cst (.int 0))) (.cst (.str "!"))) (.of [.asg 9 (.bin .Add (.cst (.str "^")) (.slc (.loc 9) (.cst (.int 1)) (.cst .none)))]) (.of [.ife (.cmp .In (.idx (.loc 9) (.cst (.int 0))) (.tup (.of [(.cst (.str "^")), (.cst (.str "["))]))) (.of [.asg 9 (.bin .Add (.cst (.str "\\")) (.loc 9))]) (.of [])]), .appB 4 (.fstr (.of [(.cst (.str "[")), (.fmt (.loc 9)), (.cst (.str "]"))]))])])])]) (.of [.appB 4 (.call "escape" (.of [(.loc 7)]))])])])])
def tr_loop : MS := .whl (.cmp .Lt (.loc 5) (.loc 6)) tr_body
def b_translate : MSs := (.of [.newL 3, .bnd 4 3, .asgTT 5 6 (.cst (.int 0)) (.call "len" (.of [(.loc 0)])), tr_loop, .asrt (.cmp .Eq (.loc 5) (.loc 6)), .ret (.loc 3)])
def c_translate : Cx := ⟨["pat", "STAR", "QUESTION_MARK", "res", "add", "i", "n", "c", "j", "stuff", "chunks", "k", "chunk"], [], [], ["_twin_re_1", "escape", "len", "range"], some 68⟩
def d_translate : Df := ⟨13, 0, b_translate⟩
def jt_t1 : ME := (.boolE .And (.of [(.cmp .Lt (.loc 4) (.loc 5)), (.cmp .IsNot (.idx (.loc 0) (.loc 4)) (.loc 1))]))
def jt_b1 : MSs := (.of [.appB 3 (.idx (.loc 0) (.loc 4)), .aug 4 .Add (.cst (.int 1))])
def jt_l1 : MS := .whl jt_t1 jt_b1
def jt_b3 : MSs := (.of [.app (.loc 6) (.idx (.loc 0) (.loc 4)), .aug 4 .Add (.cst (.int 1))])
def jt_l3 : MS := .whl jt_t1 jt_b3
def jt_body : MSs := (.of [.asrt (.cmp .Is (.idx (.loc 0) (.loc 4)) (.loc 1)), .aug 4 .Add (.cst (.int 1)), .ife (.cmp .Eq (.loc 4) (.loc 5)) (.of [.appB 3 (.cst (.str ".*")), .brk]) (.of []), .asrt (.cmp .IsNot (.idx (.loc 0) (.loc 4)) (.loc 1)), .newL 6, jt_l3, .asg 6 (.meth "join" (.cst (.str "")) (.of [(.loc 6)])), .ife (.cmp .Eq (.loc 4) (.loc 5)) (.of [.appB 3 (.cst (.str ".*")), .appB 3 (.loc 6)]) (.of [.appB 3 (.fstr (.of [(.cst (.str "(?>.*?")), (.fmt (.loc 6)), (.cst (.str ")"))]))])])
def jt_loop : MS := .whl (.cmp .Lt (.loc 4) (.loc 5)) jt_body
def b_join_translated_parts : MSs := (.of [.newL 2, .bnd 3 2, .asgTT 4 5 (.cst (.int 0)) (.call "len" (.of [(.loc 0)])), jt_l1, jt_loop, .asrt (.cmp .Eq (.loc 4) (.loc 5)), .asg 2 (.meth "join" (.cst (.str "")) (.of [(.loc 2)])), .ret (.fstr (.of [(.cst (.str "(?s:")), (.fmt (.loc 2)), (.cst (.str ")\\Z"))]))])
def c_join_translated_parts : Cx := ⟨["inp", "STAR", "res", "add", "i", "n", "fixed"], [], [], ["len"], none⟩
def d_join_translated_parts : Df := ⟨7, 0, b_join_translated_parts⟩
def sq_body : MSs := (.of [.ife (.cmp .Eq (.loc 5) (.cst (.str "\""))) (.of [.ife (.cmp .Is (.loc 2) (.cst .none)) (.of [.asg 2 (.loc 4)]) (.of [.ife (.cmp .NotEq (.loc 1) (.loc 2)) (.of [.app (.loc 3) (.slc (.loc 0) (.loc 1) (.loc 2))]) (.of []), .asg 1 (.bin .Add (.loc 4) (.cst (.int 1))), .asg 2 (.cst .none)])]) (.of [])])
def b_strip_quoted_realnames : MSs := (.of [.ife (.cmp .NotIn (.cst (.str "\"")) (.loc 0)) (.of [.ret (.loc 0)]) (.of []), .asg 1 (.cst (.int 0)), .asg 2 (.cst .none), .newL 3, .forG (.tup [4, 5]) "_iter_escaped_chars" (.of [(.loc 0)]) sq_body, .ife (.cmp .Lt (.loc 1) (.call "len" (.of [(.loc 0)]))) (.of [.app (.loc 3) (.slc (.loc 0) (.loc 1) (.cst .none))]) (.of []), .ret (.meth "join" (.cst (.str "")) (.of [(.loc 3)]))])
def c_strip_quoted_realnames : Cx := ⟨["addr", "start", "open_pos", "result", "pos", "ch"], [], [], ["_iter_escaped_chars", "len"], none⟩
def d_strip_quoted_realnames : Df := ⟨6, 0, b_strip_quoted_realnames⟩
def ck_body : MSs := (.of [.ife (.cmp .Eq (.loc 3) (.cst (.str "("))) (.of [.aug 1 .Add (.cst (.int 1))]) (.of [.ife (.cmp .Eq (.loc 3) (.cst (.str ")"))) (.of [.aug 1 .Sub (.cst (.int 1)), .ife (.cmp .Lt (.loc 1) (.cst (.int 0))) (.of [.ret (.cst (.bool false))]) (.of [])]) (.of [])])])
def b_check_parenthesis : MSs := (.of [.asg 0 (.call "_strip_quoted_realnames" (.of [(.loc 0)])), .asg 1 (.cst (.int 0)), .forG (.tup [2, 3]) "_iter_escaped_chars" (.of [(.loc 0)]) ck_body, .ret (.cmp .Eq (.loc 1) (.cst (.int 0)))])
def c_check_parenthesis : Cx := ⟨["addr", "opens", "pos", "ch"], [], [], ["_iter_escaped_chars", "_strip_quoted_realnames"], none⟩
def d_check_parenthesis : Df := ⟨4, 0, b_check_parenthesis⟩
def pv_body : MSs := (.of [.ife (.notE (.call "_check_parenthesis" (.of [(.loc 2)]))) (.of [.asg 2 (.cst (.str "('', '')"))]) (.of []), .app (.loc 1) (.loc 2)])
def b_pre_parse_validation : MSs := (.of [.newL 1, .for_ (.one 2) (.loc 0) pv_body, .ret (.loc 1)])
def c_pre_parse_validation : Cx := ⟨["email_header_fields", "accepted_values", "v"], [], [], ["_check_parenthesis"], none⟩
def d_pre_parse_validation : Df := ⟨3, 0, b_pre_parse_validation⟩
def b_fspath : MSs := (.of [.asg 1 (.call "type" (.of [(.loc 0)])), .ife (.call "issubclass" (.of [(.loc 1), (.tup (.of [(.glob "str"), (.glob "bytes")]))])) (.of [.ret (.loc 0)]) (.of []), .dead, .asg 2 (.call "getattr" (.of [(.loc 1), (.cst (.str "__fspath__")), (.cst .none)])), .ife (.cmp .Is (.loc 2) (.cst .none)) (.of [.dead]) (.of []), .ife (.cmp .IsNot (.call "type" (.of [(.loc 2)])) (.call "type" (.of [(.glob "_plain_name")]))) (.of [.dead]) (.of []), .dead, .ife (.call "issubclass" (.of [(.call "type" (.of [(.loc 3)])), (.tup (.of [(.glob "str"), (.glob "bytes")]))])) (.of [.ret (.loc 3)]) (.of []), .dead, .dead])
def c_fspath : Cx := ⟨["path", "kind", "hook", "given"], [], [], ["_plain_name", "bytes", "getattr", "issubclass", "str", "type"], none⟩
def d_fspath : Df := ⟨4, 0, b_fspath⟩
def b_get_sep : MSs := (.of [.ife (.call "isinstance" (.of [(.loc 0), (.glob "bytes")])) (.of [.dead]) (.of [.ret (.cst (.str "/"))])])
def c_get_sep : Cx := ⟨["path"], [], [], ["bytes", "isinstance"], none⟩
def d_get_sep : Df := ⟨1, 0, b_get_sep⟩
def jo_body : MSs := (.of [.asg 4 (.call "fspath" (.of [(.loc 4)])), .ife (.boolE .Or (.of [(.meth "startswith" (.loc 4) (.of [(.loc 2)])), (.notE (.loc 3))])) (.of [.asg 3 (.loc 4)]) (.of [.ife (.meth "endswith" (.loc 3) (.of [(.loc 2)])) (.of [.aug 3 .Add (.loc 4)]) (.of [.aug 3 .Add (.bin .Add (.loc 2) (.loc 4))])])])
def b_join : MSs := (.of [.asg 0 (.call "fspath" (.of [(.loc 0)])), .asg 2 (.call "_get_sep" (.of [(.loc 0)])), .asg 3 (.loc 0), .tryP (.of [.for_ (.one 4) (.loc 1) jo_body]), .ret (.loc 3)])
def c_join : Cx := ⟨["a", "p", "sep", "path", "b"], [], [], ["_get_sep", "fspath"], none⟩
def d_join : Df := ⟨5, 0, b_join⟩
def b_split : MSs := (.of [.asg 0 (.call "fspath" (.of [(.loc 0)])), .asg 1 (.call "_get_sep" (.of [(.loc 0)])), .asg 2 (.bin .Add (.meth "rfind" (.loc 0) (.of [(.loc 1)])) (.cst (.int 1))), .asgTT 3 4 (.slc (.loc 0) (.cst .none) (.loc 2)) (.slc (.loc 0) (.loc 2) (.cst .none)), .ife (.boolE .And (.of [(.loc 3), (.cmp .NotEq (.loc 3) (.bin .Mult (.loc 1) (.call "len" (.of [(.loc 3)]))))])) (.of [.asg 3 (.meth "rstrip" (.loc 3) (.of [(.loc 1)]))]) (.of []), .ret (.tup (.of [(.loc 3), (.loc 4)]))])
def c_split : Cx := ⟨["p", "sep", "i", "head", "tail"], [], [], ["_get_sep", "fspath", "len"], none⟩
def d_split : Df := ⟨5, 0, b_split⟩
def b_splitroot : MSs := (.of [.asg 0 (.call "fspath" (.of [(.loc 0)])), .ife (.call "isinstance" (.of [(.loc 0), (.glob "bytes")])) (.of [.dead, .dead]) (.of [.asg 1 (.cst (.str "/")), .asg 2 (.cst (.str ""))]), .ife (.cmp .NotEq (.slc (.loc 0) (.cst .none) (.cst (.int 1))) (.loc 1)) (.of [.ret (.tup (.of [(.loc 2), (.loc 2), (.loc 0)]))]) (.of [.ife (.boolE .Or (.of [(.cmp .NotEq (.slc (.loc 0) (.cst (.int 1)) (.cst (.int 2))) (.loc 1)), (.cmp .Eq (.slc (.loc 0) (.cst (.int 2)) (.cst (.int 3))) (.loc 1))])) (.of [.ret (.tup (.of [(.loc 2), (.loc 1), (.slc (.loc 0) (.cst (.int 1)) (.cst .none))]))]) (.of [.ret (.tup (.of [(.loc 2), (.slc (.loc 0) (.cst .none) (.cst (.int 2))), (.slc (.loc 0) (.cst (.int 2)) (.cst .none))]))])])])
def c_splitroot : Cx := ⟨["p", "sep", "empty"], [], [], ["bytes", "fspath", "isinstance"], none⟩
def d_splitroot : Df := ⟨3, 0, b_splitroot⟩
def np_body : MSs := (.of [.ife (.boolE .Or (.of [(.notE (.loc 8)), (.cmp .Eq (.loc 8) (.loc 2))])) (.of [.cont]) (.of []), .ife (.boolE .Or (.of [(.cmp .NotEq (.loc 8) (.loc 3)), (.boolE .And (.of [(.notE (.loc 5)), (.notE (.loc 7))])), (.boolE .And (.of [(.loc 7), (.cmp .Eq (.idx (.loc 7) (.cst (.int (-1)))) (.loc 3))]))])) (.of [.app (.loc 7) (.loc 8)]) (.of [.ife (.loc 7) (.of [.popS 7]) (.of [])])])
def b_normpath : MSs := (.of [.asg 0 (.call "fspath" (.of [(.loc 0)])), .ife (.call "isinstance" (.of [(.loc 0), (.glob "bytes")])) (.of [.dead, .dead, .dead]) (.of [.asg 1 (.cst (.str "/")), .asg 2 (.cst (.str ".")), .asg 3 (.cst (.str ".."))]), .ife (.notE (.loc 0)) (.of [.ret (.loc 2)]) (.of []), .asgT [4, 5, 0] (.call "splitroot" (.of [(.loc 0)])), .asg 6 (.meth "split" (.loc 0) (.of [(.loc 1)])), .newL 7, .for_ (.one 8) (.loc 6) np_body, .asg 6 (.loc 7), .asg 0 (.bin .Add (.loc 5) (.meth "join" (.loc 1) (.of [(.loc 6)]))), .ret (.boolE .Or (.of [(.loc 0), (.loc 2)]))])
def c_normpath : Cx := ⟨["path", "sep", "dot", "dotdot", "_", "initial_slashes", "comps", "new_comps", "comp"], [], [], ["bytes", "fspath", "isinstance", "splitroot"], none⟩
def d_normpath : Df := ⟨9, 0, b_normpath⟩
def b_law_item : MSs := (.of [.asg 2 (.bin .Mod (.loc 0) (.cst (.int 5))), .asg 0 (.bin .FloorDiv (.loc 0) (.cst (.int 5))), .ife (.boolE .And (.of [(.cmp .Eq (.loc 2) (.cst (.int 0))), (.cmp .NotEq (.loc 1) (.cst (.str "*")))])) (.of [.ret (.tup (.of [(.cst (.str "*")), (.cst (.str "*"))]))]) (.of []), .ife (.cmp .Lt (.loc 2) (.cst (.int 2))) (.of [.ret (.tup (.of [(.cst (.str "?")), (.cst (.str "?"))]))]) (.of []), .asg 3 (.idx (.cst (.str "()\"\\.^\"|$&-\"+{#}")) (.bin .Mod (.loc 0) (.cst (.int 16)))), .ife (.cmp .Eq (.loc 2) (.cst (.int 3))) (.of [.asg 3 (.idx (.cst (.str "*?[]\"\\^&")) (.bin .Mod (.loc 0) (.cst (.int 8)))), .ret (.tup (.of [(.bin .Add (.bin .Add (.cst (.str "[")) (.loc 3)) (.cst (.str "]"))), (.bin .Add (.cst (.str "=")) (.loc 3))]))]) (.of []), .ife (.cmp .Eq (.loc 2) (.cst (.int 4))) (.of [.asg 3 (.call "chr" (.of [(.bin .Mod (.loc 0) (.cst (.int 55296)))])), .ife (.cmp .In (.loc 3) (.cst (.str "*?[/"))) (.of [.asg 3 (.cst (.str "a"))]) (.of [])]) (.of []), .ret (.tup (.of [(.loc 3), (.bin .Add (.cst (.str "=")) (.loc 3))]))])
def c_law_item : Cx := ⟨["n", "behind", "kind", "sign"], [], [], ["chr"], none⟩
def d_law_item : Df := ⟨4, 0, b_law_item⟩
def nm_body : MSs := (.of [.ife (.boolE .And (.of [(.cmp .Eq (.bin .Mod (.loc 3) (.cst (.int 4))) (.cst (.int 0))), (.cmp .NotEq (.idx (.loc 1) (.cst (.int (-1)))) (.lst (.of []))), (.cmp .Lt (.call "len" (.of [(.loc 1)])) (.cst (.int 4)))])) (.of [.appN (.loc 1), .asg 2 (.cst (.str ""))]) (.of []), .asgT [4, 2] (.call "_law_item" (.of [(.bin .FloorDiv (.loc 3) (.cst (.int 4))), (.loc 2)])), .app (.idx (.loc 1) (.cst (.int (-1)))) (.tup (.of [(.loc 4), (.loc 2)]))])
def b_law_names : MSs := .of [.newLL 1, .asg 2 (.cst (.str "")), .for_ (.one 3) (.loc 0) nm_body, .ret (.loc 1)]
def c_law_names : Cx := ⟨["numbers", "names", "behind", "x", "spelled"], [], [], ["_law_item", "len"], none⟩
def d_law_names : Df := ⟨5, 0, b_law_names⟩
def ru_body : MSs := (.of [.asg 2 (.bin .Add (.loc 2) (.call "len" (.of [(.loc 4)]))), .app (.loc 1) (.ite (.cmp .Eq (.loc 3) (.bin .Sub (.loc 2) (.cst (.int 1)))) (.loc 4) (.cst (.str "")))])
def rd_t : ME := (.cmp .Lt (.loc 6) (.call "len" (.of [(.loc 1)])))
def rd_body : MSs := (.of [.ife (.cmp .Eq (.slc (.loc 1) (.loc 6) (.bin .Add (.loc 6) (.cst (.int 4)))) (.lst (.of [(.cst (.str "(")), (.cst (.str "?")), (.cst (.str "s")), (.cst (.str ":"))]))) (.of [.asg 6 (.bin .Add (.loc 6) (.cst (.int 3)))]) (.of [.ife (.cmp .Eq (.slc (.loc 1) (.loc 6) (.bin .Add (.loc 6) (.cst (.int 6)))) (.lst (.of [(.cst (.str "(")), (.cst (.str "?")), (.cst (.str ">")), (.cst (.str ".")), (.cst (.str "*")), (.cst (.str "?"))]))) (.of [.app (.loc 5) (.cst (.str "*")), .asg 6 (.bin .Add (.loc 6) (.cst (.int 5)))]) (.of [.ife (.cmp .Eq (.slc (.loc 1) (.loc 6) (.bin .Add (.loc 6) (.cst (.int 2)))) (.lst (.of [(.cst (.str ".")), (.cst (.str "*"))]))) (.of [.app (.loc 5) (.cst (.str "*")), .asg 6 (.bin .Add (.loc 6) (.cst (.int 1)))]) (.of [.ife (.cmp .Eq (.idx (.loc 1) (.loc 6)) (.cst (.str "."))) (.of [.app (.loc 5) (.cst (.str "?"))]) (.of [.ife (.cmp .Eq (.idx (.loc 1) (.loc 6)) (.cst (.str "["))) (.of [.app (.loc 5) (.bin .Add (.cst (.str "=")) (.slc (.idx (.loc 1) (.bin .Add (.loc 6) (.cst (.int 1)))) (.cst (.int (-1))) (.cst .none))), .asg 6 (.bin .Add (.loc 6) (.cst (.int 2)))]) (.of [.ife (.cmp .NotIn (.idx (.loc 1) (.loc 6)) (.lst (.of [(.cst (.str ")")), (.cst (.str "\\Z"))]))) (.of [.app (.loc 5) (.bin .Add (.cst (.str "=")) (.slc (.idx (.loc 1) (.loc 6)) (.cst (.int (-1))) (.cst .none)))]) (.of [])])])])])]), .asg 6 (.bin .Add (.loc 6) (.cst (.int 1)))])
def rd_loop : MS := .whl rd_t rd_body
def b_law_read : MSs := (.of [.newL 1, .asg 2 (.cst (.int 0)), .forGL (.tup [3, 4]) "_iter_escaped_chars" (.of [(.loc 0)]) ru_body, .newL 5, .asg 6 (.cst (.int 0)), rd_loop, .ret (.loc 5)])
def c_law_read : Cx := ⟨["piece", "units", "size", "spot", "unit", "row", "k"], [], [], ["_iter_escaped_chars", "len", "list"], none⟩
def d_law_read : Df := ⟨7, 0, b_law_read⟩
def ne_body : MSs := (.of [.ife (.cmp .Gt (.loc 6) (.cst (.int 0))) (.of [.asg 4 (.bin .Add (.loc 4) (.lst (.of [(.loc 6)])))]) (.of [.ife (.cmp .Is (.loc 5) (.cst .none)) (.of [.asg 5 (.loc 4)]) (.of [.asg 4 (.loc 5), .asg 5 (.cst .none)])])])
def b_law_nested : MSs := (.of [.asg 4 (.lst (.of [])), .asg 5 (.cst .none), .for_ (.one 6) (.loc 0) ne_body, .asg 7 (.bin .Add (.loc 2) (.ite (.cmp .In (.cst (.int 1)) (.loc 4)) (.cst (.int 1)) (.cst (.int 0)))), .asg 8 (.bin .Add (.ite (.cmp .In (.loc 1) (.loc 4)) (.cst (.int 1)) (.cst (.int 0))) (.loc 3)), .ret (.boolE .And (.of [(.cmp .Eq (.loc 7) (.loc 8)), (.boolE .Or (.of [(.cmp .Gt (.loc 7) (.cst (.int 0))), (.cmp .Eq (.loc 4) (.lst (.of [])))]))]))])
def c_law_nested : Cx := ⟨["marks", "last", "begin", "end", "left", "back", "one", "opened", "closed"], [], [], [], none⟩
def d_law_nested : Df := ⟨9, 0, b_law_nested⟩
def lw_t1 : ME := .boolE .And (.of [(.cmp2 .Lt .Lt (.cst (.int 0)) (.loc 10) (.bin .Sub (.call "len" (.of [(.loc 1)])) (.cst (.int 1)))), (.cmp .Eq (.idx (.loc 7) (.loc 10)) (.lst (.of [(.cst (.str "?")), (.cst (.str "?"))])))])
def lw_t2 : ME := .boolE .Or (.of [(.cmp .Eq (.loc 10) (.cst (.int 0))), (.cmp .Eq (.loc 10) (.bin .Sub (.call "len" (.of [(.loc 1)])) (.cst (.int 1)))), (.cmp .NotEq (.idx (.loc 7) (.loc 10)) (.lst (.of [(.cst (.str "?"))])))])
def lw_c1 : ME := .comp ["row"] (.one 0) (.loc 1) (.meth "join" (.cst (.str "")) (.of [(.comp ["spelled", "item"] (.tup [0, 1]) (.loc 0) (.loc 0))]))
def lw_c2 : ME := .comp ["row"] (.one 0) (.loc 1) (.comp ["spelled", "item"] (.tup [0, 1]) (.loc 0) (.loc 1))
def lw_c3 : ME := .comp ["piece"] (.one 0) (.cel 0) (.call "_law_read" (.of [(.loc 0)]))
def lw_c4 : ME := .comp2 ["b", "a"] 0 (.call "range" (.of [(.cst (.int 1)), (.bin .Add (.call "len" (.of [(.loc 1)])) (.cst (.int 1)))])) 1 (.call "range" (.of [(.loc 0)])) (.call "list" (.of [(.call "range" (.of [(.loc 1), (.loc 0)]))]))
def lw_c5 : ME := .comp ["k"] (.one 0) (.loc 15) (.idx (.cel 0) (.loc 0))
def lw_c6 : ME := .comp2 ["k", "one"] 0 (.loc 15) 1 (.idx (.cel 1) (.loc 0)) (.loc 1)
def lw_i1 : ME := .ite (.cmp .In (.cst (.int 0)) (.loc 15)) (.cst (.int 1)) (.cst (.int 0))
def lw_i2 : ME := .ite (.cmp .In (.bin .Sub (.call "len" (.of [(.loc 1)])) (.cst (.int 1))) (.loc 15)) (.cst (.int 1)) (.cst (.int 0))
def lw_sp : MSs := (.of [.asgT [4, 6] (.call "split" (.of [(.loc 4)])), .asgC 0 (.bin .Add (.lst (.of [(.loc 6)])) (.cel 0))])
def lw_in : MSs := (.of [.ife (.cmp .Eq (.loc 11) (.cst (.str "*"))) (.of [.asg 8 (.bin .Add (.loc 8) (.cst (.int 1))), .app (.idx (.cel 1) (.loc 10)) (.loc 8)]) (.of [.ife (.cmp .Eq (.loc 11) (.cst (.str "=\""))) (.of [.app (.idx (.cel 1) (.loc 10)) (.cst (.int 0))]) (.of [])])])
def lw_inl : MS := .for_ (.one 11) (.idx (.loc 7) (.loc 10)) lw_in
def lw_mk : MSs := (.of [.appN (.cel 1), lw_inl, .ife lw_t1 (.of [.asg 9 (.ite (.cmp .NotEq (.loc 9) (.lst (.of []))) (.slc (.loc 9) (.cst .none) (.cst (.int (-1)))) (.lst (.of [(.loc 10)])))]) (.of [.ife lw_t2 (.of [.asg 9 (.bin .Add (.loc 9) (.lst (.of [(.loc 10)])))]) (.of [])])])
def lw_fn : MSs := (.of [.asg 16 (.meth "join" (.cst (.str "/")) (.of [lw_c5])), .asgK 17 lw_c6, .asg 18 (.call "_law_nested" (.of [(.loc 17), (.loc 8), lw_i1, lw_i2])), .app (.loc 13) (.loc 16), .app (.loc 14) (.ite (.loc 18) (.loc 16) (.cst (.str "('', '')")))])
def lw_spl : MS := .for_ (.one 5) (.loc 1) lw_sp
def lw_mkl : MS := .for_ (.one 10) (.call "range" (.of [(.call "len" (.of [(.loc 1)]))])) lw_mk
def lw_fnl : MS := .for_ (.one 15) (.loc 12) lw_fn
def lw_r1 : ME := .cmp .Eq (.call "normpath" (.of [(.loc 3)])) (.idx (.loc 13) (.cst (.int (-1))))
def lw_r2 : ME := .eqc "_pre_parse_validation" (.of [(.loc 13)]) (.loc 14)
def b_law : MSs := (.of [.asg 1 (.call "_law_names" (.of [(.slc (.bin .Add (.slc (.loc 0) (.cst .none) (.cst (.int 10))) (.lst (.of [(.cst (.int 48)), (.cst (.int 1)), (.cst (.int 49)), (.cst (.int 8)), (.cst (.int 33)), (.cst (.int 1))]))) (.cst .none) (.cst (.int 10)))])), .asgK 2 lw_c1, .asg 3 (.call "translate" (.of [(.callS "join" (.idx (.loc 2) (.cst (.int 0))) (.slc (.loc 2) (.cst (.int 1)) (.cst .none)))])), .asgC 0 (.lst (.of [])), .asg 4 (.loc 3), lw_spl, .asgK 7 lw_c2, .ife (.boolE .Or (.of [(.cmp .NotEq (.loc 4) (.cst (.str ""))), (.cmp .NotEq lw_c3 (.loc 7))])) (.of [.ret (.cst (.bool false))]) (.of []), .asg 8 (.cst (.int 0)), .newC 1, .asg 9 (.lst (.of [])), lw_mkl, .asg 12 (.bin .Add lw_c4 (.lst (.of [(.loc 9)]))), .newL 13, .newL 14, lw_fnl, .ret (.boolE .And (.of [lw_r1, lw_r2]))])
def c_law : Cx := ⟨["script", "names", "texts", "whole", "rest", "row", "piece", "told", "stars", "kept", "k", "item", "choices", "given", "due", "some", "text", "held", "nested"], ["pieces", "marks"], ["pieces", "marks"], ["_law_names", "_law_nested", "_pre_parse_validation", "join", "len", "normpath", "range", "split", "translate"], none⟩
def d_law : Df := ⟨19, 2, b_law⟩
theorem is_translate : isSs c_translate b_translate (bodyOf "_translate") = true := by decide +kernel
theorem is_join_translated_parts : isSs c_join_translated_parts b_join_translated_parts (bodyOf "_join_translated_parts") = true := by decide +kernel
theorem is_strip_quoted_realnames : isSs c_strip_quoted_realnames b_strip_quoted_realnames (bodyOf "_strip_quoted_realnames") = true := by decide +kernel
theorem is_check_parenthesis : isSs c_check_parenthesis b_check_parenthesis (bodyOf "_check_parenthesis") = true := by decide +kernel
theorem is_pre_parse_validation : isSs c_pre_parse_validation b_pre_parse_validation (bodyOf "_pre_parse_validation") = true := by decide +kernel
theorem is_fspath : isSs c_fspath b_fspath (bodyOf "fspath") = true := by decide +kernel
theorem is_get_sep : isSs c_get_sep b_get_sep (bodyOf "_get_sep") = true := by decide +kernel
theorem is_join : isSs c_join b_join (bodyOf "join") = true := by decide +kernel
theorem is_split : isSs c_split b_split (bodyOf "split") = true := by decide +kernel
theorem is_splitroot : isSs c_splitroot b_splitroot (bodyOf "splitroot") = true := by decide +kernel
theorem is_normpath : isSs c_normpath b_normpath (bodyOf "normpath") = true := by decide +kernel
theorem is_law_item : isSs c_law_item b_law_item (bodyOf "_law_item") = true := by decide +kernel
theorem is_law_names : isSs c_law_names b_law_names (bodyOf "_law_names") = true := by decide +kernel
theorem is_law_read : isSs c_law_read b_law_read (bodyOf "_law_read") = true := by decide +kernel
theorem is_law_nested : isSs c_law_nested b_law_nested (bodyOf "_law_nested") = true := by decide +kernel
theorem is_law : isSs c_law b_law (bodyOf "law") = true := by decide +kernel
end Mine
namespace Mine
section
variable {M : Model} {A : Around} {R : GenEnd} {Y : Protocol} {n : Nat} {s₀ : Shared} {c : Code} {fs : List Frame} {s : Shared} {env : Env}
  {K : Flow → Sem Fin} {H : Value → Sem Fin} {gd : Bool → Bool} {lv : List Value → List Value}
theorem seg_of_exec {st : Stmt} (h : wpAny M (A.over c fs) (exec st env) (fun f s' => Seg M A R Y n s₀ c (K f) fs s') (fun x s' => Seg M A R Y n s₀ c (H x) fs s') s) : Seg M A R Y n s₀ c ((exec st env).wrap K H gd lv) fs s :=
  seg_wrap h
abbrev afterLoop (env : Env) (K : Flow → Sem Fin) (H : Value → Sem Fin) (gd : Bool → Bool) (lv : List Value → List Value) (c : Code) (p : Pos) : Frame :=
  .ret (fun r => ((match r with | .ok f => (.pure f : Sem Flow) | .error e => .raise e).onRaise fun (x : Value) => do
        if (← field x 1) == Value.none then unsupported "frame.own-activation:exception-without-traceback"
        setFlight x env.frame).wrap K H gd lv) none (gd false) (lv []) c p []
theorem seg_For {target iter : Expr} {body orelse : List Stmt} {pos : Pos} (hs : ∀ x, foldedSetIterable iter env x = pure x)
    (h : wpAny M (A.over c fs) (eval iter env) (fun v s₁ => wpAny M (A.over c fs) (pyIter v) (fun it s₂ => ∀ p, Seg M A R Y n s₀ (.forLoop target it body orelse env) (M.den (.forLoop target it body orelse env)) (afterLoop env K H gd lv c p :: fs) s₂)
      (fun x s' => Seg M A R Y n s₀ c (H x) fs s') s₁) (fun x s' => Seg M A R Y n s₀ c (H x) fs s') s) :
    Seg M A R Y n s₀ c ((exec (.For target iter body orelse pos) env).wrap K H gd lv) fs s := by
  rw [exec_For]
  refine seg_bind_wrap (wpAny_standAt ?_)
  refine seg_bind_wrap (wpAny_mono h (fun v s₁ h₁ => ?_) fun _ _ e => e)
  refine seg_bind_wrap (wpAny_of_eq (hs v) ?_)
  refine seg_bind_wrap (wpAny_standAt ?_)
  refine seg_bind_wrap (wpAny_holding (wpAny_mono h₁ (fun it s₂ h₂ => ?_) fun _ _ e => e))
  exact seg_call h₂
end
section
variable {prog : Program} {w : World} {A : Around} {R : GenEnd} {Y : Protocol} {n : Nat} {s₀ : Shared} {c : Code} {fs : List Frame} {s : Shared} {env : Env}
  {K : Flow → Sem Fin} {H : Value → Sem Fin} {gd : Bool → Bool} {lv : List Value → List Value}
theorem seg_If {test : Expr} {body orelse : List Stmt} {pos : Pos}
    (h : wpAny (model prog w) (A.over c fs) (isTrue test env (eval test env)) (fun b s' => if b = true then Seg (model prog w) A R Y n s₀ c ((execs body env).wrap K H gd lv) fs s' else Seg (model prog w) A R Y n s₀ c ((execs orelse env).wrap K H gd lv) fs s')
      (fun x s' => Seg (model prog w) A R Y n s₀ c (H x) fs s') s) :
    Seg (model prog w) A R Y n s₀ c ((exec (.If test body orelse pos) env).wrap K H gd lv) fs s := by
  show Seg _ A R Y n s₀ c ((standAt pos >>= fun _ => isTrue test env (eval test env) >>= fun b => if b = true then execs body env else execs orelse env).wrap K H gd lv) fs s
  refine seg_bind_wrap (wpAny_standAt ?_)
  refine seg_bind_wrap (wpAny_mono h (fun b s' hb => ?_) fun _ _ e => e)
  cases b with
  | true => exact hb
  | false => exact hb
abbrev noteH (env : Env) : Value → Sem Fin := fun e => (do noteFrame e env; theTreesLotGoes e : Sem Unit).wrap (fun _ => .raise e) .raise id id
abbrev loopK (target : Expr) (it : Value) (body orelse : List Stmt) (env : Env) : Flow → Sem Fin := fun f => match f with
  | .next | .cont => .pure (.again (.forLoop target it body orelse env))
  | .brk => .pure (.done .next)
  | .ret v => .pure (.done (.ret v))
theorem seg_forTurn {target : Expr} {it : Value} {body orelse : List Stmt}
    (h : wpAny (model prog w) (A.over (.forLoop target it body orelse env) fs) (pyNext it) (fun o s₁ => match o with
      | none => Seg (model prog w) A R Y n s₀ (.block orelse env) ((model prog w).den (.block orelse env)) fs s₁
      | some v => wpAny (model prog w) (A.over (.forLoop target it body orelse env) fs) (letOwnedTupleGo target it v) (fun _ s₂ =>
          wpAny (model prog w) (A.over (.forLoop target it body orelse env) fs) (assign target env v) (fun _ s₃ =>
            Seg (model prog w) A R Y n s₀ (.forLoop target it body orelse env) ((execs body env).wrap (loopK target it body orelse env) (noteH env) id id) fs s₃)
            (fun x s' => Seg (model prog w) A R Y n s₀ (.forLoop target it body orelse env) (noteH env x) fs s') s₂)
          (fun x s' => Seg (model prog w) A R Y n s₀ (.forLoop target it body orelse env) (noteH env x) fs s') s₁)
      (fun x s' => Seg (model prog w) A R Y n s₀ (.forLoop target it body orelse env) (noteH env x) fs s') s) :
    Seg (model prog w) A R Y n s₀ (.forLoop target it body orelse env) ((model prog w).den (.forLoop target it body orelse env)) fs s := by
  show Seg _ A R Y n s₀ _ ((forTurn target it body orelse env).onRaise (fun x => do noteFrame x env; theTreesLotGoes x)) fs s
  have hH : (fun e => ((do noteFrame e env; theTreesLotGoes e : Sem Unit).bind fun _ => (.raise e : Sem Fin))) = noteH env := funext fun e => Sem.bind_eq_wrap _ _
  rw [Sem.onRaise_eq_wrap, hH]
  unfold forTurn
  refine seg_bind_wrap (wpAny_standAt ?_)
  refine seg_bind_wrap (wpAny_onRaise (wpAny_mono h (fun o s₁ h₁ => ?_) fun _ _ e => wpAny_standAt e))
  cases o with
  | none => exact seg_again rfl h₁
  | some v =>
    refine seg_bind_wrap (wpAny_mono h₁ (fun _ s₂ h₂ => ?_) fun _ _ e => e)
    refine seg_bind_wrap (wpAny_mono h₂ (fun _ s₃ h₃ => ?_) fun _ _ e => e)
    rw [Sem.bind_eq_wrap', Sem.wrap_wrap]
    have e : ∀ (m : Sem Flow), Sem.wrap (fun a => Sem.wrap Sem.pure (noteH env) id id (match a with
          | Flow.next => again (Code.forLoop target it body orelse env)
          | Flow.cont => again (Code.forLoop target it body orelse env)
          | Flow.brk => pure (Fin.done Flow.next)
          | Flow.ret v => pure (Fin.done (Flow.ret v)))) (fun e => Sem.wrap Sem.pure (noteH env) id id (Sem.raise e)) id id m = m.wrap (loopK target it body orelse env) (noteH env) id id := fun m => Sem.wrap_congr m id id (fun f => by cases f <;> rfl) fun e => rfl
    exact (congrArg (fun t => Seg (model prog w) A R Y n s₀ (.forLoop target it body orelse env) t fs s₃) (e (execs body env))).mpr h₃
theorem seg_block_nil (h : Seg (model prog w) A R Y n s₀ (.block [] env) (leafOf (.ok .next)) fs s) : Seg (model prog w) A R Y n s₀ (.block [] env) ((model prog w).den (.block [] env)) fs s := h
end
section
variable {prog : Program} {w : World} {A : Around} {E : Value → Shared → Prop} {s : Shared}
theorem wpAny_pyNext_genQ {a : Addr} {g n : Nat} {gs : GenState} {P : Nat → Shared → Shared → Prop} {Y : Protocol} {Q : Option Value → Shared → Prop} (hh : A.handled = none)
    (hl : s.heap.NoLimit) (hroom : A.depth < recursionLimit)
    (hg : s.heap.IsGen a g) (hgs : s.gens[g]? = some gs)
    (hgo : gs.Goes (model prog w) A.in1 (fun n s₀ r s₁ => r = .ok (.ret .none) ∧ P n s₀ s₁) Y n (.send .none) (s.setGen g .running))
    (hY : ∀ v s₁ gs', gs'.bare = true → Y (n - 1) (s.setGen g .running) v s₁ (fun r' s'' => match n with
        | 0 => False
        | m + 1 => gs'.Goes (model prog w) A.in1 (fun n s₀ r s₁ => r = .ok (.ret .none) ∧ P n s₀ s₁) Y m r' s'') → Q (some v) (s₁.setGen g gs'))
    (hP : ∀ s₁, P n (s.setGen g .running) s₁ → ∀ h', (∀ b o, s₁.heap.get? b = some o → h'.get? b = some o) → Q none { s₁.setGen g .finished with heap := h' }) :
    wpAny (model prog w) A (pyNext (.ref a)) Q E s := by
  unfold pyNext
  refine wpAny_bind (wpAny_attempt (wpAny_callSpecial?_slot (name := Str.ofString "__next__") hg.typeIs slot_gen_next
    (wpAny_call_entry slot_gen_next hg.typeIs entry_gen_next ?_ (args_gen_next _))))
  show wpAny _ _ (Builtin.Generator.genWake (.ref a) (.send .none)) _ _ s
  unfold Builtin.Generator.genWake
  refine wpAny_bind (wpAny_holding (wpAny_genNumber hg (wpAny_bind (wpAny_genState hgs ?_))))
  cases gs with
  | running => exact hgo.elim
  | finished => exact hgo.elim
  | _ =>
    refine wpAny_bind (wpAny_roomToWake hl hroom ?_)
    show wpAny _ _ (.resume g (.send .none) [] _) _ _ s
    refine wpAny_resumeQ hgs hgo (fun x s₁ hx => ?_) (fun v s₁ gs' hb hv => ?_)
    · obtain ⟨rfl, hp⟩ := hx
      show wpAny _ _ (newExc (.type "StopIteration") [] >>= _) _ _ _
      refine wpAny_bind ?_
      simp only [newExc, newTuple]
      refine wpAny_bind (wpAny_newObj_type ?_ (by size_fits))
      refine wpAny_bind (m := firstArgMember _ _) (wpAny_of_eq (a := Value.none) (by first | rfl | (simp only [firstArgMember]; rfl)) ?_)
      refine wpAny_newObj_type ?_ (by size_fits)
      simp only [raiseNew]
      refine wpAny_bind (wpAny_bind (wpAny_handled ?_))
      rw [show A.in1.handled = none from hh]
      refine wpAny_throw ?_
      refine wpAny_bind (wpAny_isInstance (T := "StopIteration") (b := true) ⟨_, Heap.get?_push_size _ rfl, rfl⟩ isSubtype_stop ?_)
      exact wpAny_pure (hP s₁ hp _ fun b o hb => Heap.get?_push_of_some _ (Heap.get?_push_of_some _ hb))
    · exact wpAny_pure ⟨v, rfl, wpAny_pure (hY v s₁ gs' hb hv)⟩
end
end Mine
namespace Mine
variable {B : BW} {Ω : Om}
def oneS (c : Nat) : Str := ⟨#[c]⟩
def unitP (i : Int) (u : Str) : PV := .tup [.int i, .str u]
def itGo : List Nat → Nat → Bool → Int → List PV
  | [], _, esc, p => if esc then [unitP p (oneS 92)] else []
  | c :: cs, i, true, _ => unitP i ⟨#[92, c]⟩ :: itGo cs (i + 1) false i
  | c :: cs, i, false, _ => if c = 92 then itGo cs (i + 1) true i else unitP i (oneS c) :: itGo cs (i + 1) false i
def itAll (x : Str) : List PV := itGo x.cps.toList 0 false 0
def c_it : Cx := { nm := ["addr", "pos", "escape", "ch"], cn := [], ck := [], gn := ["enumerate"], code := none }
def m_y1 : ME := .tup (.cons (.loc 1) (.cons (.bin .Add (.cst (.str "\\")) (.loc 3)) .nil))
def m_y3 : ME := .tup (.cons (.loc 1) (.cons (.loc 3) .nil))
def m_y5 : ME := .tup (.cons (.loc 1) (.cons (.cst (.str "\\")) .nil))
def m_e2 : ME := .cmp .Eq (.loc 3) (.cst (.str "\\"))
def LBody (lb : List Stmt) : Prop := ∃ e0 y1 yp1 ep1 st2 e2 st3 y3 yp3 ep3 ip2 ip1,
  lb = [.If e0 [.Expr (.Yield (some y1) yp1) ep1, st2] [.If e2 [st3] [.Expr (.Yield (some y3) yp3) ep3] ip2] ip1] ∧
  isE c_it (.loc 2) e0 = true ∧ isE c_it m_y1 y1 = true ∧ isS c_it (.asg 2 (.cst (.bool false))) st2 = true ∧ isE c_it m_e2 e2 = true ∧ isS c_it (.asg 2 (.cst (.bool true))) st3 = true ∧ isE c_it m_y3 y3 = true
def ItBody (body : List Stmt) : Prop := ∃ s0 s1 tg en ad cp lb fp e4 y5 yp5 ep5 ip3,
  body = [s0, s1, .For tg (.Call en [ad] [] cp) lb [] fp, .If e4 [.Expr (.Yield (some y5) yp5) ep5] [] ip3] ∧
  isS c_it (.asg 1 (.cst (.int 0))) s0 = true ∧ isS c_it (.asg 2 (.cst (.bool false))) s1 = true ∧ tgtIs c_it.nm (.tup [1, 3]) tg = true ∧ globIs c_it "enumerate" en = true ∧ isE c_it (.loc 0) ad = true ∧ LBody lb ∧ isE c_it (.loc 2) e4 = true ∧ isE c_it m_y5 y5 = true
structure Nm (B : BW) (env : Env) (x : Str) (esc : Bool) (p : Int) (s : Shared) : Prop where
  inv : Inv B s
  ns : ∃ m t tp, s.heap.Ns env.locals m ∧ m "addr" = some (.str x t) ∧ m "pos" = some (.int p tp) ∧ m "escape" = some (.bool esc)
structure LI (B : BW) (env : Env) (x : Str) (e it : Addr) (i : Nat) (esc : Bool) (p : Int) (s : Shared) : Prop extends Nm B env x esc p s where
  en : ∃ old, IsEnum s.heap e it i old
  st : ∃ t, s.heap.IsStrIter it (strIterType x) x t i
section
variable {env : Env} {x : Str} {e it : Addr} {i : Nat} {esc : Bool} {p : Int} {s s' : Shared} {A : Around} {V : Vs}
theorem Nm.fr (h : Nm B env x esc p s) (hb : B.b₀.get? env.locals = none) (hx : x.length ≤ sizeLine) : FR B c_it env [] [] [some (.str x), some (.int p), some (.bool esc), none] [] [] s where
  inv := h.inv
  held := fun a ha => by cases ha
  loc := by
    obtain ⟨m, t, tp, n, h1, h2, h3⟩ := h.ns
    refine ⟨m, n, fun k y pv hk hv => ?_⟩
    match k, hk, hv with
    | 0, hk, hv => cases hk; cases hv; exact ⟨_, h1, t, rfl, hx⟩
    | 1, hk, hv => cases hk; cases hv; exact ⟨_, h2, tp, rfl⟩
    | 2, hk, hv => cases hk; cases hv; exact ⟨_, h3, rfl⟩
    | 3, hk, hv => cases hv
    | k + 4, hk, hv => simp [c_it] at hk
  cel := fun j x hx hc => by cases hc
  len := rfl
  nodup := List.nodup_nil
  disj := fun a ha => by cases ha
  base := hb
  baseAs := fun a ha => by cases ha
  baseC := fun x hx => by cases hx
  own := fun l a xs ha => by cases ha
theorem Nm.of_fr {ch : Option PV} (F : FR B c_it env [] [] [some (.str x), some (.int p), some (.bool esc), ch] [] [] s) : Nm B env x esc p s := by
  obtain ⟨m, n, h⟩ := F.loc
  obtain ⟨v0, e0, t, rfl, _⟩ := h 0 "addr" (.str x) rfl rfl
  obtain ⟨v1, e1, tp, rfl⟩ := h 1 "pos" (.int p) rfl rfl
  obtain ⟨v2, e2, rfl⟩ := h 2 "escape" (.bool esc) rfl rfl
  exact ⟨F.inv, m, t, tp, n, e0, e1, e2⟩
theorem Nm.after (h : Nm B env x esc p s) (I : Inv B s') (hk : ∀ o, s.heap.get? env.locals = some o → s'.heap.get? env.locals = some o) : Nm B env x esc p s' := by
  obtain ⟨m, t, tp, n, h1, h2, h3⟩ := h.ns
  exact ⟨I, m, t, tp, n.at' hk, h1, h2, h3⟩
theorem LI.after (h : LI B env x e it i esc p s) (I : Inv B s') (hk : ∀ b ∈ [env.locals, e, it], ∀ o, s.heap.get? b = some o → s'.heap.get? b = some o) : LI B env x e it i esc p s' :=
  { h.toNm.after I (fun o e => hk _ (by simp) o e) with
    en := let ⟨old, q⟩ := h.en; ⟨old, hk e (by simp) _ q⟩
    st := let ⟨t, o, q, r⟩ := h.st; ⟨t, o, hk it (by simp) o q, r⟩ }
theorem pair_apart {h : Heap} {i : Int} {u : Str} {v : Value} (r : VR h [] [] (unitP i u) v) {S as : List Addr} (hS : Held S h) (has : Held as h) : VR h S as (unitP i u) v := by
  obtain ⟨a, vs, rfl, _, _, ⟨o, ho, hc, n, hd⟩, hz, hr⟩ := r
  have out : ∀ {L : List Addr}, Held L h → a ∉ L := fun hL hm => by
    obtain ⟨us, k, q⟩ := hL a hm
    rw [ho] at q; cases q
    exact absurd (show Value.type "list" = Value.type "tuple" from hc) (by decide)
  refine ⟨a, vs, rfl, out hS, out has, ⟨o, ho, hc, n, hd⟩, hz, ?_⟩
  obtain ⟨v1, r1, e1, h1, v2, r2, e2, h2, h3⟩ := hr
  exact ⟨v1, r1, e1, h1, v2, r2, e2, h2, h3⟩
theorem drawsS (prog : Program) (w : World) (A : Around) (hh : A.handled = none) (it : Addr) (x : Str) (t : Tok) :
    Draws prog w A it [it] x.cps.size (fun i v => ∃ c u, x.cps[i]? = some c ∧ v = .str ⟨#[c]⟩ u) (fun i h => h.IsStrIter it (strIterType x) x t i) := by
  cases ha : x.cps.all (· < 128)
  · rw [show strIterType x = "str_iterator" by simp [strIterType, ha]]
    exact Draws.strWide hh it x t
  · rw [show strIterType x = "str_ascii_iterator" by simp [strIterType, ha]]
    exact Draws.strAscii hh it x t
end
end Mine
namespace Mine
variable {B : BW} {Ω : Om}
abbrev itW (env : Env) (e it : Addr) : List Addr := [env.locals, e, it]
def NV (o : Obj) : Prop := NotVR o ∧ (o.cls ≠ .none ∨ ∀ vs, o.data ≠ .fields vs)
theorem NV.dict {o : Obj} {x n} (h : o.data = .dict x n) : NV o := ⟨NotVR.dict h, .inr fun vs e => by rw [h] at e; cases e⟩
def itFin : List Nat → Bool → Bool
  | [], esc => esc
  | _ :: cs, true => itFin cs false
  | c :: cs, false => itFin cs (decide (c = 92))
theorem itFin_len : ∀ {cs : List Nat} {i : Nat} {esc : Bool} {p : Int}, itFin cs esc = true → (itGo cs i esc p).length ≠ 0
  | [], i, esc, p, h => by
    have h : esc = true := h
    subst h; simp [itGo]
  | c :: cs, i, true, p, h => by simp [itGo]
  | c :: cs, i, false, p, h => by
    have h : itFin cs (decide (c = 92)) = true := h
    unfold itGo
    split
    · rename_i hc
      rw [decide_eq_true hc] at h
      exact itFin_len h
    · simp
def itX (tl : Bool) (L e it : Addr) (m : Nat) : List Addr := if tl = true ∧ m = 0 then [L] else [L, e, it]
def itY (B : BW) (tl : Bool) (L e it : Addr) (xs : List PV) : Protocol := fun m s₀ v s kap =>
  (∃ i u, xs[xs.length - 1 - m]? = some (unitP i u) ∧ VR s.heap [] [] (unitP i u) v) ∧ Kg B [L, e, it] [] s₀ s ∧ (∀ b ∈ itX tl L e it m, ∃ o, s.heap.get? b = some o ∧ NV o) ∧
    ∀ s'', Inv B s'' → (∀ b ∈ itX tl L e it m, ∀ o, s.heap.get? b = some o → s''.heap.get? b = some o) → kap (.send .none) s''
def itR (B : BW) (tl : Bool) (L e it : Addr) : GenEnd := fun n s₀ r s₁ => r = .ok (.ret .none) ∧ (n = 0 ∧ Kg B (if tl = true then [] else [L, e, it]) [] s₀ s₁)
theorem ok_loop {A : Around} {d : Nat} (hA : AOk (d + 1) A) {body : List Stmt} {env : Env} {tg : Expr} {v : Value} {lb : List Stmt} {K H gd lv p} : AOk d (A.over (.forLoop tg v lb [] env) [afterLoop env K H gd lv (.func body env) p]) := by
  refine ⟨hA.handled, ?_, ?_⟩
  · have := hA.depth
    show A.depth + (1 + 0) + 0 + d ≤ 900
    omega
  · have := hA.units
    show A.units + (3 + 0) + 0 + 8 * d ≤ 9000
    omega
theorem ok_func {A : Around} {d : Nat} (hA : AOk (d + 1) A) {body : List Stmt} {env : Env} : AOk d (A.over (.func body env) []) := by
  refine ⟨hA.handled, ?_, ?_⟩
  · have := hA.depth
    show A.depth + 0 + 1 + d ≤ 900
    omega
  · have := hA.units
    show A.units + 0 + 3 + 8 * d ≤ 9000
    omega
theorem notVR_enum {h : Heap} {e it : Addr} {i : Int} {old : Value} (q : IsEnum h e it i old) : ∃ o, h.get? e = some o ∧ NV o := ⟨_, q, ⟨.inl (show Value.type "enumerate" ≠ Value.type "tuple" by decide), .inl (show Value.type "enumerate" ≠ Value.type "list" by decide), .inl (show Value.type "enumerate" ≠ Value.type "range" by decide), .inl (show Value.type "enumerate" ≠ Value.type "builtin_function_or_method" by decide)⟩, .inl nofun⟩
theorem strIter_ne (x : Str) : strIterType x ≠ "tuple" ∧ strIterType x ≠ "list" ∧ strIterType x ≠ "range" ∧ strIterType x ≠ "builtin_function_or_method" ∧ strIterType x ≠ "code" := by
  cases ha : x.cps.all (· < 128)
  · rw [show strIterType x = "str_iterator" by simp [strIterType, ha]]; decide
  · rw [show strIterType x = "str_ascii_iterator" by simp [strIterType, ha]]; decide
theorem notVR_iter {h : Heap} {it : Addr} {x : Str} {t : Tok} {i : Nat} (q : h.IsStrIter it (strIterType x) x t i) : ∃ o, h.get? it = some o ∧ NV o := by
  obtain ⟨o, e, hc, hd⟩ := q
  obtain ⟨a, b, c, d, _⟩ := strIter_ne x
  exact ⟨o, e, ⟨.inl (by rw [hc]; intro h; injection h; exact absurd ‹_› a), .inl (by rw [hc]; intro h; injection h; exact absurd ‹_› b), .inl (by rw [hc]; intro h; injection h; exact absurd ‹_› c), .inl (by rw [hc]; intro h; injection h; exact absurd ‹_› d)⟩, .inl (by rw [hc]; nofun)⟩
section
variable {env : Env} {x : Str} {e it : Addr} {i : Nat} {esc : Bool} {p : Int} {s s' : Shared} {A : Around} {V : Vs} {xs : List PV}
theorem LI.notVR (h : LI B env x e it i esc p s) : ∀ b ∈ itW env e it, ∃ o, s.heap.get? b = some o ∧ NV o := fun b hb => by
  simp only [itW, List.mem_cons, List.not_mem_nil, or_false] at hb
  rcases hb with rfl | rfl | rfl
  · obtain ⟨m, t, tp, ⟨o, es, ep, q, hd, _⟩, _⟩ := h.ns
    exact ⟨o, q, NV.dict hd⟩
  · obtain ⟨old, q⟩ := h.en; exact notVR_enum q
  · obtain ⟨t, q⟩ := h.st; exact notVR_iter q
theorem it_asg (O : B.Ok) (hΩ : OmGen B 0 Ω) (hA : AOk 0 A) (hE : EnvOk c_it env) {E : Value → Shared → Prop} {st : Stmt} {b : Bool} (hst : isS c_it (.asg 2 (.cst (.bool b))) st = true) {ch : Option PV}
    (F : FR B c_it env [] [] [some (.str x), some (.int p), some (.bool esc), ch] [] [] s) :
    wpAny (model B.prog B.w) A (exec st env) (fun f s' => f = .next ∧ Kg B [env.locals] [] s s' ∧ Nm B env x b p s') E s := by
  refine wpAny_mono (ex_all (n := 0) O hΩ (.asg 2 (.cst (.bool b))) c_it env [] [] ⟨_, _, _⟩ ⟨[some (.str x), some (.int p), some (.bool b), ch], [], []⟩ .next s A st E hE hA F hst rfl) (fun f s' ⟨new, a⟩ => ?_) fun _ _ e => e
  have hfl := a.fl
  have fr := a.fr
  have hnew : new = [] := by simpa using fr.len
  subst hnew
  exact ⟨hfl, a.k.mono (fun a ha => by
    rcases List.mem_cons.mp ha with rfl | h
    · simp
    · cases h) (by simp), Nm.of_fr (ch := ch) fr⟩
end
end Mine
namespace Mine
variable {B : BW} {Ω : Om}
theorem ev_y1 (x : Str) (p : Int) (b : Bool) (c : Nat) : evalB Ω m_y1 false [some (.str x), some (.int p), some (.bool b), some (.str (oneS c))] [] [] = some (unitP p ⟨#[92, c]⟩) := rfl
theorem ev_y3 (x : Str) (p : Int) (b : Bool) (c : Nat) : evalB Ω m_y3 false [some (.str x), some (.int p), some (.bool b), some (.str (oneS c))] [] [] = some (unitP p (oneS c)) := rfl
theorem ev_y5 (x : Str) (p : Int) (b : Bool) (o : Option PV) : evalB Ω m_y5 false [some (.str x), some (.int p), some (.bool b), o] [] [] = some (unitP p (oneS 92)) := rfl
theorem ev_e2 (x : Str) (p : Int) (b : Bool) (c : Nat) : evalB Ω m_e2 true [some (.str x), some (.int p), some (.bool b), some (.str (oneS c))] [] [] = some (.bool (decide (c = 92))) := by
  show some (PV.bool (oneS c == ("\\" : Str))) = _
  by_cases h : c = 92
  · subst h; rfl
  · have : (oneS c == ("\\" : Str)) = false := by
      apply beq_false_of_ne
      intro q
      apply h
      have : (oneS c).cps = ("\\" : Str).cps := by rw [q]
      have q2 : #[c] = #[92] := this
      simpa using q2
    rw [this, decide_eq_false h]
section
variable {env : Env} {x : Str} {e it : Addr} {s : Shared} {A : Around} {xs : List PV}
theorem LI.upd (O : B.Ok) {i : Nat} {b esc : Bool} {p q : Int} {s' : Shared} (h : LI B env x e it i esc p s) (k : Kg B [env.locals] [] s s') (N : Nm B env x b q s') (heL : e ≠ env.locals) (hiL : it ≠ env.locals) : LI B env x e it i b q s' := { N with
  en := let ⟨old, en⟩ := h.en; ⟨old, k.get O h.inv (by simpa using heL) en (.inl nofun)⟩
  st := let ⟨t, o, eo, hc, hd⟩ := h.st; ⟨t, o, k.get O h.inv (by simpa using hiL) eo (.inl (by rw [hc]; nofun)), hc, hd⟩ }
theorem it_loop (O : B.Ok) (hΩ : OmGen B 0 Ω) (hA : AOk 2 A) (hE : EnvOk c_it env) (hco : env.scope.isCoroutine = false) (hi : interactive env = false) (hbL : B.b₀.get? env.locals = none) (hbe : B.b₀.get? e = none) (hbi : B.b₀.get? it = none)
    (hne : e ≠ it) (heL : e ≠ env.locals) (hiL : it ≠ env.locals) (hx : x.length ≤ sizeLine) {tg : Expr} (htg : tgtIs c_it.nm (.tup [1, 3]) tg = true) {lb body : List Stmt} (hlb : LBody lb) {K0 : Flow → Sem Fin} {H0 : Value → Sem Fin} {gd : Bool → Bool} {lv : List Value → List Value} (hgd : gd false = false) {tl : Bool}
    (hend : ∀ n s₀ s i esc p pre, Nm B env x esc p s → Kg B (itW env e it) [] s₀ s → xs = pre ++ itGo [] i esc p → esc = tl → n = (itGo [] i esc p).length → Seg (model B.prog B.w) A (itR B tl env.locals e it) (itY B tl env.locals e it xs) n s₀ (.func body env) (K0 .next) [] s) :
    ∀ k i esc p s₀ s pre p₀, x.cps.size - i = k → i ≤ x.cps.size → LI B env x e it i esc p s → Kg B (itW env e it) [] s₀ s → xs = pre ++ itGo (x.cps.toList.drop i) i esc p → itFin (x.cps.toList.drop i) esc = tl →
      Seg (model B.prog B.w) A (itR B tl env.locals e it) (itY B tl env.locals e it xs) (itGo (x.cps.toList.drop i) i esc p).length s₀ (.forLoop tg (.ref e) lb [] env) ((model B.prog B.w).den (.forLoop tg (.ref e) lb [] env)) [afterLoop env K0 H0 gd lv (.func body env) p₀] s := by
  have notCode : ∀ {h : Heap} {t : Tok} {i : Nat}, h.IsStrIter it (strIterType x) x t i → ∀ o, h.get? it = some o → ¬ Pr o := fun hst o ho q => by
    obtain ⟨o₂, e₂, hc₂, hd₂⟩ := hst
    rw [ho] at e₂; cases e₂
    rcases q.1 with q | q
    · rw [hc₂] at q; injection q with q; exact (strIter_ne x).2.2.2.2 q
    · rw [hc₂] at q; cases q
  have notCodeE : ∀ {h : Heap} {i : Int} {old : Value}, IsEnum h e it i old → ∀ o, h.get? e = some o → ¬ Pr o := fun hen o ho q => by
    rw [hen] at ho; cases ho
    rcases q.1 with q | q
    · exact absurd (show Value.type "enumerate" = Value.type "code" from q) (by decide)
    · exact absurd (show Value.type "enumerate" = Value.none from q) nofun
  intro k
  induction k with
  | zero =>
    intro i esc p s₀ s pre p₀ hk hle L since hxs hfin
    have hin : i = x.cps.size := by omega
    subst hin
    rw [List.drop_of_length_le (by simp)] at hxs hfin ⊢
    refine seg_forTurn ?_
    obtain ⟨old, hen⟩ := L.en
    obtain ⟨t, hst⟩ := L.st
    have hA₁ : AOk 1 (A.over (.forLoop tg (.ref e) lb [] env) [afterLoop env K0 H0 gd lv (.func body env) p₀]) := ok_loop hA
    refine wpAny_pyNext_enum_endD (drawsS B.prog B.w (A.over (.forLoop tg (.ref e) lb [] env) [afterLoop env K0 H0 gd lv (.func body env) p₀]).in1 hA₁.handled it x t) hen hst fun h' hx' => ?_
    have kq : Kg B [it] [] s { s with heap := h' } := Kq.at O (k := s.toks) L.inv L.inv.tk hx' (notCode hst) hbi
    refine seg_block_nil (seg_leaf (.ok .next) ?_)
    refine hend _ s₀ _ _ esc p pre (L.toNm.after kq.inv fun o ho => hx' _ o (Ne.symm hiL) ho) (since.trans (kq.mono (fun a ha => by simp [List.mem_singleton.mp ha]) (by simp))) hxs hfin rfl
  | succ k ih =>
    intro i esc p s₀ s pre p₀ hk hle L since hxs hfin
    have hlt : i < x.cps.size := by omega
    have hdr : x.cps.toList.drop i = x.cps[i] :: x.cps.toList.drop (i + 1) := by
      rw [List.drop_eq_getElem_cons (by simpa using hlt)]; simp
    rw [hdr] at hxs hfin ⊢
    have hci : x.cps[i]? = some x.cps[i] := by simp [hlt]
    generalize x.cps[i] = c at hxs hfin hci ⊢
    refine seg_forTurn ?_
    obtain ⟨old, hen⟩ := L.en
    obtain ⟨t, hst⟩ := L.st
    have hA₁ : AOk 1 (A.over (.forLoop tg (.ref e) lb [] env) [afterLoop env K0 H0 gd lv (.func body env) p₀]) := ok_loop hA
    have hA₀ := hA₁.mono (show 0 ≤ 1 by omega)
    refine wpAny_pyNext_enum_itemD (drawsS B.prog B.w (A.over (.forLoop tg (.ref e) lb [] env) [afterLoop env K0 H0 gd lv (.func body env) p₀]).in1 hA₁.handled it x t) hen hst hlt hne (by simpa using hne) (fun v h₁ tk hv ho hst₁ hT hsz hk₁ => ?_)
    obtain ⟨c', u, hc', rfl⟩ := hv
    rw [hci] at hc'; cases hc'
    have hnew : s.heap.get? s.heap.objs.size = none := fresh_none _
    have k₁ : Kg B [e, it] [] s { s with heap := h₁, toks := tk + 1 } := ⟨fun b o _ hb eo => hk₁ b o (fun q => hb (by simp [q])) (fun q => hb (by simp [q])) eo, fun _ _ _ q => q,
      ⟨fun b o eo => hk₁ b o (fun q => by rw [q, hbe] at eo; cases eo) (fun q => by rw [q, hbi] at eo; cases eo) (L.inv.base b o eo),
       O.Tb_keep _ _ L.inv.tb fun b o eo pr => hk₁ b o (fun q => notCodeE hen o (q ▸ eo) pr) (fun q => notCode hst o (q ▸ eo) pr) eo, L.inv.bare, L.inv.os, Nat.le_add_left 1 tk⟩⟩
    have hT1 : s.heap.objs.size ≠ e := fun q => by have h2 : s.heap.get? e = some _ := hen; rw [← q, hnew] at h2; cases h2
    have htg' : ∃ es x1 pos, tg = .Tuple es x1 pos := by
      cases tg <;> first | exact ⟨_, _, _, rfl⟩ | (cases htg; done)
    obtain ⟨es, x1, pos, rfl⟩ := htg'
    refine wpAny_letOwnedTupleGo_enum ho fun h₂ he₂ hs₂ => ?_
    replace hs₂ : Heap.SameBut e h₁ h₂ := hs₂
    have hT₂ : h₂.get? s.heap.objs.size = some { cls := .type "tuple", data := .seq #[.int i tk, .str ⟨#[c]⟩ u] } := (hs₂.2 _ hT1).trans hT
    have k₂ : Kg B [e] [] { s with heap := h₁, toks := tk + 1 } { s with heap := h₂, toks := tk + 1 } := Kq.at O (k := tk + 1) k₁.inv k₁.inv.tk hs₂.extBut (fun o ho' q => by
      rw [show h₁.get? e = some _ from ho] at ho'; cases ho'
      rcases q.1 with q | q
      · exact absurd (show Value.type "enumerate" = Value.type "code" from q) (by decide)
      · exact absurd (show Value.type "enumerate" = Value.none from q) nofun) hbe
    have hL₂ : ∀ o, s.heap.get? env.locals = some o → h₂.get? env.locals = some o := fun o eo => hs₂.extBut _ o (Ne.symm heL) (hk₁ _ o (Ne.symm heL) (Ne.symm hiL) eo)
    have N₂ : Nm B env x esc p { s with heap := h₂, toks := tk + 1 } := L.toNm.after k₂.inv hL₂
    have F₂ := N₂.fr hbL hx
    have since₂ : Kg B (itW env e it) [] s₀ { s with heap := h₂, toks := tk + 1 } := (since.trans (k₁.mono (fun a ha => by
      simp only [List.mem_cons, List.not_mem_nil, or_false] at ha; rcases ha with rfl | rfl <;> simp) (by simp))).trans (k₂.mono (fun a ha => by simp [List.mem_singleton.mp ha]) (by simp))
    have hsz1 : (1 : Nat) ≤ sizeLine := by decide
    have hpair : VR h₂ [] [] (unitP i (oneS c)) (.ref s.heap.objs.size) := ⟨_, _, rfl, by simp, by simp, ⟨_, hT₂, rfl, _, rfl⟩, by show 2 ≤ sizeLine; decide, _, _, rfl, ⟨tk, rfl⟩, _, _, rfl, ⟨u, rfl, hsz1⟩, rfl⟩
    refine wpAny_mono (tgt_sound (S := []) (as := []) O hE hA₁.handled F₂ htg hpair (V' := [some (.str x), some (.int i), some (.bool esc), some (.str (oneS c))]) rfl) (fun _ s₃ ⟨k₃, F₃⟩ => ?_) fun _ _ e => e
    have since₃ : Kg B (itW env e it) [] s₀ s₃ := since₂.trans (k₃.mono (fun a ha => by simp [List.mem_singleton.mp ha]) (by simp))
    have he₃ : IsEnum s₃.heap e it ((i : Int) + 1) (.str ⟨#[c]⟩ u) := k₃.get O k₂.inv (by simpa using heL) he₂ (.inl nofun)
    have hst₂ : h₂.IsStrIter it (strIterType x) x t (i + 1) := hst₁.extBut hs₂.extBut (Ne.symm hne)
    have hst₃ : s₃.heap.IsStrIter it (strIterType x) x t (i + 1) := let ⟨o, eo, hc, hd⟩ := hst₂; ⟨o, k₃.get O k₂.inv (by simpa using hiL) eo (.inl (by rw [hc]; nofun)), hc, hd⟩
    have mkLI : ∀ {b : Bool} {s₄ : Shared}, Nm B env x b i s₄ → Kg B [env.locals] [] s₃ s₄ → LI B env x e it (i + 1) b i s₄ := fun N k => { N with
      en := ⟨_, k.get O F₃.inv (by simpa using heL) (by rw [show ((i + 1 : Nat) : Int) = (i : Int) + 1 by omega]; exact he₃) (.inl nofun)⟩
      st := ⟨t, let ⟨o, eo, hc, hd⟩ := hst₃; ⟨o, k.get O F₃.inv (by simpa using hiL) eo (.inl (by rw [hc]; nofun)), hc, hd⟩⟩ }
    obtain ⟨e0, y1, yp1, ep1, st2, e2, st3, y3, yp3, ep3, ip2, ip1, rfl, q0, q1, q2, q3, q4, q5⟩ := hlb
    refine seg_execs_cons (seg_If ?_)
    refine wpAny_mono (test_all O hΩ.ok (.loc 2) c_it env [] [] _ _ _ s₃ _ e0 (.bool esc) _ hE hA₀ F₃ q0 rfl) (fun b s₄ ⟨k₄, hb⟩ => ?_) fun _ _ e => e
    cases hb
    have F₄ := F₃.kp O k₄
    have since₄ := since₃.trans (k₄.g (X := itW env e it) (G := []))
    have L₄ : LI B env x e it (i + 1) esc i s₄ := (mkLI (Nm.of_fr F₃) (Kp.refl F₃.inv).g).upd O (k₄.g) (Nm.of_fr F₄) heL hiL
    have hn : ∀ (m : Nat) (rest : List PV) (y : PV), xs = pre ++ y :: rest → rest.length = m → xs[xs.length - 1 - m]? = some y := fun m rest y h1 h2 => by
      subst h1; subst h2
      rw [List.length_append, List.length_cons, show pre.length + (rest.length + 1) - 1 - rest.length = pre.length by omega, List.getElem?_append_right (Nat.le_refl _), Nat.sub_self]; rfl
    have hX : ∀ (b : Bool) (q : Int), itFin (x.cps.toList.drop (i + 1)) b = tl → itX tl env.locals e it (itGo (x.cps.toList.drop (i + 1)) (i + 1) b q).length = itW env e it := fun b q h => by
      unfold itX
      rw [if_neg]
      rintro ⟨h1, h2⟩
      exact itFin_len (h.trans h1) h2
    cases esc with
    | true =>
      rw [if_pos rfl]
      refine seg_execs_cons ?_
      refine seg_Expr_Yield rfl rfl (by simp [Frame.guarded, hgd]) (wpAny_mono (ev_all O hΩ.ok m_y1 c_it env [] [] _ [] [] s₄ _ y1 _ _ hE hA₀ F₄ q1 (ev_y1 x i true c)) (fun v s₅ ⟨k₅, r₅⟩ kap hkap => ?_) fun _ _ e => e) hco hi
      have L₅ := L₄.upd O (k₅.g) (Nm.of_fr (F₄.kp O k₅)) heL hiL
      have hfin' : itFin (x.cps.toList.drop (i + 1)) false = tl := hfin
      refine ⟨⟨i, ⟨#[92, c]⟩, hn _ _ _ hxs rfl, r₅⟩, since₄.trans k₅.g, by rw [hX false i hfin']; exact L₅.notVR, fun s'' I'' kept => hkap .none s'' ?_⟩
      rw [hX false i hfin'] at kept
      have L₆ := L₅.after I'' kept
      refine seg_execs_cons (seg_of_exec (wpAny_mono (it_asg O hΩ hA₀ hE q2 (L₆.toNm.fr hbL hx)) (fun f s₆ ⟨hf, k₆, N₆⟩ => ?_) fun _ _ e => e))
      subst hf
      exact seg_again rfl (ih (i + 1) false i s'' s₆ (pre ++ [_]) p₀ (by omega) hlt (L₆.upd O k₆ N₆ heL hiL) (k₆.mono (fun a ha => by simp [List.mem_singleton.mp ha]) (by simp)) (by rw [List.append_assoc]; exact hxs) hfin')
    | false =>
      rw [if_neg (by decide)]
      refine seg_execs_cons (seg_If ?_)
      refine wpAny_mono (test_all O hΩ.ok m_e2 c_it env [] [] _ _ _ s₄ _ e2 (.bool (decide (c = 92))) _ hE hA₀ F₄ q3 (ev_e2 x i false c)) (fun b s₅ ⟨k₅, hb⟩ => ?_) fun _ _ e => e
      cases hb
      have F₅ := F₄.kp O k₅
      have L₅ := L₄.upd O (k₅.g) (Nm.of_fr F₅) heL hiL
      have since₅ := since₄.trans (k₅.g (X := itW env e it) (G := []))
      by_cases hc92 : c = 92
      · rw [if_pos (decide_eq_true hc92)]
        have hgo : itGo (c :: x.cps.toList.drop (i + 1)) i false p = itGo (x.cps.toList.drop (i + 1)) (i + 1) true i := by
          show (if c = 92 then _ else _) = _
          rw [if_pos hc92]
        rw [hgo] at hxs ⊢
        have hfin' : itFin (x.cps.toList.drop (i + 1)) true = tl := by
          have : itFin (x.cps.toList.drop (i + 1)) (decide (c = 92)) = tl := hfin
          rwa [decide_eq_true hc92] at this
        refine seg_execs_cons (seg_of_exec (wpAny_mono (it_asg O hΩ hA₀ hE q4 F₅) (fun f s₆ ⟨hf, k₆, N₆⟩ => ?_) fun _ _ e => e))
        subst hf
        exact seg_again rfl (ih (i + 1) true i s₀ s₆ pre p₀ (by omega) hlt (L₅.upd O k₆ N₆ heL hiL) (since₅.trans (k₆.mono (fun a ha => by simp [List.mem_singleton.mp ha]) (by simp))) hxs hfin')
      · rw [if_neg (by simpa using hc92)]
        have hgo : itGo (c :: x.cps.toList.drop (i + 1)) i false p = unitP i (oneS c) :: itGo (x.cps.toList.drop (i + 1)) (i + 1) false i := by
          show (if c = 92 then _ else _) = _
          rw [if_neg hc92]
        rw [hgo] at hxs ⊢
        have hfin' : itFin (x.cps.toList.drop (i + 1)) false = tl := by
          have : itFin (x.cps.toList.drop (i + 1)) (decide (c = 92)) = tl := hfin
          rwa [decide_eq_false hc92] at this
        refine seg_execs_cons ?_
        refine seg_Expr_Yield rfl rfl (by simp [Frame.guarded, hgd]) (wpAny_mono (ev_all O hΩ.ok m_y3 c_it env [] [] _ [] [] s₅ _ y3 _ _ hE hA₀ F₅ q5 (ev_y3 x i false c)) (fun v s₆ ⟨k₆, r₆⟩ kap hkap => ?_) fun _ _ e => e) hco hi
        have L₆ := L₅.upd O (k₆.g) (Nm.of_fr (F₅.kp O k₆)) heL hiL
        refine ⟨⟨i, oneS c, hn _ _ _ hxs rfl, r₆⟩, since₅.trans k₆.g, by rw [hX false i hfin']; exact L₆.notVR, fun s'' I'' kept => hkap .none s'' ?_⟩
        rw [hX false i hfin'] at kept
        exact seg_again rfl (ih (i + 1) false i s'' s'' (pre ++ [_]) p₀ (by omega) hlt (L₆.after I'' kept) (Kp.refl I'').g (by rw [List.append_assoc]; exact hxs) hfin')
end
end Mine
namespace Mine
variable {B : BW} {Ω : Om}
section
variable {c : Cx} {env : Env} {S as : List Addr} {V K : Vs} {H : Hs} {s : Shared} {A : Around} {E : Value → Shared → Prop} {d n : Nat}
theorem asg_sz (O : B.Ok) (hE : EnvOk c env) (F : FR B c env S as V K H s) {i : Nat} {pv : PV} {st : Stmt} (hst : isS c (.asg i (.cst pv)) st = true) (hp : (∃ k, pv = .int k ∧ 0 ≤ k) ∨ ∃ b, pv = .bool b) :
    wpAny (model B.prog B.w) A (exec st env) (fun f s' => f = .next ∧ Kg B [env.locals] [] s s' ∧ FR B c env S as (V.set i (some pv)) K H s' ∧ s'.heap.objs.size = s.heap.objs.size) E s := by
  cases st <;> first | (cases hst; done) | skip
  rename_i ts y pos
  rcases ts with _ | ⟨t, _ | ⟨_, _⟩⟩ <;> first | (cases hst; done) | skip
  have hx : (nameIs c.nm i t && isE c (.cst pv) y && notComp y) = true := hst
  simp only [Bool.and_eq_true] at hx
  obtain ⟨z, p, rfl, hi⟩ := nameIs_eq hx.1.1
  have hy : cstIs pv y = true := hx.1.2
  have ev : wpAny (model B.prog B.w) A (eval y env) (fun v s₁ => Kp B s s₁ ∧ s₁.heap = s.heap ∧ VR s₁.heap S as pv v) E s := by
    rcases hp with ⟨k, rfl, hk⟩ | ⟨b, rfl⟩
    · unfold cstIs at hy
      split at hy <;> first | (cases hy; done) | skip
      · rename_i h1; cases h1
      · rename_i h1
        cases h1
        have e := beq_iff_eq.mp hy
        subst e
        exact wpAny_Constant_int ⟨Kp.inc O F.inv, rfl, _, rfl⟩
      · rename_i h1
        cases h1
        rename_i j _ _ _
        have e := beq_iff_eq.mp hy
        subst e
        show wpAny (model B.prog B.w) A (do let v ← eval (.Constant (.int j) _ _) env; standAt _; holding [v] (unaryOp .USub v)) _ E s
        refine wpAny_bind (wpAny_Constant_int (wpAny_bind (wpAny_standAt (wpAny_holding (PyProof.Rows.neg_int ⟨Kp.toks O F.inv (by omega), rfl, _, rfl⟩)))))
      · rename_i h1; cases h1
      · rename_i h1; cases h1
    · unfold cstIs at hy
      split at hy <;> first | (cases hy; done) | skip
      · rename_i h1; cases h1
      · rename_i h1; cases h1
      · rename_i h1; cases h1
      · rename_i h1
        cases h1
        have e := beq_iff_eq.mp hy
        subst e
        exact wpAny_pure ⟨Kp.refl F.inv, rfl, rfl⟩
      · rename_i h1; cases h1
  refine wpAny_Assign_Name (wpAny_mono ev (fun v s₁ ⟨k₁, hh, r⟩ => ?_) fun _ _ e => e) (swaps_no hx.2 _ _ _)
  have F₁ := F.kp O k₁
  obtain ⟨m, hn, hmap⟩ := F₁.loc
  refine wpAny_storeName_local (hE.loc i z hi) hn (fun h' hn' hs => ?_) hE.plain
  obtain ⟨o₀, y₀, n₀, e₀, hd₀⟩ := F₁.locDict
  have kq : Kq B [env.locals] s₁ { s₁ with heap := h', toks := s₁.toks + 1 } := Kq.at O F₁.inv (by omega) hs.extBut (fun o ho p => by
    rw [e₀] at ho; cases ho
    obtain ⟨_, vs, hd⟩ := p
    rw [hd₀] at hd; cases hd) F.base
  refine ⟨rfl, k₁.g.trans kq, F₁.kq O kq F₁.apartLoc (F₁.held.ne_dict e₀ hd₀) (F₁.heldAs.ne_dict e₀ hd₀)
    (LocOk.set hE hi (r.monoX (kq.up O F₁.inv) F₁.apartLoc) hn' fun k y qv hy hv => let ⟨u, hu, hr⟩ := hmap k y qv hy hv; ⟨u, hu, hr.monoX (kq.up O F₁.inv) F₁.apartLoc⟩)
    (F₁.celKq O kq F₁.apartLoc fun x hx a ha hm => F₁.locNeCell hx ha (hE.celn x hx) (List.mem_singleton.mp hm)), ?_⟩
  show h'.objs.size = _
  rw [hs.1, hh]
end
section
variable {env : Env} {x : Str} {s : Shared} {A : Around}
theorem it_start (O : B.Ok) (hΩ : OmGen B 0 Ω) (hA : AOk 2 A) (hE : EnvOk c_it env) (hco : env.scope.isCoroutine = false) (hi : interactive env = false) (hen : Gv B "enumerate" = some (.type "enumerate")) {body : List Stmt} (hbody : ItBody body) (hx : x.length ≤ sizeLine)
    (F : FR B c_it env [] [] [some (.str x), none, none, none] [] [] s) :
    Seg (model B.prog B.w) A (itR B (itFin x.cps.toList false) env.locals (s.heap.objs.size + 1) s.heap.objs.size) (itY B (itFin x.cps.toList false) env.locals (s.heap.objs.size + 1) s.heap.objs.size (itAll x)) (itAll x).length s (.func body env) ((model B.prog B.w).den (.func body env)) [] s := by
  obtain ⟨s0, s1, tg, en, ad, cp, lb, fp, e4, y5, yp5, ep5, ip3, rfl, q0, q1, q2, q3, q4, hlb, q5, q6⟩ := hbody
  have hA₀ : AOk 0 (A.over (.func [s0, s1, .For tg (.Call en [ad] [] cp) lb [] fp, .If e4 [.Expr (.Yield (some y5) yp5) ep5] [] ip3] env) []) := ok_func (hA.mono (by omega))
  refine seg_func ?_
  refine seg_execs_cons (seg_of_exec (wpAny_mono (asg_sz O hE F q0 (.inl ⟨0, rfl, by decide⟩)) (fun f s₁ ⟨hf, k₁, F₁, z₁⟩ => ?_) fun _ _ e => e))
  subst hf
  refine seg_execs_cons (seg_of_exec (wpAny_mono (asg_sz O hE F₁ q1 (.inr ⟨false, rfl⟩)) (fun f s₂ ⟨hf, k₂, F₂, z₂⟩ => ?_) fun _ _ e => e))
  subst hf
  refine seg_execs_cons (seg_For (fun _ => rfl) ?_)
  have had : isE c_it (.loc 0) ad = true := q4
  refine glob_callee (ms := .cons (.loc 0) .nil) O hE F₂.inv q3 hen (.inr (.inl ⟨_, rfl⟩)) (by show (isE c_it (.loc 0) ad && true) = true; rw [had]; rfl) (spliced_cons_any had (loc_rule hE F₂ had rfl fun v r => ?_))
  obtain ⟨t, rfl, _⟩ := r
  refine Calls.spliced_nil ⟨F₂.inv, ?_⟩
  refine call_enumerate_str fun h' he hit hsz hk => ?_
  refine wpAny_pyIter_enum he ?_
  intro p₀
  rw [z₂, z₁] at he hit hsz ⊢
  generalize hN : s.heap.objs.size = N at he hit hsz ⊢
  have z : s₂.heap.objs.size = N := by rw [z₂, z₁, hN]
  have f₁ : s₂.heap.get? N = none := z ▸ fresh_none _
  have f₂ : s₂.heap.get? (N + 1) = none := by
    cases q : s₂.heap.get? (N + 1) with
    | none => rfl
    | some o => exact absurd (Heap.lt_size q) (by rw [z]; exact Nat.not_succ_lt_self)
  have k₃ : Kp B s₂ { s₂ with heap := h' } := Kp.of_keep (k := s₂.toks) O F₂.inv hk F₂.inv.tk
  have F₃ := F₂.kp O k₃
  have hLs : env.locals < N := by
    obtain ⟨o, y, n, e, _⟩ := F₂.locDict
    exact z ▸ Heap.lt_size e
  have since : Kg B (itW env (N + 1) N) [] s { s₂ with heap := h' } := ((k₁.mono (fun a ha => by simp [List.mem_singleton.mp ha]) (by simp)).trans (k₂.mono (fun a ha => by simp [List.mem_singleton.mp ha]) (by simp))).trans k₃.g
  have L : LI B env x (N + 1) N 0 false 0 { s₂ with heap := h' } := { Nm.of_fr F₃ with
    en := ⟨_, he⟩
    st := ⟨t, hit⟩ }
  have hdrop : x.cps.toList.drop 0 = x.cps.toList := rfl
  refine it_loop (tl := itFin x.cps.toList false) O hΩ (hA.mono (by omega)) hE hco hi F.base (base_none F₂.inv f₂) (base_none F₂.inv f₁) (Nat.succ_ne_self N) (Nat.ne_of_gt (Nat.lt_succ_of_lt hLs)) (Nat.ne_of_gt hLs) hx q2 hlb rfl (fun n s₀ s i esc p pre N₁ since hxs htl hn => ?_) x.cps.size 0 false 0 s _ [] p₀ (Nat.sub_zero _) (Nat.zero_le _) L since rfl rfl
  show Seg _ A _ _ n s₀ _ ((execs [.If e4 [.Expr (.Yield (some y5) yp5) ep5] [] ip3] env).wrap _ _ _ _) [] s
  have G := N₁.fr F.base hx
  refine seg_execs_cons (seg_If ?_)
  refine wpAny_mono (test_all O hΩ.ok (.loc 2) c_it env [] [] _ _ _ s _ e4 (.bool esc) _ hE hA₀ G q5 rfl) (fun b s₄ ⟨k₄, hb⟩ => ?_) fun _ _ e => e
  cases hb
  have G₄ := G.kp O k₄
  have since₄ := since.trans (k₄.g (X := itW env (N + 1) N) (G := []))
  cases esc with
  | true =>
    rw [if_pos rfl]
    have hn : n = 1 := hn
    subst hn
    refine seg_execs_cons ?_
    refine seg_Expr_Yield rfl rfl rfl (wpAny_mono (ev_all O hΩ.ok m_y5 c_it env [] [] _ [] [] s₄ _ y5 _ _ hE hA₀ G₄ q6 (ev_y5 x p true none)) (fun v s₅ ⟨k₅, r₅⟩ kap hkap => ?_) fun _ _ e => e) hco hi
    have G₅ := G₄.kp O k₅
    refine ⟨⟨p, oneS 92, ?_, r₅⟩, since₄.trans k₅.g, ?_, fun s'' I'' kept => hkap .none s'' ?_⟩
    · rw [hxs]
      show (pre ++ [unitP p (oneS 92)])[_]? = _
      rw [List.length_append, show (itGo [] i true p).length = 1 from rfl, Nat.add_sub_cancel, Nat.sub_zero, List.getElem?_append_right (Nat.le_refl _), Nat.sub_self]; rfl
    · unfold itX
      rw [if_pos ⟨htl.symm, rfl⟩]
      intro b hb
      rw [List.mem_singleton.mp hb]
      obtain ⟨o, y, n, e, hd⟩ := G₅.locDict
      exact ⟨o, e, NV.dict hd⟩
    · refine seg_end (.ok (.ret .none)) ⟨rfl, rfl, ?_⟩
      rw [if_pos htl.symm]
      exact (Kp.refl I'').g
  | false =>
    rw [if_neg (by decide)]
    have hn : n = 0 := hn
    subst hn
    refine seg_end (.ok (.ret .none)) ⟨rfl, rfl, ?_⟩
    rw [if_neg (by rw [← htl]; decide)]
    exact since₄
end
end Mine
namespace Mine
variable {B : BW} {Ω : Om}
section
variable {s : Shared} {g : Nat} {y : GenState}
theorem setGen_bare (h : AllBare s.gens) (hy : y.bare = true) : AllBare (s.setGen g y).gens := fun z hz => by
  rcases Array.mem_or_eq_of_mem_setIfInBounds (show z ∈ s.gens.setIfInBounds g y from hz) with q | rfl
  · exact h z q
  · exact hy
theorem kg_setGen (I : Inv B s) (hy : y.bare = true) : Kg B [] [g] s (s.setGen g y) :=
  ⟨fun b o _ _ e => e, fun k z hk e => by
    have : k ≠ g := fun h => hk (by simp [h])
    simp [Shared.setGen, Ne.symm this, e], I.base, I.tb, setGen_bare I.bare hy, I.os, I.tk⟩
end
def itSt (B : BW) (I L : Addr) (g : Nat) (x : Str) (body : List Stmt) (env : Env) (A' : Around) (i : Nat) (X : List Addr) (s : Shared) : Prop :=
  s.heap.IsGen I g ∧ ∃ gs, s.gens[g]? = some gs ∧ (∀ b ∈ X, ∃ o, s.heap.get? b = some o ∧ NV o) ∧
    ((i = 0 ∧ X = [I, L] ∧ gs = .fresh (.func body env) ∧ ∃ m t, s.heap.Ns L m ∧ m "addr" = some (.str x t)) ∨
     ∃ e it, 0 < i ∧ i ≤ (itAll x).length ∧ X = I :: itX (itFin x.cps.toList false) L e it ((itAll x).length - i) ∧ I ≠ e ∧ I ≠ it ∧
      ∀ s'', Inv B s'' → (∀ b ∈ itX (itFin x.cps.toList false) L e it ((itAll x).length - i), ∀ o, s.heap.get? b = some o → s''.heap.get? b = some o) →
        gs.Goes (model B.prog B.w) A'.in1 (itR B (itFin x.cps.toList false) L e it) (itY B (itFin x.cps.toList false) L e it (itAll x)) ((itAll x).length - i) (.send .none) s'')
theorem IsGen.kg (O : B.Ok) {s s' : Shared} {I : Addr} {g : Nat} {X : List Addr} {G : List Nat} (hI : Inv B s) (h : s.heap.IsGen I g) (k : Kg B X G s s') (hX : I ∉ X) : s'.heap.IsGen I g := by
  obtain ⟨o, nm, qn, e, hc, r⟩ := h
  exact ⟨o, nm, qn, k.get O hI hX e (.inl (by rw [hc]; nofun)), hc, r⟩
section
variable {I L : Addr} {g : Nat} {x : Str} {body : List Stmt} {env : Env} {A' : Around} {i n : Nat} {X : List Addr} {s : Shared} {gs : GenState} {e it : Addr}
theorem it_turn (O : B.Ok) (hA : AOk 3 A') (hI : Inv B s) (hg : s.heap.IsGen I g) (hgs : s.gens[g]? = some gs) (hn : n = (itAll x).length - i) (hi : i ≤ (itAll x).length) (hIe : I ≠ e) (hIi : I ≠ it) (hIL : I ≠ L) (hIX : I ∈ X) (hLX : L ∈ X)
    (hZ : ∀ a ∈ (if n = 0 ∧ itFin x.cps.toList false = true then [] else [L, e, it]), a ∈ X ∨ s.heap.get? a = none) (hal : ∀ b ∈ X, ∃ o, s.heap.get? b = some o ∧ NV o)
    (hgo : gs.Goes (model B.prog B.w) A'.in1 (itR B (itFin x.cps.toList false) L e it) (itY B (itFin x.cps.toList false) L e it (itAll x)) n (.send .none) (s.setGen g .running)) {E : Value → Shared → Prop} :
    wpAny (model B.prog B.w) A' (pyNext (.ref I)) (fun o s' => ∃ X', (∀ a ∈ X', a ∈ X ∨ s.heap.get? a = none) ∧ Kg B X [g] s s' ∧ match (itAll x)[i]? with
      | none => o = none
      | some y => ∃ v, o = some v ∧ itSt B I L g x body env A' (i + 1) X' s' ∧ ∀ S as, Held S s.heap → Held as s.heap → VR s'.heap S as y v) E s := by
  have k₁ := kg_setGen (g := g) (y := .running) hI rfl
  have heldX : ∀ {S : List Addr}, Held S s.heap → ∀ a ∈ S, a ∉ X := fun hS a ha hm => by
    obtain ⟨vs, c, q⟩ := hS a ha
    obtain ⟨o, q', nv⟩ := hal a hm
    rw [q] at q'; cases q'
    rcases nv.1.2.1 with z | z
    · exact z rfl
    · exact z _ _ rfl
  have noneOf : ∀ {a : Addr}, (s.setGen g .running).heap.get? a = s.heap.get? a := rfl
  refine wpAny_pyNext_genQ (P := fun n s₀ s₁ => n = 0 ∧ Kg B (if itFin x.cps.toList false = true then [] else [L, e, it]) [] s₀ s₁) hA.handled (hI.lim O) hA.room hg hgs hgo (fun v s₁ gs' hb hy => ?_) (fun s₁ hp h' hk => ?_)
  · obtain ⟨⟨j, u, hx1, hv⟩, ky, aly, kap⟩ := hy
    cases n with
    | zero => exact (kap s₁ ky.inv fun _ _ _ e => e).elim
    | succ m =>
      have hidx : (itAll x).length - 1 - (m + 1 - 1) = i := by omega
      rw [hidx] at hx1
      have hm : (itAll x).length - (i + 1) = m := by omega
      rw [if_neg (by simp)] at hZ
      have kk : Kg B X [g] s s₁ := ((k₁.mono (Y := [L, e, it]) (by simp) (fun a ha => ha)).trans (ky.mono (fun a ha => ha) (by simp))).fresh hZ fun g hg => .inl hg
      have k₂ := kg_setGen (g := g) ky.inv hb
      have kk' : Kg B X [g] s (s₁.setGen g gs') := kk.trans (k₂.mono (by simp) (fun a ha => ha))
      have hsub : ∀ a ∈ itX (itFin x.cps.toList false) L e it m, a ∈ [L, e, it] := fun a ha => by
        unfold itX at ha
        split at ha
        · rw [List.mem_singleton.mp ha]; simp
        · exact ha
      have ky3 : Kg B [L, e, it] [g] s s₁ := (k₁.mono (Y := [L, e, it]) (by simp) (fun a ha => ha)).trans (ky.mono (fun a ha => ha) (by simp))
      have hg₁ : s₁.heap.IsGen I g := IsGen.kg O hI hg ky3 (by simp [hIe, hIi, hIL])
      refine ⟨I :: itX (itFin x.cps.toList false) L e it m, fun a ha => ?_, kk', ?_⟩
      · rcases List.mem_cons.mp ha with rfl | ha
        · exact .inl hIX
        · exact hZ a (hsub a ha)
      · rw [hx1]
        refine ⟨v, rfl, ⟨hg₁, gs', setGen_self (gs := .running) ?_, fun b hb => ?_, .inr ⟨e, it, Nat.succ_pos _, by omega, by rw [hm], hIe, hIi, fun s'' I'' kept => ?_⟩⟩, fun S as hS has => pair_apart hv (hS.kgX O hI kk (heldX hS)) (has.kgX O hI kk (heldX has))⟩
        · exact ky.gens g _ (by simp) (setGen_self hgs)
        · rcases List.mem_cons.mp hb with rfl | hb
          · obtain ⟨o, nm, qn, q, hc, _⟩ := hg₁
            exact ⟨o, q, ⟨.inl (by rw [hc]; decide), .inl (by rw [hc]; decide), .inl (by rw [hc]; decide), .inl (by rw [hc]; decide)⟩, .inl (by rw [hc]; nofun)⟩
          · exact aly b hb
        · rw [hm] at kept ⊢
          exact kap s'' I'' kept
  · obtain ⟨rfl, kz⟩ := hp
    have hZ' : ∀ a ∈ (if itFin x.cps.toList false = true then [] else [L, e, it]), a ∈ X ∨ s.heap.get? a = none := fun a ha => hZ a (by simpa using ha)
    have kk : Kg B X [g] s s₁ := ((k₁.mono (Y := if itFin x.cps.toList false = true then [] else [L, e, it]) (by simp) (fun a ha => ha)).trans (kz.mono (fun a ha => ha) (by simp))).fresh hZ' fun g hg => .inl hg
    have k₂ := kg_setGen (g := g) (y := .finished) kz.inv rfl
    have k₃ : Kp B (s₁.setGen g .finished) { s₁.setGen g .finished with heap := h' } := Kp.of_keep (k := s₁.toks) O k₂.inv hk k₂.inv.tk
    refine ⟨X, fun a ha => .inl ha, (kk.trans (k₂.mono (by simp) (fun a ha => ha))).trans k₃.g, ?_⟩
    rw [List.getElem?_eq_none (by omega)]
end
theorem it_walk (O : B.Ok) (hΩ : OmGen B 0 Ω) {A' : Around} (hA : AOk 3 A') {I : Addr} {g : Nat} {x : Str} {body : List Stmt} {env : Env} (hE : EnvOk c_it env) (hco : env.scope.isCoroutine = false) (hi : interactive env = false) (hen : Gv B "enumerate" = some (.type "enumerate")) (hbody : ItBody body) (hx : x.length ≤ sizeLine)
    (hbL : B.b₀.get? env.locals = none) (hIL : I ≠ env.locals) : GWalk B A' I g [I, env.locals] (itAll x) (itSt B I env.locals g x body env A') where
  next := fun i X s E hI ⟨hg, gs, hgs, hal, hst⟩ => by
    rcases hst with ⟨rfl, rfl, rfl, m, t, hm, ha⟩ | ⟨e, it, h0, hle, rfl, hIe, hIi, hgo⟩
    · have f₁ : s.heap.get? s.heap.objs.size = none := fresh_none _
      have f₂ : s.heap.get? (s.heap.objs.size + 1) = none := by
        cases q : s.heap.get? (s.heap.objs.size + 1) with
        | none => rfl
        | some o => exact absurd (Heap.lt_size q) Nat.not_succ_lt_self
      have hIt : ∃ o, s.heap.get? I = some o := let ⟨o, _, _, q, _⟩ := hg; ⟨o, q⟩
      have k₁ := kg_setGen (g := g) (y := .running) hI rfl
      have F : FR B c_it env [] [] [some (.str x), none, none, none] [] [] (s.setGen g .running) :=
        { inv := k₁.inv
          held := fun a ha => by cases ha
          loc := by
            refine ⟨m, hm, fun k y pv hk hv => ?_⟩
            match k, hk, hv with
            | 0, hk, hv => cases hk; cases hv; exact ⟨_, ha, t, rfl, hx⟩
            | 1, hk, hv => cases hv
            | 2, hk, hv => cases hv
            | 3, hk, hv => cases hv
            | k + 4, hk, hv => simp [c_it] at hk
          cel := fun j x hx hc => by cases hc
          len := rfl
          nodup := List.nodup_nil
          disj := fun a ha => by cases ha
          base := hbL
          baseAs := fun a ha => by cases ha
          baseC := fun x hx => by cases hx
          own := fun l a xs ha => by cases ha }
      refine it_turn (n := (itAll x).length) (i := 0) (e := s.heap.objs.size + 1) (it := s.heap.objs.size) O hA hI hg hgs rfl (Nat.zero_le _) ?_ ?_ hIL (by simp) (by simp) (fun a ha => ?_) hal ⟨rfl, it_start O hΩ (hA.in1) hE hco hi hen hbody hx F⟩
      · rintro rfl; obtain ⟨o, q⟩ := hIt; rw [f₂] at q; cases q
      · rintro rfl; obtain ⟨o, q⟩ := hIt; rw [f₁] at q; cases q
      · split at ha
        · cases ha
        · simp only [List.mem_cons, List.not_mem_nil, or_false] at ha
          rcases ha with rfl | rfl | rfl
          · exact .inl (by simp)
          · exact .inr f₂
          · exact .inr f₁
    · have hIL' : env.locals ∈ itX (itFin x.cps.toList false) env.locals e it ((itAll x).length - i) := by
        unfold itX; split <;> simp
      refine it_turn (i := i) (e := e) (it := it) O hA hI hg hgs rfl hle hIe hIi hIL (by simp) (List.mem_cons_of_mem _ hIL') (fun a ha => .inl ?_) hal (hgo _ (kg_setGen hI rfl).inv fun b _ o e => e)
      split at ha
      · cases ha
      · rename_i hn
        refine List.mem_cons_of_mem _ ?_
        unfold itX
        rw [if_neg (fun q => hn ⟨q.2, q.1⟩)]
        exact ha
  frame := fun i X s s' Y G' hI ⟨hg, gs, hgs, hal, hst⟩ k hY hG => by
    have kept : ∀ b ∈ X, ∀ o, s.heap.get? b = some o → s'.heap.get? b = some o := fun b hb o e => by
      obtain ⟨o', e', nv⟩ := hal b hb
      rw [e] at e'; cases e'
      exact k.keep b o (hI.neT O e nv.2) (hY b hb) e
    have hIX : I ∈ X := by rcases hst with ⟨_, rfl, _⟩ | ⟨e, it, _, _, rfl, _⟩ <;> simp
    refine ⟨IsGen.kg O hI hg k (hY I hIX), gs, k.gens g gs hG hgs, fun b hb => let ⟨o, e, nv⟩ := hal b hb; ⟨o, kept b hb o e, nv⟩, ?_⟩
    rcases hst with ⟨rfl, rfl, rfl, m, t, hm, ha⟩ | ⟨e, it, h0, hle, rfl, hIe, hIi, hgo⟩
    · exact .inl ⟨rfl, rfl, rfl, m, t, hm.at' fun o e => kept _ (by simp) o e, ha⟩
    · exact .inr ⟨e, it, h0, hle, rfl, hIe, hIi, fun s'' I'' hk => hgo s'' I'' fun b hb o q => hk b hb o (kept b (List.mem_cons_of_mem _ hb) o q)⟩
  base := fun i X s ⟨hg, gs, hgs, hal, hst⟩ a ha => by
    rcases hst with ⟨rfl, rfl, _⟩ | ⟨e, it, h0, hle, rfl, _⟩
    · exact ha
    · simp only [List.mem_cons, List.not_mem_nil, or_false] at ha
      rcases ha with rfl | rfl
      · simp
      · refine List.mem_cons_of_mem _ ?_
        unfold itX; split <;> simp
  gen := fun i X s h => h.1.typeIs
  self := fun i X s E Q h hq => wpAny_pyIter_gen h.1 hq
  there := fun i X s ⟨hg, gs, hgs, hal, hst⟩ a ha h => by obtain ⟨o, e, _⟩ := hal a ha; rw [h] at e; cases e
  ap := fun i X s ⟨hg, gs, hgs, hal, hst⟩ a ha o ho => by obtain ⟨o', e, nv⟩ := hal a ha; rw [ho] at e; cases e; exact nv.1
structure GenOk (B : BW) (a : Addr) : Prop where
  here : ∃ o fd body, B.b₀.get? a = some o ∧ o.data = .func fd ∧ fd.body = .stmts body ∧ B.b₀.CodeRec fd.code fd.qualname ∧ ItBody body ∧ fd.globals = mainGlobals ∧ fd.builtins = builtinsNs ∧
    (∀ v : Value, bindArgs fd ⟨[v], []⟩ = pure [(("addr" : Str), v)]) ∧ (∀ x ∈ fd.scope.names, x.2 ≠ .cell) ∧ (∀ x ∈ c_it.nm, fd.scope.names.lookup x = some .local) ∧ (∀ x ∈ c_it.gn, fd.scope.names.lookup x = some .globalImplicit) ∧
    fd.scope.isCoroutine = false ∧ fd.scope.isGenerator = true ∧ fd.scope.kind = .function
  en : Gv B "enumerate" = some (.type "enumerate")
def itF : List PV → Option (List PV)
  | [.str x] => some (itAll x)
  | _ => none
theorem itGo_clean : ∀ (cs : List Nat) (i : Nat) (esc : Bool) (p : Int), cleans (itGo cs i esc p) = true
  | [], i, esc, p => by cases esc <;> rfl
  | c :: cs, i, true, p => itGo_clean cs (i + 1) false i
  | c :: cs, i, false, p => by
    unfold itGo
    split
    · exact itGo_clean cs (i + 1) true i
    · exact itGo_clean cs (i + 1) false i
theorem gen_spec (O : B.Ok) (hΩ : OmGen B 0 Ω) {a : Addr} (h : GenOk B a) {d : Nat} : GenSpec B d (.ref a) itF := by
  intro A s S args vals xs hA I hS rv hF
  replace hF : itF args = some xs := hF
  unfold itF at hF
  split at hF
  · rename_i x
    have hF := Option.some.inj hF
    subst hF
    obtain ⟨v, r, rfl, ⟨t, rfl, hx⟩, hr⟩ := rv
    rw [show r = [] from hr]
    obtain ⟨o, fd, body, ho, hdata, hbody, hcd, hib, hgl, hbi, hbind, hcell, hloc, hgn, hco, hgen, hk⟩ := h.here
    have hcd' : s.heap.CodeRec fd.code fd.qualname := by
      obtain ⟨k, oc, vs, tq, e1, e2, e3⟩ := hcd
      exact ⟨k, oc, vs, tq, e1, I.base _ _ e2, e3⟩
    refine codeAny_call_generator hA.room (I.base _ _ ho) hdata hco hgen hbody hcd' ?_
    rw [hbind]
    refine wpAny_pure (wpAny_newFunctionEnv hcell (fun y hy => by rw [List.mem_singleton.mp hy]; exact hloc _ (by simp [c_it])) (fun h₀ hns hsb => ?_) hk)
    have hk₀ : ∀ b o, s.heap.get? b = some o → h₀.get? b = some o := fun b o e => hsb.extBut b o (Nat.ne_of_lt (Heap.lt_size e)) (Heap.get?_push_of_some _ e)
    refine ⟨(I.lim O).fresh _ hsb, ?_⟩
    have hE : EnvOk c_it (callEnv fd s.heap.objs.size a) :=
      { code := fun k hk => by cases hk
        kind := hk
        glob := hgl
        bi := hbi
        loc := fun i x hx => hloc x (List.mem_of_getElem? hx)
        cel := fun x hx => by cases hx
        gn := fun x hx => hgn x hx
        nodup := by decide
        cdup := List.nodup_nil
        celn := fun x hx => by cases hx
        cinj := fun x hx => by cases hx }
    have hsz : h₀.objs.size = s.heap.objs.size + 1 := by rw [hsb.1, Heap.size_push]
    have hL0 : s.heap.get? s.heap.objs.size = none := fresh_none _
    have hI0 : s.heap.get? h₀.objs.size = none := by
      cases q : s.heap.get? h₀.objs.size with
      | none => rfl
      | some o => exact absurd (Heap.lt_size q) (by rw [hsz]; exact Nat.not_succ_lt_self)
    have hbody' : interactive (callEnv fd s.heap.objs.size a) = false := by
      show (fd.scope.kind == .module && _) = false
      rw [hk]; rfl
    have k₁ : Kp B s { s with heap := h₀, toks := s.toks + 1 } := Kp.of_keep O I hk₀ (Nat.le_add_left 1 _)
    have kg : ∀ (go : Obj) (code : Code), Kp B s { s with heap := h₀.push go, gens := s.gens.push (.fresh code), toks := s.toks + 1 + 1 + 1 } := fun go code => ⟨fun b o _ e => Heap.get?_push_of_some _ (hk₀ b o e), fun g x e => by
      obtain ⟨h1, h2⟩ := Array.getElem?_eq_some_iff.mp e
      show (s.gens.push _)[g]? = some x
      rw [Array.getElem?_push_lt h1, h2], ⟨fun b o e => Heap.get?_push_of_some _ (hk₀ b o (I.base b o e)), O.Tb_keep _ _ I.tb fun b o e _ => Heap.get?_push_of_some _ (hk₀ b o e), I.bare.push rfl, I.os, Nat.le_add_left 1 _⟩⟩
    generalize hgo : ({ cls := .type "generator", data := .fields #[.int s.gens.size 0, .str fd.name (s.toks + 1), .str fd.qualname (s.toks + 1 + 1)] } : Obj) = go
    refine ⟨h₀.objs.size, s.gens.size, [h₀.objs.size, s.heap.objs.size], itSt B h₀.objs.size s.heap.objs.size s.gens.size x body (callEnv fd s.heap.objs.size a), rfl, itGo_clean _ _ _ _, ?_, fun A' hA' => ⟨it_walk O hΩ hA' hE hco hbody' h.en hib hx (base_none I hL0) (show h₀.objs.size ≠ s.heap.objs.size by rw [hsz]; exact Nat.succ_ne_self _), ?_⟩, ?_, ?_⟩
    · exact kg _ _
    · have hgen : (h₀.push go).get? h₀.objs.size = some go := Heap.get?_push_size _ (by rw [← hgo]; rfl)
      refine ⟨⟨go, _, _, hgen, by rw [← hgo], by rw [← hgo], by rw [← hgo]⟩, _, Array.getElem?_push_size, fun b hb => ?_, .inl ⟨rfl, rfl, rfl, _, t, hns.keeps fun b o e => Heap.get?_push_of_some _ e, rfl⟩⟩
      simp only [List.mem_cons, List.not_mem_nil, or_false] at hb
      rcases hb with rfl | rfl
      · refine ⟨go, hgen, ?_⟩
        rw [← hgo]
        exact ⟨⟨.inl (show Value.type "generator" ≠ Value.type "tuple" by decide), .inl (show Value.type "generator" ≠ Value.type "list" by decide), .inl (show Value.type "generator" ≠ Value.type "range" by decide), .inl (show Value.type "generator" ≠ Value.type "builtin_function_or_method" by decide)⟩, .inl nofun⟩
      · obtain ⟨o, es, ep, q, hd, _⟩ := hns
        exact ⟨o, Heap.get?_push_of_some _ q, NV.dict hd⟩
    · intro b hb
      simp only [List.mem_cons, List.not_mem_nil, or_false] at hb
      rcases hb with rfl | rfl
      · exact hI0
      · exact hL0
    · simp
  · cases hF
end Mine
namespace Mine
def fLen : List PV → Option PV
  | [.str x] => some (.int x.length)
  | [.lst xs] => some (.int xs.length)
  | _ => none
def fRange : List PV → Option PV
  | [.int n] => if 0 ≤ n ∧ n ≤ 1000 then some (.rng 0 n) else none
  | [.int a, .int b] => if 0 ≤ a ∧ a ≤ 1000 ∧ 0 ≤ b ∧ b ≤ 1000 then some (.rng a b) else none
  | _ => none
def fList : List PV → Option PV
  | [.rng a b] => if 0 ≤ a ∧ a ≤ 1000 ∧ 0 ≤ b ∧ b ≤ 1000 then some (.lst ((List.range (b - a).toNat).map fun (k : Nat) => .int (a + (k : Int)))) else none
  | _ => none
def fChr : List PV → Option PV
  | [.int n] => if 0 ≤ n ∧ n < 55296 then some (.str (oneS n.toNat)) else none
  | _ => none
def fType : List PV → Option PV
  | [.str _] => some (.val (.type "str"))
  | _ => none
def fIsSub : List PV → Option PV
  | [.val k, .tup [.val a, .val b]] => if k = .type "str" ∧ a = .type "str" ∧ b = .type "bytes" then some (.bool true) else none
  | _ => none
def fIsInst : List PV → Option PV
  | [.str _, .val k] => if k = .type "bytes" then some (.bool false) else none
  | _ => none
def isSpecial (c : Nat) : Bool := [40, 41, 91, 93, 123, 125, 63, 42, 43, 45, 124, 94, 36, 92, 46, 38, 126, 35, 32, 9, 10, 13, 11, 12].contains c
def escN (c : Nat) : Str := if isSpecial c then ⟨#[92, c]⟩ else oneS c
def fEscape : List PV → Option PV
  | [.str x] => match x.cps.toList with
    | [c] => some (.str (escN c))
    | _ => none
  | _ => none
def fSub : PV → Option PV
  | .str x => if x = ("&" : Str) then some (.str "\\&") else if x ∈ ([("*" : Str), "?", "[", "]", "\"", "\\\\", "^"] : List Str) then some (.str x) else none
  | _ => none
def gl0 : Str → Option PV := fun x =>
  if x = ("str" : Str) then some (.val (.type "str")) else if x = ("bytes" : Str) then some (.val (.type "bytes")) else none
def om0 : Om where
  fn := fun x => if x = ("len" : Str) then some fLen else if x = ("range" : Str) then some fRange else if x = ("list" : Str) then some fList else if x = ("chr" : Str) then some fChr
    else if x = ("type" : Str) then some fType else if x = ("issubclass" : Str) then some fIsSub else if x = ("isinstance" : Str) then some fIsInst else if x = ("escape" : Str) then some fEscape else none
  fs := fun _ => none
  gl := gl0
  orc := fun k x => if k = 0 then fSub x else none
  gen := fun x => if x = ("_iter_escaped_chars" : Str) then some itF else none
def Om.add (Ω : Om) (x : Str) (F : List PV → Option PV) : Om := { Ω with fn := fun y => if y = x then some F else Ω.fn y }
def Om.addS (Ω : Om) (x : Str) (F : List PV → Option PV) : Om := { Ω with fs := fun y => if y = x then some F else Ω.fs y }
def runOf (Ω : Om) (n k : Nat) (D : Df) : List PV → Option PV := fun args => if args.length = k then runDf Ω n D args else none
def om1 : Om := ((((om0.add "fspath" (runOf om0 9 1 d_fspath)).add "_get_sep" (runOf om0 9 1 d_get_sep)).add "_law_item" (runOf om0 9 2 d_law_item)).add "_law_nested" (runOf om0 99 4 d_law_nested)).add "_strip_quoted_realnames" (runOf om0 999 1 d_strip_quoted_realnames)
def fJoin : List PV → Option PV
  | x :: xs => if xs.length ≤ 1000 then runDf om1 99 d_join [x, .tup xs] else none
  | _ => none
def om2 : Om := ((((((om1.add "_law_names" (runOf om1 99 1 d_law_names)).add "_law_read" (runOf om1 999 1 d_law_read)).add "_check_parenthesis" (runOf om1 999 1 d_check_parenthesis)).add "split" (runOf om1 99 1 d_split)).add "splitroot" (runOf om1 99 1 d_splitroot)).add "_translate" (runOf om1 999 3 d_translate)).add "_join_translated_parts" (runOf om1 999 2 d_join_translated_parts) |>.addS "join" fJoin
def c_tr : Cx := ⟨["pat", "STAR", "parts"], [], [], ["object", "_translate", "_join_translated_parts"], none⟩
def b_tr : MSs := .of [.asg 2 (.call "_translate" (.of [.loc 0, .loc 1, .cst (.str ".")])), .ret (.call "_join_translated_parts" (.of [.loc 2, .loc 1]))]
def runTr (a : Addr) (x : Str) : Option PV := match execsM om2 99 b_tr ⟨[some (.str x), some (.val (.ref a)), none], [], []⟩ with
  | some (.ret v, _) => some v
  | _ => none
def TrSpec (F : List PV → Option PV) : Prop := ∀ args r, F args = some r → ∃ x, args = [.str x] ∧ ∀ a, runTr a x = some r
def fTr0 : List PV → Option PV
  | [.str x] => runTr 0 x
  | _ => none
def om3 (F : List PV → Option PV) : Om := ((om2.add "_pre_parse_validation" (runOf om2 99 1 d_pre_parse_validation)).add "normpath" (runOf om2 99 1 d_normpath)).add "translate" F
def fLaw (F : List PV → Option PV) : List PV → Option PV := runOf (om3 F) 99 1 d_law
end Mine
namespace Mine
variable {B : BW} {d : Nat}
theorem sizeInt {n : Nat} (h : n ≤ sizeLine) : ¬ ((n : Int) < 0) ∧ ¬ ((n : Int) ≥ 2 ^ 63) := by
  rw [sizeLine_eq] at h
  omega
theorem len_spec (O : B.Ok) : FnSpec B d (.builtin "len") fLen := by
  intro A s S args vals r E hA I hS rv hF
  replace hF : fLen args = some r := hF
  unfold fLen at hF
  split at hF
  · rename_i x
    have hF := Option.some.inj hF
    subst hF
    obtain ⟨v, q, rfl, ⟨t, rfl, hx⟩, hq⟩ := rv
    rw [show q = [] from hq]
    exact call_len_gives (typeIs_str s x t) F.slot_str_len F.entry_str_len (F.args_str_len_1 _) (gives_str_len x t) (sizeInt hx).1 (sizeInt hx).2 ⟨Kp.inc2 O I, _, rfl⟩
  · rename_i xs
    have hF := Option.some.inj hF
    subst hF
    obtain ⟨v, q, rfl, ⟨a, vs, rfl, _, _, hl, hz, hr⟩, hq⟩ := rv
    rw [show q = [] from hq]
    have hn : vs.size = xs.length := by rw [← hr.length]; simp
    refine Calls.call_len_list hl (by have := (sizeInt hz).2; omega) ⟨Kp.inc2 O I, s.toks + 1, ?_⟩
    rw [hn]
  · cases hF
theorem range_spec (O : B.Ok) : FnSpec B d (.type "range") fRange := by
  intro A s S args vals r E hA I hS rv hF
  replace hF : fRange args = some r := hF
  unfold fRange at hF
  split at hF
  · rename_i n
    split at hF
    · have hF := Option.some.inj hF
      subst hF
      obtain ⟨v, q, rfl, ⟨t, rfl⟩, hq⟩ := rv
      rw [show q = [] from hq]
      refine call_range_1 ⟨Kp.pushT O I (by omega), _, rfl, _, _, _, Heap.get?_push_size _ rfl⟩
    · cases hF
  · rename_i a b
    split at hF
    · have hF := Option.some.inj hF
      subst hF
      obtain ⟨v, q, rfl, ⟨t, rfl⟩, v', q', rfl, ⟨t', rfl⟩, hq⟩ := rv
      rw [show q' = [] from hq]
      refine call_range_2 ⟨Kp.pushT O I (by omega), _, rfl, _, _, _, Heap.get?_push_size _ rfl⟩
    · cases hF
  · cases hF
theorem ints_vr {h : Heap} {S as : List Addr} {a : Int} : ∀ {n : Nat} {vs : List Value}, vs.length = n → (∀ (i : Nat) (v : Value), vs[i]? = some v → ∃ t, v = Value.int (a + (i : Int)) t) → VRs h S as ((List.range n).map fun (k : Nat) => PV.int (a + (k : Int))) vs := by
  intro n
  induction n with
  | zero => intro vs hl _; rw [List.length_eq_zero_iff.mp hl]; exact rfl
  | succ n ih =>
    intro vs hl hv
    have hs : vs = vs.take n ++ [vs[n]'(by omega)] := by
      have h1 := (List.take_append_drop n vs).symm
      rw [List.drop_eq_getElem_cons (by omega), List.drop_of_length_le (by omega)] at h1
      exact h1
    rw [hs, List.range_succ, List.map_append]
    refine VRs.append (ih (by rw [List.length_take]; omega) fun i v e => hv i v ?_) ?_
    · rw [List.getElem?_take] at e
      split at e
      · exact e
      · cases e
    · obtain ⟨t, e⟩ := hv n _ (List.getElem?_eq_getElem (by omega))
      exact ⟨_, [], rfl, ⟨t, e⟩, rfl⟩
theorem list_spec (O : B.Ok) : FnSpec B d (.type "list") fList := by
  intro A s S args vals r E hA I hS rv hF
  replace hF : fList args = some r := hF
  unfold fList at hF
  split at hF
  · rename_i a b
    split at hF
    · rename_i hlim
      have hF := Option.some.inj hF
      subst hF
      obtain ⟨v, q, rfl, ⟨ra, rfl, ta, tb, tc, hr⟩, hq⟩ := rv
      rw [show q = [] from hq]
      have hn : Builtin.Range.rangeSize a b 1 = (((b - a).toNat : Nat) : Int) := by
        unfold Builtin.Range.rangeSize
        simp only [show (1 : Int) > 0 by decide, if_true, Int.ediv_one]
        split <;> omega
      refine wpAny_tk I (call_list_range hA.handled hr (range_small (by omega) hn) hn (by omega) fun h' tk acc' c' hk hl hacc htk => ?_)
      have kp : Kp B s { s with heap := h', toks := tk } := Kp.of_keep O I hk htk
      have f := hS.fresh
      refine ⟨kp, _, acc', rfl, f, by simp, ⟨_, hl, rfl, c', rfl⟩, by rw [hacc.1, sizeLine_eq]; omega, ints_vr (by simp [hacc.1]) fun i v e => ?_⟩
      obtain ⟨t, e'⟩ := hacc.2 i v (by simpa using e)
      exact ⟨t, by rw [e', Int.mul_one]⟩
    · cases hF
  · cases hF
theorem chr_spec (O : B.Ok) : FnSpec B d (.builtin "chr") fChr := by
  intro A s S args vals r E hA I hS rv hF
  replace hF : fChr args = some r := hF
  unfold fChr at hF
  split at hF
  · rename_i n
    split at hF
    · rename_i hlim
      have hF := Option.some.inj hF
      subst hF
      obtain ⟨v, q, rfl, ⟨t, rfl⟩, hq⟩ := rv
      rw [show q = [] from hq]
      exact P.chr_of_int (by simp; omega) ⟨Kp.inc O I, _, rfl, by show 1 ≤ sizeLine; decide⟩
    · cases hF
  · cases hF
theorem type_spec (O : B.Ok) : FnSpec B d (.type "type") fType := by
  intro A s S args vals r E hA I hS rv hF
  replace hF : fType args = some r := hF
  unfold fType at hF
  split at hF
  · rename_i x
    have hF := Option.some.inj hF
    subst hF
    obtain ⟨v, q, rfl, ⟨t, rfl, hx⟩, hq⟩ := rv
    rw [show q = [] from hq]
    exact call_type_of (typeIs_str s x t) (by decide) ⟨Kp.refl I, rfl⟩
  · cases hF
theorem isinst_spec (O : B.Ok) : FnSpec B d (.builtin "isinstance") fIsInst := by
  intro A s S args vals r E hA I hS rv hF
  replace hF : fIsInst args = some r := hF
  unfold fIsInst at hF
  split at hF
  · rename_i x k
    split at hF
    · rename_i hk
      have hF := Option.some.inj hF
      subst hF; subst hk
      obtain ⟨v, q, rfl, ⟨t, rfl, hx⟩, v', q', rfl, rfl, hq⟩ := rv
      rw [show q' = [] from hq]
      exact call_isinstance (isinstance_false_str (by decide) (by rfl) (by rw [isSubtype_type]; rfl)) ⟨Kp.inc O I, rfl⟩
    · cases hF
  · cases hF
theorem kind_issubn : builtinKind "issubclass.nested" = none := by decide +kernel
theorem plain_issubn : plainId "issubclass.nested" = true := by decide +kernel
theorem args_issubn (a b c : Value) : argsOk "issubclass.nested" ⟨[a, b, c], []⟩ := by unfold argsOk; kernel_rfl
theorem meta_str : (Value.type ((Manifest.find? "str").elim "type" (·.metatype)) == Value.type "type") = true := by decide +kernel
theorem sub_str_str : isSubtype (.type "str") (.type "str") = pure true := by rw [isSubtype_type]; kernel_rfl
theorem sub_tuple_tuple : isSubtype (.type "tuple") (.type "tuple") = pure true := by rw [isSubtype_type]; kernel_rfl
theorem issub_self {prog : Program} {w : World} {A : Around} {E : Value → Shared → Prop} {s : Shared} {dep : Int} {tk : Tok} {Q : PySem.Fin → Shared → Prop} (hq : Q (.done (.ret (.bool true))) s) :
    wpAny (model prog w) A (Builtin.«issubclass.nested» ⟨[.type "str", .type "str", .int dep tk], []⟩) Q E s := by
  have hm := meta_str
  have hself := sub_str_str
  repeat (any_goals (first | assumption | (rw [if_pos hm]) | (rw [hself]) | wp_step))
set_option maxHeartbeats 4000000 in
theorem issub_tuple {prog : Program} {w : World} {A : Around} {E : Value → Shared → Prop} {s : Shared} {ta : Addr} {vs : Array Value} {Q : PySem.Fin → Shared → Prop} (hv : vs = #[.type "str", .type "bytes"]) (ht : s.heap.IsTuple ta vs) (hq : Q (.done (.ret (.bool true))) s) :
    wpAny (model prog w) A (Builtin.«issubclass.nested» ⟨[.type "str", .ref ta, rawInt 0], []⟩) Q E s := by
  subst hv
  obtain ⟨o, ho, hc, n, hd⟩ := id ht
  have hT : s.TypeIs (.ref ta) "tuple" := ⟨o, ho, hc⟩
  unfold Builtin.«issubclass.nested»
  dsimp only [rawInt]
  refine wpAny_bind (wpAny_typeOf hT ?_)
  have h1 : (Value.type "tuple" == Value.type "type") = false := by decide
  rw [h1]
  simp only [Bool.false_eq_true, if_false]
  refine wpAny_bind ?_
  unfold Builtin.Builtins.unionMembers
  refine wpAny_bind (wpAny_typeOf hT ?_)
  have h2 : (Value.type "tuple" == Value.type "types.UnionType") = false := by decide
  rw [h2]
  simp only [Bool.false_eq_true, if_false]
  refine wpAny_pure ?_
  refine wpAny_bind (wpAny_isInstance (T := "tuple") (b := true) hT sub_tuple_tuple ?_)
  simp only [if_true]
  have h3 : ¬ ((0 : Int) ≥ Builtin.Builtins.nestingLimit) := by decide
  rw [if_neg h3]
  refine wpAny_bind (wpAny_seqItems ho hd ?_)
  simp only [Option.getD_some]
  have e : ∀ {β : Type} (b : β) (F : Value → β → Sem (ForInStep β)), forIn #[Value.type "str", Value.type "bytes"] b F = forIn [Value.type "str", Value.type "bytes"] b F := fun b F => by
    first
      | exact (Array.forIn_toList ..).symm
      | simp
  rw [e, List.forIn_cons]
  refine wpAny_bind (wpAny_bind (wpAny_bind (Calls.call_function_entry kind_issubn plain_issubn F.entry_issubclass_nested (args_issubn _ _ _) (issub_self ⟨_, rfl, ?_⟩))))
  refine wpAny_bind (m := truthy (.bool true)) (wpAny_pure ?_)
  exact wpAny_bind (wpAny_pure (wpAny_pure (wpAny_pure (wpAny_pure hq))))
theorem issub_spec (O : B.Ok) : FnSpec B d (.builtin "issubclass") fIsSub := by
  intro A s S args vals r E hA I hS rv hF
  replace hF : fIsSub args = some r := hF
  unfold fIsSub at hF
  split at hF
  · rename_i k a b
    split at hF
    · rename_i hk
      obtain ⟨rfl, rfl, rfl⟩ := hk
      have hF := Option.some.inj hF
      subst hF
      obtain ⟨v, q, rfl, rfl, v', q', rfl, ⟨ta, vs, rfl, _, _, ht, hz, h1⟩, hq⟩ := rv
      rw [show q' = [] from hq]
      obtain ⟨w1, r1, e1, rfl, w2, r2, rfl, rfl, h2⟩ := h1
      rw [show r2 = [] from h2] at e1
      refine call_issubclass (S := fun _ R s => s.heap.IsTuple ta vs ∧ R (.ok (.ret (.bool true))) s) (fun prog w A R s hs => issubclass_outer (issub_tuple (show vs = #[.type "str", .type "bytes"] from Array.ext' e1) hs.1 hs.2)) ⟨ht, Kp.refl I, rfl⟩
    · cases hF
  · cases hF
end Mine
namespace Mine
open PySem.Builtin.Re
def reCode : Array Nat := #[14, 14, 4, 1, 1, 9, 0, 64, 0, 1342177280, 0, 0, 0, 0, 0, 17, 0, 13, 11, 9, 0, 64, 0, 1342177280, 0, 0, 0, 0, 0, 17, 1, 1]
def sreDrive : Nat → Sre.M → Option Sre.M
  | 0, _ => none
  | k + 1, m => if (m.runFor reTurnSteps).outcome.isSome then some (m.runFor reTurnSteps) else sreDrive k (m.runFor reTurnSteps)
def sreFails (o : Option Sre.M) : Bool := match o with
  | some m => match m.outcome with
    | some .failed => true
    | _ => false
  | none => false
def sreHits (o : Option Sre.M) : Bool := match o with
  | some m => match m.outcome with
    | some .matched => m.start == 0 && m.handed == 1 && m.lastmark == 1 && m.lastindex == 1 && m.marks == #[some 0, some 1]
    | _ => false
  | none => false
section
variable {M : Model} {A : Around} {E : Value → Shared → Prop} {s : Shared}
theorem wpAny_reDrive {Q : Sre.M → Shared → Prop} : ∀ (k turns : Nat) (m m' : Sre.M), k ≤ turns → sreDrive k m = some m' → Q m' s → wpAny M A (reDrive turns m) Q E s
  | 0, _, _, _, _, h, _ => by cases h
  | k + 1, 0, _, _, hk, _, _ => by omega
  | k + 1, t + 1, m, m', hk, h, hq => by
    unfold sreDrive at h
    unfold reDrive
    dsimp only
    split at h
    · rename_i ho
      rw [if_pos ho]
      cases h
      exact wpAny_pure hq
    · rename_i ho
      rw [if_neg ho]
      exact wpAny_bind (wpAny_rule (wpAny_reDrive k t _ _ (by omega) h hq))
theorem wpAny_rules {Q : PUnit → Shared → Prop} (p : Nat → Bool) (f : Nat → String) (hq : Q () s) : ∀ l : List Nat, wpAny M A (forIn l PUnit.unit fun i _ => do
      if p i then rule (f i)
      pure (ForInStep.yield PUnit.unit)) Q E s
  | [] => by rw [List.forIn_nil]; exact wpAny_pure hq
  | i :: l => by
    rw [List.forIn_cons]
    cases hp : p i with
    | true =>
      simp only [if_true]
      exact wpAny_bind (wpAny_bind (wpAny_rule (wpAny_pure (wpAny_rules p f hq l))))
    | false =>
      simp only [Bool.false_eq_true, if_false]
      exact wpAny_bind (wpAny_pure (wpAny_rules p f hq l))
theorem wpAny_reRunFail {m : Sre.M} {k : Nat} {Q : Option Sre.M → Shared → Prop} (hk : k ≤ 1000) (h : sreFails (sreDrive k m) = true) (hq : Q none s) : wpAny M A (reRunToEnd m) Q E s := by
  unfold sreFails at h
  cases hd : sreDrive k m with
  | none => rw [hd] at h; cases h
  | some m' =>
    rw [hd] at h
    dsimp only at h
    unfold reRunToEnd
    refine wpAny_bind (wpAny_reDrive k (2 ^ 64) m m' (by omega) hd ?_)
    refine wpAny_bind ?_
    refine wpAny_rules _ _ ?_ _
    cases ho : m'.outcome with
    | none => rw [ho] at h; cases h
    | some o =>
      rw [ho] at h
      cases o <;> first | (cases h; done) | exact wpAny_pure hq
theorem wpAny_reRunHit {m : Sre.M} {k : Nat} {Q : Option Sre.M → Shared → Prop} (hk : k ≤ 1000) (h : sreHits (sreDrive k m) = true) (hq : ∀ m' : Sre.M, m'.start = 0 → m'.handed = 1 → m'.lastmark = 1 → m'.lastindex = 1 → m'.marks = #[some 0, some 1] → Q (some m') s) : wpAny M A (reRunToEnd m) Q E s := by
  unfold sreHits at h
  cases hd : sreDrive k m with
  | none => rw [hd] at h; cases h
  | some m' =>
    rw [hd] at h
    dsimp only at h
    unfold reRunToEnd
    refine wpAny_bind (wpAny_reDrive k (2 ^ 64) m m' (by omega) hd ?_)
    refine wpAny_bind ?_
    refine wpAny_rules _ _ ?_ _
    cases ho : m'.outcome with
    | none => rw [ho] at h; cases h
    | some o =>
      rw [ho] at h
      cases o <;> first | (cases h; done) | skip
      simp only [Bool.and_eq_true, beq_iff_eq] at h
      exact wpAny_pure (hq m' h.1.1.1.1 h.1.1.1.2 h.1.1.2 h.1.2 h.2)
end
def sreAt (x : Array Nat) (p : Nat) : Option Sre.M := sreDrive 40 (Sre.forSearch reCode x 1 p x.size false)
theorem sre_star : sreFails (sreAt #[42] 0) = true := by decide +kernel
theorem sre_quest : sreFails (sreAt #[63] 0) = true := by decide +kernel
theorem sre_open : sreFails (sreAt #[91] 0) = true := by decide +kernel
theorem sre_close : sreFails (sreAt #[93] 0) = true := by decide +kernel
theorem sre_quote : sreFails (sreAt #[34] 0) = true := by decide +kernel
theorem sre_back : sreFails (sreAt #[92, 92] 0) = true := by decide +kernel
theorem sre_hat : sreFails (sreAt #[94] 0) = true := by decide +kernel
theorem sre_amp : sreHits (sreAt #[38] 0) = true := by decide +kernel
theorem sre_amp2 : sreFails (sreAt #[38] 1) = true := by decide +kernel
end Mine
namespace Mine
open PySem.Builtin.Re
structure PatAt (h : Heap) (a tp : Addr) : Prop where
  obj : ∃ o pv fl, h.get? a = some o ∧ o.cls = .type "re.Pattern" ∧ o.dict = none ∧ o.data = .fields #[pv, fl, rawInt 1, .none, .none, .ref tp, rawInt 0]
  words : ∃ o vs n, h.get? tp = some o ∧ o.data = .seq vs n ∧ (vs.map reRawOf).map (·.toNat) = reCode
theorem PatAt.keeps {h h' : Heap} {a tp : Addr} (x : PatAt h a tp) (k : ∀ b o, b = a ∨ b = tp → h.get? b = some o → h'.get? b = some o) : PatAt h' a tp :=
  ⟨let ⟨o, pv, fl, e, r⟩ := x.obj; ⟨o, pv, fl, k _ _ (.inl rfl) e, r⟩, let ⟨o, vs, n, e, r⟩ := x.words; ⟨o, vs, n, k _ _ (.inr rfl) e, r⟩⟩
section
variable {M : Model} {prog : Program} {w : World} {A : Around} {E : Value → Shared → Prop} {s : Shared} {a tp : Addr} {x : Str} {t : Tok}
abbrev tgt (a : Addr) (x : Str) (t : Tok) : ReTarget := { pattern := .ref a, string := .str x t, code := reCode, text := x.cps, kind := 0, groups := 1, pos := 0, lim := x.cps.size }
theorem whole_target {Q : ReTarget → Shared → Prop} (P : PatAt s.heap a tp) (hq : Q (tgt a x t) s) : wpAny M A (reWholeTarget (.ref a) (.str x t)) Q E s := by
  obtain ⟨o, pv, fl, ho, hc, hdn, hd⟩ := P.obj
  obtain ⟨o', vs, n, ho', hd', hw⟩ := P.words
  unfold reWholeTarget
  refine wpAny_bind (wpAny_fieldsOf ho hd ?_)
  show wpAny M A (reRawItems (.ref tp) >>= fun c => pure ({ pattern := .ref a, string := .str x t, code := c.map (·.toNat), text := x.cps, kind := 0, groups := 1, pos := 0, lim := x.cps.size } : ReTarget)) Q E s
  unfold reRawItems
  refine wpAny_bind (wpAny_bind (wpAny_seqItems ho' hd' (wpAny_pure (wpAny_pure ?_))))
  simp only [Option.getD_some]
  rw [hw]
  exact hq
theorem named_sub (f x : Value) : reNamed "re.Pattern.sub" "sub" ["repl", "string", "count"] 2 [f, x] [] = pure [some f, some x, none] := by rfl
end
end Mine
set_option maxRecDepth 1000000
namespace Mine
theorem slot_pat_sub : Slot "re.Pattern" "sub" "re.Pattern.sub" :=
  .of (owner := "re.Pattern") (n := "sub") (by rw [typeLookup_type, builtinLookup_eq_fast]; kernel_rfl) (by decide +kernel) (by decide +kernel) (by decide +kernel)
    (by first | exact .inl (by decide +kernel) | exact .inr (by decide +kernel)) (by rw [isSubtype_type]; kernel_rfl)
theorem entry_pat_sub : entryFor table "re.Pattern.sub" = some Builtin.«re.Pattern.sub» := entryFor_of_tree (by kernel_rfl)
theorem entry_pat_loop : entryFor table "re.Pattern.sub.loop" = some Builtin.«re.Pattern.sub.loop» := entryFor_of_tree (by kernel_rfl)
theorem args_pat_sub (a b c : Value) : argsOk "re.Pattern.sub" ⟨[a, b, c], []⟩ := by unfold argsOk; kernel_rfl
theorem type_pat_sub : typeOf (.builtin "re.Pattern.sub") = pure (.type "method_descriptor") := by show builtinType _ = _; rw [builtinType_eq_fast]; kernel_rfl
theorem pa_pat : PlainAttrs "re.Pattern" :=
  ⟨⟨"object.__getattribute__", by rw [typeLookup_type, builtinLookup_eq_fast]; kernel_rfl, by decide +kernel⟩, by rw [typeLookup_type, builtinLookup_eq_fast]; kernel_rfl⟩
theorem plain_pat_loop : plainId "re.Pattern.sub.loop" = true := by decide +kernel
theorem fn_call : typeLookup (.type "function") "__call__" = pure (some (.builtin "function.__call__")) := by rw [typeLookup_type, builtinLookup_eq_fast]; kernel_rfl
theorem slot_match_group : Slot "re.Match" "group" "re.Match.group" :=
  .of (owner := "re.Match") (n := "group") (by rw [typeLookup_type, builtinLookup_eq_fast]; kernel_rfl) (by decide +kernel) (by decide +kernel) (by decide +kernel)
    (by first | exact .inl (by decide +kernel) | exact .inr (by decide +kernel)) (by rw [isSubtype_type]; kernel_rfl)
theorem entry_match_group : entryFor table "re.Match.group" = some Builtin.«re.Match.group» := entryFor_of_tree (by kernel_rfl)
theorem args_match_group (a b : Value) : argsOk "re.Match.group" ⟨[a, b], []⟩ := by unfold argsOk; kernel_rfl
theorem type_match_group : typeOf (.builtin "re.Match.group") = pure (.type "method_descriptor") := by show builtinType _ = _; rw [builtinType_eq_fast]; kernel_rfl
theorem pa_match : PlainAttrs "re.Match" :=
  ⟨⟨"object.__getattribute__", by rw [typeLookup_type, builtinLookup_eq_fast]; kernel_rfl, by decide +kernel⟩, by rw [typeLookup_type, builtinLookup_eq_fast]; kernel_rfl⟩
theorem sub_str_ba : isSubtype (.type "str") (.type "bytearray") = pure false := by rw [isSubtype_type]; kernel_rfl
end Mine
namespace Mine
open PySem.Builtin.Re
def ListAt' (h : Heap) (a : Addr) (acc : Array Value) : Prop := ∃ c, h.get? a = some { cls := .type "list", dict := none, data := .seq acc c, slots := #[] }
section
variable {prog : Program} {w : World} {A : Around} {E : Value → Shared → Prop} {s : Shared} {a tp L f : Addr} {x y : Str} {t : Tok} {ys : List Str} {acc : Array Value}
theorem loop_tail {A₂ : Around} {R : Result → Shared → Prop} {E : Value → Shared → Prop} (hL : ListAt' s.heap L acc) (hys : StrsAre acc.toList ys) (hne : acc.isEmpty = false) (hlen : (ys.map (·.length)).sum ≤ 16777216) {F : Value → Sem PySem.Fin} {G : Value → Sem PySem.Fin} (hF : ∀ v, F v = ret v)
    (hR : ∀ t' k, R (.ok (.ret (.str (Txt.join Str.empty ys) t'))) { s with toks := k }) :
    wpAny (model prog w) A (reSlice x.cps 0 0 0 >>= fun joiner => seqItems? (.ref L) >>= fun l => if (l.getD #[]).isEmpty = true then G joiner
        else call (.builtin "str.join") [joiner, .ref L] >>= F)
      (fun fin s' => match fin with | .done f => R (.ok f) s' | .again c' => c'.quiet = true ∧ codeAny (model prog w) A₂ c' R s') E s := by
  obtain ⟨c, e⟩ := id hL
  have h0 : x.cps.extract 0 0 = #[] := by simp
  refine wpAny_bind ?_
  show wpAny _ A (mkStr ⟨x.cps.extract 0 0⟩) _ _ s
  rw [h0]
  refine wpAny_mkStr ?_ (Nat.zero_le _)
  refine wpAny_bind (wpAny_seqItems (s := { s with toks := s.toks + 1 }) e rfl ?_)
  rw [show ((some acc).getD #[]).isEmpty = false from hne]
  simp only [Bool.false_eq_true, if_false]
  refine wpAny_bind (join_list (x := Str.empty) (s := { s with toks := s.toks + 1 }) ⟨_, e, rfl, c, rfl⟩ hys (by show _ + ys.length * 0 ≤ _; omega) fun t' k => ?_)
  rw [hF]
  exact wpAny_pure (hR t' k)
theorem extract_all (x : Str) : (⟨x.cps.extract 0 x.cps.size⟩ : Str) = x := by
  cases x; simp
theorem loop_fail {A₂ : Around} {R : Result → Shared → Prop} {E : Value → Shared → Prop} (P : PatAt s.heap a tp) (hL : ListAt' s.heap L #[]) (hx : 0 < x.cps.size) (hz : x.length ≤ 16777216) (hf : sreFails (sreAt x.cps 0) = true)
    (hR : ∀ h' t' k, (∀ b o, b ≠ L → s.heap.get? b = some o → h'.get? b = some o) → R (.ok (.ret (.str x t'))) { s with heap := h', toks := k }) :
    wpAny (model prog w) A (Builtin.«re.Pattern.sub.loop» ⟨[.ref a, .str x t, .ref f, rawInt 1, rawInt 0, rawInt 0, rawInt 0, rawInt 0, .bool false, .ref L, .bool false], []⟩)
      (fun fin s' => match fin with | .done f => R (.ok f) s' | .again c' => c'.quiet = true ∧ codeAny (model prog w) A₂ c' R s') E s := by
  unfold Builtin.«re.Pattern.sub.loop»
  dsimp only [rawInt]
  refine wpAny_bind (whole_target P ?_)
  refine wpAny_bind (wpAny_reRunFail (k := 40) (by omega) hf ?_)
  dsimp only
  rw [if_pos (show Int.toNat 0 < x.cps.size from hx)]
  obtain ⟨c, e⟩ := id hL
  refine wpAny_bind ?_
  show wpAny _ A (mkStr ⟨x.cps.extract 0 x.cps.size⟩) _ _ s
  rw [extract_all]
  refine wpAny_mkStr ?_ (by rw [sizeLine_eq]; omega)
  refine wpAny_bind (wpAny_updateSeq (s := { s with toks := s.toks + 1 }) e rfl ?_)
  have e' := Heap.get?_update_self (Obj.mapSeq (·.push (Value.str x s.toks))) e rfl
  refine loop_tail (s := { s with heap := s.heap.update L (Obj.mapSeq (·.push (Value.str x s.toks))), toks := s.toks + 1 }) (acc := #[.str x s.toks]) (ys := [x]) ⟨_, e'⟩ ?_ rfl (by simpa using hz) (fun v => rfl) fun t' k => ?_
  · exact StrsAre.cons x s.toks StrsAre.nil
  · rw [show Txt.join Str.empty [x] = x from StrLaws.glued_eq_join _ _]
    exact hR _ t' k fun b o hb ho => (Heap.get?_update_other _ _ (Ne.symm hb)).trans ho
theorem loop_fail2 {A₂ : Around} {R : Result → Shared → Prop} {E : Value → Shared → Prop} {u : Tok} (P : PatAt s.heap a tp) (hL : ListAt' s.heap L #[.str y u]) (hx : x.cps.size = 1) (hz : y.length ≤ 16777216) (hf : sreFails (sreAt x.cps 1) = true)
    (hR : ∀ t' k, R (.ok (.ret (.str y t'))) { s with toks := k }) :
    wpAny (model prog w) A (Builtin.«re.Pattern.sub.loop» ⟨[.ref a, .str x t, .ref f, rawInt 1, rawInt 0, rawInt 1, rawInt 1, rawInt 1, .bool false, .ref L, .bool false], []⟩)
      (fun fin s' => match fin with | .done f => R (.ok f) s' | .again c' => c'.quiet = true ∧ codeAny (model prog w) A₂ c' R s') E s := by
  unfold Builtin.«re.Pattern.sub.loop»
  dsimp only [rawInt]
  refine wpAny_bind (whole_target P ?_)
  refine wpAny_bind (wpAny_reRunFail (k := 40) (by omega) hf ?_)
  dsimp only
  rw [if_neg (show ¬ (Int.toNat 1 < x.cps.size) by rw [hx]; decide)]
  refine loop_tail (s := s) (acc := #[.str y u]) (ys := [y]) hL (StrsAre.cons y u StrsAre.nil) rfl (by simpa using hz) (fun v => rfl) fun t' k => ?_
  rw [show Txt.join Str.empty [y] = y from StrLaws.glued_eq_join _ _]
  exact hR t' k
def MatchAt (h : Heap) (mo a : Addr) (x : Str) (t : Tok) : Prop := ∃ o tp', h.get? mo = some o ∧ o.cls = .type "re.Match" ∧ o.dict = none ∧ o.data = .fields #[.str x t, .ref a, rawInt 0, rawInt 1, rawInt 1, .ref tp'] ∧ ∃ o' n, h.get? tp' = some o' ∧ o'.data = .seq #[rawInt 0, rawInt 1, rawInt 0, rawInt 1] n
theorem new_match {A : Around} {E : Value → Shared → Prop} {Q : Value → Shared → Prop} {m : Sre.M} (h1 : m.start = 0) (h2 : m.handed = 1) (h3 : m.lastmark = 1) (h4 : m.lastindex = 1) (h5 : m.marks = #[some 0, some 1])
    (hq : ∀ h' mo, (∀ b o, s.heap.get? b = some o → h'.get? b = some o) → MatchAt h' mo a x t → Q (.ref mo) { s with heap := h' }) :
    wpAny (model prog w) A (reNewMatch (.ref a) (.str x t) 1 0 1 m) Q E s := by
  unfold reNewMatch
  rw [h1, h2, h3, h4, h5]
  show wpAny _ A (newTuple [rawInt 0, rawInt 1, rawInt 0, rawInt 1] >>= fun tv => newFields "re.Match" [.str x t, .ref a, rawInt 0, rawInt 1, rawInt 1, tv]) Q E s
  refine wpAny_bind (wpAny_newTuple ?_ (by show 4 ≤ sizeLine; decide))
  simp only [newFields]
  refine wpAny_newObj_type (hq _ _ (fun b o e => Heap.get?_push_of_some _ (Heap.get?_push_of_some _ e)) ⟨_, s.heap.objs.size, Heap.get?_push_size _ rfl, rfl, rfl, rfl, _, _, Heap.get?_push_of_some _ (Heap.get?_push_size _ rfl), rfl⟩) (by size_fits)
theorem loop_hit {R : Result → Shared → Prop} {E : Value → Shared → Prop} (P : PatAt s.heap a tp) (hL : ListAt' s.heap L #[]) (hx : x.cps.size = 1) (hne : L ≠ a ∧ L ≠ tp) (hz : y.length ≤ 16777216) (hf : sreHits (sreAt x.cps 0) = true) (hf2 : sreFails (sreAt x.cps 1) = true)
    (hcall : ∀ (s₁ : Shared) (mo : Addr) (E : Value → Shared → Prop), (∃ h', s₁ = { s with heap := h' } ∧ ∀ b o, s.heap.get? b = some o → h'.get? b = some o) → MatchAt s₁.heap mo a x t →
      wpAny (model prog w) A.in1 (call (.ref f) [.ref mo]) (fun v s₂ => ∃ u h₂ k₂, v = .str y u ∧ s₂ = { s₁ with heap := h₂, toks := k₂ } ∧ ∀ b o, s₁.heap.get? b = some o → h₂.get? b = some o) E s₁)
    (hR : ∀ h' t' k, (∀ b o, b ≠ L → s.heap.get? b = some o → h'.get? b = some o) → R (.ok (.ret (.str y t'))) { s with heap := h', toks := k }) :
    wpAny (model prog w) A.in1 (Builtin.«re.Pattern.sub.loop» ⟨[.ref a, .str x t, .ref f, rawInt 1, rawInt 0, rawInt 0, rawInt 0, rawInt 0, .bool false, .ref L, .bool false], []⟩)
      (fun fin s' => match fin with | .done f => R (.ok f) s' | .again c' => c'.quiet = true ∧ codeAny (model prog w) A c' R s') E s := by
  unfold Builtin.«re.Pattern.sub.loop»
  dsimp only [rawInt]
  refine wpAny_bind (whole_target P ?_)
  refine wpAny_bind (wpAny_reRunHit (k := 40) (by omega) hf fun m h1 h2 h3 h4 h5 => ?_)
  dsimp only
  rw [if_neg (show ¬ (Int.toNat 0 < m.start) by rw [h1]; decide), if_neg (by decide)]
  rw [hx]
  refine wpAny_bind (new_match h1 h2 h3 h4 h5 fun h' mo hk hm => ?_)
  refine wpAny_bind (wpAny_holding ?_)
  rw [if_pos (by decide)]
  refine wpAny_mono (hcall _ mo _ ⟨h', rfl, hk⟩ hm) (fun v s₂ hv => ?_) fun _ _ e => e
  obtain ⟨u, h₂, k₂, rfl, rfl, hk₂⟩ := hv
  rw [if_pos (show (Value.str y u != Value.none) = true from rfl)]
  obtain ⟨c, e⟩ := id hL
  have e₂ : h₂.get? L = some { cls := .type "list", dict := none, data := .seq #[] c, slots := #[] } := hk₂ _ _ (hk _ _ e)
  refine wpAny_bind (wpAny_updateSeq (s := { s with heap := h₂, toks := k₂ }) e₂ rfl ?_)
  have e' := Heap.get?_update_self (Obj.mapSeq (·.push (Value.str y u))) e₂ rfl
  rw [h1, h2, show ((0 : Int) + 1) = 1 from rfl, show ((1 : Nat) : Int) = 1 from rfl, show ((1 : Nat) == 0) = false from rfl]
  refine wpAny_pure ⟨plainId_quiet plain_pat_loop _, codeAny_builtin entry_pat_loop ?_⟩
  rw [Around.under_plainId plain_pat_loop _]
  have kk : ∀ b o, b ≠ L → s.heap.get? b = some o → (h₂.update L (Obj.mapSeq (·.push (Value.str y u)))).get? b = some o := fun b o hb ho => (Heap.get?_update_other _ _ (Ne.symm hb)).trans (hk₂ _ _ (hk _ _ ho))
  have P₂ : PatAt (h₂.update L (Obj.mapSeq (·.push (Value.str y u)))) a tp := P.keeps fun b o hb ho => kk b o (fun q => hb.elim (fun z => hne.1 (q.symm.trans z)) (fun z => hne.2 (q.symm.trans z))) ho
  exact loop_fail2 (prog := prog) (w := w) (A := A.in1) (x := x) (t := t) (f := f) (R := R) (E := fun e s' => R (.error e) s') (s := { s with heap := h₂.update L (Obj.mapSeq (·.push (Value.str y u))), toks := k₂ }) (u := u) P₂ ⟨_, e'⟩ hx hz hf2 fun t' k => hR _ t' k kk
theorem sub_call {Q : Value → Shared → Prop} {E : Value → Shared → Prop} {R : Result → Shared → Prop} (P : PatAt s.heap a tp) (hf : s.TypeIs (.ref f) "function")
    (hloop : ∀ s₁ : Shared, s₁ = { s with heap := s.heap.push { cls := .type "list", data := .seq #[] } } → ListAt' s₁.heap s.heap.objs.size #[] → PatAt s₁.heap a tp →
      wpAny (model prog w) A.in1 (Builtin.«re.Pattern.sub.loop» ⟨[.ref a, .str x t, .ref f, rawInt 1, rawInt 0, rawInt 0, rawInt 0, rawInt 0, .bool false, .ref s.heap.objs.size, .bool false], []⟩)
        (fun fin s' => match fin with | .done f => (wants Q E) (.ok f) s' | .again c' => c'.quiet = true ∧ codeAny (model prog w) A c' (wants Q E) s') (fun e s' => (wants Q E) (.error e) s') s₁) :
    wpAny (model prog w) A (call (.builtin "re.Pattern.sub") [.ref a, .ref f, .str x t]) Q E s := by
  obtain ⟨o, pv, fl, ho, hc, hdn, hd⟩ := P.obj
  refine wpAny_call (codeAny_call_builtin slot_pat_sub.plain entry_pat_sub (slot_pat_sub.check _ _ _ _ _ _ _ _ ⟨o, ho, hc⟩ (args_pat_sub _ _ _) ?_))
  show wpAny _ A.in1 (reSubstitute "re.Pattern.sub" "sub" false ⟨[.ref a, .ref f, .str x t], []⟩) _ _ s
  unfold reSubstitute
  dsimp only
  rw [named_sub]
  refine wpAny_bind (wpAny_pure ?_)
  dsimp only
  refine wpAny_bind (wpAny_pure ?_)
  refine wpAny_bind (wpAny_specialOf hf fn_call ?_)
  simp only [Option.isSome_some, if_true]
  refine wpAny_bind (wpAny_pure ?_)
  refine wpAny_bind (wpAny_pure ?_)
  refine wpAny_bind (wpAny_holding (whole_target P ?_))
  rw [if_pos (show ((Value.ref f, (1 : Int)).snd == 1) = true from rfl)]
  refine wpAny_bind ?_
  unfold reNotHeld
  refine wpAny_bind (wpAny_isInstance (typeIs_str s x t) sub_str_ba ?_)
  simp only [Bool.false_eq_true, if_false]
  refine wpAny_pure ?_
  refine wpAny_bind (wpAny_newList ?_)
  refine wpAny_pure ⟨plainId_quiet plain_pat_loop _, codeAny_builtin entry_pat_loop ?_⟩
  rw [Around.under_plainId plain_pat_loop _]
  exact hloop _ rfl ⟨_, Heap.get?_push_size _ rfl⟩ (P.keeps fun b o _ e => Heap.get?_push_of_some _ e)
end
end Mine
namespace Mine
open PySem.Builtin.Re
def lamQual : Str := ("_translate.<locals>." : Str) ++ ("<lambda>" : Str)
def CodeC (h : Heap) (c' : Addr) : Prop := ∃ o vs t, h.get? c' = some o ∧ o.cls = .type "code" ∧ o.data = .fields vs ∧ vs[1]? = some (.str lamQual t)
def TbOk (h : Heap) : Prop := CodeHd h 68 64 ∧ ∃ ps, h.get? 64 = some (tabObj ps) ∧ (ps = #[] ∨ ∃ c', ps = #[rawInt 66, rawInt 39, .ref c'] ∧ CodeC h c')
structure OrcB (B : BW) : Prop where
  gv : Gv B "_twin_re_1" = some (.ref 43)
  pat : PatAt B.b₀ 43 42
  T : B.T = 64
  Tb : B.Tb = TbOk
  hid : B.b₀.get? 64 = none
  bm : ∃ bm ob, B.mg "__builtins__" = some (.ref bm) ∧ bm ≠ builtinsNs ∧ bm ≠ mainGlobals ∧ B.b₀.get? bm = some ob ∧ ob.cls = .type "module" ∧ ob.dict = some builtinsNs ∧ ob.data = .plain
section
variable {B : BW} {s : Shared} {A : Around} {E : Value → Shared → Prop}
theorem lam_parts {ps : Arguments} {b : Expr} {sc : Scope} {p : Pos} (h : lamIs ps b sc p = true) : (∃ ap an, ps = { posonlyargs := [], args := [⟨"_m", an, ap⟩], vararg := none, kwonlyargs := [], kw_defaults := [], kwarg := none, defaults := [] }) ∧ lamBody b = true ∧ sc.kind = .function ∧ sc.names = [(("_m" : Str), .local)] ∧ sc.isGenerator = false ∧ sc.isCoroutine = false ∧ p.line = 66 ∧ p.col = 39 := by
  unfold lamIs at h
  simp only [Bool.and_eq_true, Bool.not_eq_true', beq_iff_eq] at h
  obtain ⟨⟨⟨⟨⟨⟨⟨⟨⟨⟨⟨⟨⟨h1, h2⟩, h3⟩, h4⟩, h5⟩, h6⟩, h7⟩, h8⟩, h9⟩, h10⟩, h11⟩, h12⟩, h13⟩, h14⟩ := h
  refine ⟨?_, h8, h9, h10, h11, h12, h13, h14⟩
  obtain ⟨po, ar, va, ko, kd, kw, df⟩ := ps
  simp only at h1 h2 h3 h4 h5 h6 h7
  cases po with
  | cons _ _ => cases h1
  | nil =>
    cases va with
    | some _ => cases h3
    | none =>
      cases ko with
      | cons _ _ => cases h4
      | nil =>
        cases kd with
        | cons _ _ => cases h5
        | nil =>
          cases kw with
          | some _ => cases h6
          | none =>
            cases df with
            | cons _ _ => cases h7
            | nil =>
              match ar, h2 with
              | [⟨x, an, ap⟩], h2 =>
                have : x = ("_m" : Str) := by simpa using h2
                subst this
                exact ⟨ap, an, rfl⟩
abbrev lamFd (ps : Arguments) (b : Expr) (sc : Scope) (pm cv ct : Value) : FuncData := kla_fn "<lambda>" lamQual ps b sc [] pm cv ct
theorem lam_make (O : B.Ok) (K : OrcB B) (I : Inv B s) {env : Env} {ps : Arguments} {b : Expr} {sc : Scope} {p : Pos} (h : lamIs ps b sc p = true) (hge : env.globals = mainGlobals) (hcode : env.code = .ref 68) (hq : env.qual = ("_translate.<locals>." : Str))
    {Q : Value → Shared → Prop} (hQ : ∀ f c' s' pm ct, Kp B s s' → s'.heap.get? f = some { cls := .type "function", data := .func (lamFd ps b sc pm (.ref c') ct) } → s'.heap.CodeRec (.ref c') lamQual → Q (.ref f) s') :
    wpAny (model B.prog B.w) A (eval (.Lambda ps b sc p) env) Q E s := by
  obtain ⟨⟨ap, an, rfl⟩, hb, hk, hn, hg, hco, hl, hc⟩ := lam_parts h
  have tb := I.tb
  rw [K.Tb] at tb
  obtain ⟨C, tps, hP, htab⟩ := tb
  obtain ⟨bm, ob, b1, b2, b3, b4, b5, b6, b7⟩ := K.bm
  have hbm : s.heap.BuiltinsAt B.mg 64 := ⟨bm, ob, b1, b2, b3, (fun q => by rw [q, K.hid] at b4; cases b4), I.base _ _ b4, b5, b6, b7⟩
  have hgP : mainGlobals ≠ 64 := fun q => by
    obtain ⟨o, _, _, e, _⟩ := O.g
    rw [q, K.hid] at e; cases e
  have hcl : closureFor sc env = pure [] := by
    unfold closureFor
    rw [hn]
    rfl
  have hqq : env.qual ++ ("<lambda>" : Str) = lamQual := by rw [hq]; rfl
  have tail : ∀ (c' : Addr) (s₁ : Shared), Kp B s s₁ → s₁.heap.CodeRec (.ref c') lamQual →
      wpAny (model B.prog B.w) A (builtinsFor mainGlobals env.builtins >>= fun bi => nsGet mainGlobals "__name__" >>= fun nm => (pure Value.none : Sem Value) >>= fun dc => newObj (.type "function") (.func { name := "<lambda>", qualname := lamQual, params := { posonlyargs := [], args := [⟨"_m", an, ap⟩], vararg := none, kwonlyargs := [], kw_defaults := [], kwarg := none, defaults := [] }, body := .expr b, scope := sc, globals := mainGlobals, closure := [], defaults := .none, kwdefaults := .none, doc := dc, pyModule := nm.getD .none, code := .ref c', builtins := bi })) Q E s₁ := by
    intro c' s₁ k₁ hrec
    have hg' := k₁.inv.g O
    refine wpAny_bind (wpAny_builtinsFor hg' b1 b2 (k₁.inv.base _ _ b4) b5 b6 b7 ?_)
    refine wpAny_bind (wpAny_nsGet hg' ?_)
    refine wpAny_bind (wpAny_pure (wpAny_newObj_type ?_ (by size_fits)))
    exact hQ _ c' _ _ _ (k₁.trans (Kp.push O k₁.inv)) (Heap.get?_push_size _ rfl) (hrec.push _)
  refine kla_eval rfl ?_
  rw [hqq, makeFunction_eq]
  simp only [List.zip_nil_right, List.filterMap_nil, List.isEmpty_nil, if_true, pure_bind]
  unfold makeTail
  rw [hcl, hge]
  refine wpAny_bind (wpAny_pure ?_)
  simp only [List.isEmpty_nil, if_true]
  refine wpAny_bind (wpAny_pure ?_)
  rcases htab with rfl | ⟨c', rfl, o, vs, t, e1, e2, e3, e4⟩
  · refine wpAny_bind (wpAny_tk I (wpAny_functionCodeX hcode (C.code hP trivial) (C.tab hP) rfl fun c' h' tk hx hgec hlt _ hrec htb htb' htk => ?_))
    refine tail c' _ ?_ hrec
    have hkeep : ∀ b o, b ≠ 64 → s.heap.get? b = some o → h'.get? b = some o := fun b o hb e => hx b o hb e
    refine ⟨fun b o hb e => hkeep b o (K.T ▸ hb) e, fun _ _ e => e, ⟨fun b o e => hkeep b o (fun q => by rw [q, K.hid] at e; cases e) (I.base b o e), ?_, I.bare, I.os, htk⟩⟩
    rw [K.Tb]
    refine ⟨?_, _, htb.2, .inr ⟨c', ?_, ?_⟩⟩
    · obtain ⟨o, vs, file, tf, flags, tg, inF, text, tt, e, r⟩ := C
      exact ⟨o, vs, file, tf, flags, tg, inF, text, tt, hkeep _ _ (by decide) e, r⟩
    · rw [hl, hc]; rfl
    · obtain ⟨k, oc, vs, tq, e1, e2, e3, e4⟩ := hrec
      cases e1
      obtain ⟨P', _, _, ⟨o', vs', f1, f2, f3, f4⟩, _⟩ := htb'
      rw [e2] at f1; cases f1
      exact ⟨oc, vs, tq, e2, f2, e3, e4⟩
  · refine wpAny_bind (wpAny_functionCode_hit (c' := .ref c') hcode (C.code hP ?_) ?_ ?_)
    · exact trivial
    · show (if ((66 : Int) == (p.line : Int) && (39 : Int) == (p.col : Int)) = true then some (Value.ref c') else _) = _
      rw [hl, hc]; rfl
    · exact tail c' s (Kp.refl I) ⟨c', o, vs, t, rfl, e1, e3, e4⟩
theorem group_call {prog : Program} {w : World} {x : Str} {t tk : Tok} {mo a : Addr} {Q : Value → Shared → Prop} (hm : MatchAt s.heap mo a x t) (hx : x.cps = #[38]) (hq : Q (.str "&" s.toks) { s with toks := s.toks + 1 }) :
    wpAny (model prog w) A (call (.builtin "re.Match.group") [.ref mo, .int 1 tk]) Q E s := by
  obtain ⟨o, tp', e1, e2, e3, e4, o', n, e5, e6⟩ := hm
  refine wpAny_call (codeAny_call_builtin slot_match_group.plain entry_match_group (slot_match_group.check _ _ _ _ _ _ _ _ ⟨o, e1, e2⟩ (args_match_group _ _) ?_))
  unfold Builtin.«re.Match.group»
  refine wpAny_bind (m := noKeywords _ _) (wpAny_pure ?_)
  dsimp only
  refine wpAny_bind ?_
  unfold reFound
  refine wpAny_bind (wpAny_fieldsOf e1 e4 ?_)
  refine wpAny_bind ?_
  show wpAny _ A.in1 (reRawItems (.ref tp')) _ _ s
  unfold reRawItems
  refine wpAny_bind (wpAny_seqItems e5 e6 (wpAny_pure (wpAny_pure ?_)))
  simp only [Option.getD_some]
  rw [show Array.map reRawOf #[rawInt 0, rawInt 1, rawInt 0, rawInt 1] = #[0, 1, 0, 1] by simp [reRawOf, rawInt]]
  refine wpAny_bind ?_
  show wpAny _ A.in1 (pure 1 : Sem Nat) _ _ s
  refine wpAny_pure ?_
  refine wpAny_bind ?_
  show wpAny _ A.in1 (mkStr ⟨x.cps.extract 0 1⟩) _ _ s
  rw [hx]
  exact wpAny_mkStr (wpAny_pure hq) (by show 1 ≤ sizeLine; decide)
def lamEnv (sc : Scope) (f L : Addr) (cv : Value) : Env := newEnv sc L mainGlobals [] (lamQual ++ ".<locals>.") (some f) cv none builtinsNs
theorem lam_call (O : B.Ok) (I : Inv B s) {d : Nat} (hA : AOk (d + 1) A) {ps : Arguments} {b : Expr} {sc : Scope} {p : Pos} (h : lamIs ps b sc p = true) {f c' mo a : Addr} {pm ct : Value} {t : Tok} {x : Str} (hx : x.cps = #[38])
    (hlim : s.heap.NoLimit) (hf : s.heap.get? f = some { cls := .type "function", data := .func (lamFd ps b sc pm (.ref c') ct) }) (hcd : s.heap.CodeRec (.ref c') lamQual) (hm : MatchAt s.heap mo a x t) :
    wpAny (model B.prog B.w) A (call (.ref f) [.ref mo]) (fun v s₂ => ∃ u h₂ k₂, v = .str "\\&" u ∧ s₂ = { s with heap := h₂, toks := k₂ } ∧ ∀ b o, s.heap.get? b = some o → h₂.get? b = some o) E s := by
  obtain ⟨⟨ap, an, rfl⟩, hb, hk, hn, hg, hco, hl, hc⟩ := lam_parts h
  refine wpAny_call (kla_callFunE hA.room hf rfl hco hg rfl hcd ?_)
  have hbind : bindArgs (lamFd { posonlyargs := [], args := [⟨"_m", an, ap⟩], vararg := none, kwonlyargs := [], kw_defaults := [], kwarg := none, defaults := [] } b sc pm (.ref c') ct) ⟨[.ref mo], []⟩ = pure [(("_m" : Str), .ref mo)] := by rfl
  rw [hbind]
  refine wpAny_pure (wpAny_newFunctionEnv (fun y hy => ?_) (fun y hy => ?_) (fun h₀ hns hsb => ⟨hlim.fresh _ hsb, ?_⟩) hk)
  · rw [show (lamFd _ b sc pm (.ref c') ct).scope.names = sc.names from rfl, hn] at hy
    rw [List.mem_singleton.mp hy]; nofun
  · rw [List.mem_singleton.mp hy]
    show sc.names.lookup _ = _
    rw [hn]; rfl
  have hk₀ : ∀ b o, s.heap.get? b = some o → h₀.get? b = some o := fun b o e => hsb.extBut b o (Nat.ne_of_lt (Heap.lt_size e)) (Heap.get?_push_of_some _ e)
  have I₀ : Inv B { s with heap := h₀, toks := s.toks + 1 } := I.of_keep O hk₀ (Nat.le_add_left 1 _)
  refine kla_codeExpr ?_
  generalize hA' : A.deeper _ = A₁
  have hA₁ : A₁.handled = none := hA' ▸ hA.handled
  unfold lamBody at hb
  split at hb
  · rename_i x1 k1 p1 y p2
    simp only [Bool.and_eq_true, beq_iff_eq] at hb
    obtain ⟨rfl, hb⟩ := hb
    unfold lamOr at hb
    split at hb
    · rename_i y k2 p3 e p4
      simp only [Bool.and_eq_true, beq_iff_eq] at hb
      obtain ⟨rfl, hb⟩ := hb
      unfold lamCall at hb
      split at hb
      · rename_i m np g ap' k k3 p5 cp
        simp only [Bool.and_eq_true, beq_iff_eq] at hb
        obtain ⟨⟨⟨rfl, rfl⟩, rfl⟩, hap⟩ := hb
        refine wpAny_BinOp (Calls.Constant_str ?_)
        show wpAny (model B.prog B.w) A₁ (do
            let v ← eval (.Call (.Attribute (.Name "_m" np) "group" ap') [.Constant (.int 1) k3 p5] [] cp) (newEnv sc s.heap.objs.size mainGlobals [] (lamQual ++ ".<locals>.") (some f) (.ref c') none builtinsNs)
            standAt p4
            let t ← holding [v] (truthy v)
            match BoolOp.Or, t with
            | .And, false | .Or, true => pure v
            | _, _ => boolOp p4 .Or (evalEach [.Constant (.str "") p3 e] (newEnv sc s.heap.objs.size mainGlobals [] (lamQual ++ ".<locals>.") (some f) (.ref c') none builtinsNs))) _ _ _
        have hm₀ : MatchAt h₀ mo a x t := by
          obtain ⟨o, tp', e1, e2, e3, e4, o', n, e5, e6⟩ := hm
          exact ⟨o, tp', hk₀ _ _ e1, e2, e3, e4, o', n, hk₀ _ _ e5, e6⟩
        have hkind : (newEnv sc s.heap.objs.size mainGlobals [] (lamQual ++ ".<locals>.") (some f) (.ref c') none builtinsNs).kindOf "_m" = some .local := by
          show sc.names.lookup _ = _
          rw [hn]; rfl
        refine wpAny_bind (meth_rule (B := B) (s := { s with heap := h₀, toks := s.toks + 1 + 1 }) rfl (by simpa using hap) rfl (by show 1 < 30; omega) (wpAny_Name (wpAny_loadName_local hk hkind hns rfl fun pl => ?_) (by decide)))
        obtain ⟨o, tp', e1, e2, e3, e4, o', n, e5, e6⟩ := hm₀
        refine getMethod_builtin ⟨o, e1, e2⟩ pa_match slot_match_group type_match_group (fun a ha => by cases ha; exact ⟨o, e1, e3⟩) ?_
        refine callWith_any O rfl (.inl ⟨_, rfl⟩) ?_
        show wpAny _ A₁ (spliced [(false, eval (.Constant (.int 1) k3 p5) _)]) _ _ _
        refine Calls.spliced_cons (wpAny_Constant_int (Calls.spliced_nil ⟨I.of_keep O hk₀ (Nat.le_add_left 1 _), ?_⟩))
        refine group_call (x := x) (t := t) (mo := mo) (a := a) ⟨o, tp', e1, e2, e3, e4, o', n, e5, e6⟩ hx ?_
        refine wpAny_bind (wpAny_standAt ?_)
        refine wpAny_bind (wpAny_holding ?_)
        refine P.truthy_str (by decide) ?_
        show wpAny _ A₁ (pure _) _ _ _
        refine wpAny_pure ?_
        refine add_str (x := "\\") (y := "&") (fun t' tk => ?_) (by show 1 + 1 ≤ sizeLine; decide)
        exact ⟨t', h₀, tk, rfl, rfl, hk₀⟩
      · cases hb
    · cases hb
  · cases hb
end
end Mine
namespace Mine
open PySem.Builtin.Re
variable {B : BW}
theorem fSub_cases {x : Str} {r : PV} (h : fSub (.str x) = some r) : (x.cps = #[38] ∧ r = .str "\\&") ∨ (0 < x.cps.size ∧ x.length ≤ 16777216 ∧ sreFails (sreAt x.cps 0) = true ∧ r = .str x) := by
  have h : (if x = ("&" : Str) then some (PV.str "\\&") else if x ∈ ([("*" : Str), "?", "[", "]", "\"", "\\\\", "^"] : List Str) then some (.str x) else none) = some r := h
  split at h
  · rename_i e; subst e; cases h; exact .inl ⟨rfl, rfl⟩
  · split at h
    · rename_i hm
      cases h
      refine .inr ?_
      simp only [List.mem_cons, List.not_mem_nil, or_false] at hm
      rcases hm with rfl | rfl | rfl | rfl | rfl | rfl | rfl
      · exact ⟨by decide, by decide, sre_star, rfl⟩
      · exact ⟨by decide, by decide, sre_quest, rfl⟩
      · exact ⟨by decide, by decide, sre_open, rfl⟩
      · exact ⟨by decide, by decide, sre_close, rfl⟩
      · exact ⟨by decide, by decide, sre_quote, rfl⟩
      · exact ⟨by decide, by decide, sre_back, rfl⟩
      · exact ⟨by decide, by decide, sre_hat, rfl⟩
    · cases h
theorem orc_sound (O : B.Ok) (K : OrcB B) {d : Nat} (hd : 3 ≤ d) (c : Cx) (env : Env) (S as : List Addr) (V Kc : Vs) (H : Hs) (s : Shared) (A : Around) (j : Nat) (x : Expr) (pv r : PV) (E : Value → Shared → Prop) (hE : EnvOk c env) (hA : AOk d A) (F : FR B c env S as V Kc H s)
    (h : orcIs c j x = true) (hv : (V[j]?).join = some pv) (ho : fSub pv = some r) :
    wpAny (model B.prog B.w) A (eval x env) (fun v s' => Kp B s s' ∧ VR s'.heap S as r v) E s := by
  unfold orcIs at h
  split at h
  · rename_i f fp m ap ps b sc lp y p
    simp only [Bool.and_eq_true, beq_iff_eq] at h
    obtain ⟨⟨⟨⟨⟨hg, rfl⟩, hy⟩, hc⟩, hap⟩, hlam⟩ := h
    obtain ⟨z, zp, rfl, hz⟩ := nameIs_eq hy
    have I := F.inv
    obtain ⟨hcode, hqual⟩ := hE.code 68 hc
    have P : ∀ {s' : Shared}, Kp B s s' → PatAt s'.heap 43 42 := fun k => K.pat.keeps fun b o _ e => k.inv.base b o e
    refine meth_rule rfl (by simpa using hap) rfl (by show 2 < 30; omega) (glob_rule O hE I hg K.gv fun pl => ?_)
    obtain ⟨o, pvv, fl, e1, e2, e3, e4⟩ := (P (Kp.refl I)).obj
    refine getMethod_builtin ⟨o, e1, e2⟩ pa_pat slot_pat_sub type_pat_sub (fun a ha => by cases ha; exact ⟨o, e1, e3⟩) ?_
    refine callWith_any O rfl (.inl ⟨_, rfl⟩) ?_
    show wpAny _ A (spliced [(false, eval (.Lambda ps b sc lp) env), (false, eval (.Name z zp) env)]) _ _ s
    refine Calls.spliced_cons (lam_make O K I hlam hE.glob hcode hqual fun fa c' s₁ pm ct k₁ hfo hrec => ?_)
    have F₁ := F.kp O k₁
    refine Calls.spliced_cons (loc_rule hE F₁ hy hv fun v rv => Calls.spliced_nil ⟨k₁.inv, ?_⟩)
    cases pv <;> first | (cases ho; done) | skip
    rename_i xs
    obtain ⟨t, rfl, hxl⟩ := rv
    have hL0 : s₁.heap.get? s₁.heap.objs.size = none := fresh_none _
    have fin : ∀ (h' : Heap) (k : Nat), (∀ b o, b ≠ s₁.heap.objs.size → (s₁.heap.push { cls := .type "list", data := .seq #[] }).get? b = some o → h'.get? b = some o) → 1 ≤ k → Kp B s { s₁ with heap := h', toks := k } := fun h' k hk ht =>
      k₁.trans (Kp.of_keep O k₁.inv (fun b o e => hk b o (fun q => by rw [q, hL0] at e; cases e) (Heap.get?_push_of_some _ e)) ht)
    show wpAny _ A (call (.builtin "re.Pattern.sub") [.ref 43, .ref fa, .str xs t]) _ _ s₁
    refine wpAny_tk k₁.inv (sub_call (R := fun _ _ => True) (P k₁) ⟨_, hfo, rfl⟩ fun s₂ hs₂ hLs hPs => ?_)
    have k₂ : Kp B s₁ s₂ := by rw [hs₂]; exact Kp.push O k₁.inv
    rcases fSub_cases ho with ⟨hx, rfl⟩ | ⟨h1, h2, h3, rfl⟩
    · refine loop_hit (y := "\\&") hPs hLs (by rw [hx]; rfl) ?_ (by decide) (by rw [hx]; exact sre_amp) (by rw [hx]; exact sre_amp2) (fun s₃ mo E' hs₃ hm => ?_) fun h' t' k hk ht => ?_
      · obtain ⟨o', vs, n, f1, _⟩ := (P k₁).words
        obtain ⟨o, _, _, g1, _⟩ := (P k₁).obj
        exact ⟨(fun q => by rw [← q, hL0] at g1; cases g1), (fun q => by rw [← q, hL0] at f1; cases f1)⟩
      · obtain ⟨h', rfl, hk⟩ := hs₃
        have k₃ : Kp B s₂ { s₂ with heap := h' } := Kp.of_keep (k := s₂.toks) O k₂.inv hk k₂.inv.tk
        exact lam_call (d := 0) O k₃.inv ((hA.mono (show 2 ≤ d by omega)).in1) hlam hx (k₃.inv.lim O) (hk _ _ (k₂.get O k₁.inv hfo (by nofun))) (by
          obtain ⟨q, oq, vs, tq, f1, f2, f3⟩ := hrec
          rw [hs₂] at hk
          exact ⟨q, oq, vs, tq, f1, hk _ _ (Heap.get?_push_of_some _ f2), f3⟩) hm
      · subst hs₂
        exact ⟨fin h' k hk ht, t', rfl, by show 2 ≤ sizeLine; decide⟩
    · refine loop_fail hPs hLs h1 h2 h3 fun h' t' k hk ht => ?_
      subst hs₂
      exact ⟨fin h' k hk ht, t', rfl, hxl⟩
  · cases h
end Mine
namespace Mine
open PySem.Builtin PySem.Builtin.Str
section
variable {prog : Program} {w : World} {A : Around} {E : Value → Shared → Prop} {s : Shared} {d : Addr} {f : Int → Option Value} {c : Nat} {x : Str} {t : Tok}
theorem sub_keyerror : isSubtype (.type "KeyError") (.type "LookupError") = pure true := by rw [isSubtype_type]; kernel_rfl
theorem lookup_hit {Q : Mapped → Shared → Prop} (hm : s.heap.MapOf (intKind prog w) d f) (hf : f c = some (.str x t)) (hq : ∀ k, Q (.text x) { s with toks := k }) : wpAny (model prog w) A (tableLookup (.ref d) c) Q E s := by
  unfold tableLookup
  refine wpAny_bind (wpAny_attempt (wpAny_bind (wpAny_mkInt ?_)))
  refine wpAny_getItem_of (knd := intKind prog w) (k := (c : Int)) (s := { s with toks := s.toks + 1 }) (by simp [intKind, Value.isInt]) hm hf ?_
  exact wpAny_pure (a := Mapped.text x) (hq _)
theorem lookup_miss {Q : Mapped → Shared → Prop} (hh : A.handled = none) (hd : (d == sysModules) = false) (hm : s.heap.MapOf (intKind prog w) d f) (hf : f c = none) (hq : ∀ h' k, (∀ b o, s.heap.get? b = some o → h'.get? b = some o) → Q .keep { s with heap := h', toks := k }) : wpAny (model prog w) A (tableLookup (.ref d) c) Q E s := by
  unfold tableLookup
  refine wpAny_bind (wpAny_attempt (wpAny_bind (wpAny_mkInt ?_)))
  refine wpAny_getItem_missing_of (knd := intKind prog w) (k := (c : Int)) (s := { s with toks := s.toks + 1 }) (by simp [intKind, Value.isInt]) hd hh hm hf fun h' e he => ?_
  dsimp only
  obtain ⟨ob, tt, e1, e2, e3⟩ := he.there
  refine wpAny_bind (wpAny_isInstance (T := "KeyError") (b := true) ⟨ob, e1, e2⟩ sub_keyerror ?_)
  simp only [if_true]
  exact wpAny_bind (wpAny_rule (wpAny_pure (hq _ _ he.keeps)))
theorem translate_call {Q : Value → Shared → Prop} (hh : A.handled = none) (hd : (d == sysModules) = false) (hm : s.heap.MapOf (intKind prog w) d f) (hf : ∀ c : Nat, if isSpecial c = true then ∃ t, f c = some (.str ⟨#[92, c]⟩ t) else f c = none)
    (hq : ∀ u h' k, (∀ b o, s.heap.get? b = some o → h'.get? b = some o) → Q (.str (escN c) u) { s with heap := h', toks := k }) :
    wpAny (model prog w) A (call (.builtin "str.translate") [.str ⟨#[c]⟩ t, .ref d]) Q E s := by
  refine wpAny_call (codeAny_call_builtin F.slot_str_translate.plain F.entry_str_translate (F.slot_str_translate.check _ _ _ _ _ _ _ _ (typeIs_str s _ t) (F.args_str_translate_2 _ _) ?_))
  unfold Builtin.«str.translate»
  refine wpAny_bind (m := strOneArg "translate" _) (wpAny_pure (a := ((Value.str ⟨#[c]⟩ t, ⟨#[c]⟩, Value.ref d) : Value × Str × Value)) ?_)
  dsimp only
  rw [if_neg (show ¬ (((⟨#[c]⟩ : Str).length == 0) = true) from Bool.false_ne_true)]
  simp only [List.forIn_toArray, List.forIn_cons, List.forIn_nil]
  rw [if_neg (show ¬ (tooLong 0 = true) by decide)]
  have keep : ∀ {s' : Shared} {h' : Heap} {k : Nat}, s' = { s with heap := h', toks := k } → (∀ b o, s.heap.get? b = some o → h'.get? b = some o) → s'.heap.MapOf (intKind prog w) d f := fun e hk => by
    subst e
    obtain ⟨o, es, ep, ho, r⟩ := hm
    exact ⟨o, es, ep, hk _ _ ho, r⟩
  refine wpAny_bind ?_
  refine wpAny_bind ?_
  have hsp := hf c
  cases hfast : (#[c].all fun x => decide (x < 128)) with
  | true =>
    rw [if_pos rfl]
    dsimp only [List.lookup]
    cases hs : isSpecial c with
    | true =>
      rw [hs, if_pos rfl] at hsp
      obtain ⟨t', hft⟩ := hsp
      refine wpAny_bind (lookup_hit hm hft fun k => ?_)
      have e : (if ((⟨#[92, c]⟩ : Str).length == 1 && (⟨#[92, c]⟩ : Str).cps.all fun x => decide (x < 128)) = true then some (⟨#[92, c]⟩ : Str).cps[0]? else none) = none := by
        rw [if_neg]; intro h; exact absurd h Bool.false_ne_true
      simp only [e]
      refine wpAny_bind (wpAny_pure ?_)
      dsimp only
      refine wpAny_bind (wpAny_rule ?_)
      rw [if_neg (by decide)]
      refine wpAny_bind (lookup_hit (keep (h' := s.heap) (k := k) rfl fun _ _ e => e) hft fun k₂ => ?_)
      dsimp only
      refine wpAny_pure ?_
      dsimp only
      refine wpAny_pure ?_
      dsimp only
      rw [show (0 + (⟨#[92, c]⟩ : Str).length) = 2 from rfl, if_neg (show ¬ (tooLong 2 = true) by decide)]
      show wpAny _ A.in1 (mkStr ⟨#[92, c]⟩ >>= fun v => (ret v : Sem PySem.Fin)) _ _ _
      refine wpAny_bind (wpAny_mkStr (wpAny_pure ?_) (by show 2 ≤ sizeLine; decide))
      have := hq k₂ s.heap (k₂ + 1) (fun _ _ e => e)
      rw [show escN c = ⟨#[92, c]⟩ by simp [escN, hs]] at this
      exact this
    | false =>
      rw [hs, if_neg (by decide)] at hsp
      refine wpAny_bind (lookup_miss hh hd hm hsp fun h' k hk => ?_)
      dsimp only
      refine wpAny_bind (wpAny_pure ?_)
      dsimp only
      refine wpAny_pure ?_
      dsimp only
      refine wpAny_pure ?_
      dsimp only
      rw [if_neg (show ¬ (tooLong (0 + 1) = true) by decide)]
      show wpAny _ A.in1 (mkStr ⟨#[c]⟩ >>= fun v => (ret v : Sem PySem.Fin)) _ _ _
      refine wpAny_bind (wpAny_mkStr (wpAny_pure ?_) (by show 1 ≤ sizeLine; decide))
      have := hq k h' (k + 1) hk
      rw [show escN c = ⟨#[c]⟩ by simp [escN, hs, oneS]] at this
      exact this
  | false =>
    rw [if_neg (by decide), if_neg (by decide)]
    cases hs : isSpecial c with
    | true =>
      rw [hs, if_pos rfl] at hsp
      obtain ⟨t', hft⟩ := hsp
      refine wpAny_bind (lookup_hit hm hft fun k => ?_)
      dsimp only
      refine wpAny_pure ?_
      dsimp only
      refine wpAny_pure ?_
      dsimp only
      rw [show (0 + (⟨#[92, c]⟩ : Str).length) = 2 from rfl, if_neg (show ¬ (tooLong 2 = true) by decide)]
      show wpAny _ A.in1 (mkStr ⟨#[92, c]⟩ >>= fun v => (ret v : Sem PySem.Fin)) _ _ _
      refine wpAny_bind (wpAny_mkStr (wpAny_pure ?_) (by show 2 ≤ sizeLine; decide))
      have := hq k s.heap (k + 1) (fun _ _ e => e)
      rw [show escN c = ⟨#[92, c]⟩ by simp [escN, hs]] at this
      exact this
    | false =>
      rw [hs, if_neg (by decide)] at hsp
      refine wpAny_bind (lookup_miss hh hd hm hsp fun h' k hk => ?_)
      dsimp only
      refine wpAny_pure ?_
      dsimp only
      refine wpAny_pure ?_
      dsimp only
      rw [if_neg (show ¬ (tooLong (0 + 1) = true) by decide)]
      show wpAny _ A.in1 (mkStr ⟨#[c]⟩ >>= fun v => (ret v : Sem PySem.Fin)) _ _ _
      refine wpAny_bind (wpAny_mkStr (wpAny_pure ?_) (by show 1 ≤ sizeLine; decide))
      have := hq k h' (k + 1) hk
      rw [show escN c = ⟨#[c]⟩ by simp [escN, hs, oneS]] at this
      exact this
end
def c_esc : Cx := { nm := ["pattern"], cn := [], ck := [], gn := ["isinstance", "str", "_special_chars_map"], code := none }
def EscBody (body : List Stmt) : Prop := ∃ t y ap z p p2 els ip, body = [.If t [.Return (some (.Call (.Attribute y "translate" ap) [z] [] p)) p2] els ip] ∧
  isE c_esc (.call "isinstance" (.cons (.loc 0) (.cons (.glob "str") .nil))) t = true ∧ isE c_esc (.loc 0) y = true ∧ globIs c_esc "_special_chars_map" z = true ∧ notSuper y = true ∧ (ap.endLine == p.line) = true
structure EscOk (B : BW) (a : Addr) : Prop where
  here : ∃ o fd body, B.b₀.get? a = some o ∧ o.data = .func fd ∧ fd.body = .stmts body ∧ B.b₀.CodeRec fd.code fd.qualname ∧ EscBody body ∧ fd.globals = mainGlobals ∧ fd.builtins = builtinsNs ∧
    (∀ v : Value, bindArgs fd ⟨[v], []⟩ = pure [(("pattern" : Str), v)]) ∧ (∀ x ∈ fd.scope.names, x.2 ≠ .cell) ∧ (∀ x ∈ c_esc.nm, fd.scope.names.lookup x = some .local) ∧ (∀ x ∈ c_esc.gn, fd.scope.names.lookup x = some .globalImplicit) ∧
    fd.scope.isCoroutine = false ∧ fd.scope.isGenerator = false ∧ fd.scope.kind = .function
  map : ∃ f, B.b₀.MapOf (intKind B.prog B.w) 52 f ∧ ∀ c : Nat, if isSpecial c = true then ∃ t, f c = some (.str ⟨#[92, c]⟩ t) else f c = none
  gv : Gv B "_special_chars_map" = some (.ref 52)
def fIsStr : List PV → Option PV
  | [.str _, .val k] => if k = .type "str" then some (.bool true) else none
  | _ => none
def omE : Om where
  fn := fun x => if x = ("isinstance" : Str) then some fIsStr else none
  fs := fun _ => none
  gl := fun x => if x = ("str" : Str) then some (.val (.type "str")) else none
  orc := fun _ _ => none
  gen := fun _ => none
variable {B : BW} {d : Nat}
theorem isstr_spec (O : B.Ok) : FnSpec B d (.builtin "isinstance") fIsStr := by
  intro A s S args vals r E hA I hS rv hF
  replace hF : fIsStr args = some r := hF
  unfold fIsStr at hF
  split at hF
  · rename_i x k
    split at hF
    · rename_i hk
      have hF := Option.some.inj hF
      subst hF; subst hk
      obtain ⟨v, q, rfl, ⟨t, rfl, hx⟩, v', q', rfl, rfl, hq⟩ := rv
      rw [show q' = [] from hq]
      exact call_isinstance (isinstance_true (by rfl) sub_str_str) ⟨typeIs_str s x t, Kp.refl I, rfl⟩
    · cases hF
  · cases hF
theorem omE_ok (O : B.Ok) (h1 : Gv B "isinstance" = some (.builtin "isinstance")) (h2 : Gv B "str" = some (.type "str")) : OmOk B d omE where
  fn := fun x F h => by
    have h : (if x = ("isinstance" : Str) then some fIsStr else none) = some F := h
    split at h
    · rename_i e; subst e; cases h; exact ⟨_, h1, .inl ⟨_, rfl⟩, isstr_spec O⟩
    · cases h
  fs := fun x F h => by cases h
  gl := fun x pv h => by
    have h : (if x = ("str" : Str) then some (PV.val (.type "str")) else none) = some pv := h
    split at h
    · rename_i e; subst e; cases h; exact ⟨_, rfl, h2⟩
    · cases h
set_option maxHeartbeats 1000000 in
theorem esc_spec (O : B.Ok) (h1 : Gv B "isinstance" = some (.builtin "isinstance")) (h2 : Gv B "str" = some (.type "str")) {a : Addr} (h : EscOk B a) : FnSpec B (d + 1) (.ref a) fEscape := by
  intro A s S args vals r E hA I hS rv hF
  replace hF : fEscape args = some r := hF
  unfold fEscape at hF
  split at hF
  · rename_i x
    have hxc : ∃ c, x = ⟨#[c]⟩ ∧ r = .str (escN c) := by
      split at hF
      · rename_i c hc
        refine ⟨c, ?_, (Option.some.inj hF).symm⟩
        obtain ⟨⟨l⟩⟩ := x
        have : l = [c] := hc
        rw [this]
      · cases hF
    obtain ⟨c, rfl, rfl⟩ := hxc
    obtain ⟨v, q, rfl, ⟨t, rfl, hx⟩, hq⟩ := rv
    rw [show q = [] from hq]
    obtain ⟨o, fd, body, ho, hdata, hbody, hcd, ⟨te, y, ap, z, p, p2, els, ip, rfl, g1, g2, g3, g4, g5⟩, hgl, hbi, hbind, hcell, hloc, hgn, hco, hgen, hk⟩ := h.here
    have hcd' : s.heap.CodeRec fd.code fd.qualname := by
      obtain ⟨k, oc, vs, tq, e1, e2, e3⟩ := hcd
      exact ⟨k, oc, vs, tq, e1, I.base _ _ e2, e3⟩
    refine wpAny_call (codeAny_call_plain hA.room (I.base _ _ ho) hdata (I.lim O) hcd' hbody (hbind _) hcell (fun x hx => by rw [List.mem_singleton.mp hx]; exact hloc _ (by simp [c_esc])) (fun h₀ hns hk₀ => ?_) hco hgen hk)
    have hL0 : s.heap.get? s.heap.objs.size = none := fresh_none _
    have kp : Kp B s { s with heap := h₀, toks := s.toks + 1 } := Kp.of_keep O I hk₀ (Nat.le_add_left 1 _)
    have hE : EnvOk c_esc (callEnv fd s.heap.objs.size a) :=
      { code := fun k hk => by cases hk
        kind := hk
        glob := hgl
        bi := hbi
        loc := fun i x hx => hloc x (List.mem_of_getElem? hx)
        cel := fun x hx => by cases hx
        gn := fun x hx => hgn x hx
        nodup := by decide
        cdup := List.nodup_nil
        celn := fun x hx => by cases hx
        cinj := fun x hx => by cases hx }
    have F : FR B c_esc (callEnv fd s.heap.objs.size a) [] [] [some (.str ⟨#[c]⟩)] [] [] { s with heap := h₀, toks := s.toks + 1 } :=
      { inv := kp.inv
        held := fun a ha => by cases ha
        loc := ⟨_, hns, fun i x pv hx' hv => by
          match i, hx', hv with
          | 0, hx', hv => cases hx'; cases hv; exact ⟨_, rfl, t, rfl, hx⟩
          | i + 1, hx', hv => simp [c_esc] at hx'⟩
        cel := fun j x hx hc => by cases hc
        len := rfl
        nodup := List.nodup_nil
        disj := fun a ha => by cases ha
        base := base_none I hL0
        baseAs := fun a ha => by cases ha
        baseC := fun x hx => by cases hx
        own := fun l a xs ha => by cases ha }
    refine wpAny_execs_cons (wpAny_If (wpAny_mono (test_all O (omE_ok (d := d) O h1 h2) (.call "isinstance" (.cons (.loc 0) (.cons (.glob "str") .nil))) c_esc _ [] [] [some (.str ⟨#[c]⟩)] [] [] _ _ te (.bool true) _ hE (hA.deeper _) F g1 (by rfl)) (fun b s₁ ⟨k₁, hb⟩ => ?_) fun _ _ e => e))
    cases hb
    have F₁ := F.kp O k₁
    rw [if_pos rfl]
    refine wpAny_execs_cons (wpAny_Return_some ?_)
    refine meth_rule g4 g5 ?_ (by show 1 < 30; omega) (loc_rule hE F₁ g2 rfl fun v r pl => ?_)
    · cases z <;> first | (cases g3; done) | rfl
    obtain ⟨t', rfl, _⟩ := r
    refine getMethod_builtin (T := "str") (name := ("translate" : Str)) (id := "str.translate") (typeIs_str s₁ ⟨#[c]⟩ t') PySem.F.plainAttrs_str PySem.F.slot_str_translate PySem.F.type_str_translate (fun a ha => by cases ha) ?_
    have hzn : ∃ zx zp, z = .Name zx zp := by cases z <;> first | exact ⟨_, _, rfl⟩ | (cases g3; done)
    obtain ⟨zx, zp, rfl⟩ := hzn
    refine callWith_any O rfl (.inl ⟨_, rfl⟩) ?_
    show wpAny _ _ (spliced [(false, eval (.Name zx zp) _)]) _ _ _
    refine Calls.spliced_cons (glob_rule O hE k₁.inv g3 h.gv (Calls.spliced_nil ⟨k₁.inv, ?_⟩))
    obtain ⟨f, hm, hf⟩ := h.map
    have hm₁ : s₁.heap.MapOf (intKind B.prog B.w) 52 f := by
      obtain ⟨o, es, ep, ho, r⟩ := hm
      exact ⟨o, es, ep, k₁.inv.base _ _ ho, r⟩
    refine wpAny_tk k₁.inv (translate_call (hA.deeper _).handled (by decide) hm₁ hf fun u h' k hk htk => ?_)
    have k₂ : Kp B s₁ { s₁ with heap := h', toks := k } := Kp.of_keep O k₁.inv hk htk
    refine ⟨(kp.trans k₁).trans k₂, u, rfl, ?_⟩
    unfold escN
    split
    · show 2 ≤ sizeLine; decide
    · show 1 ≤ sizeLine; decide
  · cases hF
end Mine
set_option maxRecDepth 1000000
namespace Mine
theorem mro_object : mroOf (.type "object") = pure [.type "object"] := by rw [mroOf_type]; kernel_rfl
theorem lookup_object_new : typeLookup (.type "object") "__new__" = pure (some (.builtin "object.__new__")) := by rw [typeLookup_type, builtinLookup_eq_fast]; kernel_rfl
theorem called_object : TypeCalled "object" "object.__new__" "object.__init__" :=
  ⟨by decide +kernel, by decide +kernel, ⟨_, _, mro_object⟩, madeBy_type mro_object lookup_object_new (by decide +kernel), by decide +kernel, by rw [isSubtype_type]; kernel_rfl, PySem.F.slot_object_init⟩
theorem typeCall_object : checkTypeCall "object" ⟨[], []⟩ = pure () := by kernel_rfl
theorem newCall_object : checkBuiltinCall "object.__new__" ⟨[.type "object"], []⟩ = pure () := by kernel_rfl
theorem args_object_init1 (a : Value) : argsOk "object.__init__" ⟨[a], []⟩ := by unfold argsOk; kernel_rfl
theorem entry_object_init1 : entryFor table "object.__init__" = some Builtin.«object.__init__» := entryFor_of_tree (by kernel_rfl)
theorem plain_object_new : plainId "object.__new__" = true := by decide +kernel
section
variable {prog : Program} {w : World} {A : Around} {E : Value → Shared → Prop} {s : Shared}
theorem code_object_new {Q₁ : Value → Shared → Prop} (h : Q₁ (.ref s.heap.objs.size) { s with heap := s.heap.push { cls := .type "object", data := .plain } }) :
    codeAny (model prog w) A (.call (.builtin "object.__new__") ⟨[.type "object"], []⟩) (wants Q₁ E) s := by
  refine codeAny_of_tree ?_
  show wpAny _ A.in1 (do checkBuiltinCall "object.__new__" ⟨[.type "object"], []⟩; again (.builtin "object.__new__" ⟨[.type "object"], []⟩)) _ _ s
  refine wpAny_bind (wpAny_of_eq newCall_object (wpAny_pure ⟨plainId_quiet plain_object_new _, codeAny_builtin PySem.F.entry_object_new ?_⟩))
  rw [Around.under_plainId plain_object_new _]
  unfold Builtin.«object.__new__»
  obtain ⟨hp, g, d, tk, os⟩ := s
  have hm := called_object.made
  repeat (any_goals (first | assumption | (rw [hm]) | wp_step))
theorem call_object {Q : Value → Shared → Prop} (h : Q (.ref s.heap.objs.size) { s with heap := s.heap.push { cls := .type "object", data := .plain } }) :
    wpAny (model prog w) A (call (.type "object") []) Q E s := by
  refine callType_codes (Q₁ := fun obj s₁ => obj = .ref s.heap.objs.size ∧ s₁ = { s with heap := s.heap.push { cls := .type "object", data := .plain } }) called_object typeCall_object entry_object_init1 (code_object_new ⟨rfl, rfl⟩) fun obj s₁ h₁ => ?_
  obtain ⟨rfl, rfl⟩ := h₁
  refine ⟨⟨_, Heap.get?_push_size _ rfl, rfl⟩, args_object_init1 _, ?_⟩
  exact wpAny_pure ⟨rfl, h⟩
end
end Mine
namespace Mine
variable {B : BW} {Ω : Om} {d n : Nat}
structure DefHere (B : BW) (a : Addr) (c : Cx) (params : List Str) (P : FuncData → List Stmt → Prop) : Prop where
  here : ∃ o fd body, B.b₀.get? a = some o ∧ o.data = .func fd ∧ fd.body = .stmts body ∧ B.b₀.CodeRec fd.code fd.qualname ∧ P fd body ∧ fd.globals = mainGlobals ∧ fd.builtins = builtinsNs ∧
    (∀ x ∈ fd.scope.names, x.2 ≠ .cell) ∧ (∀ x ∈ c.nm, fd.scope.names.lookup x = some .local) ∧ (∀ x ∈ c.gn, fd.scope.names.lookup x = some .globalImplicit) ∧
    fd.scope.isCoroutine = false ∧ fd.scope.isGenerator = false ∧ fd.scope.kind = .function
  code : c.code = none
  ck : c.ck = []
  pre : ∀ (i : Nat) x, params[i]? = some x → c.nm[i]? = some x
  pnodup : params.Nodup
  nodup : c.nm.Nodup
  cdup : c.cn.Nodup
theorem def_gen (O : B.Ok) {a : Addr} {c : Cx} {params : List Str} {P : FuncData → List Stmt → Prop} (h : DefHere B a c params P) {F : List PV → Option PV} {G : List PV → Option (List PV)} {nv nk : Nat}
    (hG : ∀ args r, F args = some r → ∃ args', G args = some args' ∧ args'.length = params.length)
    (hbind : ∀ fd body, P fd body → ∀ (A : Around) (s : Shared) (S : List Addr) (E : Value → Shared → Prop) args vals args', Inv B s → Held S s.heap → VRs s.heap S [] args vals → G args = some args' →
      wpAny (model B.prog B.w) A (bindArgs fd ⟨vals, []⟩) (fun binds s₁ => ∃ vals', binds = params.zip vals' ∧ Kp B s s₁ ∧ VRs s₁.heap S [] args' vals') E s)
    (hbody : ∀ fd body, P fd body → ∀ (env : Env) (S : List Addr) (s : Shared) (A : Around) (E : Value → Shared → Prop) args args' r, F args = some r → G args = some args' → EnvOk c env → AOk d A →
      FR B c env S [] (args'.map some ++ List.replicate (nv - args'.length) none) (List.replicate nk none) [] s →
      wpAny (model B.prog B.w) A (execs body env) (fun f s' => Kq B (Mut c env []) s s' ∧ ∃ v, (f = .ret v ∨ (f = .next ∧ v = .none)) ∧ VR s'.heap S [] r v) E s) : CodeSpec B (d + 1) (.ref a) F := by
  intro A s S args vals r hA I hS rv hF
  obtain ⟨args', hg, hlen⟩ := hG args r hF
  obtain ⟨o, fd, body, ho, hdata, hbd, hcd, hP, hgl, hbi, hcell, hloc, hgn, hco, hgen, hk⟩ := h.here
  have hpar : ∀ x ∈ params, x ∈ c.nm := fun x hx => by
    obtain ⟨i, hi⟩ := List.getElem?_of_mem hx
    exact List.mem_of_getElem? (h.pre i x hi)
  have pnodup := h.pnodup
  have hcd' : s.heap.CodeRec fd.code fd.qualname := by
    obtain ⟨k, oc, vs, tq, e1, e2, e3⟩ := hcd
    exact ⟨k, oc, vs, tq, e1, I.base _ _ e2, e3⟩
  refine codeAny_call_function hA.room (I.base _ _ ho) hdata hco hgen hbd hcd' ?_
  refine wpAny_mono (hbind fd body hP A.in1 s S _ args vals args' I hS rv hg) (fun binds s₁ ⟨vals', hb, k₁, rv'⟩ => ?_) fun _ _ e => e
  subst hb
  have hvl : vals'.length = params.length := by rw [rv'.length, hlen]
  refine wpAny_newFunctionEnv hcell (fun x hx => hloc _ (hpar _ (List.of_mem_zip hx).1)) (fun h₀ hns hsb => ⟨(k₁.inv.lim O).fresh _ hsb, ?_⟩) hk
  have hk₀ : ∀ b o, s₁.heap.get? b = some o → h₀.get? b = some o := fun b o e => hsb.extBut b o (Nat.ne_of_lt (Heap.lt_size e)) (Heap.get?_push_of_some _ e)
  show codeAny _ _ (.func body (callEnv fd s₁.heap.objs.size a)) _ _
  generalize hL : s₁.heap.objs.size = L at hns ⊢
  have hL0 : s₁.heap.get? L = none := hL ▸ fresh_none _
  have kp : Kp B s₁ { s₁ with heap := h₀, toks := s₁.toks + (params.zip vals').length } := Kp.of_keep O k₁.inv hk₀ (by have := k₁.inv.tk; omega)
  have hE : EnvOk c (callEnv fd L a) :=
    { code := fun k hk => by rw [h.code] at hk; cases hk
      kind := hk
      glob := hgl
      bi := hbi
      loc := fun i x hx => hloc x (List.mem_of_getElem? hx)
      cel := fun x hx => by rw [h.ck] at hx; cases hx
      gn := fun x hx => hgn x hx
      nodup := h.nodup
      cdup := h.cdup
      celn := fun x hx => by rw [h.ck] at hx; cases hx
      cinj := fun x hx => by rw [h.ck] at hx; cases hx }
  have F : FR B c (callEnv fd L a) S [] (args'.map some ++ List.replicate (nv - args'.length) none) (List.replicate nk none) [] { s₁ with heap := h₀, toks := s₁.toks + (params.zip vals').length } :=
    { inv := kp.inv
      held := (hS.kp O I k₁).kp O k₁.inv kp
      loc := ⟨_, hns, fun i x pv hx hv => by
        by_cases hi : i < args'.length
        · rw [List.getElem?_append_left (by simpa using hi), List.getElem?_map] at hv
          cases ha : args'[i]? with
          | none => rw [ha] at hv; cases hv
          | some q =>
            rw [ha] at hv
            cases hv
            obtain ⟨v, hvi, r'⟩ := rv'.get ha
            have hxi : params[i]? = some x := by
              have h1 := h.pre i _ (List.getElem?_eq_getElem (hlen ▸ hi))
              rw [hx] at h1
              rw [List.getElem?_eq_getElem (hlen ▸ hi), ← h1]
            exact ⟨v, lookup_rev_nodup pnodup i x v hxi hvi, r'.mono fun b o e _ => hk₀ b o e⟩
        · rw [List.getElem?_append_right (by simpa using hi)] at hv
          exact (none_get hv).elim⟩
      cel := fun j x hx hc => by rw [h.ck] at hc; cases hc
      len := rfl
      nodup := List.nodup_nil
      disj := fun a ha => by cases ha
      base := base_none k₁.inv hL0
      baseAs := fun a ha => by cases ha
      baseC := fun x hx => by rw [h.ck] at hx; cases hx
      own := fun l a xs ha => by cases ha }
  refine codeAny_func ?_
  refine wpAny_mono (hbody fd body hP (callEnv fd L a) S _ (A.deeper (callEnv fd L a)) _ args args' r hF hg hE (hA.deeper _) F) (fun f s' ⟨kq, v, hf, hr⟩ => ?_) fun _ _ e => e
  have k : Kp B s₁ s' := (kp.g.trans kq).p fun b hb => by
    rcases List.mem_cons.mp hb with rfl | hb
    · exact hL0
    · rcases List.mem_append.mp hb with hb | hb
      · obtain ⟨x, hx, _⟩ := List.mem_filterMap.mp hb
        rw [h.ck] at hx; cases hx
      · cases hb
  rcases hf with rfl | ⟨rfl, rfl⟩
  · exact ⟨v, rfl, k₁.trans k, hr⟩
  · exact ⟨.none, rfl, k₁.trans k, hr⟩
end Mine
namespace Mine
variable {B : BW} {Ω : Om} {d n : Nat}
def oneP : List PV → Option (List PV)
  | [x] => some [x]
  | _ => none
def TrP (fd : FuncData) (body : List Stmt) : Prop := (∀ v : Value, bindArgs fd ⟨[v], []⟩ = pure [(("pat" : Str), v)]) ∧
  ∃ t on p pos rest, body = .Assign [t] (.Call on [] [] p) pos :: rest ∧ nameIs c_tr.nm 1 t = true ∧ globIs c_tr "object" on = true ∧ isSs c_tr b_tr rest = true
theorem translate_spec (O : B.Ok) (hΩ : OmGen B d om2) (hob : Gv B "object" = some (.type "object")) {a : Addr} (h : DefHere B a c_tr ["pat"] TrP) {F : List PV → Option PV} (hF : TrSpec F) : CodeSpec B (d + 1) (.ref a) F := by
  refine def_gen (nv := 3) (nk := 0) (G := oneP) O h (fun args r hr => ?_) (fun fd body hP A s S E args vals args' I hS rv hg => ?_) (fun fd body hP env S s A E args args' r hr hg hE hA F₀ => ?_)
  · obtain ⟨x, rfl, _⟩ := hF args r hr
    exact ⟨_, rfl, rfl⟩
  · unfold oneP at hg
    split at hg
    · cases hg
      obtain ⟨v, q, rfl, hv, hq⟩ := rv
      rw [show q = [] from hq, hP.1 v]
      exact wpAny_pure ⟨[v], rfl, Kp.refl I, v, [], rfl, hv, rfl⟩
    · cases hg
  · obtain ⟨x, rfl, hrun⟩ := hF args r hr
    cases hg
    obtain ⟨_, t, on, p, pos, rest, rfl, h1, h2, h3⟩ := hP
    obtain ⟨z, zp, rfl, hz⟩ := nameIs_eq h1
    refine wpAny_execs_cons (wpAny_Assign_Name (glob_callee (ms := .nil) O hE F₀.inv h2 hob (.inr (.inl ⟨_, rfl⟩)) rfl (Calls.spliced_nil ⟨F₀.inv, call_object ?_⟩)) rfl)
    have kp := Kp.push (s := s) (o := { cls := .type "object", data := .plain }) O F₀.inv
    have F₁ := F₀.kp O kp
    refine wpAny_mono (store_sound (i := 1) O hE F₁ hz (pv := .val (.ref s.heap.objs.size)) rfl) (fun _ s₂ ⟨k₂, F₂⟩ => ?_) fun _ _ e => e
    have hr' := hrun s.heap.objs.size
    unfold runTr at hr'
    split at hr'
    · rename_i v τ hx
      cases hr'
      refine wpAny_mono (exs_all (n := 99) O hΩ b_tr c_tr env S [] ⟨_, _, _⟩ τ (.ret r) s₂ A rest _ hE hA F₂ h3 hx) (fun f s₃ ⟨new, af⟩ => ?_) fun _ _ e => e
      obtain ⟨v, hv, hr⟩ := af.fl
      exact ⟨(kp.q.trans (k₂.mono fun a ha => List.mem_singleton.mp ha ▸ Mut.loc)).trans af.k, v, .inl hv, hr⟩
    · cases hr'
def packP : List PV → Option (List PV)
  | x :: xs => if xs.length ≤ 1000 then some [x, .tup xs] else none
  | _ => none
def JoinP (fd : FuncData) (body : List Stmt) : Prop := (∃ an ap vn vp, fd.params = { posonlyargs := [], args := [⟨"a", an, ap⟩], vararg := some ⟨"p", vn, vp⟩, kwonlyargs := [], kw_defaults := [], kwarg := none, defaults := [] }) ∧ fd.defaults = .none ∧ isSs c_join b_join body = true
theorem bind_join {fd : FuncData} {body : List Stmt} (h : JoinP fd body) {A : Around} {s : Shared} {E : Value → Shared → Prop} {v : Value} {vs : List Value} (hz : vs.length ≤ sizeLine) {Q : List (Str × Value) → Shared → Prop} {M : Model}
    (hq : Q [(("a" : Str), v), (("p" : Str), .ref s.heap.objs.size)] { s with heap := s.heap.push { cls := .type "tuple", data := .seq vs.toArray } }) : wpAny M A (bindArgs fd ⟨v :: vs, []⟩) Q E s := by
  obtain ⟨⟨an, ap, vn, vp, hp⟩, hd, _⟩ := h
  unfold bindArgs
  rw [hp, hd]
  dsimp only
  refine wpAny_bind (wpAny_pure ?_)
  refine wpAny_bind (m := seqItems? Value.none) (wpAny_pure ?_)
  simp only [Option.isNone_some, Bool.and_false, Bool.false_eq_true, if_false]
  show wpAny M A (newTuple vs >>= fun t => pure [(("a" : Str), v), (("p" : Str), t)]) Q E s
  exact wpAny_bind (wpAny_newTuple (wpAny_pure hq) hz)
theorem join_spec (O : B.Ok) (hΩ : OmGen B d om1) {a : Addr} (h : DefHere B a c_join ["a", "p"] JoinP) : CodeSpec B (d + 1) (.ref a) fJoin := by
  refine def_gen (nv := d_join.nv) (nk := 0) (G := packP) O h (fun args r hr => ?_) (fun fd body hP A s S E args vals args' I hS rv hg => ?_) (fun fd body hP env S s A E args args' r hr hg hE hA F₀ => ?_)
  · unfold fJoin at hr
    split at hr
    · split at hr
      · rename_i x xs hl
        exact ⟨[x, .tup xs], by simp [packP, hl], rfl⟩
      · cases hr
    · cases hr
  · unfold packP at hg
    split at hg
    · split at hg
      · rename_i x xs hl
        cases hg
        obtain ⟨v, vs, rfl, hv, hvs⟩ := rv
        have hlen := hvs.length
        have hz : vs.length ≤ sizeLine := by rw [hlen, sizeLine_eq]; omega
        refine bind_join hP hz ?_
        have kp := Kp.push (s := s) (o := { cls := .type "tuple", data := .seq vs.toArray }) O I
        refine ⟨[v, .ref s.heap.objs.size], rfl, kp, _, _, rfl, hv.mono fun b o e _ => Heap.get?_push_of_some _ e, _, [], rfl, ⟨_, vs.toArray, rfl, hS.fresh, by simp, ⟨_, Heap.get?_push_size _ rfl, rfl, _, rfl⟩, by simpa using hz, VRs.mono (fun b o e _ => Heap.get?_push_of_some _ e) hvs⟩, rfl⟩
      · cases hg
    · cases hg
  · unfold packP at hg
    split at hg
    · split at hg
      · rename_i x xs hl
        cases hg
        have hr' : (match execsM om1 99 d_join.body ⟨[x, PV.tup xs].map some ++ List.replicate (d_join.nv - 2) none, List.replicate d_join.nk none, []⟩ with
          | some (.ret v, _) => some v
          | some (.next, _) => some PV.none
          | _ => none) = some r := by
          have : fJoin (x :: xs) = runDf om1 99 d_join [x, .tup xs] := by
            show (if xs.length ≤ 1000 then _ else _) = _
            rw [if_pos hl]
          rw [this] at hr
          exact hr
        split at hr'
        · rename_i v τ hx
          cases hr'
          refine wpAny_mono (exs_all (n := 99) O hΩ d_join.body c_join env S [] ⟨_, _, _⟩ τ (.ret r) s A body _ hE hA F₀ hP.2.2 hx) (fun f s₃ ⟨new, af⟩ => ?_) fun _ _ e => e
          obtain ⟨v, hv, hr⟩ := af.fl
          exact ⟨af.k, v, .inl hv, hr⟩
        · rename_i τ hx
          cases hr'
          refine wpAny_mono (exs_all (n := 99) O hΩ d_join.body c_join env S [] ⟨_, _, _⟩ τ .next s A body _ hE hA F₀ hP.2.2 hx) (fun f s₃ ⟨new, af⟩ => ?_) fun _ _ e => e
          exact ⟨af.k, .none, .inr ⟨af.fl, rfl⟩, rfl⟩
        · cases hr'
      · cases hg
    · cases hg
end Mine
namespace Mine
variable {B : BW} {Ω : Om} {d n : Nat}
structure LawHere (B : BW) (a : Addr) (c : Cx) (D : Df) (x₀ : Str) : Prop where
  here : ∃ o fd body, B.b₀.get? a = some o ∧ o.data = .func fd ∧ fd.body = .stmts body ∧ B.b₀.CodeRec fd.code fd.qualname ∧ isSs c D.body body = true ∧ fd.globals = mainGlobals ∧ fd.builtins = builtinsNs ∧ fd.closure = [] ∧
    (∀ v : Value, bindArgs fd ⟨[v], []⟩ = pure [(x₀, v)]) ∧ (∀ x ∈ c.nm, fd.scope.names.lookup x = some .local) ∧ (∀ x ∈ c.gn, fd.scope.names.lookup x = some .globalImplicit) ∧ (∀ x ∈ c.ck, fd.scope.names.lookup x = some .cell ∧ ∀ n, ((cellsFrom n fd.scope.names []).lookup x).isSome = true) ∧
    fd.scope.isCoroutine = false ∧ fd.scope.isGenerator = false ∧ fd.scope.kind = .function
  code : c.code = none
  celn : ∀ x ∈ c.ck, ∃ j : Nat, c.cn[j]? = some x
  nodup : c.nm.Nodup
  cdup : c.cn.Nodup
  pre : c.nm[0]? = some x₀
structure Inv0 (B : BW) (s : Shared) : Prop where
  base : ∀ b o, B.b₀.get? b = some o → s.heap.get? b = some o
  tb : B.Tb s.heap
  bare : AllBare s.gens
  os : s.os = B.os₀
theorem law_code (O : B.Ok) (hΩ : OmGen B d Ω) {a : Addr} {c : Cx} {D : Df} {x₀ : Str} (h : LawHere B a c D x₀) {A : Around} {s : Shared} {arg : PV} {v : Value} {r : PV} (hA : AOk (d + 1) A) (I : Inv0 B s) (rv : VR s.heap [] [] arg v) (hF : runDf Ω n D [arg] = some r) :
    codeAny (model B.prog B.w) A (.call (.ref a) ⟨[v], []⟩) (fun res s' => ∃ u, res = .ok (.ret u) ∧ Inv B s' ∧ VR s'.heap [] [] r u) s := by
  obtain ⟨o, fd, body, ho, hdata, hbody, hcd, hss, hgl, hbi, hclo, hbind, hloc, hgn, hck, hco, hgen, hk⟩ := h.here
  have hcd' : s.heap.CodeRec fd.code fd.qualname := by
    obtain ⟨k, oc, vs, tq, e1, e2, e3⟩ := hcd
    exact ⟨k, oc, vs, tq, e1, I.base _ _ e2, e3⟩
  have hlim : s.heap.NoLimit := O.lim.keeps I.base
  refine codeAny_call_function hA.room (I.base _ _ ho) hdata hco hgen hbody hcd' ?_
  rw [hbind, hclo]
  refine wpAny_pure ?_
  simp only [newFunctionEnv, Option.isSome_none, Bool.false_eq_true, if_false]
  refine wpAny_bind (wpAny_alloc ?_)
  refine wpAny_bind (wpAny_layCells _ (fun name kind cells => by cases hkc : kind == NameKind.cell <;> simp [hkc]) _ _ _ _ ?_)
  have ok := cellsFrom_ok fd.scope.names (s.heap.push { cls := .type "frame", data := .dict #[] }) (s.heap.objs.size + 1) [] ⟨fun _ _ hm => (nomatch hm), List.Pairwise.nil⟩ (by rw [Heap.size_push]; exact Nat.le_refl _)
  rw [Heap.size_push] at ok
  rw [show ({ s with heap := s.heap.push { cls := .type "frame", data := .dict #[] } } : Shared).heap.objs.size = s.heap.objs.size + 1 from Heap.size_push ..]
  have hns₀ := (Heap.Ns.new s.heap (.type "frame")).keeps (pushCells_keeps fd.scope.names _)
  have hk1 : ∀ b o, s.heap.get? b = some o → (pushCells (s.heap.push { cls := .type "frame", data := .dict #[] }) fd.scope.names).get? b = some o := fun b o e => pushCells_keeps _ _ b o (Heap.get?_push_of_some _ e)
  have hx₀ : fd.scope.names.lookup x₀ = some .local := hloc _ (List.mem_of_getElem? h.pre)
  refine wpAny_bind ?_
  rw [List.forIn_cons]
  refine wpAny_bind (wpAny_bind (wpAny_storeName_local (env := newEnv fd.scope s.heap.objs.size fd.globals (cellsFrom (s.heap.objs.size + 1) fd.scope.names []) (fd.qualname ++ ".<locals>.") (some a) fd.code none fd.builtins) hx₀ hns₀ (fun h' hn' hs' => wpAny_pure ?_) (by rw [show (newEnv fd.scope s.heap.objs.size fd.globals (cellsFrom (s.heap.objs.size + 1) fd.scope.names []) (fd.qualname ++ ".<locals>.") (some a) fd.code none fd.builtins).scope.kind = fd.scope.kind from rfl, hk]; rfl)))
  dsimp only
  rw [List.forIn_nil]
  refine wpAny_pure (wpAny_pure ?_)
  replace hs' : Heap.SameBut s.heap.objs.size (pushCells (s.heap.push { cls := .type "frame", data := .dict #[] }) fd.scope.names) h' := hs'
  replace hn' : h'.Ns s.heap.objs.size (fun y => if y = x₀ then some v else none) := hn'
  have hk₀ : ∀ b o, s.heap.get? b = some o → h'.get? b = some o := fun b o e => hs'.extBut b o (Nat.ne_of_lt (Heap.lt_size e)) (hk1 b o e)
  refine ⟨hlim.keeps hk₀, ?_⟩
  show codeAny _ _ (.func body (callEnvC fd s.heap.objs.size a)) _ _
  have cells_at : ∀ {x : Str} {b : Addr}, (callEnvC fd s.heap.objs.size a).cells.lookup x = some b → h'.IsCell b none ∧ s.heap.objs.size + 1 ≤ b := fun {x b} hl => by
    have := ok.empty x b (mem_of_lookup hl)
    exact ⟨this.1.sameBut hs' (Nat.ne_of_gt this.2), this.2⟩
  have hL0 : s.heap.get? s.heap.objs.size = none := fresh_none _
  have noBase : ∀ {b : Addr}, s.heap.get? b = none → B.b₀.get? b = none := fun {b} hb => by
    cases e : B.b₀.get? b with
    | none => rfl
    | some o => rw [I.base _ _ e] at hb; cases hb
  have far : ∀ {b : Addr}, s.heap.objs.size + 1 ≤ b → s.heap.get? b = none := fun {b} hb => by
    cases e : s.heap.get? b with
    | none => rfl
    | some o => exact absurd (Heap.lt_size e) (Nat.not_lt.mpr (Nat.le_of_succ_le hb))
  have I' : Inv B { s with heap := h', toks := s.toks + 1 } := ⟨fun b o e => hk₀ b o (I.base b o e), O.Tb_keep _ _ I.tb fun b o e _ => hk₀ b o e, I.bare, I.os, Nat.le_add_left 1 _⟩
  have hE : EnvOk c (callEnvC fd s.heap.objs.size a) :=
    { code := fun k hk => by rw [h.code] at hk; cases hk
      kind := hk
      glob := hgl
      bi := hbi
      loc := fun i x hx => hloc x (List.mem_of_getElem? hx)
      cel := fun x hx => (hck x hx).1
      gn := fun x hx => hgn x hx
      nodup := h.nodup
      cdup := h.cdup
      celn := h.celn
      cinj := fun x hx y hy b h1 h2 => name_of_addr ok.apart (mem_of_lookup h1) (mem_of_lookup h2) }
  have F : FR B c (callEnvC fd s.heap.objs.size a) [] [] ([arg].map some ++ List.replicate (D.nv - [arg].length) none) (List.replicate D.nk none) [] { s with heap := h', toks := s.toks + 1 } :=
    { inv := I'
      held := fun a ha => by cases ha
      loc := ⟨_, hn', fun i x pv hx hv => by
        cases i with
        | zero =>
          have hv : some (some arg) = some (some pv) := hv
          cases hv
          rw [h.pre] at hx; cases hx
          exact ⟨v, by simp, rv.mono fun b o e _ => hk₀ b o e⟩
        | succ i =>
          exact (none_get (show (List.replicate (D.nv - [arg].length) none)[i]? = some (some pv) from by simpa using hv)).elim⟩
      cel := fun j x hx hc => by
        obtain ⟨b, hb⟩ := Option.isSome_iff_exists.mp ((hck x hc).2 (s.heap.objs.size + 1))
        exact ⟨b, none, hb, (cells_at hb).1, fun pv hv => (none_get hv).elim⟩
      len := rfl
      nodup := List.nodup_nil
      disj := fun a ha => by cases ha
      base := noBase hL0
      baseAs := fun a ha => by cases ha
      baseC := fun x hx b hb => noBase (far (cells_at hb).2)
      own := fun l a xs ha => by cases ha }
  refine codeAny_func ?_
  have hrun : (match execsM Ω n D.body ⟨[arg].map some ++ List.replicate (D.nv - [arg].length) none, List.replicate D.nk none, []⟩ with
      | some (.ret v, _) => some v
      | some (.next, _) => some PV.none
      | _ => none) = some r := hF
  cases hx : execsM Ω n D.body ⟨[arg].map some ++ List.replicate (D.nv - [arg].length) none, List.replicate D.nk none, []⟩ with
  | none => rw [hx] at hrun; cases hrun
  | some p =>
    obtain ⟨fl, τ⟩ := p
    rw [hx] at hrun
    refine wpAny_mono (exs_all O hΩ D.body c (callEnvC fd s.heap.objs.size a) [] [] ⟨_, _, _⟩ τ fl _ (A.deeper (callEnvC fd s.heap.objs.size a)) body _ hE (hA.deeper _) F hss hx) (fun f s' ⟨new, af⟩ => ?_) fun _ _ e => e
    cases fl with
    | next => cases hrun; have := af.fl; rw [show f = .next from this]; exact ⟨_, rfl, af.k.inv, rfl⟩
    | brk => cases hrun
    | cont => cases hrun
    | ret u => cases hrun; obtain ⟨v, rfl, r'⟩ := af.fl; exact ⟨v, rfl, af.k.inv, r'⟩
end Mine
namespace Mine
theorem lookup_zip_some {ps : List Str} {vs : List Value} {n : Str} : vs.length = ps.length → n ∈ ps → ((ps.zip vs).lookup n).isSome = true := by
  induction ps generalizing vs with
  | nil => intro _ h; cases h
  | cons p ps ih =>
    intro hl hn
    cases vs with
    | nil => cases hl
    | cons v vs =>
      rw [List.zip_cons_cons, List.lookup_cons]
      cases hb : n == p with
      | true => rfl
      | false =>
        refine ih (Nat.succ.inj hl) ?_
        rcases List.mem_cons.mp hn with rfl | h
        · simp at hb
        · exact h
theorem filterMap_same {α β : Type} {f g : α → Option β} : ∀ {l : List α}, (∀ x ∈ l, f x = g x) → l.filterMap f = l.filterMap g
  | [], _ => rfl
  | x :: l, h => by rw [List.filterMap_cons, List.filterMap_cons, h x List.mem_cons_self, filterMap_same fun y hy => h y (List.mem_cons_of_mem _ hy)]
theorem filterMap_zip : ∀ {ps : List Str} {vs : List Value}, vs.length = ps.length → ps.Nodup → ps.filterMap (fun n => ((ps.zip vs).lookup n).map (n, ·)) = ps.zip vs := by
  intro ps
  induction ps with
  | nil => intro vs _ _; rfl
  | cons p ps ih =>
    intro vs hl hn
    cases vs with
    | nil => cases hl
    | cons v vs =>
      rw [List.nodup_cons] at hn
      rw [List.zip_cons_cons, List.filterMap_cons]
      have h1 : (((p, v) :: ps.zip vs).lookup p).map (p, ·) = some (p, v) := by rw [List.lookup_cons]; simp
      rw [h1]
      dsimp only
      congr 1
      refine (filterMap_same fun x hx => ?_).trans (ih (Nat.succ.inj hl) hn.2)
      rw [List.lookup_cons]
      have : (x == p) = false := by
        apply beq_false_of_ne
        rintro rfl; exact hn.1 hx
      rw [this]
def plainPs (ps : Arguments) (names : List Str) : Bool := ps.posonlyargs.isEmpty && ps.args.map (·.arg) == names && ps.kwonlyargs.isEmpty && ps.vararg.isNone && ps.kwarg.isNone && decide names.Nodup
theorem bind_plain {fd : FuncData} {names : List Str} (h : plainPs fd.params names = true) (hd : fd.defaults = .none) (vals : List Value) (hl : vals.length = names.length) : bindArgs fd ⟨vals, []⟩ = pure (names.zip vals) := by
  unfold plainPs at h
  simp only [Bool.and_eq_true, beq_iff_eq, decide_eq_true_eq, List.isEmpty_iff, Option.isNone_iff_eq_none] at h
  obtain ⟨⟨⟨⟨⟨h1, h2⟩, h3⟩, h4⟩, h5⟩, h6⟩ := h
  unfold bindArgs
  dsimp only
  rw [h1, h3, h4, h5, hd, h2]
  simp only [List.map_nil, List.nil_append, List.append_nil, List.forIn_nil, pure_bind]
  have e1 : (decide (vals.length > names.length) && (none : Option Arg).isNone) = false := by simp; omega
  rw [e1]
  simp only [Bool.false_eq_true, if_false]
  have e0 : seqItems? Value.none = pure none := rfl
  rw [e0, pure_bind]
  simp only [Option.getD_none, List.length_nil, Nat.zero_sub, List.drop_nil, Nat.sub_zero, List.take_length]
  have e2 : (names.filter fun n => ((names.zip vals).lookup n).isNone) = [] := by
    rw [List.filter_eq_nil_iff]
    intro n hn
    have := lookup_zip_some hl hn
    cases q : (names.zip vals).lookup n with
    | none => rw [q] at this; cases this
    | some _ => simp
  rw [e2]
  simp only [List.isEmpty_nil, Bool.not_true, Bool.false_eq_true, if_false, List.zip_nil_right, List.forIn_nil, pure_bind]
  rw [filterMap_zip hl h6]
end Mine
namespace Mine
def fdIn (K : Frag) (a : Addr) : Option FuncData := match K.lookup a with
  | some ⟨_, _, .func fd, _⟩ => some fd
  | _ => none
def codeIn (K : Frag) (cd : Value) (q : Str) : Bool := match cd with
  | .ref c => match K.lookup c with
    | some ⟨_, _, .fields vs, _⟩ => match (vs[1]? : Option Value) with
      | some (.str q' _) => q == q'
      | _ => false
    | _ => false
  | _ => false
def isNoneV : Value → Bool
  | .none => true
  | _ => false
def isRefV (a : Addr) : Value → Bool
  | .ref b => a == b
  | _ => false
def fdChk (K : Frag) (c : Cx) (fd : FuncData) : Bool :=
  codeIn K fd.code fd.qualname && fd.globals == mainGlobals && fd.builtins == builtinsNs && c.nm.all (fun x => fd.scope.names.lookup x == some .local) && c.gn.all (fun x => fd.scope.names.lookup x == some .globalImplicit) &&
  !fd.scope.isCoroutine && fd.scope.kind == .function && isNoneV fd.defaults && decide c.nm.Nodup && decide c.cn.Nodup
def noCells (fd : FuncData) : Bool := fd.scope.names.all fun p => p.2 != .cell
def prefixOf (ps nm : List Str) : Bool := nm.take ps.length == ps
def defChk (K : Frag) (a : Addr) (c : Cx) (D : Df) (params : List Str) : Bool := match fdIn K a with
  | some fd => match fd.body with
    | .stmts body => isSs c D.body body && fdChk K c fd && noCells fd && !fd.scope.isGenerator && plainPs fd.params params && c.ck.isEmpty && prefixOf params c.nm &&
      (match c.code with
        | none => true
        | some k => isRefV k fd.code && fd.qualname ++ (".<locals>." : Str) == ("_translate.<locals>." : Str))
    | _ => false
  | none => false
section
variable {K : Frag} {B : BW}
theorem fdIn_get {a : Addr} {fd : FuncData} (X : K.In B.b₀) (h : fdIn K a = some fd) : ∃ o, B.b₀.get? a = some o ∧ o.data = .func fd := by
  unfold fdIn at h
  split at h
  · rename_i e; cases h; exact ⟨_, X _ _ e, rfl⟩
  · cases h
theorem codeIn_rec {cd : Value} {q : Str} (X : K.In B.b₀) (h : codeIn K cd q = true) : B.b₀.CodeRec cd q := by
  unfold codeIn at h
  split at h
  · rename_i c
    split at h
    · rename_i e
      split at h
      · rename_i q' t e'
        have := beq_iff_eq.mp h
        subst this
        exact ⟨c, _, _, t, rfl, X _ _ e, rfl, e'⟩
      · cases h
    · cases h
  · cases h
structure FdOk (B : BW) (c : Cx) (fd : FuncData) : Prop where
  code : B.b₀.CodeRec fd.code fd.qualname
  glob : fd.globals = mainGlobals
  bi : fd.builtins = builtinsNs
  loc : ∀ x ∈ c.nm, fd.scope.names.lookup x = some .local
  gn : ∀ x ∈ c.gn, fd.scope.names.lookup x = some .globalImplicit
  co : fd.scope.isCoroutine = false
  kind : fd.scope.kind = .function
  dflt : fd.defaults = .none
  nodup : c.nm.Nodup
  cdup : c.cn.Nodup
theorem isNoneV_eq {v : Value} (h : isNoneV v = true) : v = .none := by cases v <;> first | rfl | cases h
theorem isRefV_eq {a : Addr} {v : Value} (h : isRefV a v = true) : v = .ref a := by
  cases v <;> first | (rw [show a = _ from beq_iff_eq.mp h]) | cases h
theorem fdChk_ok {c : Cx} {fd : FuncData} (X : K.In B.b₀) (h : fdChk K c fd = true) : FdOk B c fd := by
  unfold fdChk at h
  simp only [Bool.and_eq_true, beq_iff_eq, Bool.not_eq_true', List.all_eq_true, decide_eq_true_eq] at h
  obtain ⟨⟨⟨⟨⟨⟨⟨⟨⟨h1, h2⟩, h3⟩, h4⟩, h5⟩, h6⟩, h7⟩, h8⟩, h9⟩, h10⟩ := h
  exact ⟨codeIn_rec X h1, h2, h3, h4, h5, h6, h7, isNoneV_eq h8, h9, h10⟩
theorem noCells_ok {fd : FuncData} (h : noCells fd = true) : ∀ x ∈ fd.scope.names, x.2 ≠ .cell := fun x hx => by
  have := List.all_eq_true.mp h x hx
  simpa using this
theorem prefixOf_ok {ps nm : List Str} (h : prefixOf ps nm = true) : ∀ (i : Nat) x, ps[i]? = some x → nm[i]? = some x := fun i x hx => by
  have e := beq_iff_eq.mp (show (nm.take ps.length == ps) = true from h)
  rw [← e, List.getElem?_take] at hx
  split at hx
  · exact hx
  · cases hx
theorem defOk_of {a : Addr} {c : Cx} {D : Df} {params : List Str} (X : K.In B.b₀) (h : defChk K a c D params = true) : DefOk B a c D params := by
  unfold defChk at h
  split at h
  · rename_i fd hfd
    split at h
    · rename_i body hb
      simp only [Bool.and_eq_true, Bool.not_eq_true', List.isEmpty_iff] at h
      obtain ⟨⟨⟨⟨⟨⟨⟨h1, h2⟩, h3⟩, h4⟩, h5⟩, h6⟩, h7⟩, h8⟩ := h
      obtain ⟨o, e1, e2⟩ := fdIn_get X hfd
      have k := fdChk_ok X h2
      refine ⟨⟨o, fd, body, e1, e2, hb, k.code, h1, k.glob, k.bi, fun q hq => ?_, fun vals hl => bind_plain h5 k.dflt vals hl, noCells_ok h3, k.loc, k.gn, k.co, h4, k.kind⟩, h6, prefixOf_ok h7, ?_, k.nodup, k.cdup⟩
      · rw [hq] at h8
        simp only [Bool.and_eq_true, beq_iff_eq] at h8
        exact ⟨isRefV_eq h8.1, h8.2⟩
      · unfold plainPs at h5
        simp only [Bool.and_eq_true, decide_eq_true_eq] at h5
        exact h5.2
    · cases h
  · cases h
def genChk (K : Frag) (a : Addr) (P : List Stmt → Bool) : Bool := match fdIn K a with
  | some fd => match fd.body with
    | .stmts body => P body && fdChk K c_it fd && noCells fd && fd.scope.isGenerator && plainPs fd.params ["addr"]
    | _ => false
  | none => false
def hereChk (K : Frag) (a : Addr) (c : Cx) (params : List Str) (P : FuncData → List Stmt → Bool) : Bool := match fdIn K a with
  | some fd => match fd.body with
    | .stmts body => P fd body && fdChk K c fd && noCells fd && !fd.scope.isGenerator && c.code.isNone && c.ck.isEmpty && prefixOf params c.nm && decide params.Nodup
    | _ => false
  | none => false
theorem here_of {a : Addr} {c : Cx} {params : List Str} {P : FuncData → List Stmt → Bool} {Q : FuncData → List Stmt → Prop} (X : K.In B.b₀) (hPQ : ∀ fd body, P fd body = true → fd.defaults = .none → Q fd body) (h : hereChk K a c params P = true) : DefHere B a c params Q := by
  unfold hereChk at h
  split at h
  · rename_i fd hfd
    split at h
    · rename_i body hb
      simp only [Bool.and_eq_true, Bool.not_eq_true', List.isEmpty_iff, decide_eq_true_eq, Option.isNone_iff_eq_none] at h
      obtain ⟨⟨⟨⟨⟨⟨⟨h1, h2⟩, h3⟩, h4⟩, h5⟩, h6⟩, h7⟩, h8⟩ := h
      obtain ⟨o, e1, e2⟩ := fdIn_get X hfd
      have k := fdChk_ok X h2
      exact ⟨⟨o, fd, body, e1, e2, hb, k.code, hPQ fd body h1 k.dflt, k.glob, k.bi, noCells_ok h3, k.loc, k.gn, k.co, h4, k.kind⟩, h5, h6, prefixOf_ok h7, h8, k.nodup, k.cdup⟩
    · cases h
  · cases h
end
end Mine
namespace Mine
def yieldOf : Stmt → Option Expr
  | .Expr (.Yield (some y) _) _ => some y
  | _ => none
theorem yieldOf_eq {s : Stmt} {y : Expr} (h : yieldOf s = some y) : ∃ p q, s = .Expr (.Yield (some y) p) q := by
  unfold yieldOf at h
  split at h
  · cases h; exact ⟨_, _, rfl⟩
  · cases h
def yieldIs (m : ME) (s : Stmt) : Bool := match yieldOf s with
  | some y => isE c_it m y
  | none => false
theorem yieldIs_eq {m : ME} {s : Stmt} (h : yieldIs m s = true) : ∃ y p q, s = .Expr (.Yield (some y) p) q ∧ isE c_it m y = true := by
  unfold yieldIs at h
  split at h
  · rename_i y hy
    obtain ⟨p, q, e⟩ := yieldOf_eq hy
    exact ⟨y, p, q, e, h⟩
  · cases h
def ifOf : Stmt → Option (Expr × List Stmt × List Stmt)
  | .If t b o _ => some (t, b, o)
  | _ => none
theorem ifOf_eq {s : Stmt} {t : Expr} {b o : List Stmt} (h : ifOf s = some (t, b, o)) : ∃ p, s = .If t b o p := by
  unfold ifOf at h
  split at h
  · cases h; exact ⟨_, rfl⟩
  · cases h
def lbChk : List Stmt → Bool
  | [s] => match ifOf s with
    | some (e0, [sy, st2], [s2]) => isE c_it (.loc 2) e0 && yieldIs m_y1 sy && isS c_it (.asg 2 (.cst (.bool false))) st2 && (match ifOf s2 with
      | some (e2, [st3], [sy3]) => isE c_it m_e2 e2 && isS c_it (.asg 2 (.cst (.bool true))) st3 && yieldIs m_y3 sy3
      | _ => false)
    | _ => false
  | _ => false
theorem lbChk_ok {lb : List Stmt} (h : lbChk lb = true) : LBody lb := by
  unfold lbChk at h
  split at h
  · rename_i s
    split at h
    · rename_i e0 sy st2 s2 hs
      simp only [Bool.and_eq_true] at h
      obtain ⟨⟨⟨h1, h2⟩, h3⟩, h4⟩ := h
      split at h4
      · rename_i e2 st3 sy3 hs2
        simp only [Bool.and_eq_true] at h4
        obtain ⟨⟨g1, g2⟩, g3⟩ := h4
        obtain ⟨y1, yp1, ep1, rfl, q1⟩ := yieldIs_eq h2
        obtain ⟨y3, yp3, ep3, rfl, q3⟩ := yieldIs_eq g3
        obtain ⟨p, rfl⟩ := ifOf_eq hs
        obtain ⟨p2, rfl⟩ := ifOf_eq hs2
        exact ⟨e0, y1, yp1, ep1, st2, e2, st3, y3, yp3, ep3, p2, p, rfl, h1, q1, h3, g1, g2, q3⟩
      · cases h4
    · cases h
  · cases h
def forOf : Stmt → Option (Expr × Expr × List Stmt)
  | .For t i b [] _ => some (t, i, b)
  | _ => none
theorem forOf_eq {s : Stmt} {t i : Expr} {b : List Stmt} (h : forOf s = some (t, i, b)) : ∃ p, s = .For t i b [] p := by
  unfold forOf at h
  split at h
  · cases h; exact ⟨_, rfl⟩
  · cases h
def itChk : List Stmt → Bool
  | [s0, s1, sf, si] => isS c_it (.asg 1 (.cst (.int 0))) s0 && isS c_it (.asg 2 (.cst (.bool false))) s1 && (match forOf sf with
      | some (tg, it, lb) => tgtIs c_it.nm (.tup [1, 3]) tg && lbChk lb && (match plainCall it with
        | some (en, [ad]) => globIs c_it "enumerate" en && isE c_it (.loc 0) ad
        | _ => false)
      | none => false) && (match ifOf si with
      | some (e4, [sy], []) => isE c_it (.loc 2) e4 && yieldIs m_y5 sy
      | _ => false)
  | _ => false
theorem itChk_ok {body : List Stmt} (h : itChk body = true) : ItBody body := by
  unfold itChk at h
  split at h
  · rename_i s0 s1 sf si
    simp only [Bool.and_eq_true] at h
    obtain ⟨⟨⟨h1, h2⟩, h3⟩, h4⟩ := h
    split at h3
    · rename_i tg it lb hf
      simp only [Bool.and_eq_true] at h3
      obtain ⟨⟨g1, g2⟩, g3⟩ := h3
      split at g3
      · rename_i en ad hp
        simp only [Bool.and_eq_true] at g3
        split at h4
        · rename_i e4 sy hi
          simp only [Bool.and_eq_true] at h4
          obtain ⟨y5, yp5, ep5, rfl, q5⟩ := yieldIs_eq h4.2
          obtain ⟨p, rfl⟩ := forOf_eq hf
          obtain ⟨p2, rfl⟩ := ifOf_eq hi
          obtain ⟨cp, rfl⟩ := plainCall_eq hp
          exact ⟨s0, s1, tg, en, ad, cp, lb, p, e4, y5, yp5, ep5, p2, rfl, h1, h2, g1, g3.1, g3.2, lbChk_ok g2, h4.1, q5⟩
        · cases h4
      · cases g3
    · cases h3
  · cases h
def retOf : Stmt → Option Expr
  | .Return (some x) _ => some x
  | _ => none
theorem retOf_eq {s : Stmt} {x : Expr} (h : retOf s = some x) : ∃ p, s = .Return (some x) p := by
  unfold retOf at h
  split at h
  · cases h; exact ⟨_, rfl⟩
  · cases h
def escCall : Expr → Bool
  | .Call (.Attribute y m ap) [z] [] p => m == ("translate" : Str) && isE c_esc (.loc 0) y && globIs c_esc "_special_chars_map" z && notSuper y && ap.endLine == p.line
  | _ => false
def escChk : List Stmt → Bool
  | [s] => match ifOf s with
    | some (t, [sr], _) => isE c_esc (.call "isinstance" (.cons (.loc 0) (.cons (.glob "str") .nil))) t && (match retOf sr with
      | some x => escCall x
      | none => false)
    | _ => false
  | _ => false
theorem escChk_ok {body : List Stmt} (h : escChk body = true) : EscBody body := by
  unfold escChk at h
  split at h
  · rename_i s
    split at h
    · rename_i t sr els hs
      simp only [Bool.and_eq_true] at h
      obtain ⟨h1, h2⟩ := h
      split at h2
      · rename_i x hx
        unfold escCall at h2
        split at h2
        · rename_i y m ap z p
          simp only [Bool.and_eq_true, beq_iff_eq] at h2
          obtain ⟨⟨⟨⟨rfl, g1⟩, g2⟩, g3⟩, g4⟩ := h2
          obtain ⟨p2, rfl⟩ := retOf_eq hx
          obtain ⟨ip, rfl⟩ := ifOf_eq hs
          exact ⟨t, y, ap, z, p, p2, els, ip, rfl, h1, g1, g2, g3, by simpa using g4⟩
        · cases h2
      · cases h2
    · cases h
  · cases h
def objCall : Stmt → Bool
  | .Assign [t] x _ => nameIs c_tr.nm 1 t && (match plainCall x with
    | some (on, []) => globIs c_tr "object" on
    | _ => false)
  | _ => false
theorem objCall_eq {s : Stmt} (h : objCall s = true) : ∃ t on p pos, s = .Assign [t] (.Call on [] [] p) pos ∧ nameIs c_tr.nm 1 t = true ∧ globIs c_tr "object" on = true := by
  unfold objCall at h
  split at h
  · rename_i t x pos
    simp only [Bool.and_eq_true] at h
    obtain ⟨h1, h2⟩ := h
    split at h2
    · rename_i on hp
      obtain ⟨p, rfl⟩ := plainCall_eq hp
      exact ⟨t, on, p, pos, rfl, h1, h2⟩
    · cases h2
  · cases h
def trChk (fd : FuncData) : List Stmt → Bool
  | s :: rest => objCall s && isSs c_tr b_tr rest && plainPs fd.params ["pat"]
  | _ => false
theorem trChk_ok {fd : FuncData} {body : List Stmt} (h : trChk fd body = true) (hd : fd.defaults = .none) : TrP fd body := by
  unfold trChk at h
  split at h
  · rename_i s rest
    simp only [Bool.and_eq_true] at h
    obtain ⟨⟨h1, h2⟩, h3⟩ := h
    obtain ⟨t, on, p, pos, rfl, g1, g2⟩ := objCall_eq h1
    exact ⟨fun v => bind_plain h3 hd [v] rfl, t, on, p, pos, rest, rfl, g1, g2, h2⟩
  · cases h
def joinChk (fd : FuncData) (body : List Stmt) : Bool := isSs c_join b_join body && (match fd.params with
  | { posonlyargs := [], args := [⟨x, _, _⟩], vararg := some ⟨y, _, _⟩, kwonlyargs := [], kw_defaults := [], kwarg := none, defaults := [] } => x == ("a" : Str) && y == ("p" : Str)
  | _ => false)
theorem joinChk_ok {fd : FuncData} {body : List Stmt} (h : joinChk fd body = true) (hd : fd.defaults = .none) : JoinP fd body := by
  unfold joinChk at h
  simp only [Bool.and_eq_true] at h
  obtain ⟨h1, h2⟩ := h
  split at h2
  · rename_i x an ap y vn vp hp
    simp only [Bool.and_eq_true, beq_iff_eq] at h2
    obtain ⟨rfl, rfl⟩ := h2
    exact ⟨⟨an, ap, vn, vp, hp⟩, hd, h1⟩
  · cases h2
section
variable {K : Frag} {B : BW}
theorem genOk_of {a : Addr} (X : K.In B.b₀) (en : Gv B "enumerate" = some (.type "enumerate")) (h : genChk K a itChk = true) : GenOk B a := by
  unfold genChk at h
  split at h
  · rename_i fd hfd
    split at h
    · rename_i body hb
      simp only [Bool.and_eq_true] at h
      obtain ⟨⟨⟨⟨h1, h2⟩, h3⟩, h4⟩, h5⟩ := h
      obtain ⟨o, e1, e2⟩ := fdIn_get X hfd
      have k := fdChk_ok X h2
      exact ⟨⟨o, fd, body, e1, e2, hb, k.code, itChk_ok h1, k.glob, k.bi, fun v => bind_plain h5 k.dflt [v] rfl, noCells_ok h3, k.loc, k.gn, k.co, h4, k.kind⟩, en⟩
    · cases h
  · cases h
def escDefChk (K : Frag) (a : Addr) : Bool := match fdIn K a with
  | some fd => match fd.body with
    | .stmts body => escChk body && fdChk K c_esc fd && noCells fd && !fd.scope.isGenerator && plainPs fd.params ["pattern"]
    | _ => false
  | none => false
theorem escOk_of {a : Addr} (X : K.In B.b₀) (map : ∃ f, B.b₀.MapOf (intKind B.prog B.w) 52 f ∧ ∀ c : Nat, if isSpecial c = true then ∃ t, f c = some (.str ⟨#[92, c]⟩ t) else f c = none) (gv : Gv B "_special_chars_map" = some (.ref 52)) (h : escDefChk K a = true) : EscOk B a := by
  unfold escDefChk at h
  split at h
  · rename_i fd hfd
    split at h
    · rename_i body hb
      simp only [Bool.and_eq_true, Bool.not_eq_true'] at h
      obtain ⟨⟨⟨⟨h1, h2⟩, h3⟩, h4⟩, h5⟩ := h
      obtain ⟨o, e1, e2⟩ := fdIn_get X hfd
      have k := fdChk_ok X h2
      exact ⟨⟨o, fd, body, e1, e2, hb, k.code, escChk_ok h1, k.glob, k.bi, fun v => bind_plain h5 k.dflt [v] rfl, noCells_ok h3, k.loc, k.gn, k.co, h4, k.kind⟩, map, gv⟩
    · cases h
  · cases h
def lawChk (K : Frag) (a : Addr) (c : Cx) (D : Df) (x₀ : Str) : Bool := match fdIn K a with
  | some fd => match fd.body with
    | .stmts body => isSs c D.body body && fdChk K c fd && !fd.scope.isGenerator && plainPs fd.params [x₀] && fd.closure.isEmpty && c.code.isNone && c.nm[0]? == some x₀ &&
      c.ck.all (fun x => fd.scope.names.lookup x == some .cell && c.cn.contains x)
    | _ => false
  | none => false
theorem cells_some : ∀ {names : List (Str × NameKind)} {x : Str} {n : Nat} {acc : List (Str × Addr)}, (names.lookup x = some .cell ∨ (acc.lookup x).isSome = true) → ((cellsFrom n names acc).lookup x).isSome = true
  | [], x, n, acc, h => by
    unfold cellsFrom
    rcases h with h | h
    · cases h
    · exact h
  | (m, k) :: r, x, n, acc, h => by
    unfold cellsFrom
    split
    · refine cells_some ?_
      by_cases hx : x = m
      · subst hx; right; rw [List.lookup_cons]; simp
      · have hb : (x == m) = false := beq_false_of_ne hx
        rcases h with h | h
        · left; rw [List.lookup_cons, hb] at h; exact h
        · right; rw [List.lookup_cons, hb]; exact h
    · rename_i hk
      refine cells_some ?_
      rcases h with h | h
      · rw [List.lookup_cons] at h
        split at h
        · cases h; exact absurd rfl hk
        · exact .inl h
      · exact .inr h
theorem lawOk_of {a : Addr} {c : Cx} {D : Df} {x₀ : Str} (X : K.In B.b₀) (h : lawChk K a c D x₀ = true) : LawHere B a c D x₀ := by
  unfold lawChk at h
  split at h
  · rename_i fd hfd
    split at h
    · rename_i body hb
      simp only [Bool.and_eq_true, Bool.not_eq_true', List.isEmpty_iff, Option.isNone_iff_eq_none, beq_iff_eq, List.all_eq_true, List.contains_iff_mem] at h
      obtain ⟨⟨⟨⟨⟨⟨⟨h1, h2⟩, h3⟩, h4⟩, h5⟩, h6⟩, h7⟩, h8⟩ := h
      obtain ⟨o, e1, e2⟩ := fdIn_get X hfd
      have k := fdChk_ok X h2
      refine ⟨⟨o, fd, body, e1, e2, hb, k.code, h1, k.glob, k.bi, h5, fun v => bind_plain h4 k.dflt [v] rfl, k.loc, k.gn, fun x hx => ⟨(h8 x hx).1, fun n => cells_some (.inl (h8 x hx).1)⟩, k.co, h3, k.kind⟩, h6, fun x hx => List.getElem?_of_mem (h8 x hx).2, k.nodup, k.cdup, h7⟩
    · cases h
  · cases h
end
end Mine
namespace Mine
set_option maxHeartbeats 0
open_top hd for PySem.Challenge.rw_ik0131_01
end Mine
namespace Mine
section
variable (p : Params)
theorem at_translate : nsIn (hd.heap_39 p) mainGlobals "translate" = some (some (.ref 50)) := by kernel_rfl
theorem at__translate : nsIn (hd.heap_39 p) mainGlobals "_translate" = some (some (.ref 69)) := by kernel_rfl
theorem at_jtp : nsIn (hd.heap_39 p) mainGlobals "_join_translated_parts" = some (some (.ref 76)) := by kernel_rfl
theorem at_iter : nsIn (hd.heap_39 p) mainGlobals "_iter_escaped_chars" = some (some (.ref 83)) := by kernel_rfl
theorem at_sqr : nsIn (hd.heap_39 p) mainGlobals "_strip_quoted_realnames" = some (some (.ref 90)) := by kernel_rfl
theorem at_cp : nsIn (hd.heap_39 p) mainGlobals "_check_parenthesis" = some (some (.ref 97)) := by kernel_rfl
theorem at_ppv : nsIn (hd.heap_39 p) mainGlobals "_pre_parse_validation" = some (some (.ref 104)) := by kernel_rfl
theorem at_fspath : nsIn (hd.heap_39 p) mainGlobals "fspath" = some (some (.ref 177)) := by kernel_rfl
theorem at_sep : nsIn (hd.heap_39 p) mainGlobals "_get_sep" = some (some (.ref 191)) := by kernel_rfl
theorem at_join : nsIn (hd.heap_39 p) mainGlobals "join" = some (some (.ref 198)) := by kernel_rfl
theorem at_split : nsIn (hd.heap_39 p) mainGlobals "split" = some (some (.ref 205)) := by kernel_rfl
theorem at_splitroot : nsIn (hd.heap_39 p) mainGlobals "splitroot" = some (some (.ref 212)) := by kernel_rfl
theorem at_normpath : nsIn (hd.heap_39 p) mainGlobals "normpath" = some (some (.ref 219)) := by kernel_rfl
theorem at_item : nsIn (hd.heap_39 p) mainGlobals "_law_item" = some (some (.ref 226)) := by kernel_rfl
theorem at_names : nsIn (hd.heap_39 p) mainGlobals "_law_names" = some (some (.ref 233)) := by kernel_rfl
theorem at_read : nsIn (hd.heap_39 p) mainGlobals "_law_read" = some (some (.ref 240)) := by kernel_rfl
theorem at_nested : nsIn (hd.heap_39 p) mainGlobals "_law_nested" = some (some (.ref 247)) := by kernel_rfl
theorem at_law : nsIn (hd.heap_39 p) mainGlobals "law" = some (some (.ref 252)) := by kernel_rfl
theorem at_escape : nsIn (hd.heap_39 p) mainGlobals "escape" = some (some (.ref 62)) := by kernel_rfl
theorem at_scm : nsIn (hd.heap_39 p) mainGlobals "_special_chars_map" = some (some (.ref 52)) := by kernel_rfl
theorem at_twin : nsIn (hd.heap_39 p) mainGlobals "_twin_re_1" = some (some (.ref 43)) := by kernel_rfl
theorem no_names : (["len", "range", "list", "chr", "isinstance", "type", "issubclass", "str", "bytes", "object", "enumerate"] : List Str).all (fun x => match nsIn (hd.heap_39 p) mainGlobals x with | some none => true | _ => false) = true := by kernel_rfl
theorem ck__translate : defChk (hd.heap_39 p) 69 c_translate d_translate ["pat", "STAR", "QUESTION_MARK"] = true := by kernel_rfl
theorem ck_jtp : defChk (hd.heap_39 p) 76 c_join_translated_parts d_join_translated_parts ["inp", "STAR"] = true := by kernel_rfl
theorem ck_sqr : defChk (hd.heap_39 p) 90 c_strip_quoted_realnames d_strip_quoted_realnames ["addr"] = true := by kernel_rfl
theorem ck_cp : defChk (hd.heap_39 p) 97 c_check_parenthesis d_check_parenthesis ["addr"] = true := by kernel_rfl
theorem ck_ppv : defChk (hd.heap_39 p) 104 c_pre_parse_validation d_pre_parse_validation ["email_header_fields"] = true := by kernel_rfl
theorem ck_fspath : defChk (hd.heap_39 p) 177 c_fspath d_fspath ["path"] = true := by kernel_rfl
theorem ck_sep : defChk (hd.heap_39 p) 191 c_get_sep d_get_sep ["path"] = true := by kernel_rfl
theorem ck_split : defChk (hd.heap_39 p) 205 c_split d_split ["p"] = true := by kernel_rfl
theorem ck_splitroot : defChk (hd.heap_39 p) 212 c_splitroot d_splitroot ["p"] = true := by kernel_rfl
theorem ck_normpath : defChk (hd.heap_39 p) 219 c_normpath d_normpath ["path"] = true := by kernel_rfl
theorem ck_item : defChk (hd.heap_39 p) 226 c_law_item d_law_item ["n", "behind"] = true := by kernel_rfl
theorem ck_names : defChk (hd.heap_39 p) 233 c_law_names d_law_names ["numbers"] = true := by kernel_rfl
theorem ck_read : defChk (hd.heap_39 p) 240 c_law_read d_law_read ["piece"] = true := by kernel_rfl
theorem ck_nested : defChk (hd.heap_39 p) 247 c_law_nested d_law_nested ["marks", "last", "begin", "end"] = true := by kernel_rfl
theorem ck_iter : genChk (hd.heap_39 p) 83 itChk = true := by kernel_rfl
theorem ck_tr : hereChk (hd.heap_39 p) 50 c_tr ["pat"] trChk = true := by kernel_rfl
theorem ck_join : hereChk (hd.heap_39 p) 198 c_join ["a", "p"] joinChk = true := by kernel_rfl
theorem ck_esc : escDefChk (hd.heap_39 p) 62 = true := by kernel_rfl
theorem ck_law : lawChk (hd.heap_39 p) 252 c_law d_law "script" = true := by kernel_rfl
theorem ck_noTabs : noTabs (hd.heap_39 p) = true := by kernel_rfl
end
end Mine
namespace Mine
def dictIn (K : Frag) (a : Addr) : Option (Array DictEntry) := match K.lookup a with
  | some ⟨cls, none, .dict es _, sl⟩ => if cls = .type "dict" ∧ sl = #[] then some es else none
  | _ => none
def rowOk (e : DictEntry) : Bool := match e.key, e.val with
  | .int i _, .str x _ => e.hash == hashInt i && decide (0 ≤ i) && x.cps == #[92, i.toNat]
  | _, _ => false
def keyOf (e : DictEntry) : Int := match e.key with
  | .int i _ => i
  | _ => -1
def specials : List Nat := [40, 41, 91, 93, 123, 125, 63, 42, 43, 45, 124, 94, 36, 92, 46, 38, 126, 35, 32, 9, 10, 13, 11, 12]
def scmChk (K : Frag) : Bool := match dictIn K 52 with
  | some es => es.toList.all rowOk && es.toList.map keyOf == specials.map Int.ofNat
  | none => false
theorem ck_scm (p : Params) : scmChk (hd.heap_39 p) = true := by kernel_rfl
variable {K : Frag} {B : BW}
theorem find_rows : ∀ {l : List DictEntry}, l.all rowOk = true → ∀ c : Nat, (((c : Int) ∈ l.map keyOf) → ∃ t, (l.find? fun e => Value.isInt (c : Int) e.key).map (·.val) = some (.str ⟨#[92, c]⟩ t)) ∧ (((c : Int) ∉ l.map keyOf) → (l.find? fun e => Value.isInt (c : Int) e.key).map (·.val) = none)
  | [], _, c => ⟨fun h => (nomatch h), fun _ => rfl⟩
  | e :: l, h, c => by
    rw [List.all_cons, Bool.and_eq_true] at h
    have ih := find_rows h.2 c
    obtain ⟨hs, key, val⟩ := e
    have h1 := h.1
    unfold rowOk at h1
    split at h1
    · rename_i i t x u hk hv
      dsimp only at hk hv
      subst hk; subst hv
      simp only [Bool.and_eq_true, beq_iff_eq, decide_eq_true_eq] at h1
      rw [List.find?_cons, List.map_cons]
      have hi : Value.isInt (c : Int) (.int i t) = decide (i = (c : Int)) := by
        show (i == (c : Int)) = _
        exact Bool.eq_iff_iff.mpr (by simp)
      by_cases hc : i = (c : Int)
      · subst hc
        rw [hi, decide_eq_true rfl]
        refine ⟨fun _ => ⟨u, ?_⟩, fun q => absurd (List.mem_cons_self) q⟩
        have : x = ⟨#[92, c]⟩ := by
          obtain ⟨xc⟩ := x
          have := h1.2
          simp at this
          rw [this]
        rw [this]; rfl
      · rw [hi, decide_eq_false hc]
        refine ⟨fun q => ih.1 ?_, fun q => ih.2 fun z => q (List.mem_cons_of_mem _ z)⟩
        rcases List.mem_cons.mp q with z | z
        · exact absurd z.symm hc
        · exact z
    · cases h1
theorem scm_map (X : K.In B.b₀) (h : scmChk K = true) : ∃ f, B.b₀.MapOf (intKind B.prog B.w) 52 f ∧ ∀ c : Nat, if isSpecial c = true then ∃ t, f c = some (.str ⟨#[92, c]⟩ t) else f c = none := by
  unfold scmChk at h
  split at h
  · rename_i es hes
    simp only [Bool.and_eq_true, beq_iff_eq] at h
    unfold dictIn at hes
    split at hes
    · rename_i cls es' n sl e
      split at hes
      · rename_i hc
        cases hes
        obtain ⟨rfl, rfl⟩ := hc
        refine ⟨fun k => findBy (intKind B.prog B.w).is es k, ⟨_, es, n, X _ _ e, ⟨rfl, rfl, rfl⟩, rfl, ?_, fun _ => rfl⟩, fun c => ?_⟩
        · intro e' he'
          have := List.all_eq_true.mp h.1 e' (by simpa using he')
          obtain ⟨hs, key, val⟩ := e'
          unfold rowOk at this
          split at this
          · rename_i i t x u hk hv
            dsimp only at hk hv
            subst hk; subst hv
            simp only [Bool.and_eq_true, beq_iff_eq, decide_eq_true_eq] at this
            exact ⟨i, by show (i == i) = true; simp, this.1.1⟩
          · cases this
        · have hf : findBy (intKind B.prog B.w).is es (c : Int) = (es.toList.find? fun e => Value.isInt (c : Int) e.key).map (·.val) := by
            unfold findBy
            rw [← Array.find?_toList]; rfl
          have hr := find_rows h.1 c
          rw [h.2] at hr
          have hm : ((c : Int) ∈ specials.map Int.ofNat) ↔ isSpecial c = true := by
            rw [List.mem_map]
            constructor
            · rintro ⟨n, hn, e⟩
              have : n = c := Int.ofNat.inj e
              subst this
              exact List.contains_iff_mem.mpr hn
            · intro q
              exact ⟨c, List.contains_iff_mem.mp q, rfl⟩
          split
          · rename_i hs
            obtain ⟨t, ht⟩ := hr.1 (hm.mpr hs)
            exact ⟨t, hf.trans ht⟩
          · rename_i hs
            exact hf.trans (hr.2 fun q => hs (hm.mp q))
      · cases hes
    · cases hes
  · cases h
end Mine
namespace Mine
variable {B : BW} {Ω : Om} {d e : Nat}
theorem OmGen.mono (h : OmGen B d Ω) (hd : d ≤ e) : OmGen B e Ω where
  ok := ⟨fun x F hx => let ⟨v, h1, h2, h3⟩ := h.ok.fn x F hx; ⟨v, h1, h2, h3.mono hd⟩, fun x F hx => let ⟨a, o, fd, h1, h2, h3, h4⟩ := h.ok.fs x F hx; ⟨a, o, fd, h1, h2, h3, h4.mono hd⟩, h.ok.gl⟩
  gen := fun x F hx => let ⟨v, h1, h2, h3, h4⟩ := h.gen x F hx; ⟨v, h1, h2, by omega, fun A s S args vals xs hA => h4 A s S args vals xs (hA.mono hd)⟩
  list := h.list
  orc := fun k c env S as V K H s A j x pv r E hE hA => h.orc k c env S as V K H s A j x pv r E hE (hA.mono hd)
theorem OmGen.add (h : OmGen B d Ω) {x : Str} {v : Value} {F : List PV → Option PV} (h1 : Gv B x = some v) (h2 : Callable B v) (h3 : FnSpec B d v F) : OmGen B d (Ω.add x F) where
  ok := ⟨(fun y G hy => by
    replace hy : (if y = x then some F else Ω.fn y) = some G := hy
    split at hy
    · rename_i e; subst e; cases hy; exact ⟨v, h1, h2, h3⟩
    · exact h.ok.fn y G hy), h.ok.fs, h.ok.gl⟩
  gen := h.gen
  list := h.list
  orc := h.orc
theorem OmGen.addS (h : OmGen B d Ω) {x : Str} {F : List PV → Option PV} (h1 : ∃ a o fd, Gv B x = some (.ref a) ∧ B.b₀.get? a = some o ∧ o.data = .func fd ∧ FnSpec B d (.ref a) F) : OmGen B d (Ω.addS x F) where
  ok := ⟨h.ok.fn, (fun y G hy => by
    replace hy : (if y = x then some F else Ω.fs y) = some G := hy
    split at hy
    · rename_i e; subst e; cases hy; exact h1
    · exact h.ok.fs y G hy), h.ok.gl⟩
  gen := h.gen
  list := h.list
  orc := h.orc
def omN : Om := ⟨fun _ => none, fun _ => none, fun _ => none, fun _ _ => none, fun _ => none⟩
theorem omN_ok (hl : Gv B "list" = some (.type "list")) : OmGen B d omN where
  ok := ⟨fun _ _ h => (by cases h), fun _ _ h => (by cases h), fun _ _ h => (by cases h)⟩
  gen := fun _ _ h => by cases h
  list := hl
  orc := fun k c env S as V K H s A j x pv r E _ _ _ _ _ h _ => by cases h
structure HdOk (B : BW) (K : Frag) : Prop where
  X : K.In B.b₀
  orc : OrcB B
  mgv : ∀ x a, nsIn K mainGlobals x = some (some (.ref a)) → Gv B x = some (.ref a)
  len : Gv B "len" = some (.builtin "len")
  range : Gv B "range" = some (.type "range")
  list : Gv B "list" = some (.type "list")
  chr : Gv B "chr" = some (.builtin "chr")
  type : Gv B "type" = some (.type "type")
  issub : Gv B "issubclass" = some (.builtin "issubclass")
  isinst : Gv B "isinstance" = some (.builtin "isinstance")
  str : Gv B "str" = some (.type "str")
  bytes : Gv B "bytes" = some (.type "bytes")
  object : Gv B "object" = some (.type "object")
  enum : Gv B "enumerate" = some (.type "enumerate")
section
variable {p : Params}
theorem DefOk.callable {a : Addr} {c : Cx} {D : Df} {ps : List Str} (h : DefOk B a c D ps) : Callable B (.ref a) := by
  obtain ⟨o, fd, body, h1, h2, _⟩ := h.here
  exact .inr (.inr ⟨a, o, fd, rfl, h1, h2⟩)
theorem om0_ok (O : B.Ok) (H : HdOk B (hd.heap_39 p)) : OmGen B 5 om0 where
  ok := {
    fn := fun x F h => by
      have h : (if x = ("len" : Str) then some fLen else if x = ("range" : Str) then some fRange else if x = ("list" : Str) then some fList else if x = ("chr" : Str) then some fChr
        else if x = ("type" : Str) then some fType else if x = ("issubclass" : Str) then some fIsSub else if x = ("isinstance" : Str) then some fIsInst else if x = ("escape" : Str) then some fEscape else none) = some F := h
      split at h
      · rename_i e; subst e; cases h; exact ⟨_, H.len, .inl ⟨_, rfl⟩, len_spec O⟩
      split at h
      · rename_i e; subst e; cases h; exact ⟨_, H.range, .inr (.inl ⟨_, rfl⟩), range_spec O⟩
      split at h
      · rename_i e; subst e; cases h; exact ⟨_, H.list, .inr (.inl ⟨_, rfl⟩), list_spec O⟩
      split at h
      · rename_i e; subst e; cases h; exact ⟨_, H.chr, .inl ⟨_, rfl⟩, chr_spec O⟩
      split at h
      · rename_i e; subst e; cases h; exact ⟨_, H.type, .inr (.inl ⟨_, rfl⟩), type_spec O⟩
      split at h
      · rename_i e; subst e; cases h; exact ⟨_, H.issub, .inl ⟨_, rfl⟩, issub_spec O⟩
      split at h
      · rename_i e; subst e; cases h; exact ⟨_, H.isinst, .inl ⟨_, rfl⟩, isinst_spec O⟩
      split at h
      · rename_i e; subst e; cases h
        have E : EscOk B 62 := escOk_of H.X (scm_map H.X (ck_scm p)) (H.mgv _ _ (at_scm p)) (ck_esc p)
        obtain ⟨o, fd, body, h1, h2, _⟩ := E.here
        exact ⟨_, H.mgv _ _ (at_escape p), .inr (.inr ⟨_, o, fd, rfl, h1, h2⟩), (esc_spec (d := 4) O H.isinst H.str E)⟩
      · cases h
    fs := fun x F h => by cases h
    gl := fun x pv h => by
      have h : (if x = ("str" : Str) then some (PV.val (.type "str")) else if x = ("bytes" : Str) then some (PV.val (.type "bytes")) else none) = some pv := h
      split at h
      · rename_i e; subst e; cases h; exact ⟨_, rfl, H.str⟩
      split at h
      · rename_i e; subst e; cases h; exact ⟨_, rfl, H.bytes⟩
      · cases h }
  gen := fun x F h => by
    have h : (if x = ("_iter_escaped_chars" : Str) then some itF else none) = some F := h
    split at h
    · rename_i e; subst e; cases h
      have G : GenOk B 83 := genOk_of H.X H.enum (ck_iter p)
      obtain ⟨o, fd, body, h1, h2, _⟩ := G.here
      exact ⟨_, H.mgv _ _ (at_iter p), .inr (.inr ⟨_, o, fd, rfl, h1, h2⟩), Nat.le_refl _, gen_spec O (omN_ok H.list) G⟩
    · cases h
  list := H.list
  orc := fun k c env S as V K Hh s A j x pv r E hE hA F hx hv ho hf => by
    have ho : (if k = 0 then fSub pv else none) = some r := ho
    split at ho
    · exact orc_sound O H.orc (by omega) c env S as V K Hh s A j x pv r E hE hA F hx hv ho
    · cases ho
theorem om1_ok (O : B.Ok) (H : HdOk B (hd.heap_39 p)) : OmGen B 6 om1 := by
  have h0 := om0_ok O H
  have d1 := defOk_of H.X (ck_fspath p)
  have d2 := defOk_of H.X (ck_sep p)
  have d3 := defOk_of H.X (ck_item p)
  have d4 := defOk_of H.X (ck_nested p)
  have d5 := defOk_of H.X (ck_sqr p)
  exact (((((h0.mono (by omega)).add (H.mgv _ _ (at_fspath p)) d1.callable (def_spec O h0 d1)).add (H.mgv _ _ (at_sep p)) d2.callable (def_spec O h0 d2)).add (H.mgv _ _ (at_item p)) d3.callable (def_spec O h0 d3)).add (H.mgv _ _ (at_nested p)) d4.callable (def_spec O h0 d4)).add (H.mgv _ _ (at_sqr p)) d5.callable (def_spec O h0 d5)
theorem om2_ok (O : B.Ok) (H : HdOk B (hd.heap_39 p)) : OmGen B 7 om2 := by
  have h1 := om1_ok O H
  have d1 := defOk_of H.X (ck_names p)
  have d2 := defOk_of H.X (ck_read p)
  have d3 := defOk_of H.X (ck_cp p)
  have d4 := defOk_of H.X (ck_split p)
  have d5 := defOk_of H.X (ck_splitroot p)
  have d6 := defOk_of H.X (ck__translate p)
  have d7 := defOk_of H.X (ck_jtp p)
  have j : DefHere B 198 c_join ["a", "p"] JoinP := here_of H.X (fun fd body h1 h2 => joinChk_ok h1 h2) (ck_join p)
  obtain ⟨o, fd, body, j1, j2, _⟩ := j.here
  exact ((((((((h1.mono (by omega)).add (H.mgv _ _ (at_names p)) d1.callable (def_spec O h1 d1)).add (H.mgv _ _ (at_read p)) d2.callable (def_spec O h1 d2)).add (H.mgv _ _ (at_cp p)) d3.callable (def_spec O h1 d3)).add (H.mgv _ _ (at_split p)) d4.callable (def_spec O h1 d4)).add (H.mgv _ _ (at_splitroot p)) d5.callable (def_spec O h1 d5)).add (H.mgv _ _ (at__translate p)) d6.callable (def_spec O h1 d6)).add (H.mgv _ _ (at_jtp p)) d7.callable (def_spec O h1 d7)).addS
    ⟨198, o, fd, H.mgv _ _ (at_join p), j1, j2, (join_spec O h1 j).fn⟩
theorem om3_ok (O : B.Ok) (H : HdOk B (hd.heap_39 p)) {F : List PV → Option PV} (hF : TrSpec F) : OmGen B 8 (om3 F) := by
  have h2 := om2_ok O H
  have d1 := defOk_of H.X (ck_ppv p)
  have d2 := defOk_of H.X (ck_normpath p)
  have t : DefHere B 50 c_tr ["pat"] TrP := here_of H.X (fun fd body h1 h2 => trChk_ok h1 h2) (ck_tr p)
  obtain ⟨o, fd, body, t1, t2, _⟩ := t.here
  exact (((h2.mono (by omega)).add (H.mgv _ _ (at_ppv p)) d1.callable (def_spec O h2 d1)).add (H.mgv _ _ (at_normpath p)) d2.callable (def_spec O h2 d2)).add (H.mgv _ _ (at_translate p)) (.inr (.inr ⟨_, o, fd, rfl, t1, t2⟩)) (translate_spec O h2 H.object t hF).fn
end
end Mine
namespace Mine
set_option maxHeartbeats 1000000
def PlainLaw : Prop := ∀ ns : List Int, ns.length ≤ 63 → ∃ F, TrSpec F ∧ fLaw F [.lst (ns.map .int)] = some (.bool true)
theorem ints_list {h : Heap} {vs : List Value} {ns : List Int} (hI : IntsAre vs ns) : VRs h [] [] (ns.map .int) vs := by
  induction hI with
  | nil => exact rfl
  | cons i t _ ih => exact ⟨_, _, rfl, ⟨t, rfl⟩, ih⟩
theorem no_len (p : Params) : nsIn (hd.heap_39 p) mainGlobals "len" = some none := by kernel_rfl
theorem boot_len : bootBuiltins "len" = some (.builtin "len") := by kernel_rfl
theorem no_range (p : Params) : nsIn (hd.heap_39 p) mainGlobals "range" = some none := by kernel_rfl
theorem boot_range : bootBuiltins "range" = some (.type "range") := by kernel_rfl
theorem no_list (p : Params) : nsIn (hd.heap_39 p) mainGlobals "list" = some none := by kernel_rfl
theorem boot_list : bootBuiltins "list" = some (.type "list") := by kernel_rfl
theorem no_chr (p : Params) : nsIn (hd.heap_39 p) mainGlobals "chr" = some none := by kernel_rfl
theorem boot_chr : bootBuiltins "chr" = some (.builtin "chr") := by kernel_rfl
theorem no_type (p : Params) : nsIn (hd.heap_39 p) mainGlobals "type" = some none := by kernel_rfl
theorem boot_type : bootBuiltins "type" = some (.type "type") := by kernel_rfl
theorem no_issubclass (p : Params) : nsIn (hd.heap_39 p) mainGlobals "issubclass" = some none := by kernel_rfl
theorem boot_issubclass : bootBuiltins "issubclass" = some (.builtin "issubclass") := by kernel_rfl
theorem no_isinstance (p : Params) : nsIn (hd.heap_39 p) mainGlobals "isinstance" = some none := by kernel_rfl
theorem boot_isinstance : bootBuiltins "isinstance" = some (.builtin "isinstance") := by kernel_rfl
theorem no_str (p : Params) : nsIn (hd.heap_39 p) mainGlobals "str" = some none := by kernel_rfl
theorem boot_str : bootBuiltins "str" = some (.type "str") := by kernel_rfl
theorem no_bytes (p : Params) : nsIn (hd.heap_39 p) mainGlobals "bytes" = some none := by kernel_rfl
theorem boot_bytes : bootBuiltins "bytes" = some (.type "bytes") := by kernel_rfl
theorem no_object (p : Params) : nsIn (hd.heap_39 p) mainGlobals "object" = some none := by kernel_rfl
theorem boot_object : bootBuiltins "object" = some (.type "object") := by kernel_rfl
theorem no_enumerate (p : Params) : nsIn (hd.heap_39 p) mainGlobals "enumerate" = some none := by kernel_rfl
theorem boot_enumerate : bootBuiltins "enumerate" = some (.type "enumerate") := by kernel_rfl
def patChk (K : Frag) : Bool := match K.lookup 43, K.lookup 42 with
  | some ⟨c, none, .fields vs, _⟩, some ⟨_, _, .seq us _, _⟩ => decide (c = .type "re.Pattern") && (match vs.toList with
    | [_, _, a, b, c, d, e] => decide (a = rawInt 1) && decide (b = .none) && decide (c = .none) && decide (d = .ref 42) && decide (e = rawInt 0)
    | _ => false) && (us.map Builtin.Re.reRawOf).map (·.toNat) == reCode
  | _, _ => false
theorem ck_pat (p : Params) : patChk (hd.heap_39 p) = true := by kernel_rfl
theorem pat_of {K : Frag} {h : Heap} (X : K.In h) (hc : patChk K = true) : PatAt h 43 42 := by
  unfold patChk at hc
  split at hc
  · rename_i c vs sl c' dd us n sl' e1 e2
    simp only [Bool.and_eq_true, decide_eq_true_eq, beq_iff_eq] at hc
    obtain ⟨⟨h1, h2⟩, h3⟩ := hc
    split at h2
    · rename_i pv fl a b c d e hv
      simp only [Bool.and_eq_true, decide_eq_true_eq] at h2
      obtain ⟨⟨⟨⟨rfl, rfl⟩, rfl⟩, rfl⟩, rfl⟩ := h2
      refine ⟨⟨_, pv, fl, X _ _ e1, h1, rfl, ?_⟩, ⟨_, us, n, X _ _ e2, rfl, h3⟩⟩
      show Data.fields vs = _
      rw [show vs = #[pv, fl, rawInt 1, .none, .none, .ref 42, rawInt 0] from Array.ext' hv]
    · cases h2
  · cases hc
theorem tb_keep (h h' : Heap) (t : TbOk h) (k : ∀ b o, h.get? b = some o → Pr o → h'.get? b = some o) : TbOk h' := by
  obtain ⟨⟨o, vs, file, tf, flags, tg, inF, text, tt, e1, e2, e3, r⟩, ps, e4, e5⟩ := t
  refine ⟨⟨o, vs, file, tf, flags, tg, inF, text, tt, k _ _ e1 ⟨.inl e2, vs, e3⟩, e2, e3, r⟩, ps, k _ _ e4 ⟨.inr rfl, ps, rfl⟩, ?_⟩
  rcases e5 with e5 | ⟨c', e5, o', vs', t', g1, g2, g3, g4⟩
  · exact .inl e5
  · exact .inr ⟨c', e5, o', vs', t', k _ _ g1 ⟨.inl g2, vs', g3⟩, g2, g3, g4⟩
theorem fin_core (hlaw : PlainLaw) {w : World} {s₁ : Shared} {mg mb : Str → Option Value} {q : Program} {loose : List Str} {mean : ExcName → Option Value} (KX : (hd.heap_39 w.params).In s₁.heap) (hT9 : TabsAt [(68, 64)] s₁.heap) (T : Top q loose mean mg mb s₁.heap)
    (hg : s₁.gens = #[]) {l : Addr} {vs : List Value} {ns : List Int} (hL : s₁.heap.IsList l vs.toArray) (hI : IntsAre vs ns) (hn : ns.length ≤ 63) :
    codeAny (model PySem.Challenge.rw_ik0131_01.row.prog w) callerA (.call (.ref 252) ⟨[.ref l], []⟩) (fun res s' => res = .ok (.ret (.bool true)) ∧ (∀ b o, (ghostOf s₁.heap [(68, 64)]).get? b = some o → s'.heap.get? b = some o) ∧ TbOk s'.heap ∧ AllBare s'.gens ∧ s'.os = s₁.os) s₁ := by
  obtain ⟨F, hF, hrun⟩ := hlaw ns hn
  have tab := hT9 (68, 64) (List.mem_singleton.mpr rfl)
  have tb₁ : TbOk s₁.heap := ⟨tab.1, #[], tab.2, .inl rfl⟩
  have GT := ghost_top hT9 T
  let B : BW := { prog := PySem.Challenge.rw_ik0131_01.row.prog, w := w, b₀ := ghostOf s₁.heap [(68, 64)], T := 64, Tb := TbOk, mg := mg, mb := mb, os₀ := s₁.os }
  have O : B.Ok := { g := GT.g, b := GT.b, lim := GT.nolimit, Tb_keep := tb_keep, Tb_T := fun h t => (let ⟨_, ps, e, _⟩ := t; ⟨_, e, ⟨.inr rfl, ps, rfl⟩, rfl⟩) }
  have X : (hd.heap_39 w.params).In B.b₀ := ghost_K hT9 KX (ck_noTabs w.params)
  have gv : ∀ x a, nsIn (hd.heap_39 w.params) mainGlobals x = some (some (.ref a)) → Gv B x = some (.ref a) := fun x a h => by
    show (mg x).or (mb x) = _
    rw [mg_of KX T.g h]; rfl
  have bi : ∀ (x : Str) v, nsIn (hd.heap_39 w.params) mainGlobals x = some none → bootBuiltins x = some v → x ≠ "__name__" → Gv B x = some v := fun x v h1 h2 h3 => by
    show (mg x).or (mb x) = _
    rw [mg_none_of KX T.g h1, T.builtins x h3, h2]; rfl
  have hid : B.b₀.get? 64 = none := hideAll_none _ (List.mem_singleton.mpr rfl)
  have hbm : ∃ bm ob, B.mg "__builtins__" = some (.ref bm) ∧ bm ≠ builtinsNs ∧ bm ≠ mainGlobals ∧ B.b₀.get? bm = some ob ∧ ob.cls = .type "module" ∧ ob.dict = some builtinsNs ∧ ob.data = .plain := by
    obtain ⟨bm, ob, h1, h2, h3, h4, h5, h6⟩ := GT.bmain
    refine ⟨bm, ob, h1, h2, ?_, h3, h4, h5, h6⟩
    rintro rfl
    obtain ⟨o, es, ep, e, hd', _⟩ := GT.g
    rw [h3] at e; cases e
    rw [h6] at hd'; cases hd'
  have H : HdOk B (hd.heap_39 w.params) :=
    { X := X
      orc := ⟨gv _ _ (at_twin w.params), pat_of X (ck_pat w.params), rfl, rfl, hid, hbm⟩
      mgv := gv
      len := bi "len" _ (no_len w.params) boot_len (by decide), range := bi "range" _ (no_range w.params) boot_range (by decide), list := bi "list" _ (no_list w.params) boot_list (by decide), chr := bi "chr" _ (no_chr w.params) boot_chr (by decide), type := bi "type" _ (no_type w.params) boot_type (by decide), issub := bi "issubclass" _ (no_issubclass w.params) boot_issubclass (by decide), isinst := bi "isinstance" _ (no_isinstance w.params) boot_isinstance (by decide), str := bi "str" _ (no_str w.params) boot_str (by decide), bytes := bi "bytes" _ (no_bytes w.params) boot_bytes (by decide), object := bi "object" _ (no_object w.params) boot_object (by decide), enum := bi "enumerate" _ (no_enumerate w.params) boot_enumerate (by decide) }
  have I : Inv0 B s₁ := ⟨fun b o e => of_hideAll _ e, tb₁, .of_eq hg, rfl⟩
  have lw : LawHere B 252 c_law d_law "script" := lawOk_of X (ck_law w.params)
  have hlen := ints_list (h := s₁.heap) hI
  have hz : vs.length ≤ sizeLine := by rw [hlen.length, List.length_map, sizeLine_eq]; omega
  have rv : VR s₁.heap [] [] (.lst (ns.map .int)) (.ref l) := ⟨l, vs.toArray, rfl, by simp, by simp, hL, by simpa using hz, by simpa using hlen⟩
  have hA : AOk (8 + 1) callerA := ⟨rfl, by decide, by decide⟩
  have hr : runDf (om3 F) 99 d_law [.lst (ns.map .int)] = some (.bool true) := by
    have : fLaw F [.lst (ns.map .int)] = runDf (om3 F) 99 d_law [.lst (ns.map .int)] := rfl
    rw [← this]; exact hrun
  refine codeAny_mono (law_code O (om3_ok O H hF) lw hA I rv hr) fun res s' ⟨u, hu, I', hv⟩ => ?_
  have hv : u = .bool true := hv
  subst hv
  exact ⟨hu, I'.base, I'.tb, I'.bare, I'.os⟩
theorem fin_all (hlaw : PlainLaw) : PySem.Challenge.rw_ik0131_01.Holds := by
  refine hd ?_
  k_fill
  intro w s₀ s₁ mg mb G Y fa o pm cd doc dV kV ho hdd hcd hD hmg hg args vals as hpre hlay hrd hwl hlo
  have KX := km_in_of Y
  km_tabs Y
  have X := (Ground.X G).1
  have V := (Ground.X G).2
  refine Ground.open G ?_
  intro T B D TE TW
  try (refine guard_noD D (by decide +kernel) ?_; clear D)
  km_lay T hmg ho hdd cd
  wrow_args hpre hlay hrd hwl hlo
  all_goals (
    first | refine callC_kw (enter_call ?_) | refine enter_call ?_
    w_top on)
  clear hdd hcd hD
  have hfa : fa = 252 := by
    have := mg_of KX T.g (at_law w.params)
    have h2 : mg "law" = some (.ref fa) := hmg
    rw [this] at h2
    cases h2; rfl
  subst hfa
  clear hmg
  refine codeAny_mono (fin_core hlaw KX hT9 T hg (by assumption) (by assumption) (by omega)) fun r s' ⟨hr, hk, tb, hb, hos⟩ => ?_
  refine ⟨.inl ⟨_, _, [], hr, fun _ => rfl, ReadsW.bool true, (by first | rfl | wrow_post), fun _ => ⟨List.nodup_nil, fun _ hm => nomatch hm⟩⟩, ?_, hos, hb⟩
  have tab := hT9 (68, 64) (List.mem_singleton.mpr rfl)
  have keep : ∀ b o, b ≠ 64 → s₁.heap.get? b = some o → s'.heap.get? b = some o := fun b o hb e => hk b o (ghost_ne e (by simpa using hb))
  refine ⟨fun b o e => ?_, fun b o e => ?_⟩
  · by_cases hb : b = 64
    · subst hb
      obtain ⟨_, ps, e2, _⟩ := tb
      have e3 := tab.2
      rw [show s₁.heap.get? 64 = some o from e] at e3
      cases e3
      exact .inr (.inl ⟨(tab.1.tab tab.2).isCodeTable, rfl, #[], ps, rfl, by rw [Array.empty_append]; exact e2⟩)
    · exact .inl (keep b o hb e)
  · by_cases hb : b = 64
    · subst hb
      obtain ⟨_, ps, e2, _⟩ := tb
      exact ⟨_, e2⟩
    · exact ⟨o, keep b o hb e⟩
end Mine
namespace Mine.P
open PySem.Builtin PySem.Builtin.Str
def T (l : List Nat) : Str := ⟨l.toArray⟩
theorem T_len (l : List Nat) : (T l).length = l.length := by simp [T, Str.length]
theorem T_list (l : List Nat) : (T l).cps.toList = l := rfl
theorem of_list' (a b : List Nat) : T a ++ T b = T (a ++ b) := by
  show (⟨a.toArray ++ b.toArray⟩ : Str) = ⟨(a ++ b).toArray⟩
  simp
theorem T_app (a b : List Nat) : T a ++ T b = T (a ++ b) := of_list' a b
theorem T_inj {a b : List Nat} : T a = T b ↔ a = b := ⟨fun h => by have := congrArg (fun x => x.cps.toList) h; exact this, fun h => by rw [h]⟩
theorem T_beq (a b : List Nat) : (T a == T b) = (a == b) := by
  rw [Bool.eq_iff_iff, beq_iff_eq, beq_iff_eq, T_inj]
theorem of_list {x : Str} {l : List Nat} (h : x.cps.toList = l) : x = T l := StrLaws.mk_of_toList h
theorem oneS_T (c : Nat) : oneS c = T [c] := rfl
theorem T_empty : Str.empty = T [] := rfl
theorem T_contains (l : List Nat) (c : Nat) : Txt.contains (T l) (T [c]) = decide (c ∈ l) := StrLaws.found_one (T l) c
theorem T_rfind_some (a b : List Nat) (c : Nat) (h : c ∉ b) : Txt.rfind (T (a ++ c :: b)) (T [c]) = a.length := by
  unfold Txt.rfind
  rcases StrLaws.last_spec (T (a ++ c :: b)) (T [c]) with ⟨_, h2⟩ | ⟨i, h1, h2, h3⟩
  · exact absurd ((StrLaws.subAt_one (T (a ++ c :: b)) c a.length).mpr (by simp [T])) (h2 a.length)
  · rw [h1]
    have e := (StrLaws.subAt_one (T (a ++ c :: b)) c i).mp h2
    have e2 := (StrLaws.subAt_one (T (a ++ c :: b)) c a.length).mpr (by simp [T])
    rw [T_list] at e
    have le : a.length ≤ i := Nat.le_of_not_lt fun hlt => h3 _ hlt e2
    rcases Nat.lt_or_eq_of_le le with hlt | heq
    · exfalso
      rw [List.getElem?_append_right le] at e
      obtain ⟨k, hk⟩ : ∃ k, i - a.length = k + 1 := ⟨i - a.length - 1, by omega⟩
      rw [hk, List.getElem?_cons_succ] at e
      exact h (List.mem_of_getElem? e)
    · simp [heq]
theorem T_rfind_none (l : List Nat) (c : Nat) (h : c ∉ l) : Txt.rfind (T l) (T [c]) = -1 := by
  unfold Txt.rfind
  rcases StrLaws.last_spec (T l) (T [c]) with ⟨h1, _⟩ | ⟨i, h1, h2, h3⟩
  · rw [h1]
  · have e := (StrLaws.subAt_one (T l) c i).mp h2
    exact absurd (List.mem_of_getElem? e) h
theorem T_rstrip (a : List Nat) (c z : Nat) (h : z ≠ c) : Txt.rstripChars (T (a ++ [z, c])) (T [c]) = T (a ++ [z]) := by
  rw [Txt.rstripChars, PySem.W.stripBy_eq]
  apply of_list
  unfold PySem.W.stripped
  rw [StrLaws.strSub_toList, T_list]
  have ec : c ∈ (T [c]).cps := by simp [T]
  have ez : z ∉ (T [c]).cps := by simp [T, h]
  have e : ((List.drop 0 (a ++ [z, c])).reverse.takeWhile (T [c]).cps.contains).length = 1 := by
    simp [List.takeWhile_cons, ec, ez]
  simp only [T_list, T_len, Bool.false_eq_true, if_false, if_true, e]
  rw [show a ++ [z, c] = (a ++ [z]) ++ [c] by simp]
  simp only [List.length_append, List.length_singleton, Nat.sub_zero, List.drop_zero]
  exact List.take_left' (by simp)
theorem T_starts (l : List Nat) (c : Nat) : Txt.startswith (T l) (T [c]) = (l.head? == some c) := by
  rw [Bool.eq_iff_iff]
  unfold Txt.startswith
  have := StrLaws.subAt_one (T l) c 0
  rw [T_list] at this
  rw [Bool.and_eq_true, decide_eq_true_eq]
  exact this.trans (by rw [← List.head?_eq_getElem?, beq_iff_eq])
theorem T_ends (l : List Nat) (c : Nat) (hl : l ≠ []) : Txt.endswith (T l) (T [c]) = (l.getLast? == some c) := by
  have hp : 0 < l.length := List.length_pos_iff.mpr hl
  rw [Bool.eq_iff_iff]
  unfold Txt.endswith
  have := StrLaws.subAt_one (T l) c (l.length - 1)
  rw [T_list] at this
  rw [Bool.and_eq_true, decide_eq_true_eq, T_len, T_len, beq_iff_eq, List.getLast?_eq_getElem?, ← this, T_len]
  show _ ∧ subAt (T l) (T [c]) (l.length - 1) = true ↔ _ ∧ subAt (T l) (T [c]) _ = true
  simp only [List.length_singleton]
  have h1 : (T [c]).length = 1 := rfl
  constructor
  · intro ⟨_, b⟩; exact ⟨by rw [show (Str.length (⟨#[c]⟩ : Str)) = 1 from rfl]; omega, b⟩
  · intro ⟨_, b⟩; exact ⟨by omega, b⟩
theorem T_item (l : List Nat) (i : Nat) (c : Nat) (h : l[i]? = some c) : Txt.item (T l) (i : Int) = T [c] := by
  have hi : i < l.length := (List.getElem?_eq_some_iff.mp h).1
  unfold Txt.item Txt.charAt seqIndex?
  have h1 : ¬ ((i : Int) < 0) := by omega
  have h2 : (decide (0 ≤ (i : Int)) && decide ((i : Int) < (T l).length)) = true := by simp [T_len, hi]
  simp only [h1, if_false, h2, if_true, Int.toNat_natCast, Option.bind_some]
  have h3 : (T l).cps[i]? = some c := by simpa [T] using h
  rw [h3]; rfl
theorem T_mul (c : Nat) (n : Int) : Txt.mul (T [c]) n = T (List.replicate n.toNat c) := of_list (mul_one_list c n)
theorem T_dbl (l : List Nat) (c : Nat) : Txt.replace (T l) (T [c]) (T [c, c]) = T (StrLaws.dbl c l) := of_list (StrLaws.replace_double (T l) c)
def joinL (s : List Nat) : List (List Nat) → List Nat
  | [] => []
  | [x] => x
  | x :: y :: r => x ++ s ++ joinL s (y :: r)
theorem T_join (s : List Nat) : ∀ ps : List (List Nat), Str.join (T s) (ps.map T) = T (joinL s ps)
  | [] => rfl
  | [x] => rfl
  | x :: y :: r => by
    show T x ++ T s ++ Str.join (T s) ((y :: r).map T) = _
    rw [T_join s (y :: r), T_app, T_app]; rfl
theorem joinL_nil : ∀ ps : List (List Nat), joinL [] ps = ps.flatten
  | [] => rfl
  | [x] => by simp [joinL]
  | x :: y :: r => by rw [joinL, joinL_nil (y :: r)]; simp
def cutL (c : Nat) : List Nat → List (List Nat)
  | [] => [[]]
  | a :: r => if a = c then [] :: cutL c r else match cutL c r with
    | [] => [[a]]
    | p :: ps => (a :: p) :: ps
theorem cutL_free (c : Nat) : ∀ p : List Nat, c ∉ p → cutL c p = [p]
  | [], _ => rfl
  | a :: r, h => by
    have ⟨h1, h2⟩ : a ≠ c ∧ c ∉ r := ⟨fun e => h (by simp [e]), fun e => h (by simp [e])⟩
    simp only [cutL, if_neg h1, cutL_free c r h2]
theorem cutL_app (c : Nat) : ∀ p r : List Nat, c ∉ p → cutL c (p ++ c :: r) = p :: cutL c r
  | [], r, _ => by simp [cutL]
  | a :: p, r, h => by
    have ⟨h1, h2⟩ : a ≠ c ∧ c ∉ p := ⟨fun e => h (by simp [e]), fun e => h (by simp [e])⟩
    simp only [List.cons_append, cutL, if_neg h1, cutL_app c p r h2]
theorem cutL_join (c : Nat) : ∀ ps : List (List Nat), ps ≠ [] → (∀ p ∈ ps, c ∉ p) → cutL c (joinL [c] ps) = ps
  | [], h, _ => absurd rfl h
  | [x], _, h => cutL_free c x (h x (by simp))
  | x :: y :: r, _, h => by
    show cutL c (x ++ [c] ++ joinL [c] (y :: r)) = _
    rw [List.append_assoc]
    show cutL c (x ++ c :: joinL [c] (y :: r)) = _
    rw [cutL_app c x _ (h x (by simp)), cutL_join c (y :: r) (by simp) (fun p hp => h p (by simp [hp]))]
theorem T_split (c : Nat) (ps : List (List Nat)) (h : ps ≠ []) (hf : ∀ p ∈ ps, c ∉ p) : Txt.split (T (joinL [c] ps)) (T [c]) = ps.map T := by
  have h1 := StrLaws.join_split (T (joinL [c] ps)) (T [c])
  have h2 := StrLaws.split_free (T (joinL [c] ps)) c
  have h2' : ∀ p ∈ Txt.split (T (joinL [c] ps)) (T [c]), c ∉ p.cps.toList := h2
  generalize hq : Txt.split (T (joinL [c] ps)) (T [c]) = qs at h1 h2'
  have e : qs = (qs.map fun x => x.cps.toList).map T := by
    rw [List.map_map]
    conv => lhs; rw [← List.map_id qs]
    exact List.map_congr_left fun x _ => of_list rfl
  rw [e, T_join, T_inj] at h1
  by_cases hn : qs = []
  · subst hn
    have : cutL c (joinL [c] ps) = ps := cutL_join c ps h hf
    rw [← h1] at this
    simp [joinL, cutL] at this
    exfalso
    -- a split is never empty
    unfold Txt.split at hq
    split at hq
    · cases hq
    · split at hq
      · cases hq
      · rename_i a b
        simp only [partsBetween, List.map_eq_nil_iff, List.zip_eq_nil_iff] at hq
        simp at hq
  · have a1 := cutL_join c ps h hf
    have a2 := cutL_join c (qs.map fun x => x.cps.toList) (by simpa using hn) (by
      intro p hp
      obtain ⟨x, hx, rfl⟩ := List.mem_map.mp hp
      exact h2' x hx)
    rw [h1] at a2
    rw [e, ← a2, a1]
end Mine.P
namespace Mine.P
theorem bTF : (true == false) = false := rfl
theorem bFT : (false == true) = false := rfl
theorem or_or : (BoolOp.Or == BoolOp.Or) = true := rfl
theorem or_and : (BoolOp.Or == BoolOp.And) = false := rfl
theorem and_or : (BoolOp.And == BoolOp.Or) = false := rfl
theorem and_and : (BoolOp.And == BoolOp.And) = true := rfl
theorem ev_not (Ω : Om) (a : ME) (V K : Vs) (H : Hs) : evalB Ω (.notE a) true V K H = match evalB Ω a true V K H with
    | some (.bool b) => some (.bool !b)
    | _ => none := by
  show (match true, evalB Ω a true V K H with
    | true, some (.bool b) => some (PV.bool !b)
    | _, _ => none) = _
  generalize evalB Ω a true V K H = o
  cases o with
  | none => rfl
  | some v => cases v <;> rfl
def eL := And.intro @List.length_cons.{0} <| And.intro @List.length_nil.{0} <| And.intro @List.map_cons.{0,0} <| And.intro @List.map_nil.{0,0} <| And.intro @List.replicate.eq_1.{0} <| And.intro @List.replicate.eq_2.{0} <| And.intro @List.getElem?_cons_zero.{0} <| And.intro @List.getElem?_cons_succ.{0} <| And.intro @List.getElem?_nil.{0} <| And.intro @Option.join.eq_1.{0} <| And.intro @Option.map_some.{0,0} <| And.intro @Option.bind_some.{0,0} <| And.intro @Option.bind_none.{0,0} <| And.intro @_root_.id.eq_1.{1} <| And.intro @List.any_cons.{0} <| And.intro @List.any_nil.{0} <| And.intro @List.set_cons_zero.{0} <| And.intro @List.set_cons_succ.{0} <| And.intro @List.set.eq_3.{0} <| And.intro @List.cons_append.{0} <| And.intro @List.nil_append.{0} <| And.intro Bool.true_or <| And.intro Bool.or_true <| And.intro Bool.or_false <| And.intro Bool.false_or <| And.intro Bool.and_self <| And.intro Bool.true_and <| And.intro Bool.and_true <| And.intro Bool.false_and <| And.intro Bool.and_false <| And.intro Bool.not_true <| And.intro Bool.not_false <| And.intro @if_true.{1} <| And.intro @if_false.{1} <| And.intro Bool.false_eq_true <| And.intro Nat.sub_zero <| And.intro Nat.zero_add <| And.intro @beq_self_eq_true.{0} <| And.intro bTF <| And.intro bFT <| And.intro sizeLine_eq <| And.intro @decide_true <| And.intro @decide_false <| And.intro and_self <| And.intro true_and <| And.intro and_true <| And.intro or_or <| And.intro or_and <| And.intro and_or <| and_and
def E1 := And.intro @MSs.of.eq_1 <| And.intro @MSs.of.eq_2 <| And.intro @MEs.of.eq_1 <| And.intro @MEs.of.eq_2 <| And.intro @execsM.eq_1 <| And.intro @execsM.eq_2 <| And.intro @execM.eq_1 <| And.intro @execM.eq_2 <| And.intro @execM.eq_3 <| And.intro @execM.eq_4 <| And.intro @execM.eq_5 <| And.intro @execM.eq_6 <| And.intro @execM.eq_7 <| And.intro @execM.eq_8 <| And.intro @execM.eq_9 <| And.intro @execM.eq_10 <| And.intro @execM.eq_11 <| And.intro @execM.eq_12 <| And.intro @execM.eq_13 <| And.intro @execM.eq_14 <| And.intro @execM.eq_15 <| And.intro @execM.eq_16 <| And.intro @execM.eq_17 <| And.intro @execM.eq_18 <| And.intro @execM.eq_19 <| And.intro @execM.eq_20 <| And.intro @execM.eq_21 <| And.intro @execM.eq_22 <| And.intro @execM.eq_23 <| And.intro @execM.eq_24 <| And.intro @execM.eq_25 <| And.intro @execM.eq_26 <| And.intro @execM.eq_27 <| And.intro @evalM.eq_1 <| And.intro @evalsM.eq_1 <| And.intro @evalB.eq_1 <| And.intro @evalB.eq_2 <| And.intro @evalB.eq_3 <| And.intro @evalB.eq_4 <| @evalB.eq_5
def E2 := And.intro @evalB.eq_6 <| And.intro @evalB.eq_7 <| And.intro @evalB.eq_8 <| And.intro @evalB.eq_9 <| And.intro @evalB.eq_10 <| And.intro @evalB.eq_11 <| And.intro @evalB.eq_12 <| And.intro @evalB.eq_13 <| And.intro @evalB.eq_14 <| And.intro @evalB.eq_15 <| And.intro @evalB.eq_16 <| And.intro @evalB.eq_17 <| And.intro @evalB.eq_18 <| And.intro @evalB.eq_19 <| And.intro @evalB.eq_20 <| And.intro @evalB.eq_21 <| And.intro @evalB.eq_22 <| And.intro @evalB.eq_23 <| And.intro @evalB.eq_24 <| And.intro @evalB.eq_25 <| And.intro @evalsB.eq_1 <| And.intro @evalsB.eq_2 <| And.intro @boolB.eq_1 <| And.intro @boolB.eq_2 <| And.intro @boolB.eq_3 <| And.intro @testM.eq_1 <| And.intro @fin.eq_1 <| And.intro @fin.eq_2 <| And.intro @fin.eq_3 <| And.intro @callO.eq_1 <| And.intro @callO.eq_2 <| And.intro @callSO.eq_1 <| And.intro @callSO.eq_2 <| And.intro @frzs.eq_1 <| And.intro @frzs.eq_2 <| And.intro @frz.eq_1 <| And.intro @frz.eq_2 <| And.intro @frz1.eq_1 <| And.intro @frz1.eq_2 <| @frzAll.eq_1
def E3 := And.intro @frzAll.eq_2 <| And.intro @clean.eq_1 <| And.intro @clean.eq_2 <| And.intro @clean.eq_3 <| And.intro @clean.eq_4 <| And.intro @clean.eq_5 <| And.intro @cleans.eq_1 <| And.intro @cleans.eq_2 <| And.intro @flat.eq_1 <| And.intro @flat.eq_2 <| And.intro @flat.eq_3 <| And.intro @flat.eq_4 <| And.intro @flat.eq_5 <| And.intro @isLoc.eq_1 <| And.intro @isLoc.eq_2 <| And.intro @bindT.eq_1 <| And.intro @bindT.eq_2 <| And.intro @bindT.eq_3 <| And.intro @setAll.eq_1 <| And.intro @setAll.eq_2 <| And.intro @setAll.eq_3 <| And.intro @tupO.eq_1 <| And.intro @tupO.eq_2 <| And.intro @lstO.eq_1 <| And.intro @lstO.eq_2 <| And.intro @tidy.eq_1 <| And.intro @binO.eq_1 <| And.intro @binO.eq_2 <| And.intro @both.eq_1 <| And.intro @both.eq_2 <| And.intro @methO.eq_1 <| And.intro @methO.eq_2 <| And.intro @slcO.eq_1 <| And.intro @slcO.eq_2 <| And.intro @idxO.eq_1 <| And.intro @idxO.eq_2 <| And.intro @cmpO.eq_1 <| And.intro @cmpO.eq_2 <| And.intro @cmpP.eq_1 <| @cmpP.eq_2
def E4 := And.intro @cmpP.eq_3 <| And.intro @cmpP.eq_4 <| And.intro @cmpP.eq_5 <| And.intro @cmpP.eq_6 <| And.intro @cmpP.eq_7 <| And.intro @ordP.eq_1 <| And.intro @ordP.eq_2 <| And.intro @orderP.eq_1 <| And.intro @orderP.eq_2 <| And.intro @orderP.eq_3 <| And.intro @orderP.eq_4 <| And.intro @orderP.eq_5 <| And.intro @fmtO.eq_1 <| And.intro @fmtO.eq_2 <| And.intro @fstrO.eq_1 <| And.intro @fstrO.eq_2 <| And.intro @overO.eq_1 <| And.intro @overO.eq_2 <| And.intro @binP.eq_1 <| And.intro @binP.eq_2 <| And.intro @binP.eq_3 <| And.intro @binP.eq_4 <| And.intro @binP.eq_5 <| And.intro @binP.eq_6 <| And.intro @binP.eq_7 <| And.intro @binP.eq_8 <| And.intro @truthyP.eq_1 <| And.intro @truthyP.eq_2 <| And.intro @truthyP.eq_3 <| And.intro @truthyP.eq_4 <| And.intro @truthyP.eq_5 <| And.intro @truthyP.eq_6 <| And.intro @truthyP.eq_7 <| And.intro @truthyP.eq_8 <| And.intro @isP.eq_1 <| And.intro @isP.eq_2 <| And.intro @isP.eq_3 <| And.intro @isP.eq_4 <| And.intro @isP.eq_5 <| @isP.eq_6
def E5 := And.intro @isP.eq_7 <| And.intro @isP.eq_8 <| And.intro @isRefP.eq_1 <| And.intro @isRefP.eq_2 <| And.intro @itemsP.eq_1 <| And.intro @itemsP.eq_2 <| And.intro @itemsP.eq_3 <| And.intro @itemsP.eq_4 <| And.intro @partP.eq_1 <| And.intro @partP.eq_2 <| And.intro @partP.eq_3 <| And.intro @ev_not <| @pushAt.eq_1
theorem m_rfind (x y : Str) : methP "rfind" (.str x) [.str y] = some (.int (Txt.rfind x y)) := rfl
theorem m_rstrip (x y : Str) : methP "rstrip" (.str x) [.str y] = some (.str (Txt.rstripChars x y)) := rfl
theorem m_starts (x y : Str) : methP "startswith" (.str x) [.str y] = some (.bool (Txt.startswith x y)) := rfl
theorem m_ends (x y : Str) : methP "endswith" (.str x) [.str y] = some (.bool (Txt.endswith x y)) := rfl
theorem m_split (x y : Str) : methP "split" (.str x) [.str y] = if y.length = 1 ∧ x.length ≤ 1000000 then some (.lst ((Txt.split x y).map .str)) else none := rfl
theorem m_join (x : Str) (ys : List PV) : methP "join" (.str x) [.lst ys] = match strsOf ys with
      | some zs => if (zs.map (·.length)).sum + zs.length * x.length ≤ 16777216 then some (.str (Str.join x zs)) else none
      | none => none := rfl
theorem eqP_str (a b : Str) : eqP (.str a) (.str b) = some (a == b) := rfl
theorem eqP_int (a b : Int) : eqP (.int a) (.int b) = some (a == b) := rfl
theorem c1 (n : Nat) : (n : Int) + 1 = ((n + 1 : Nat) : Int) := rfl
theorem c2 (n : Nat) : (n : Int) + 2 = ((n + 2 : Nat) : Int) := rfl
theorem c3 (n : Nat) : (n : Int) + 3 = ((n + 3 : Nat) : Int) := rfl
theorem c4 (n : Nat) : (n : Int) + 4 = ((n + 4 : Nat) : Int) := rfl
theorem c5 (n : Nat) : (n : Int) + 5 = ((n + 5 : Nat) : Int) := rfl
theorem c6 (n : Nat) : (n : Int) + 6 = ((n + 6 : Nat) : Int) := rfl
theorem f_len_str (l : List Nat) : fLen [.str (T l)] = some (.int l.length) := by rw [fLen, T_len]
theorem f_len_lst (l : List PV) : fLen [.lst l] = some (.int l.length) := rfl
theorem clip_nat (n k : Nat) (d : Int) : (clip n d (some (k : Int))).toNat = min k n := by
  unfold clip
  have h : ¬ ((k : Int) < 0) := by omega
  simp only [h, if_false]
  omega
theorem take_min {α : Type} (k : Nat) (l : List α) : l.take (min k l.length) = l.take k := by
  rcases Nat.le_total k l.length with h | h
  · rw [Nat.min_eq_left h]
  · rw [Nat.min_eq_right h, List.take_length, List.take_of_length_le h]
theorem drop_min {α : Type} (k : Nat) (l : List α) : l.drop (min k l.length) = l.drop k := by
  rcases Nat.le_total k l.length with h | h
  · rw [Nat.min_eq_left h]
  · rw [Nat.min_eq_right h, List.drop_length, List.drop_of_length_le h]
theorem slcL_to {α : Type} (k : Nat) (l : List α) : slcL none (some (k : Int)) l = l.take k := by
  unfold slcL
  rw [clip_nat, take_min]; rfl
theorem slcL_from {α : Type} (k : Nat) (l : List α) : slcL (some (k : Int)) none l = l.drop k := by
  unfold slcL
  rw [clip_nat]
  show (l.take (l.length : Int).toNat).drop (min k l.length) = _
  rw [Int.toNat_natCast, List.take_length, drop_min]
theorem slcL_ab {α : Type} (a b : Nat) (l : List α) : slcL (some (a : Int)) (some (b : Int)) l = (l.take b).drop a := by
  unfold slcL
  rw [clip_nat, clip_nat, take_min]
  rcases Nat.le_total a l.length with h | h
  · rw [Nat.min_eq_left h]
  · rw [Nat.min_eq_right h, List.drop_of_length_le (by simp; omega), List.drop_of_length_le (by simp; omega)]
theorem slcL_last {α : Type} (l : List α) (z : α) : slcL (some (-1)) none (l ++ [z]) = [z] := by
  unfold slcL clip
  simp only [List.length_append, List.length_singleton]
  have e1 : (((l.length + 1 : Nat) : Int)).toNat = l.length + 1 := by omega
  have e2 : (max 0 (min (if (-1 : Int) < 0 then -1 + ((l.length + 1 : Nat) : Int) else -1) ((l.length + 1 : Nat) : Int))).toNat = l.length := by
    rw [if_pos (by omega)]; omega
  rw [e1, e2, List.take_of_length_le (by simp)]
  exact List.drop_left' rfl
theorem slcL_init {α : Type} (l : List α) (z : α) : slcL none (some (-1)) (l ++ [z]) = l := by
  unfold slcL clip
  simp only [List.length_append, List.length_singleton]
  have e2 : (max 0 (min (if (-1 : Int) < 0 then -1 + ((l.length + 1 : Nat) : Int) else -1) ((l.length + 1 : Nat) : Int))).toNat = l.length := by
    rw [if_pos (by omega)]; omega
  rw [e2]
  show ((l ++ [z]).take l.length).drop 0 = l
  rw [List.drop_zero]
  exact List.take_left' rfl
theorem sS_to (l : List Nat) (k : Nat) : slcP (.str (T l)) .none (.int (k : Int)) = some (.str (T (l.take k))) := by
  show some (PV.str ⟨(slcL none (some (k : Int)) l).toArray⟩) = _
  rw [slcL_to]; rfl
theorem sS_from (l : List Nat) (k : Nat) : slcP (.str (T l)) (.int (k : Int)) .none = some (.str (T (l.drop k))) := by
  show some (PV.str ⟨(slcL (some (k : Int)) none l).toArray⟩) = _
  rw [slcL_from]; rfl
theorem sS_ab (l : List Nat) (a b : Nat) : slcP (.str (T l)) (.int (a : Int)) (.int (b : Int)) = some (.str (T ((l.take b).drop a))) := by
  show some (PV.str ⟨(slcL (some (a : Int)) (some (b : Int)) l).toArray⟩) = _
  rw [slcL_ab]; rfl
theorem sS_last (l : List Nat) (z : Nat) : slcP (.str (T (l ++ [z]))) (.int (-1)) .none = some (.str (T [z])) := by
  show some (PV.str ⟨(slcL (some (-1)) none (l ++ [z])).toArray⟩) = _
  rw [slcL_last]; rfl
theorem sL_to (l : List PV) (k : Nat) : slcP (.lst l) .none (.int (k : Int)) = some (.lst (l.take k)) := by
  show some (PV.lst (slcL none (some (k : Int)) l)) = _
  rw [slcL_to]
theorem sL_from (l : List PV) (k : Nat) : slcP (.lst l) (.int (k : Int)) .none = some (.lst (l.drop k)) := by
  show some (PV.lst (slcL (some (k : Int)) none l)) = _
  rw [slcL_from]
theorem sL_ab (l : List PV) (a b : Nat) : slcP (.lst l) (.int (a : Int)) (.int (b : Int)) = some (.lst ((l.take b).drop a)) := by
  show some (PV.lst (slcL (some (a : Int)) (some (b : Int)) l)) = _
  rw [slcL_ab]
theorem sL_init (l : List PV) (z : PV) : slcP (.lst (l ++ [z])) .none (.int (-1)) = some (.lst l) := by
  show some (PV.lst (slcL none (some (-1)) (l ++ [z]))) = _
  rw [slcL_init]
theorem om1_fspath : om1.fn "fspath" = some (runOf om0 9 1 d_fspath) := rfl
theorem om1_get_sep : om1.fn "_get_sep" = some (runOf om0 9 1 d_get_sep) := rfl
theorem om1_len : om1.fn "len" = some fLen := rfl
theorem run_fspath (x : Str) : runOf om0 9 1 d_fspath [.str x] = some (.str x) := rfl
theorem run_get_sep (x : Str) : runOf om0 9 1 d_get_sep [.str x] = some (.str (T [47])) := rfl
theorem li_0 : Str.ofString "/" = T [47] := by decide +kernel
theorem run_split_last (p : List Nat) (h : 47 ∉ p) : runOf om1 99 1 d_split [.str (T p)] = some (.tup [.str (T []), .str (T p)]) := by
  have hr := T_rfind_none p 47 h
  have e0 : (-1 + 1 : Int) = ((0 : Nat) : Int) := rfl
  unfold runOf runDf
  simp only [d_split, b_split, om1_fspath, om1_get_sep, om1_len, run_fspath, run_get_sep, m_rfind, m_rstrip, hr, e0, sS_to, sS_from, List.take_zero, List.drop_zero, T_len, bne_self_eq_false, eL, E1, E2, E3, E4, E5, Nat.reduceSub, Nat.reduceAdd, Nat.reduceLeDiff, Nat.reduceLT, reduceCtorEq, Int.reduceLT, Int.reduceLE, Int.reduceBEq, Nat.reduceBNe, Nat.reduceBEq, Nat.reduceMul]
theorem run_split_mid (a p : List Nat) (z : Nat) (hz : z ≠ 47) (h : 47 ∉ p) (hl : a.length ≤ 1000000) : runOf om1 99 1 d_split [.str (T (a ++ [z] ++ 47 :: p))] = some (.tup [.str (T (a ++ [z])), .str (T p)]) := by
  have hr := T_rfind_some (a ++ [z]) p 47 h
  have e1 : (a ++ [z] ++ 47 :: p).take ((a ++ [z]).length + 1) = a ++ [z, 47] := by
    rw [show a ++ [z] ++ 47 :: p = (a ++ [z, 47]) ++ p by simp]
    exact List.take_left' (by simp)
  have e2 : (a ++ [z] ++ 47 :: p).drop ((a ++ [z]).length + 1) = p := by
    rw [show a ++ [z] ++ 47 :: p = (a ++ [z, 47]) ++ p by simp]
    exact List.drop_left' (by simp)
  have e3 : ((a ++ [z, 47]).length != 0) = true := by simp
  have e4 : ((a ++ [z, 47]) == List.replicate (((a ++ [z, 47]).length : Nat) : Int).toNat 47) = false := by
    rw [beq_eq_false_iff_ne]
    intro e
    have : z ∈ a ++ [z, 47] := by simp
    rw [e] at this
    exact hz (List.eq_of_mem_replicate this)
  have e5 : ((T [47]).length = 1 ∧ 0 ≤ (((a ++ [z, 47]).length : Nat) : Int) ∧ (((a ++ [z, 47]).length : Nat) : Int) ≤ 16777216) := ⟨rfl, by omega, by simp; omega⟩
  unfold runOf runDf
  simp only [d_split, b_split, om1_fspath, om1_get_sep, om1_len, run_fspath, run_get_sep, m_rfind, m_rstrip, hr, c1, sS_to, sS_from, e1, e2, T_len, e3, f_len_str, e4, T_mul, e5, T_beq, eqP_str, T_rstrip a 47 z hz, and_self, eL, E1, E2, E3, E4, E5, Nat.reduceSub, Nat.reduceAdd, Nat.reduceLeDiff, Nat.reduceLT, reduceCtorEq, Int.reduceLT, Int.reduceLE, Int.reduceBEq, Nat.reduceBNe, Nat.reduceBEq, Nat.reduceMul]
end Mine.P
namespace Mine.P
inductive It where
  | star | q | set (c : Nat) | lit (c : Nat)
  deriving DecidableEq
def It.sp : It → List Nat
  | .star => [42] | .q => [63] | .set c => [91, c, 93] | .lit c => [c]
def It.td : It → List Nat
  | .star => [42] | .q => [63] | .set c => [61, c] | .lit c => [61, c]
def It.ok : It → Bool
  | .set c => [42, 63, 91, 93, 34, 92, 94, 38].contains c
  | .lit c => !([42, 63, 91, 47].contains c)
  | _ => true
def It.isStar : It → Bool
  | .star => true | _ => false
def It.enc (x : It) : PV := .tup [.str (T x.sp), .str (T x.td)]
theorem om0_chr : om0.fn "chr" = some fChr := rfl
theorem li_sign : Str.ofString "()\"\\.^\"|$&-\"+{#}" = T [40, 41, 34, 92, 46, 94, 34, 124, 36, 38, 45, 34, 43, 123, 35, 125] := by decide +kernel
theorem li_set : Str.ofString "*?[]\"\\^&" = T [42, 63, 91, 93, 34, 92, 94, 38] := by decide +kernel
theorem li_star : Str.ofString "*" = T [42] := by decide +kernel
theorem li_q : Str.ofString "?" = T [63] := by decide +kernel
theorem li_open : Str.ofString "[" = T [91] := by decide +kernel
theorem li_close : Str.ofString "]" = T [93] := by decide +kernel
theorem li_eq : Str.ofString "=" = T [61] := by decide +kernel
theorem li_wild : Str.ofString "*?[/" = T [42, 63, 91, 47] := by decide +kernel
theorem li_a : Str.ofString "a" = T [97] := by decide +kernel
theorem idxS (H : Hs) (l : List Nat) (j : Nat) (c : Nat) (h : l[j]? = some c) : idxP H (.str (T l)) (.int (j : Int)) = some (.str (T [c])) := by
  have hj : j < l.length := (List.getElem?_eq_some_iff.mp h).1
  show (if (place (T l).length (j : Int)).isSome then some (PV.str (Txt.item (T l) (j : Int))) else none) = _
  rw [T_item l j c h]
  have : (place (T l).length (j : Int)).isSome = true := by
    unfold place
    rw [if_pos (by omega), T_len, if_pos (by omega)]; rfl
  rw [this]; rfl
theorem sign16 (H : Hs) (j : Int) (h0 : 0 ≤ j) (h1 : j < 16) : ∃ c, idxP H (.str (T [40, 41, 34, 92, 46, 94, 34, 124, 36, 38, 45, 34, 43, 123, 35, 125])) (.int j) = some (.str (T [c])) ∧ (It.lit c).ok = true := by
  obtain ⟨k, rfl⟩ := Int.eq_ofNat_of_zero_le h0
  have hk : k < 16 := by omega
  have hh : ∃ c, [40, 41, 34, 92, 46, 94, 34, 124, 36, 38, 45, 34, 43, 123, 35, 125][k]? = some c ∧ (It.lit c).ok = true := by
    have : ∀ k : Fin 16, ∃ c, [40, 41, 34, 92, 46, 94, 34, 124, 36, 38, 45, 34, 43, 123, 35, 125][k.val]? = some c ∧ (It.lit c).ok = true := by
      intro k
      refine ⟨_, List.getElem?_eq_getElem k.isLt, ?_⟩
      revert k; decide
    exact this ⟨k, hk⟩
  obtain ⟨c, hc, ho⟩ := hh
  exact ⟨c, idxS H _ k c hc, ho⟩
theorem set8 (H : Hs) (j : Int) (h0 : 0 ≤ j) (h1 : j < 8) : ∃ c, idxP H (.str (T [42, 63, 91, 93, 34, 92, 94, 38])) (.int j) = some (.str (T [c])) ∧ (It.set c).ok = true := by
  obtain ⟨k, rfl⟩ := Int.eq_ofNat_of_zero_le h0
  have hk : k < 8 := by omega
  have : ∀ k : Fin 8, ∃ c, [42, 63, 91, 93, 34, 92, 94, 38][k.val]? = some c ∧ (It.set c).ok = true := by
    intro k
    refine ⟨_, List.getElem?_eq_getElem k.isLt, ?_⟩
    revert k; decide
  obtain ⟨c, hc, ho⟩ := this ⟨k, hk⟩
  exact ⟨c, idxS H _ k c hc, ho⟩
theorem f_chr (n : Int) (h0 : 0 ≤ n) (h1 : n < 55296) : fChr [.int n] = some (.str (T [n.toNat])) := by
  show (if 0 ≤ n ∧ n < 55296 then some (PV.str (oneS n.toNat)) else none) = _
  rw [if_pos ⟨h0, h1⟩]; rfl
theorem d5 : ((5 : Int) = 0) = False := by simp
theorem d16 : ((16 : Int) = 0) = False := by simp
theorem d8 : ((8 : Int) = 0) = False := by simp
theorem dchr : ((55296 : Int) = 0) = False := by simp
theorem q5 : ((0 : Int) < 5 ∧ (5 : Int) < 1000) = True := by simp
theorem run_item (n : Int) (b : List Nat) : ∃ it : It, it.ok = true ∧ (b = [42] → it.isStar = false) ∧ runOf om0 9 2 d_law_item [.int n, .str (T b)] = some it.enc := by
  have k0 : 0 ≤ n.fmod 5 := Int.fmod_nonneg_of_pos n (by omega)
  have k5 : n.fmod 5 < 5 := Int.fmod_lt_of_pos n (by omega)
  generalize hk : n.fmod 5 = k at k0 k5
  generalize hm : n.fdiv 5 = m
  obtain ⟨c, hc, co⟩ := sign16 [] (m.fmod 16) (Int.fmod_nonneg_of_pos m (by omega)) (Int.fmod_lt_of_pos m (by omega))
  obtain ⟨c2, hc2, co2⟩ := set8 [] (m.fmod 8) (Int.fmod_nonneg_of_pos m (by omega)) (Int.fmod_lt_of_pos m (by omega))
  have hchr := f_chr (m.fmod 55296) (Int.fmod_nonneg_of_pos m (by omega)) (Int.fmod_lt_of_pos m (by omega))
  generalize (m.fmod 55296).toNat = c3 at hchr
  have hk' : k = 0 ∨ k = 1 ∨ k = 2 ∨ k = 3 ∨ k = 4 := by omega
  rcases hk' with rfl | rfl | rfl | rfl | rfl
  · by_cases hb : b = [42]
    · refine ⟨.q, rfl, fun _ => rfl, ?_⟩
      unfold runOf runDf
      simp only [d_law_item, b_law_item, hk, hm, hb, d5, q5, li_star, li_q, eqP_int, eqP_str, T_beq, Int.reduceLT, Int.reduceBEq, eL, E1, E2, E3, E4, E5, Nat.reduceSub, Nat.reduceAdd, Nat.reduceLeDiff, Nat.reduceLT, reduceCtorEq, Int.reduceLT, Int.reduceLE, Int.reduceBEq, Nat.reduceBNe, Nat.reduceBEq, Nat.reduceMul]
      rfl
    · have hb' : (b == [42]) = false := by simpa using hb
      refine ⟨.star, rfl, fun h => absurd h hb, ?_⟩
      unfold runOf runDf
      simp only [d_law_item, b_law_item, hk, hm, hb', d5, q5, li_star, li_q, eqP_int, eqP_str, T_beq, Int.reduceLT, Int.reduceBEq, eL, E1, E2, E3, E4, E5, Nat.reduceSub, Nat.reduceAdd, Nat.reduceLeDiff, Nat.reduceLT, reduceCtorEq, Int.reduceLT, Int.reduceLE, Int.reduceBEq, Nat.reduceBNe, Nat.reduceBEq, Nat.reduceMul]
      rfl
  · refine ⟨.q, rfl, fun _ => rfl, ?_⟩
    unfold runOf runDf
    simp only [d_law_item, b_law_item, hk, hm, d5, q5, li_star, li_q, eqP_int, eqP_str, T_beq, Int.reduceLT, Int.reduceBEq, eL, E1, E2, E3, E4, E5, Nat.reduceSub, Nat.reduceAdd, Nat.reduceLeDiff, Nat.reduceLT, reduceCtorEq, Int.reduceLT, Int.reduceLE, Int.reduceBEq, Nat.reduceBNe, Nat.reduceBEq, Nat.reduceMul]
    rfl
  · refine ⟨.lit c, co, fun _ => rfl, ?_⟩
    unfold runOf runDf
    simp only [d_law_item, b_law_item, hk, hm, d5, q5, d16, li_star, li_q, li_sign, li_eq, hc, eqP_int, eqP_str, T_beq, T_len, T_app, Int.reduceLT, Int.reduceBEq, eL, E1, E2, E3, E4, E5, Nat.reduceSub, Nat.reduceAdd, Nat.reduceLeDiff, Nat.reduceLT, reduceCtorEq, Int.reduceLT, Int.reduceLE, Int.reduceBEq, Nat.reduceBNe, Nat.reduceBEq, Nat.reduceMul]
    rfl
  · refine ⟨.set c2, co2, fun _ => rfl, ?_⟩
    unfold runOf runDf
    simp only [d_law_item, b_law_item, hk, hm, d5, q5, d16, d8, li_star, li_q, li_sign, li_set, li_eq, li_open, li_close, hc, hc2, eqP_int, eqP_str, T_beq, T_len, T_app, Int.reduceLT, Int.reduceBEq, eL, E1, E2, E3, E4, E5, Nat.reduceSub, Nat.reduceAdd, Nat.reduceLeDiff, Nat.reduceLT, reduceCtorEq, Int.reduceLT, Int.reduceLE, Int.reduceBEq, Nat.reduceBNe, Nat.reduceBEq, Nat.reduceMul]
    rfl
  · by_cases hin : c3 ∈ [42, 63, 91, 47]
    · refine ⟨.lit 97, rfl, fun _ => rfl, ?_⟩
      unfold runOf runDf
      simp only [d_law_item, b_law_item, hk, hm, d5, q5, d16, dchr, om0_chr, hchr, li_star, li_q, li_sign, li_eq, li_wild, li_a, hc, inP, T_contains, hin, eqP_int, eqP_str, T_beq, T_len, T_app, Int.reduceLT, Int.reduceBEq, eL, E1, E2, E3, E4, E5, Nat.reduceSub, Nat.reduceAdd, Nat.reduceLeDiff, Nat.reduceLT, reduceCtorEq, Int.reduceLT, Int.reduceLE, Int.reduceBEq, Nat.reduceBNe, Nat.reduceBEq, Nat.reduceMul]
      rfl
    · refine ⟨.lit c3, by simp only [It.ok]; simpa using hin, fun _ => rfl, ?_⟩
      unfold runOf runDf
      simp only [d_law_item, b_law_item, hk, hm, d5, q5, d16, dchr, om0_chr, hchr, li_star, li_q, li_sign, li_eq, li_wild, li_a, hc, inP, T_contains, hin, eqP_int, eqP_str, T_beq, T_len, T_app, Int.reduceLT, Int.reduceBEq, eL, E1, E2, E3, E4, E5, Nat.reduceSub, Nat.reduceAdd, Nat.reduceLeDiff, Nat.reduceLT, reduceCtorEq, Int.reduceLT, Int.reduceLE, Int.reduceBEq, Nat.reduceBNe, Nat.reduceBEq, Nat.reduceMul]
      rfl
end Mine.P
namespace Mine.P
abbrev Row := List It
def encR (l : Row) : List PV := l.map It.enc
def encN (ls : List Row) : PV := .lst (ls.map fun l => .lst (encR l))
theorem clean_encR : ∀ l : Row, cleans (encR l) = true
  | [] => rfl
  | x :: r => by
    show (clean x.enc && cleans (encR r)) = true
    rw [clean_encR r]; rfl
theorem frzAll_clean (H : Hs) : ∀ xs : List PV, cleans xs = true → frzAll H xs = some xs
  | [], _ => rfl
  | x :: r, h => by
    have h1 : clean x = true ∧ cleans r = true := by simpa [cleans] using h
    have h2 : frz1 H x = some x := by
      cases x <;> first
        | (simp only [clean] at h1; exact absurd h1.1 (by decide))
        | (simp only [frz1, h1.1, if_true])
    simp only [frzAll, h2, frzAll_clean H r h1.2]
theorem frzAll_encR (H : Hs) (l : Row) : frzAll H (encR l) = some (encR l) := frzAll_clean H _ (clean_encR l)
theorem eqP_lst_nil (xs : List PV) : eqP (.lst xs) (.lst []) = some (xs.length == 0) := by
  cases xs with
  | nil => rfl
  | cons a r => rfl
theorem place_m1 (n : Nat) : place (n + 1) (-1) = some n := by
  unfold place
  rw [if_neg (by omega), if_pos (by omega)]
  congr 1; omega
theorem idx_loc (H : Hs) (l : Nat) (i : Int) : idxP H (.loc l) (.int i) = match H[l]? with
    | some xs => (place xs.length i).bind (xs[·]?)
    | none => none := rfl
theorem idx_lst (H : Hs) (xs : List PV) (i : Int) : idxP H (.lst xs) (.int i) = (place xs.length i).bind (xs[·]?) := rfl
def hsOf (prev : List Row) (l : Row) : Hs := match prev with
  | [] => [encR l, [.loc 0]]
  | a :: r => encR a :: (.loc 0 :: (List.range (r.length + 1)).map fun k => .loc (k + 2)) :: (r.map encR ++ [encR l])
theorem om1_item : om1.fn "_law_item" = some (runOf om0 9 2 d_law_item) := rfl
theorem li_e : Str.ofString "" = T [] := by decide +kernel
theorem d4 : ((4 : Int) = 0) = False := by simp
theorem q4 : ((0 : Int) < 4 ∧ (4 : Int) < 1000) = True := by simp
def nmSt (N : PV) (prev : List Row) (l : Row) (b : List Nat) (xo so : Option PV) : St := ⟨[some N, some (.loc 1), some (.str (T b)), xo, so], [], hsOf prev l⟩
def splits (x : Int) (prev : List Row) (l : Row) : Bool := x.fmod 4 == 0 && !(l.isEmpty) && decide (prev.length < 3)
theorem encR_snoc (l : Row) (it : It) : encR l ++ [.tup [.str (T it.sp), .str (T it.td)]] = encR (l ++ [it]) := by
  simp [encR, It.enc]
theorem encR_one (it : It) : [.tup [.str (T it.sp), .str (T it.td)]] = encR [it] := rfl
theorem encR_len (l : Row) : (encR l).length = l.length := by simp [encR]
theorem len1 (n : Nat) : (n + 1 == 0) = false := rfl
theorem nc1 : ((1 : Nat) : Int) = 1 := rfl
theorem nc2 : ((2 : Nat) : Int) = 2 := rfl
theorem nc3 : ((3 : Nat) : Int) = 3 := rfl
theorem nc4 : ((4 : Nat) : Int) = 4 := rfl
theorem len0 (l : Row) : (l.length == 0) = l.isEmpty := by cases l <;> rfl
theorem nm_step (N : PV) (prev : List Row) (l : Row) (b : List Nat) (x : Int) (so : Option PV) (hp : prev.length ≤ 3) (hl : l.length ≤ 99) :
    ∃ it : It, it.ok = true ∧ ((if splits x prev l then [] else b) = [42] → it.isStar = false) ∧
      execsM om1 99 nm_body (nmSt N prev l b (some (.int x)) so) = some (.next, nmSt N (if splits x prev l then prev ++ [l] else prev) (if splits x prev l then [it] else l ++ [it]) it.td (some (.int x)) (some (.str (T it.sp)))) := by
  obtain ⟨it, h1, h2, h3⟩ := run_item (x.fdiv 4) (if splits x prev l then [] else b)
  refine ⟨it, h1, h2, ?_⟩
  have h3' : runOf om0 9 2 d_law_item [.int (x.fdiv 4), .str (T (if splits x prev l then [] else b))] = some (.tup [.str (T it.sp), .str (T it.td)]) := h3
  have hl1 : l.length < 16777216 := by omega
  have sh : prev = [] ∨ (∃ a, prev = [a]) ∨ (∃ a b, prev = [a, b]) ∨ (∃ a b c, prev = [a, b, c]) := by
    match prev, hp with
    | [], _ => exact .inl rfl
    | [a], _ => exact .inr (.inl ⟨a, rfl⟩)
    | [a, b], _ => exact .inr (.inr (.inl ⟨a, b, rfl⟩))
    | [a, b, c], _ => exact .inr (.inr (.inr ⟨a, b, c, rfl⟩))
    | a :: b :: c :: d :: r, h => exact absurd h (by simp)
  by_cases hx : x.fmod 4 = 0
  · cases l with
    | nil =>
      have hs : splits x prev [] = false := by simp [splits]
      rw [hs] at h3' ⊢
      simp only [Bool.false_eq_true, if_false] at h3' ⊢
      rcases sh with rfl | ⟨a, rfl⟩ | ⟨a, b, rfl⟩ | ⟨a, b, c, rfl⟩ <;>
      simp only [nmSt, hsOf, nm_body, hx, om1_item, om1_len, f_len_lst, h3', d4, q4, li_e, idx_loc, eqP_int, eqP_lst_nil, place_m1, frzAll_encR, encR_len, encR_snoc, List.range_succ, List.range_zero, List.map_append, List.nil_append, eL, E1, E2, E3, E4, E5, Nat.reduceSub, Nat.reduceAdd, Nat.reduceLeDiff, Nat.reduceLT, reduceCtorEq, Int.reduceLT, Int.reduceLE, Int.reduceBEq, Nat.reduceBNe, Nat.reduceBEq, Nat.reduceMul]
    | cons y ys =>
      have hy : ((y :: ys).length == 0) = false := rfl
      have hl2 : ys.length + 1 < 16777216 := hl1
      rcases sh with rfl | ⟨a, rfl⟩ | ⟨a, b, rfl⟩ | ⟨a, b, c, rfl⟩
      · have hs : splits x [] (y :: ys) = true := by simp [splits, hx]
        rw [hs] at h3' ⊢
        simp only [Bool.false_eq_true, if_false, if_true] at h3' ⊢
        simp only [nmSt, hsOf, nm_body, hx, om1_item, om1_len, f_len_lst, h3', d4, q4, li_e, idx_loc, eqP_int, eqP_lst_nil, place_m1, frzAll_encR, encR_len, encR_snoc, encR_one, len1, nc1, nc2, nc3, nc4, clean_encR, List.range_succ, List.range_zero, List.map_append, List.nil_append, hl1, hy, eL, E1, E2, E3, E4, E5, Nat.reduceSub, Nat.reduceAdd, Nat.reduceLeDiff, Nat.reduceLT, reduceCtorEq, Int.reduceLT, Int.reduceLE, Int.reduceBEq, Nat.reduceBNe, Nat.reduceBEq, Nat.reduceMul]
      · have hs : splits x [a] (y :: ys) = true := by simp [splits, hx]
        rw [hs] at h3' ⊢
        simp only [Bool.false_eq_true, if_false, if_true] at h3' ⊢
        simp only [nmSt, hsOf, nm_body, hx, om1_item, om1_len, f_len_lst, h3', d4, q4, li_e, idx_loc, eqP_int, eqP_lst_nil, place_m1, frzAll_encR, encR_len, encR_snoc, encR_one, len1, nc1, nc2, nc3, nc4, clean_encR, List.range_succ, List.range_zero, List.map_append, List.nil_append, hl1, hy, eL, E1, E2, E3, E4, E5, Nat.reduceSub, Nat.reduceAdd, Nat.reduceLeDiff, Nat.reduceLT, reduceCtorEq, Int.reduceLT, Int.reduceLE, Int.reduceBEq, Nat.reduceBNe, Nat.reduceBEq, Nat.reduceMul]
      · have hs : splits x [a, b] (y :: ys) = true := by simp [splits, hx]
        rw [hs] at h3' ⊢
        simp only [Bool.false_eq_true, if_false, if_true] at h3' ⊢
        simp only [nmSt, hsOf, nm_body, hx, om1_item, om1_len, f_len_lst, h3', d4, q4, li_e, idx_loc, eqP_int, eqP_lst_nil, place_m1, frzAll_encR, encR_len, encR_snoc, encR_one, len1, nc1, nc2, nc3, nc4, clean_encR, List.range_succ, List.range_zero, List.map_append, List.nil_append, hl1, hy, eL, E1, E2, E3, E4, E5, Nat.reduceSub, Nat.reduceAdd, Nat.reduceLeDiff, Nat.reduceLT, reduceCtorEq, Int.reduceLT, Int.reduceLE, Int.reduceBEq, Nat.reduceBNe, Nat.reduceBEq, Nat.reduceMul]
      · have hs : splits x [a, b, c] (y :: ys) = false := by simp [splits, hx]
        rw [hs] at h3' ⊢
        simp only [Bool.false_eq_true, if_false, if_true] at h3' ⊢
        simp only [nmSt, hsOf, nm_body, hx, om1_item, om1_len, f_len_lst, h3', d4, q4, li_e, idx_loc, eqP_int, eqP_lst_nil, place_m1, frzAll_encR, encR_len, encR_snoc, len1, nc1, nc2, nc3, nc4, clean_encR, List.range_succ, List.range_zero, List.map_append, List.nil_append, hl1, hl2, hy, eL, E1, E2, E3, E4, E5, Nat.reduceSub, Nat.reduceAdd, Nat.reduceLeDiff, Nat.reduceLT, reduceCtorEq, Int.reduceLT, Int.reduceLE, Int.reduceBEq, Nat.reduceBNe, Nat.reduceBEq, Nat.reduceMul]
  · have hs : splits x prev l = false := by simp [splits, hx]
    have hx' : (x.fmod 4 == 0) = false := by simpa using hx
    rw [hs] at h3' ⊢
    simp only [Bool.false_eq_true, if_false] at h3' ⊢
    rcases sh with rfl | ⟨a, rfl⟩ | ⟨a, b, rfl⟩ | ⟨a, b, c, rfl⟩ <;>
    simp only [nmSt, hsOf, nm_body, hx', om1_item, om1_len, f_len_lst, h3', d4, q4, li_e, idx_loc, eqP_int, eqP_lst_nil, place_m1, frzAll_encR, encR_len, encR_snoc, List.range_succ, List.range_zero, List.map_append, List.nil_append, hl1, eL, E1, E2, E3, E4, E5, Nat.reduceSub, Nat.reduceAdd, Nat.reduceLeDiff, Nat.reduceLT, reduceCtorEq, Int.reduceLT, Int.reduceLE, Int.reduceBEq, Nat.reduceBNe, Nat.reduceBEq, Nat.reduceMul]
def nA : Bool → List It → Bool
  | _, [] => true
  | p, x :: r => !(p && x.isStar) && nA x.isStar r
theorem nA_snoc (y x : It) : ∀ (l : List It) (p : Bool), nA p (l ++ [y] ++ [x]) = (nA p (l ++ [y]) && !(y.isStar && x.isStar))
  | [], p => by simp [nA]
  | a :: l, p => by
    show (!(p && a.isStar) && nA a.isStar (l ++ [y] ++ [x])) = (!(p && a.isStar) && nA a.isStar (l ++ [y]) && _)
    rw [nA_snoc y x l, Bool.and_assoc]
def okRow (r : Row) : Prop := (∀ x ∈ r, x.ok = true) ∧ nA false r = true
theorem okRow_one (x : It) (h : x.ok = true) : okRow [x] := ⟨by simpa using h, by simp [nA]⟩
theorem td_star (y : It) : y.td = [42] ↔ y.isStar = true := by cases y <;> simp [It.td, It.isStar]
structure Good (prev : List Row) (l : Row) (b : List Nat) (k : Nat) : Prop where
  rows : ∀ r ∈ prev, r ≠ [] ∧ okRow r
  last : okRow l
  beh : (l = [] ∧ prev = [] ∧ b = []) ∨ ∃ l0 y, l = l0 ++ [y] ∧ b = y.td
  len : prev.length ≤ 3
  tot : (prev.map List.length).sum + l.length = k
theorem Good.next {prev : List Row} {l : Row} {b : List Nat} {k : Nat} (g : Good prev l b k) (x : Int) (it : It) (h1 : it.ok = true) (h2 : (if splits x prev l then [] else b) = [42] → it.isStar = false) :
    Good (if splits x prev l then prev ++ [l] else prev) (if splits x prev l then [it] else l ++ [it]) it.td (k + 1) := by
  by_cases hs : splits x prev l = true
  · simp only [hs, if_true]
    have hs' := hs
    simp only [splits, Bool.and_eq_true, decide_eq_true_eq, Bool.not_eq_true'] at hs'
    refine ⟨fun r hr => ?_, okRow_one it h1, .inr ⟨[], it, rfl, rfl⟩, by simp; omega, ?_⟩
    · rcases List.mem_append.mp hr with hr | hr
      · exact g.rows r hr
      · rw [List.mem_singleton.mp hr]
        exact ⟨fun e => by rw [e] at hs'; simp at hs', g.last⟩
    · have := g.tot
      simp only [List.map_append, List.sum_append, List.map_cons, List.map_nil, List.sum_cons, List.sum_nil, List.length_singleton]
      omega
  · simp only [hs, if_false, Bool.false_eq_true] at h2 ⊢
    refine ⟨g.rows, ⟨fun y hy => ?_, ?_⟩, .inr ⟨l, it, rfl, rfl⟩, g.len, ?_⟩
    · rcases List.mem_append.mp hy with hy | hy
      · exact g.last.1 y hy
      · rw [List.mem_singleton.mp hy]; exact h1
    · rcases g.beh with ⟨rfl, _, _⟩ | ⟨l0, y, rfl, rfl⟩
      · simp [nA]
      · rw [nA_snoc, g.last.2]
        cases hy : y.isStar
        · rfl
        · rw [h2 ((td_star y).mpr hy)]; rfl
    · have := g.tot
      simp only [List.length_append, List.length_singleton]; omega
theorem nm_loop (N : PV) : ∀ (xs : List Int) (prev : List Row) (l : Row) (b : List Nat) (k : Nat) (xo so : Option PV), Good prev l b k → k + xs.length ≤ 99 →
    ∃ prev' l' b' xo' so', Good prev' l' b' (k + xs.length) ∧ forL (.one 3) (execsM om1 99 nm_body) (xs.map .int) (nmSt N prev l b xo so) = some (.next, nmSt N prev' l' b' xo' so')
  | [], prev, l, b, k, xo, so, g, _ => ⟨prev, l, b, xo, so, g, rfl⟩
  | x :: xs, prev, l, b, k, xo, so, g, hk => by
    have hk' : k + 1 + xs.length ≤ 99 := by simp only [List.length_cons] at hk; omega
    obtain ⟨it, h1, h2, h3⟩ := nm_step N prev l b x so g.len (by have := g.tot; omega)
    have g' := g.next x it h1 h2
    obtain ⟨p', l', b', xo', so', g2, h4⟩ := nm_loop N xs _ _ _ (k + 1) (some (.int x)) (some (.str (T it.sp))) g' hk'
    refine ⟨p', l', b', xo', so', by rw [show k + (x :: xs).length = k + 1 + xs.length by simp only [List.length_cons]; omega]; exact g2, ?_⟩
    show (match execsM om1 99 nm_body (nmSt N prev l b (some (.int x)) so) with
      | some (.next, τ) => forL (.one 3) (execsM om1 99 nm_body) (xs.map .int) τ
      | some (.cont, τ) => forL (.one 3) (execsM om1 99 nm_body) (xs.map .int) τ
      | some (.brk, τ) => some (.next, τ)
      | some (.ret v, τ) => some (.ret v, τ)
      | none => none) = _
    rw [h3]
    exact h4
theorem clean_encN (ls : List Row) : clean (encN ls) = true := by
  show cleans (ls.map fun l => .lst (encR l)) = true
  induction ls with
  | nil => rfl
  | cons a r ih =>
    show (clean (.lst (encR a)) && _) = true
    rw [Bool.and_eq_true]
    exact ⟨clean_encR a, ih⟩
structure Rows (rows : List Row) (k : Nat) : Prop where
  ne : rows ≠ []
  le : rows.length ≤ 4
  each : ∀ r ∈ rows, r ≠ [] ∧ okRow r
  tot : (rows.map List.length).sum = k
theorem frz_rows (prev : List Row) (l : Row) (h : prev.length ≤ 3) : frz (hsOf prev l) (.loc 1) = some (encN (prev ++ [l])) := by
  have f1 : ∀ H : Hs, ∀ r : Row, frz1 H (.lst (encR r)) = some (.lst (encR r)) := fun H r => by
    simp only [frz1, clean, clean_encR, if_true]
  have sh : prev = [] ∨ (∃ a, prev = [a]) ∨ (∃ a b, prev = [a, b]) ∨ (∃ a b c, prev = [a, b, c]) := by
    match prev, h with
    | [], _ => exact .inl rfl
    | [a], _ => exact .inr (.inl ⟨a, rfl⟩)
    | [a, b], _ => exact .inr (.inr (.inl ⟨a, b, rfl⟩))
    | [a, b, c], _ => exact .inr (.inr (.inr ⟨a, b, c, rfl⟩))
    | a :: b :: c :: d :: r, h => exact absurd h (by simp)
  rcases sh with rfl | ⟨a, rfl⟩ | ⟨a, b, rfl⟩ | ⟨a, b, c, rfl⟩ <;>
  simp only [hsOf, encN, clean_encR, List.range_succ, List.range_zero, List.map_append, eL, E1, E2, E3, E4, E5, Nat.reduceSub, Nat.reduceAdd, Nat.reduceLeDiff, Nat.reduceLT, reduceCtorEq, Int.reduceLT, Int.reduceLE, Int.reduceBEq, Nat.reduceBNe, Nat.reduceBEq, Nat.reduceMul]
theorem run_names (xs : List Int) (hn : xs ≠ []) (hk : xs.length ≤ 99) : ∃ rows, Rows rows xs.length ∧ runOf om1 99 1 d_law_names [.lst (xs.map .int)] = some (encN rows) := by
  obtain ⟨p, l, b, xo, so, g, h⟩ := nm_loop (.lst (xs.map .int)) xs [] [] [] 0 none none ⟨fun _ h => (nomatch h), ⟨fun _ h => (nomatch h), rfl⟩, .inl ⟨rfl, rfl, rfl⟩, Nat.zero_le _, rfl⟩ (by omega)
  rw [Nat.zero_add] at g
  have hl : l ≠ [] := by
    rcases g.beh with ⟨rfl, rfl, rfl⟩ | ⟨l0, y, rfl, _⟩
    · exfalso
      have := g.tot
      simp at this
      exact hn (List.length_eq_zero_iff.mp this.symm)
    · simp
  refine ⟨p ++ [l], ⟨by simp, by simpa using g.len, fun r hr => ?_, ?_⟩, ?_⟩
  · rcases List.mem_append.mp hr with hr | hr
    · exact g.rows r hr
    · rw [List.mem_singleton.mp hr]; exact ⟨hl, g.last⟩
  · have := g.tot
    simp only [List.map_append, List.sum_append, List.map_cons, List.map_nil, List.sum_cons, List.sum_nil]
    omega
  · have hf := frz_rows p l g.len
    simp only [frz] at hf
    have h' : forL (.one 3) (execsM om1 99 nm_body) (xs.map .int) ⟨[some (.lst (xs.map .int)), some (.loc 1), some (.str (T [])), none, none], [], [[], [.loc 0]]⟩ = some (.next, nmSt (.lst (xs.map .int)) p l b xo so) := h
    unfold runOf runDf
    rw [show d_law_names.body = b_law_names from rfl, b_law_names]
    simp only [d_law_names, li_e, h', nmSt, hf, eL, E1, E2, E3, E4, E5, Nat.reduceSub, Nat.reduceAdd, Nat.reduceLeDiff, Nat.reduceLT, reduceCtorEq, Int.reduceLT, Int.reduceLE, Int.reduceBEq, Nat.reduceBNe, Nat.reduceBEq, Nat.reduceMul]
end Mine.P
namespace Mine.P
abbrev U := List Nat
def GoodU (u : U) : Prop := (∃ c, c ≠ 92 ∧ u = [c]) ∨ ∃ c, u = [92, c]
def itU : List U → Nat → List PV
  | [], _ => []
  | u :: r, i => unitP ((i + u.length - 1 : Nat) : Int) (T u) :: itU r (i + u.length)
theorem itGo_flat : ∀ (us : List U) (i : Nat) (p : Int), (∀ u ∈ us, GoodU u) → itGo us.flatten i false p = itU us i
  | [], _, _, _ => rfl
  | u :: r, i, p, h => by
    have hr : ∀ u ∈ r, GoodU u := fun v hv => h v (by simp [hv])
    rcases h u (by simp) with ⟨c, hc, rfl⟩ | ⟨c, rfl⟩
    · show (if c = 92 then _ else unitP i (oneS c) :: itGo r.flatten (i + 1) false i) = _
      rw [if_neg hc, itGo_flat r _ _ hr]; rfl
    · show (if (92 : Nat) = 92 then unitP ((i + 1 : Nat) : Int) ⟨#[92, c]⟩ :: itGo r.flatten (i + 1 + 1) false ((i + 1 : Nat) : Int) else _) = _
      rw [if_pos rfl, itGo_flat r _ _ hr]; rfl
theorem itAll_flat (us : List U) (h : ∀ u ∈ us, GoodU u) : itAll (T us.flatten) = itU us 0 := by
  unfold itAll
  rw [T_list, itGo_flat us 0 0 h]
def oq : List U → List U → Option (List U) → List U
  | [], out, pend => out ++ pend.getD []
  | u :: r, out, none => if u = [34] then oq r out (some [u]) else oq r (out ++ [u]) none
  | u :: r, out, some p => if u = [34] then oq r out none else oq r out (some (p ++ [u]))
theorem oq_free : ∀ (us out : List U), [34] ∉ us → oq us out none = out ++ us
  | [], out, _ => by simp [oq]
  | u :: r, out, h => by
    have h1 : u ≠ [34] := fun e => h (by simp [e])
    have h2 : [34] ∉ r := fun e => h (by simp [e])
    simp only [oq, if_neg h1, oq_free r _ h2, List.append_assoc, List.singleton_append]
theorem oq_mem : ∀ (us out : List U) (pend : Option (List U)), ∀ x ∈ oq us out pend, x ∈ us ∨ x ∈ out ∨ x ∈ pend.getD []
  | [], out, pend, x, h => by
    rcases List.mem_append.mp h with h | h
    · exact .inr (.inl h)
    · exact .inr (.inr h)
  | u :: r, out, none, x, h => by
    unfold oq at h
    split at h
    · rcases oq_mem r _ _ x h with h | h | h
      · exact .inl (by simp [h])
      · exact .inr (.inl h)
      · exact .inl (by rw [Option.getD_some] at h; rw [List.mem_singleton.mp h]; simp)
    · rcases oq_mem r _ _ x h with h | h | h
      · exact .inl (by simp [h])
      · rcases List.mem_append.mp h with h | h
        · exact .inr (.inl h)
        · exact .inl (by rw [List.mem_singleton.mp h]; simp)
      · cases h
  | u :: r, out, some p, x, h => by
    unfold oq at h
    split at h
    · rcases oq_mem r _ _ x h with h | h | h
      · exact .inl (by simp [h])
      · exact .inr (.inl h)
      · cases h
    · rcases oq_mem r _ _ x h with h | h | h
      · exact .inl (by simp [h])
      · exact .inr (.inl h)
      · rw [Option.getD_some] at h
        rcases List.mem_append.mp h with h | h
        · exact .inr (.inr (by simpa using h))
        · exact .inl (by rw [List.mem_singleton.mp h]; simp)
theorem oq_len : ∀ (us out : List U) (pend : Option (List U)), (oq us out pend).flatten.length ≤ out.flatten.length + (pend.getD []).flatten.length + us.flatten.length
  | [], out, pend => by simp [oq]
  | u :: r, out, none => by
    unfold oq
    split
    · have := oq_len r out (some [u]); simp at this ⊢; omega
    · have := oq_len r (out ++ [u]) none; simp at this ⊢; omega
  | u :: r, out, some p => by
    unfold oq
    split
    · have := oq_len r out none; simp at this ⊢; omega
    · have := oq_len r out (some (p ++ [u])); simp at this ⊢; omega
theorem li_dq : Str.ofString "\"" = T [34] := by decide +kernel
theorem om0_gen : om0.gen "_iter_escaped_chars" = some itF := rfl
theorem om0_len : om0.fn "len" = some fLen := rfl
def segP (segs : List (List Nat)) : List PV := segs.map fun x => .str (T x)
def sqSt (w : List Nat) (start : Nat) (op : Option Nat) (segs : List (List Nat)) (po ch : Option PV) : St :=
  ⟨[some (.str (T w)), some (.int (start : Int)), some (match op with | some o => .int (o : Int) | none => .none), some (.loc 0), po, ch], [], [segP segs]⟩
theorem segP_snoc (segs : List (List Nat)) (x : List Nat) : segP segs ++ [.str (T x)] = segP (segs ++ [x]) := by simp [segP]
theorem segP_len (segs : List (List Nat)) : (segP segs).length = segs.length := by simp [segP]
theorem segP_strs : ∀ segs : List (List Nat), strsOf (segP segs) = some (segs.map T)
  | [] => rfl
  | x :: r => by
    show (strsOf (segP r)).map (T x :: ·) = _
    rw [segP_strs r]; rfl
theorem clean_segP : ∀ segs : List (List Nat), cleans (segP segs) = true
  | [] => rfl
  | x :: r => clean_segP r
theorem sub_add (w : List Nat) (a p : Nat) (u : List Nat) (ha : a ≤ p) (h : w.take (p + u.length) = w.take p ++ u) (hp : p ≤ w.length) : (w.take (p + u.length)).drop a = (w.take p).drop a ++ u := by
  rw [h, List.drop_append_of_le_length (by simp; omega)]
structure SQ (w : List Nat) (p n : Nat) (out : List U) (pend : Option (List U)) (start : Nat) (op : Option Nat) (segs : List (List Nat)) : Prop where
  sl : segs.length ≤ n
  pw : p ≤ w.length
  sp : start ≤ p
  st : match op, pend with
    | none, none => segs.flatten ++ (w.take p).drop start = out.flatten
    | some o, some pe => start ≤ o ∧ o ≤ p ∧ segs.flatten ++ (w.take o).drop start = out.flatten ∧ (w.take p).drop o = pe.flatten
    | _, _ => False
theorem intNe {a b : Nat} (h : a ≠ b) : (((a : Nat) : Int) == ((b : Nat) : Int)) = false := by
  rw [beq_eq_false_iff_ne]
  omega
theorem intEq (a : Nat) : (((a : Nat) : Int) == ((a : Nat) : Int)) = true := by simp
theorem d00 (w : List Nat) (k : Nat) : (w.take k).drop k = [] := List.drop_of_length_le (by simp; omega)
theorem sq_step (w : List Nat) (p n : Nat) (u : U) (out : List U) (pend : Option (List U)) (start : Nat) (op : Option Nat) (segs : List (List Nat)) (hu : GoodU u) (hn : n ≤ 99999)
    (g : SQ w p n out pend start op segs) (h : w.take (p + u.length) = w.take p ++ u) (hw : p + u.length ≤ w.length) :
    ∃ out' pend' start' op' segs', SQ w (p + u.length) (n + 1) out' pend' start' op' segs' ∧ (∀ r, oq (u :: r) out pend = oq r out' pend') ∧
      execsM om0 999 sq_body (sqSt w start op segs (some (.int ((p + u.length - 1 : Nat) : Int))) (some (.str (T u)))) = some (.next, sqSt w start' op' segs' (some (.int ((p + u.length - 1 : Nat) : Int))) (some (.str (T u)))) := by
  obtain ⟨sl, pw, sp, st⟩ := g
  by_cases hq : u = [34]
  · subst hq
    have e1 : p + [34].length - 1 = p := by simp
    rw [e1]
    have e2 : p + [34].length = p + 1 := rfl
    cases op with
    | none => cases pend with
      | some pe => exact st.elim
      | none =>
        refine ⟨out, some [[34]], start, some p, segs, ⟨by omega, hw, by omega, sp, by omega, st, ?_⟩, fun r => rfl, ?_⟩
        · rw [h, List.drop_append_of_le_length (by simp; omega), List.drop_of_length_le (by simp; omega)]; rfl
        · simp only [sqSt, sq_body, li_dq, eqP_str, T_beq, e1, eL, E1, E2, E3, E4, E5, Nat.reduceSub, Nat.reduceAdd, Nat.reduceLeDiff, Nat.reduceLT, reduceCtorEq, Int.reduceLT, Int.reduceLE, Int.reduceBEq, Nat.reduceBNe, Nat.reduceBEq, Nat.reduceMul]
    | some o => cases pend with
      | none => exact st.elim
      | some pe =>
        obtain ⟨s1, s2, s3, s4⟩ := st
        by_cases hso : start = o
        · subst hso
          refine ⟨out, none, p + 1, none, segs, ⟨by omega, hw, by rw [e2]; exact Nat.le_refl _, ?_⟩, fun r => rfl, ?_⟩
          · show segs.flatten ++ (w.take (p + 1)).drop (p + 1) = _
            rw [← s3, d00, d00]
          · simp only [sqSt, sq_body, li_dq, eqP_str, eqP_int, T_beq, e1, intEq, c1, eL, E1, E2, E3, E4, E5, Nat.reduceSub, Nat.reduceAdd, Nat.reduceLeDiff, Nat.reduceLT, reduceCtorEq, Int.reduceLT, Int.reduceLE, Int.reduceBEq, Nat.reduceBNe, Nat.reduceBEq, Nat.reduceMul]
        · refine ⟨out, none, p + 1, none, segs ++ [(w.take o).drop start], ⟨by simp; omega, hw, by rw [e2]; exact Nat.le_refl _, ?_⟩, fun r => rfl, ?_⟩
          · show (segs ++ [(w.take o).drop start]).flatten ++ (w.take (p + 1)).drop (p + 1) = _
            rw [← s3, d00]
            simp
          · have hz : segs.length < 16777216 := by omega
            simp only [sqSt, sq_body, li_dq, eqP_str, eqP_int, T_beq, e1, intNe hso, c1, sS_ab, segP_len, segP_snoc, hz, eL, E1, E2, E3, E4, E5, Nat.reduceSub, Nat.reduceAdd, Nat.reduceLeDiff, Nat.reduceLT, reduceCtorEq, Int.reduceLT, Int.reduceLE, Int.reduceBEq, Nat.reduceBNe, Nat.reduceBEq, Nat.reduceMul]
  · have hq' : (u == [34]) = false := by simpa using hq
    cases op with
    | none => cases pend with
      | some pe => exact st.elim
      | none =>
        refine ⟨out ++ [u], none, start, none, segs, ⟨by omega, hw, by omega, ?_⟩, fun r => by rw [oq, if_neg hq], ?_⟩
        · show segs.flatten ++ (w.take (p + u.length)).drop start = _
          rw [sub_add w start p u sp h pw, ← List.append_assoc, st]; simp
        · simp only [sqSt, sq_body, li_dq, eqP_str, T_beq, hq', eL, E1, E2, E3, E4, E5, Nat.reduceSub, Nat.reduceAdd, Nat.reduceLeDiff, Nat.reduceLT, reduceCtorEq, Int.reduceLT, Int.reduceLE, Int.reduceBEq, Nat.reduceBNe, Nat.reduceBEq, Nat.reduceMul]
    | some o => cases pend with
      | none => exact st.elim
      | some pe =>
        obtain ⟨s1, s2, s3, s4⟩ := st
        refine ⟨out, some (pe ++ [u]), start, some o, segs, ⟨by omega, hw, by omega, s1, by omega, s3, ?_⟩, fun r => by rw [oq, if_neg hq], ?_⟩
        · rw [sub_add w o p u s2 h pw, s4]; simp
        · simp only [sqSt, sq_body, li_dq, eqP_str, T_beq, hq', eL, E1, E2, E3, E4, E5, Nat.reduceSub, Nat.reduceAdd, Nat.reduceLeDiff, Nat.reduceLT, reduceCtorEq, Int.reduceLT, Int.reduceLE, Int.reduceBEq, Nat.reduceBNe, Nat.reduceBEq, Nat.reduceMul]
end Mine.P
namespace Mine.P
theorem bind_unit (i : Int) (u : U) (a b c d e f : Option PV) : bindT (.tup [4, 5]) (unitP i (T u)) [a, b, c, d, e, f] = some [a, b, c, d, some (.int i), some (.str (T u))] := rfl
theorem sq_loop (w : List Nat) : ∀ (us : List U) (p n : Nat) (out : List U) (pend : Option (List U)) (start : Nat) (op : Option Nat) (segs : List (List Nat)) (po ch : Option PV),
    (∀ u ∈ us, GoodU u) → n + us.length ≤ 99999 → SQ w p n out pend start op segs → w.drop p = us.flatten →
    ∃ out' pend' start' op' segs' po' ch', SQ w w.length (n + us.length) out' pend' start' op' segs' ∧ oq us out pend = out' ++ pend'.getD [] ∧
      forL (.tup [4, 5]) (execsM om0 999 sq_body) (itU us p) (sqSt w start op segs po ch) = some (.next, sqSt w start' op' segs' po' ch')
  | [], p, n, out, pend, start, op, segs, po, ch, hu, hn, g, hd => by
    have hp : p = w.length := by
      have := congrArg List.length hd
      simp at this
      have := g.pw
      omega
    subst hp
    exact ⟨out, pend, start, op, segs, po, ch, g, rfl, rfl⟩
  | u :: r, p, n, out, pend, start, op, segs, po, ch, hu, hn, g, hd => by
    have hd' : w.drop p = u ++ r.flatten := hd
    have hw : p + u.length ≤ w.length := by
      have := congrArg List.length hd'
      simp at this
      have := g.pw
      omega
    have ht : w.take (p + u.length) = w.take p ++ u := by
      rw [List.take_add, hd', List.take_left' rfl]
    have hdr : w.drop (p + u.length) = r.flatten := by
      rw [← List.drop_drop, hd', List.drop_left' rfl]
    simp only [List.length_cons] at hn
    obtain ⟨o1, p1, s1, op1, sg1, g1, e1, x1⟩ := sq_step w p n u out pend start op segs (hu u (by simp)) (by omega) g ht hw
    obtain ⟨o2, p2, s2, op2, sg2, po2, ch2, g2, e2, x2⟩ := sq_loop w r (p + u.length) (n + 1) o1 p1 s1 op1 sg1 (some (.int ((p + u.length - 1 : Nat) : Int))) (some (.str (T u))) (fun v hv => hu v (by simp [hv])) (by omega) g1 hdr
    refine ⟨o2, p2, s2, op2, sg2, po2, ch2, by rw [show n + (u :: r).length = n + 1 + r.length by simp only [List.length_cons]; omega]; exact g2, by rw [e1, e2], ?_⟩
    show (match execsM om0 999 sq_body (sqSt w start op segs (some (.int ((p + u.length - 1 : Nat) : Int))) (some (.str (T u)))) with
      | some (.next, τ) => forL (.tup [4, 5]) (execsM om0 999 sq_body) (itU r (p + u.length)) τ
      | some (.cont, τ) => forL (.tup [4, 5]) (execsM om0 999 sq_body) (itU r (p + u.length)) τ
      | some (.brk, τ) => some (.next, τ)
      | some (.ret v, τ) => some (.ret v, τ)
      | none => none) = _
    rw [x1]
    exact x2
theorem T_join_nil (segs : List (List Nat)) : Str.join (T []) (segs.map T) = T segs.flatten := by rw [T_join, joinL_nil]
theorem len_T (segs : List (List Nat)) : ((segs.map T).map (·.length)).sum = segs.flatten.length := by
  induction segs with
  | nil => rfl
  | cons a r ih =>
    simp only [List.map_cons, List.sum_cons, ih, T_len, List.flatten_cons, List.length_append]
theorem m_join0 (segs : List (List Nat)) (h : segs.flatten.length ≤ 16777216) : methP "join" (.str (T [])) [.lst (segP segs)] = some (.str (T segs.flatten)) := by
  rw [m_join, segP_strs]
  simp only [len_T]
  rw [if_pos (by rw [show (T []).length = 0 from rfl, Nat.mul_zero]; exact h), T_join_nil]
theorem itF_str (x : Str) : itF [.str x] = some (itAll x) := rfl
theorem frzAll_segP (H : Hs) (segs : List (List Nat)) : frzAll H (segP segs) = some (segP segs) := frzAll_clean H _ (clean_segP segs)
theorem run_strip (us : List U) (hu : ∀ u ∈ us, GoodU u) (hn : us.length ≤ 9999) (hl : us.flatten.length ≤ 99999) :
    runOf om0 999 1 d_strip_quoted_realnames [.str (T us.flatten)] = some (.str (T (oq us [] none).flatten)) := by
  by_cases hq : 34 ∈ us.flatten
  · have g0 : SQ us.flatten 0 0 [] none 0 none [] := ⟨Nat.le_refl _, Nat.zero_le _, Nat.le_refl _, rfl⟩
    obtain ⟨o2, p2, s2, op2, sg2, po2, ch2, g2, e2, x2⟩ := sq_loop us.flatten us 0 0 [] none 0 none [] none none hu (by omega) g0 rfl
    have hfl : (oq us [] none).flatten.length ≤ 0 + 0 + us.flatten.length := oq_len us [] none
    have hfin : (sg2 ++ [us.flatten.drop s2]).flatten = (oq us [] none).flatten := by
      have st := g2.st
      rw [e2]
      cases op2 with
      | none => cases p2 with
        | some pe => exact st.elim
        | none =>
          have st' : sg2.flatten ++ (us.flatten.take us.flatten.length).drop s2 = o2.flatten := st
          rw [List.take_length] at st'
          simpa using st'
      | some o => cases p2 with
        | none => exact st.elim
        | some pe =>
          obtain ⟨h1, h2, h3, h4⟩ := st
          rw [List.take_length] at h4
          rw [List.flatten_append, List.flatten_append, Option.getD_some, ← h4, ← h3, List.append_assoc]
          congr 1
          rw [List.flatten_singleton]
          have : us.flatten = us.flatten.take o ++ us.flatten.drop o := (List.take_append_drop o _).symm
          conv => lhs; rw [this]
          rw [List.drop_append_of_le_length (by rw [List.length_take]; omega)]
    have x2' : forL (.tup [4, 5]) (execsM om0 999 sq_body) (itU us 0) ⟨[some (.str (T us.flatten)), some (.int 0), some .none, some (.loc 0), none, none], [], [[]]⟩ = some (.next, sqSt us.flatten s2 op2 sg2 po2 ch2) := x2
    unfold runOf runDf
    rw [show d_strip_quoted_realnames.body = b_strip_quoted_realnames from rfl, b_strip_quoted_realnames]
    by_cases hs : s2 < us.flatten.length
    · have hs' : ((s2 : Int) < (us.flatten.length : Int)) = True := by simp only [eq_iff_iff, iff_true]; omega
      have hz : sg2.length < 16777216 := by have := g2.sl; omega
      have hj : (sg2 ++ [us.flatten.drop s2]).flatten.length ≤ 16777216 := by rw [hfin]; omega
      simp only [d_strip_quoted_realnames, li_dq, li_e, inP, T_contains, hq, om0_gen, om0_len, itF_str, itAll_flat us hu, x2', sqSt, f_len_str, hs', hz, sS_from, segP_len, segP_snoc, frzAll_segP, clean_segP, m_join0 _ hj, hfin, eL, E1, E2, E3, E4, E5, Nat.reduceSub, Nat.reduceAdd, Nat.reduceLeDiff, Nat.reduceLT, reduceCtorEq, Int.reduceLT, Int.reduceLE, Int.reduceBEq, Nat.reduceBNe, Nat.reduceBEq, Nat.reduceMul]
    · have hs' : ((s2 : Int) < (us.flatten.length : Int)) = False := by simp only [eq_iff_iff, iff_false]; omega
      have hdn : us.flatten.drop s2 = [] := List.drop_of_length_le (by omega)
      rw [hdn] at hfin
      have hfin' : sg2.flatten = (oq us [] none).flatten := by rw [← hfin]; simp
      have hj : sg2.flatten.length ≤ 16777216 := by rw [hfin']; omega
      simp only [d_strip_quoted_realnames, li_dq, li_e, inP, T_contains, hq, om0_gen, om0_len, itF_str, itAll_flat us hu, x2', sqSt, f_len_str, hs', sS_from, segP_len, segP_snoc, frzAll_segP, clean_segP, m_join0 _ hj, hfin', eL, E1, E2, E3, E4, E5, Nat.reduceSub, Nat.reduceAdd, Nat.reduceLeDiff, Nat.reduceLT, reduceCtorEq, Int.reduceLT, Int.reduceLE, Int.reduceBEq, Nat.reduceBNe, Nat.reduceBEq, Nat.reduceMul]
  · have hq' : [34] ∉ us := fun h => hq (List.mem_flatten.mpr ⟨[34], h, by simp⟩)
    rw [oq_free us [] hq', List.nil_append]
    unfold runOf runDf
    rw [show d_strip_quoted_realnames.body = b_strip_quoted_realnames from rfl, b_strip_quoted_realnames]
    simp only [d_strip_quoted_realnames, li_dq, inP, T_contains, hq, eL, E1, E2, E3, E4, E5, Nat.reduceSub, Nat.reduceAdd, Nat.reduceLeDiff, Nat.reduceLT, reduceCtorEq, Int.reduceLT, Int.reduceLE, Int.reduceBEq, Nat.reduceBNe, Nat.reduceBEq, Nat.reduceMul]
def stU (o : Option Int) (u : U) : Option Int := o.bind fun c => if u = [40] then some (c + 1) else if u = [41] then (if c - 1 < 0 then none else some (c - 1)) else some c
def mach : List U → Option Int → Option (Option Int) → Option Int
  | [], o, _ => o
  | u :: r, o, none => if u = [34] then mach r o (some o) else mach r (stU o u) none
  | u :: r, o, some b => if u = [34] then mach r b none else mach r (stU o u) (some b)
theorem stU_q (o : Option Int) : stU o [34] = o := by cases o <;> rfl
theorem fold_oq : ∀ (us out : List U) (pend : Option (List U)) (i : Option Int),
    (oq us out pend).foldl stU i = mach us ((out ++ pend.getD []).foldl stU i) (pend.map fun _ => out.foldl stU i)
  | [], out, pend, i => by simp [oq, mach]
  | u :: r, out, none, i => by
    by_cases h : u = [34]
    · subst h
      show (oq r out (some [[34]])).foldl stU i = mach r _ _
      rw [fold_oq r out (some [[34]]) i]
      simp [stU_q]
    · simp only [oq, mach, if_neg h, Option.map_none]
      rw [fold_oq r (out ++ [u]) none i]
      simp
  | u :: r, out, some p, i => by
    by_cases h : u = [34]
    · subst h
      show (oq r out none).foldl stU i = mach r _ _
      rw [fold_oq r out none i]
      simp
    · simp only [oq, mach, if_neg h, Option.map_some]
      rw [fold_oq r out (some (p ++ [u])) i]
      simp
def ckU (us : List U) : Bool := mach us (some 0) none == some 0
theorem li_lp : Str.ofString "(" = T [40] := by decide +kernel
theorem li_rp : Str.ofString ")" = T [41] := by decide +kernel
def ckSt (a : Str) (c : Int) (po ch : Option PV) : St := ⟨[some (.str a), some (.int c), po, ch], [], []⟩
theorem addAdd : (Operator.Add == Operator.Add) = true := rfl
theorem subSub : (Operator.Sub == Operator.Sub) = true := rfl
theorem ck_step (a : Str) (c : Int) (po : Option PV) (u : U) : (∀ c', stU (some c) u = some c' → execsM om1 999 ck_body (ckSt a c po (some (.str (T u)))) = some (.next, ckSt a c' po (some (.str (T u))))) ∧
    (stU (some c) u = none → ∃ τ, execsM om1 999 ck_body (ckSt a c po (some (.str (T u)))) = some (.ret (.bool false), τ)) := by
  by_cases h1 : u = [40]
  · subst h1
    constructor
    · intro c' h
      have : c + 1 = c' := by simpa [stU] using h
      subst this
      simp only [ckSt, ck_body, li_lp, li_rp, eqP_str, T_beq, addAdd, eL, E1, E2, E3, E4, E5, Nat.reduceSub, Nat.reduceAdd, Nat.reduceLeDiff, Nat.reduceLT, reduceCtorEq, Int.reduceLT, Int.reduceLE, Int.reduceBEq, Nat.reduceBNe, Nat.reduceBEq, Nat.reduceMul]
    · intro h; simp [stU] at h
  · have h1' : (u == [40]) = false := by simpa using h1
    by_cases h2 : u = [41]
    · subst h2
      by_cases h3 : c - 1 < 0
      · constructor
        · intro c' h; simp [stU, h3] at h
        · intro _
          refine ⟨ckSt a (c - 1) po (some (.str (T [41]))), ?_⟩
          simp only [ckSt, ck_body, li_lp, li_rp, eqP_str, T_beq, h1', subSub, h3, Bool.or_true, eL, E1, E2, E3, E4, E5, Nat.reduceSub, Nat.reduceAdd, Nat.reduceLeDiff, Nat.reduceLT, reduceCtorEq, Int.reduceLT, Int.reduceLE, Int.reduceBEq, Nat.reduceBNe, Nat.reduceBEq, Nat.reduceMul]
      · constructor
        · intro c' h
          have : c - 1 = c' := by simpa [stU, h3] using h
          subst this
          simp only [ckSt, ck_body, li_lp, li_rp, eqP_str, T_beq, h1', subSub, h3, Bool.or_true, eL, E1, E2, E3, E4, E5, Nat.reduceSub, Nat.reduceAdd, Nat.reduceLeDiff, Nat.reduceLT, reduceCtorEq, Int.reduceLT, Int.reduceLE, Int.reduceBEq, Nat.reduceBNe, Nat.reduceBEq, Nat.reduceMul]
        · intro h; simp [stU, h3] at h
    · have h2' : (u == [41]) = false := by simpa using h2
      constructor
      · intro c' h
        have : c = c' := by simpa [stU, h1, h2] using h
        subst this
        simp only [ckSt, ck_body, li_lp, li_rp, eqP_str, T_beq, h1', h2', eL, E1, E2, E3, E4, E5, Nat.reduceSub, Nat.reduceAdd, Nat.reduceLeDiff, Nat.reduceLT, reduceCtorEq, Int.reduceLT, Int.reduceLE, Int.reduceBEq, Nat.reduceBNe, Nat.reduceBEq, Nat.reduceMul]
      · intro h; simp [stU, h1, h2] at h
theorem bind_ck (i : Int) (u : U) (a b c d : Option PV) : bindT (.tup [2, 3]) (unitP i (T u)) [a, b, c, d] = some [a, b, some (.int i), some (.str (T u))] := rfl
theorem fold_none : ∀ us : List U, us.foldl stU none = none
  | [] => rfl
  | u :: r => fold_none r
theorem ck_loop (a : Str) : ∀ (us : List U) (i : Nat) (c : Int) (po ch : Option PV), (∀ c', us.foldl stU (some c) = some c' → ∃ po' ch', forL (.tup [2, 3]) (execsM om1 999 ck_body) (itU us i) (ckSt a c po ch) = some (.next, ckSt a c' po' ch')) ∧
    (us.foldl stU (some c) = none → ∃ τ, forL (.tup [2, 3]) (execsM om1 999 ck_body) (itU us i) (ckSt a c po ch) = some (.ret (.bool false), τ))
  | [], i, c, po, ch => ⟨fun c' h => by cases h; exact ⟨po, ch, rfl⟩, fun h => by cases h⟩
  | u :: r, i, c, po, ch => by
    obtain ⟨s1, s2⟩ := ck_step a c (some (.int ((i + u.length - 1 : Nat) : Int))) u
    have ex : forL (.tup [2, 3]) (execsM om1 999 ck_body) (itU (u :: r) i) (ckSt a c po ch) = (match execsM om1 999 ck_body (ckSt a c (some (.int ((i + u.length - 1 : Nat) : Int))) (some (.str (T u)))) with
      | some (.next, τ) => forL (.tup [2, 3]) (execsM om1 999 ck_body) (itU r (i + u.length)) τ
      | some (.cont, τ) => forL (.tup [2, 3]) (execsM om1 999 ck_body) (itU r (i + u.length)) τ
      | some (.brk, τ) => some (.next, τ)
      | some (.ret v, τ) => some (.ret v, τ)
      | none => none) := rfl
    cases hs : stU (some c) u with
    | none =>
      obtain ⟨τ, ht⟩ := s2 hs
      constructor
      · intro c' h
        rw [List.foldl_cons, hs, fold_none] at h; cases h
      · intro _
        exact ⟨τ, by rw [ex, ht]⟩
    | some c1 =>
      have h1 := s1 c1 hs
      obtain ⟨l1, l2⟩ := ck_loop a r (i + u.length) c1 (some (.int ((i + u.length - 1 : Nat) : Int))) (some (.str (T u)))
      constructor
      · intro c' h
        rw [List.foldl_cons, hs] at h
        obtain ⟨po', ch', h2⟩ := l1 c' h
        exact ⟨po', ch', by rw [ex, h1]; exact h2⟩
      · intro h
        rw [List.foldl_cons, hs] at h
        obtain ⟨τ, h2⟩ := l2 h
        exact ⟨τ, by rw [ex, h1]; exact h2⟩
theorem om1_strip : om1.fn "_strip_quoted_realnames" = some (runOf om0 999 1 d_strip_quoted_realnames) := rfl
theorem om1_gen : om1.gen "_iter_escaped_chars" = some itF := rfl
theorem run_check (us : List U) (hu : ∀ u ∈ us, GoodU u) (hn : us.length ≤ 9999) (hl : us.flatten.length ≤ 99999) :
    runOf om1 999 1 d_check_parenthesis [.str (T us.flatten)] = some (.bool (ckU us)) := by
  have hs := run_strip us hu hn hl
  have hg : ∀ u ∈ oq us [] none, GoodU u := fun u h => by
    rcases oq_mem us [] none u h with h | h | h
    · exact hu u h
    · cases h
    · cases h
  have hm : (oq us [] none).foldl stU (some 0) = mach us (some 0) none := fold_oq us [] none (some 0)
  obtain ⟨l1, l2⟩ := ck_loop (T (oq us [] none).flatten) (oq us [] none) 0 0 none none
  unfold runOf runDf
  rw [show d_check_parenthesis.body = b_check_parenthesis from rfl, b_check_parenthesis]
  unfold ckU
  rw [← hm]
  cases hf : (oq us [] none).foldl stU (some 0) with
  | none =>
    obtain ⟨τ, ht⟩ := l2 hf
    simp only [ckSt] at ht
    simp only [d_check_parenthesis, om1_strip, om1_gen, hs, itF_str, itAll_flat _ hg, ht, eL, E1, E2, E3, E4, E5, Nat.reduceSub, Nat.reduceAdd, Nat.reduceLeDiff, Nat.reduceLT, reduceCtorEq, Int.reduceLT, Int.reduceLE, Int.reduceBEq, Nat.reduceBNe, Nat.reduceBEq, Nat.reduceMul]
    rfl
  | some c =>
    obtain ⟨po, ch, ht⟩ := l1 c hf
    simp only [ckSt] at ht
    simp only [d_check_parenthesis, om1_strip, om1_gen, hs, itF_str, itAll_flat _ hg, ht, ckSt, eqP_int, eL, E1, E2, E3, E4, E5, Nat.reduceSub, Nat.reduceAdd, Nat.reduceLeDiff, Nat.reduceLT, reduceCtorEq, Int.reduceLT, Int.reduceLE, Int.reduceBEq, Nat.reduceBNe, Nat.reduceBEq, Nat.reduceMul]
    rfl
def bad : Str := Str.ofString "('', '')"
theorem om2_check : om2.fn "_check_parenthesis" = some (runOf om1 999 1 d_check_parenthesis) := rfl
def strP (xs : List Str) : List PV := xs.map .str
theorem clean_strP : ∀ xs : List Str, cleans (strP xs) = true
  | [] => rfl
  | x :: r => clean_strP r
theorem strP_len (xs : List Str) : (strP xs).length = xs.length := by simp [strP]
theorem strP_snoc (xs : List Str) (x : Str) : strP xs ++ [.str x] = strP (xs ++ [x]) := by simp [strP]
theorem frzAll_strP (H : Hs) (xs : List Str) : frzAll H (strP xs) = some (strP xs) := frzAll_clean H _ (clean_strP xs)
theorem pv_loop (F : PV) (ck : Str → Bool) : ∀ (ts : List Str) (acc : List Str) (vo : Option PV), (∀ t ∈ ts, runOf om1 999 1 d_check_parenthesis [.str t] = some (.bool (ck t))) → acc.length + ts.length ≤ 9999 →
    ∃ vo', forL (.one 2) (execsM om2 99 pv_body) (strP ts) ⟨[some F, some (.loc 0), vo], [], [strP acc]⟩ = some (.next, ⟨[some F, some (.loc 0), vo'], [], [strP (acc ++ ts.map fun t => if ck t then t else bad)]⟩)
  | [], acc, vo, _, _ => ⟨vo, by simp [forL, strP]⟩
  | t :: r, acc, vo, h, hn => by
    have ht := h t (by simp)
    simp only [List.length_cons] at hn
    have hz : acc.length < 16777216 := by omega
    have hb : bad = Str.ofString "('', '')" := rfl
    have e : execsM om2 99 pv_body ⟨[some F, some (.loc 0), some (.str t)], [], [strP acc]⟩ = some (.next, ⟨[some F, some (.loc 0), some (.str (if ck t then t else bad))], [], [strP (acc ++ [if ck t then t else bad])]⟩) := by
      cases hc : ck t
      · rw [hc] at ht
        simp only [pv_body, om2_check, ht, strP_len, strP_snoc, hz, hb, eL, E1, E2, E3, E4, E5, Nat.reduceSub, Nat.reduceAdd, Nat.reduceLeDiff, Nat.reduceLT, reduceCtorEq, Int.reduceLT, Int.reduceLE, Int.reduceBEq, Nat.reduceBNe, Nat.reduceBEq, Nat.reduceMul]
      · rw [hc] at ht
        simp only [pv_body, om2_check, ht, strP_len, strP_snoc, hz, eL, E1, E2, E3, E4, E5, Nat.reduceSub, Nat.reduceAdd, Nat.reduceLeDiff, Nat.reduceLT, reduceCtorEq, Int.reduceLT, Int.reduceLE, Int.reduceBEq, Nat.reduceBNe, Nat.reduceBEq, Nat.reduceMul]
    obtain ⟨vo', h2⟩ := pv_loop F ck r (acc ++ [if ck t then t else bad]) (some (.str (if ck t then t else bad))) (fun x hx => h x (by simp [hx])) (by simp; omega)
    refine ⟨vo', ?_⟩
    show (match execsM om2 99 pv_body ⟨[some F, some (.loc 0), some (.str t)], [], [strP acc]⟩ with
      | some (.next, τ) => forL (.one 2) (execsM om2 99 pv_body) (strP r) τ
      | some (.cont, τ) => forL (.one 2) (execsM om2 99 pv_body) (strP r) τ
      | some (.brk, τ) => some (.next, τ)
      | some (.ret v, τ) => some (.ret v, τ)
      | none => none) = _
    rw [e]
    show forL (.one 2) (execsM om2 99 pv_body) (strP r) _ = _
    rw [h2, List.append_assoc]; rfl
theorem run_pv (ts : List Str) (ck : Str → Bool) (h : ∀ t ∈ ts, runOf om1 999 1 d_check_parenthesis [.str t] = some (.bool (ck t))) (hn : ts.length ≤ 9999) :
    runOf om2 99 1 d_pre_parse_validation [.lst (strP ts)] = some (.lst (strP (ts.map fun t => if ck t then t else bad))) := by
  obtain ⟨vo, h2⟩ := pv_loop (.lst (strP ts)) ck ts [] none h (by simpa using hn)
  have h2' : forL (.one 2) (execsM om2 99 pv_body) (strP ts) ⟨[some (.lst (strP ts)), some (.loc 0), none], [], [[]]⟩ = some (.next, ⟨[some (.lst (strP ts)), some (.loc 0), vo], [], [strP (ts.map fun t => if ck t then t else bad)]⟩) := h2
  unfold runOf runDf
  rw [show d_pre_parse_validation.body = b_pre_parse_validation from rfl, b_pre_parse_validation]
  simp only [d_pre_parse_validation, h2', frzAll_strP, eL, E1, E2, E3, E4, E5, Nat.reduceSub, Nat.reduceAdd, Nat.reduceLeDiff, Nat.reduceLT, reduceCtorEq, Int.reduceLT, Int.reduceLE, Int.reduceBEq, Nat.reduceBNe, Nat.reduceBEq, Nat.reduceMul]
end Mine.P
namespace Mine.P
def It.tk : It → Bool
  | .set c => [42, 63, 91, 93, 34, 92, 94, 38].contains c
  | .lit c => !([42, 63, 91].contains c)
  | _ => true
theorem It.tk_of_ok (t : It) (h : t.ok = true) : t.tk = true := by
  cases t with
  | lit c => simp only [It.ok, It.tk] at *; simp at h ⊢; omega
  | set c => exact h
  | _ => rfl
def setB (c : Nat) : List Nat := if c = 92 then [92, 92] else if c = 38 ∨ c = 94 ∨ c = 91 then [92, c] else [c]
def escL (c : Nat) : List Nat := if isSpecial c then [92, c] else [c]
theorem escN_L (c : Nat) : escN c = T (escL c) := by unfold escN escL; split <;> rfl
def It.tr : It → List Nat
  | .star => [] | .q => [46] | .set c => 91 :: setB c ++ [93] | .lit c => escL c
def It.trP (a : Addr) : It → PV
  | .star => .val (.ref a) | t => .str (T t.tr)
def trSt (a : Addr) (w : List Nat) (i : Nat) (acc : List PV) (co jo so : Option PV) : St :=
  ⟨[some (.str (T w)), some (.val (.ref a)), some (.str (T [46])), some (.loc 0), some (.bm 0), some (.int (i : Int)), some (.int (w.length : Int)), co, jo, so, none, none, none], [], [acc]⟩
theorem om1_escape : om1.fn "escape" = some fEscape := rfl
theorem f_escape (c : Nat) : fEscape [.str (T [c])] = some (.str (T (escL c))) := by rw [← escN_L]; rfl
theorem om1_orc (x : PV) : om1.orc 0 x = fSub x := rfl
theorem li_bs : Str.ofString "\\" = T [92] := by decide +kernel
theorem li_bs2 : Str.ofString "\\\\" = T [92, 92] := by decide +kernel
theorem li_ex : Str.ofString "!" = T [33] := by decide +kernel
theorem li_mi : Str.ofString "-" = T [45] := by decide +kernel
theorem li_ca : Str.ofString "^" = T [94] := by decide +kernel
theorem li_dot : Str.ofString "." = T [46] := by decide +kernel
theorem one_beq (a b : Nat) : ([a] == [b]) = (a == b) := by simp
theorem two_beq (a b c : Nat) : ([a, b] == [c]) = false := by simp
theorem isRef (a : Addr) : isP (.val (.ref a)) (.val (.ref a)) = some true := by simp [isP]
theorem isStrRef (x : Str) (a : Addr) : isP (.str x) (.val (.ref a)) = some false := rfl
theorem idxLast (H : Hs) (l : Nat) (xs : List PV) (y : PV) (h : H[l]? = some (xs ++ [y])) : idxP H (.loc l) (.int (-1)) = some y := by
  rw [idx_loc, h]
  simp only [List.length_append, List.length_singleton, place_m1, Option.bind_some]
  simp
theorem ltT {a b : Nat} (h : a < b) : ((a : Int) < (b : Int)) = True := by simp only [eq_iff_iff, iff_true]; omega
theorem ltF {a b : Nat} (h : b ≤ a) : ((a : Int) < (b : Int)) = False := by simp only [eq_iff_iff, iff_false]; omega
theorem leF {a b : Nat} (h : b < a) : ((a : Int) ≤ (b : Int)) = False := by simp only [eq_iff_iff, iff_false]; omega
theorem trP_len (l : List It) (a : Addr) : (l.map (It.trP a)).length = l.length := by simp
theorem tr_star (a : Addr) (w : List Nat) (i : Nat) (done : List It) (co jo so : Option PV) (h : w[i]? = some 42) (hn : done.length ≤ 9999) (hs : done = [] ∨ ∃ d y, done = d ++ [y] ∧ y.isStar = false) :
    execsM om1 999 tr_body (trSt a w i (done.map (It.trP a)) co jo so) = some (.next, trSt a w (i + 1) ((done ++ [It.star]).map (It.trP a)) (some (.str (T [42]))) jo so) := by
  have hz : (done.map (It.trP a)).length < 16777216 := by rw [trP_len]; omega
  have hi := idxS [done.map (It.trP a)] w i 42 h
  rcases hs with rfl | ⟨d, y, rfl, hy⟩
  · simp only [List.map_nil] at hi
    simp only [trSt, tr_body, hi, c1, li_star, eqP_str, T_beq, List.isEmpty_nil, List.map_nil, eL, E1, E2, E3, E4, E5, Nat.reduceSub, Nat.reduceAdd, Nat.reduceLeDiff, Nat.reduceLT, reduceCtorEq, Int.reduceLT, Int.reduceLE, Int.reduceBEq, Nat.reduceBNe, Nat.reduceBEq, Nat.reduceMul]
    rfl
  · have hl := idxLast [(d ++ [y]).map (It.trP a)] 0 (d.map (It.trP a)) (y.trP a) (by simp)
    have hy' : ∃ x, y.trP a = .str x := by cases y <;> first | exact ⟨_, rfl⟩ | cases hy
    obtain ⟨x, hx⟩ := hy'
    rw [hx] at hl
    have he : ((d ++ [y]).map (It.trP a)).isEmpty = false := by simp
    have hm : (d ++ [y]).map (It.trP a) ++ [.val (.ref a)] = (d ++ [y] ++ [It.star]).map (It.trP a) := by rw [List.map_append (l₁ := d ++ [y])]; rfl
    simp only [trSt, tr_body, hi, hl, c1, li_star, eqP_str, T_beq, he, isStrRef, hz, hm, eL, E1, E2, E3, E4, E5, Nat.reduceSub, Nat.reduceAdd, Nat.reduceLeDiff, Nat.reduceLT, reduceCtorEq, Int.reduceLT, Int.reduceLE, Int.reduceBEq, Nat.reduceBNe, Nat.reduceBEq, Nat.reduceMul]
theorem tr_q (a : Addr) (w : List Nat) (i : Nat) (done : List It) (co jo so : Option PV) (h : w[i]? = some 63) (hn : done.length ≤ 9999) :
    execsM om1 999 tr_body (trSt a w i (done.map (It.trP a)) co jo so) = some (.next, trSt a w (i + 1) ((done ++ [It.q]).map (It.trP a)) (some (.str (T [63]))) jo so) := by
  have hz : (done.map (It.trP a)).length < 16777216 := by rw [trP_len]; omega
  have hi := idxS [done.map (It.trP a)] w i 63 h
  have hm : done.map (It.trP a) ++ [.str (T [46])] = (done ++ [It.q]).map (It.trP a) := by rw [List.map_append]; rfl
  simp only [trSt, tr_body, hi, c1, li_star, li_q, eqP_str, T_beq, one_beq, Nat.reduceBEq, hz, hm, eL, E1, E2, E3, E4, E5, Nat.reduceSub, Nat.reduceAdd, Nat.reduceLeDiff, Nat.reduceLT, reduceCtorEq, Int.reduceLT, Int.reduceLE, Int.reduceBEq, Nat.reduceBNe, Nat.reduceBEq, Nat.reduceMul]
theorem tr_lit (a : Addr) (w : List Nat) (i c : Nat) (done : List It) (co jo so : Option PV) (h : w[i]? = some c) (hc : (It.lit c).tk = true) (hn : done.length ≤ 9999) :
    execsM om1 999 tr_body (trSt a w i (done.map (It.trP a)) co jo so) = some (.next, trSt a w (i + 1) ((done ++ [It.lit c]).map (It.trP a)) (some (.str (T [c]))) jo so) := by
  have hz : (done.map (It.trP a)).length < 16777216 := by rw [trP_len]; omega
  have hi := idxS [done.map (It.trP a)] w i c h
  have hc' : ¬ c = 42 ∧ ¬ c = 63 ∧ ¬ c = 91 := by simpa [It.tk] using hc
  have h1 : (c == 42) = false := by simpa using hc'.1
  have h2 : (c == 63) = false := by simpa using hc'.2.1
  have h3 : (c == 91) = false := by simpa using hc'.2.2
  have hm : done.map (It.trP a) ++ [.str (T (escL c))] = (done ++ [It.lit c]).map (It.trP a) := by rw [List.map_append]; rfl
  simp only [trSt, tr_body, hi, c1, li_star, li_q, li_open, eqP_str, T_beq, one_beq, h1, h2, h3, om1_escape, f_escape, hz, hm, eL, E1, E2, E3, E4, E5, Nat.reduceSub, Nat.reduceAdd, Nat.reduceLeDiff, Nat.reduceLT, reduceCtorEq, Int.reduceLT, Int.reduceLE, Int.reduceBEq, Nat.reduceBNe, Nat.reduceBEq, Nat.reduceMul]
theorem whl_stop {test : St → Option Bool} {body : St → Option (Fl × St)} {n : Nat} {σ : St} (h : test σ = some false) : whlN test body (n + 1) σ = some (.next, σ) := by rw [whlN, h]
theorem whl_go {test : St → Option Bool} {body : St → Option (Fl × St)} {n : Nat} {σ τ : St} (h : test σ = some true) (hb : body σ = some (.next, τ)) : whlN test body (n + 1) σ = whlN test body n τ := by rw [whlN, h, hb]
theorem jl_no (a : Addr) (w : List Nat) (i j : Nat) (acc : List PV) (co so : Option PV) (h : w[j]? = some 93) :
    testM om1 jl_t (trSt a w i acc co (some (.int (j : Int))) so).V (trSt a w i acc co (some (.int (j : Int))) so).K (trSt a w i acc co (some (.int (j : Int))) so).H = some false := by
  have hj : j < w.length := (List.getElem?_eq_some_iff.mp h).1
  have hi := idxS [acc] w j 93 h
  simp only [trSt, jl_t, hi, ltT hj, li_close, eqP_str, T_beq, eL, E1, E2, E3, E4, E5, Nat.reduceSub, Nat.reduceAdd, Nat.reduceLeDiff, Nat.reduceLT, reduceCtorEq, Int.reduceLT, Int.reduceLE, Int.reduceBEq, Nat.reduceBNe, Nat.reduceBEq, Nat.reduceMul]
theorem jl_yes (a : Addr) (w : List Nat) (i j c : Nat) (acc : List PV) (co so : Option PV) (h : w[j]? = some c) (hc : c ≠ 93) :
    testM om1 jl_t (trSt a w i acc co (some (.int (j : Int))) so).V (trSt a w i acc co (some (.int (j : Int))) so).K (trSt a w i acc co (some (.int (j : Int))) so).H = some true := by
  have hj : j < w.length := (List.getElem?_eq_some_iff.mp h).1
  have hi := idxS [acc] w j c h
  have hc' : (c == 93) = false := by simpa using hc
  simp only [trSt, jl_t, hi, ltT hj, li_close, eqP_str, T_beq, one_beq, hc', eL, E1, E2, E3, E4, E5, Nat.reduceSub, Nat.reduceAdd, Nat.reduceLeDiff, Nat.reduceLT, reduceCtorEq, Int.reduceLT, Int.reduceLE, Int.reduceBEq, Nat.reduceBNe, Nat.reduceBEq, Nat.reduceMul]
theorem jl_body (a : Addr) (w : List Nat) (i j : Nat) (acc : List PV) (co so : Option PV) :
    execsM om1 999 jl_b (trSt a w i acc co (some (.int (j : Int))) so) = some (.next, trSt a w i acc co (some (.int ((j + 1 : Nat) : Int))) so) := by
  simp only [trSt, jl_b, c1, eL, E1, E2, E3, E4, E5, Nat.reduceSub, Nat.reduceAdd, Nat.reduceLeDiff, Nat.reduceLT, reduceCtorEq, Int.reduceLT, Int.reduceLE, Int.reduceBEq, Nat.reduceBNe, Nat.reduceBEq, Nat.reduceMul]
theorem jl_run0 (a : Addr) (w : List Nat) (i j : Nat) (acc : List PV) (co so : Option PV) (h : w[j]? = some 93) :
    execM om1 999 tr_jl (trSt a w i acc co (some (.int (j : Int))) so) = some (.next, trSt a w i acc co (some (.int (j : Int))) so) := by
  show whlN (fun τ => testM om1 jl_t τ.V τ.K τ.H) (execsM om1 999 jl_b) (998 + 1) _ = _
  refine whl_stop ?_
  exact jl_no a w i j acc co so h
theorem jl_run1 (a : Addr) (w : List Nat) (i j c : Nat) (acc : List PV) (co so : Option PV) (h0 : w[j]? = some c) (hc : c ≠ 93) (h : w[j + 1]? = some 93) :
    execM om1 999 tr_jl (trSt a w i acc co (some (.int (j : Int))) so) = some (.next, trSt a w i acc co (some (.int ((j + 1 : Nat) : Int))) so) := by
  show whlN (fun τ => testM om1 jl_t τ.V τ.K τ.H) (execsM om1 999 jl_b) (997 + 1 + 1) _ = _
  refine (whl_go ?_ (jl_body a w i j acc co so)).trans (whl_stop ?_)
  · exact jl_yes a w i j c acc co so h0 hc
  · exact jl_no a w i (j + 1) acc co so h
theorem li_lb : Str.ofString "\\[" = T [92, 91] := by decide +kernel
theorem r_sub (c : Nat) (s1 s2 : List Nat) (h : (StrLaws.dbl 92 [c]) = s1) : Txt.replace (T [c]) (T [92]) (T [92, 92]) = T s1 := by rw [T_dbl, h]
theorem bs_ne' : (([92] : List Nat) == [92, 92]) = false := by decide
theorem idxS0 (H : Hs) (z : Nat) (r : List Nat) : idxP H (.str (T (z :: r))) (.int 0) = some (.str (T [z])) := idxS H (z :: r) 0 z rfl
theorem notInP (c : Nat) (h : c ≠ 45) : decide (45 ∈ [c]) = false := by simpa using Ne.symm h
theorem fmt3 (s : List Nat) (h : s.length ≤ 99) : fmtP [.str (T [91]), .str (T s), .str (T [93])] Str.empty = some (T (91 :: s ++ [93])) := by
  have h1 : ([] ++ [91] : List Nat).length ≤ 16777216 := by simp
  have h2 : ([] ++ [91] ++ s).length ≤ 16777216 := by simp; omega
  have h3 : ([] ++ [91] ++ s ++ [93]).length ≤ 16777216 := by simp; omega
  simp only [fmtP, T_empty, T_app, T_len, sizeLine_eq, h1, h2, h3, if_true]
  rfl
theorem tr_set (a : Addr) (w : List Nat) (i c : Nat) (done : List It) (co jo so : Option PV) (h0 : w[i]? = some 91) (h1 : w[i + 1]? = some c) (h2 : w[i + 2]? = some 93) (hs : (w.take (i + 2)).drop (i + 1) = [c]) (hc : (It.set c).tk = true) (hn : done.length ≤ 9999) :
    ∃ co' jo' so', execsM om1 999 tr_body (trSt a w i (done.map (It.trP a)) co jo so) = some (.next, trSt a w (i + 3) ((done ++ [It.set c]).map (It.trP a)) co' jo' so') := by
  have hz : (done.map (It.trP a)).length < 16777216 := by rw [trP_len]; omega
  have hi := idxS [done.map (It.trP a)] w i 91 h0
  have hi1 := idxS [done.map (It.trP a)] w (i + 1) c h1
  have hl1 : i + 1 < w.length := (List.getElem?_eq_some_iff.mp h1).1
  have hl2 : i + 2 < w.length := (List.getElem?_eq_some_iff.mp h2).1
  have hm : done.map (It.trP a) ++ [.str (T (91 :: setB c ++ [93]))] = (done ++ [It.set c]).map (It.trP a) := by rw [List.map_append]; rfl
  rw [← hm]
  have hc' : c = 42 ∨ c = 63 ∨ c = 91 ∨ c = 93 ∨ c = 34 ∨ c = 92 ∨ c = 94 ∨ c = 38 := by simpa [It.tk] using hc
  rcases hc' with rfl | rfl | rfl | rfl | rfl | rfl | rfl | rfl
  · have hr := r_sub 42 [42] [42] (by decide)
    have hf : fSub (.str (T [42])) = some (.str (T [42])) := by rfl
    have fmt := fmt3 [42] (by decide)
    have hmem : (45 ∈ [42]) = False := by simp
    have hsb : setB 42 = [42] := rfl
    rw [hsb]
    have hj := fun co so => jl_run1 a w (i + 1) (i + 1) 42 (done.map (It.trP a)) co so h1 (by decide) h2
    simp only [trSt] at hj
    refine ⟨some (.str (T [91])), some (.int ((i + 2 : Nat) : Int)), some (.str (T [42])), ?_⟩
    simp only [trSt, tr_body, hi, hi1, hj, hr, hf, hs, c1, c2, ltT hl1, leF hl2, li_star, li_q, li_open, li_close, li_ex, li_mi, li_bs, li_bs2, li_ca, bs_ne', inP, T_contains, hmem, Nat.reduceMul, eqP_str, T_beq, one_beq, two_beq, Nat.reduceBEq, idxS0, sS_ab, om1_orc, hz, T_len, T_app, fmt, memP, strsOf, List.any_nil, eL, E1, E2, E3, E4, E5, Nat.reduceSub, Nat.reduceAdd, Nat.reduceLeDiff, Nat.reduceLT, reduceCtorEq, Int.reduceLT, Int.reduceLE, Int.reduceBEq, Nat.reduceBNe, Nat.reduceBEq, Nat.reduceMul]
  · have hr := r_sub 63 [63] [63] (by decide)
    have hf : fSub (.str (T [63])) = some (.str (T [63])) := by rfl
    have fmt := fmt3 [63] (by decide)
    have hmem : (45 ∈ [63]) = False := by simp
    have hsb : setB 63 = [63] := rfl
    rw [hsb]
    have hj := fun co so => jl_run1 a w (i + 1) (i + 1) 63 (done.map (It.trP a)) co so h1 (by decide) h2
    simp only [trSt] at hj
    refine ⟨some (.str (T [91])), some (.int ((i + 2 : Nat) : Int)), some (.str (T [63])), ?_⟩
    simp only [trSt, tr_body, hi, hi1, hj, hr, hf, hs, c1, c2, ltT hl1, leF hl2, li_star, li_q, li_open, li_close, li_ex, li_mi, li_bs, li_bs2, li_ca, bs_ne', inP, T_contains, hmem, Nat.reduceMul, eqP_str, T_beq, one_beq, two_beq, Nat.reduceBEq, idxS0, sS_ab, om1_orc, hz, T_len, T_app, fmt, memP, strsOf, List.any_nil, eL, E1, E2, E3, E4, E5, Nat.reduceSub, Nat.reduceAdd, Nat.reduceLeDiff, Nat.reduceLT, reduceCtorEq, Int.reduceLT, Int.reduceLE, Int.reduceBEq, Nat.reduceBNe, Nat.reduceBEq, Nat.reduceMul]
  · have hr := r_sub 91 [91] [91] (by decide)
    have hf : fSub (.str (T [91])) = some (.str (T [91])) := by rfl
    have fmt := fmt3 [92, 91] (by decide)
    have hmem : (45 ∈ [91]) = False := by simp
    have hsb : setB 91 = [92, 91] := rfl
    rw [hsb]
    have hj := fun co so => jl_run1 a w (i + 1) (i + 1) 91 (done.map (It.trP a)) co so h1 (by decide) h2
    simp only [trSt] at hj
    refine ⟨some (.str (T [91])), some (.int ((i + 2 : Nat) : Int)), some (.str (T [92, 91])), ?_⟩
    simp only [trSt, tr_body, hi, hi1, hj, hr, hf, hs, c1, c2, ltT hl1, leF hl2, li_star, li_q, li_open, li_close, li_ex, li_mi, li_bs, li_bs2, li_ca, bs_ne', inP, T_contains, hmem, Nat.reduceMul, eqP_str, T_beq, one_beq, two_beq, Nat.reduceBEq, idxS0, sS_ab, om1_orc, hz, T_len, T_app, fmt, memP, strsOf, List.any_nil, eL, E1, E2, E3, E4, E5, Nat.reduceSub, Nat.reduceAdd, Nat.reduceLeDiff, Nat.reduceLT, reduceCtorEq, Int.reduceLT, Int.reduceLE, Int.reduceBEq, Nat.reduceBNe, Nat.reduceBEq, Nat.reduceMul]
  · have hr := r_sub 93 [93] [93] (by decide)
    have hf : fSub (.str (T [93])) = some (.str (T [93])) := by rfl
    have fmt := fmt3 [93] (by decide)
    have hmem : (45 ∈ [93]) = False := by simp
    have hsb : setB 93 = [93] := rfl
    rw [hsb]
    have hj := fun co so => jl_run0 a w (i + 1) (i + 1 + 1) (done.map (It.trP a)) co so h2
    simp only [trSt] at hj
    refine ⟨some (.str (T [91])), some (.int ((i + 2 : Nat) : Int)), some (.str (T [93])), ?_⟩
    simp only [trSt, tr_body, hi, hi1, hj, hr, hf, hs, c1, c2, ltT hl1, leF hl2, li_star, li_q, li_open, li_close, li_ex, li_mi, li_bs, li_bs2, li_ca, bs_ne', inP, T_contains, hmem, Nat.reduceMul, eqP_str, T_beq, one_beq, two_beq, Nat.reduceBEq, idxS0, sS_ab, om1_orc, hz, T_len, T_app, fmt, memP, strsOf, List.any_nil, eL, E1, E2, E3, E4, E5, Nat.reduceSub, Nat.reduceAdd, Nat.reduceLeDiff, Nat.reduceLT, reduceCtorEq, Int.reduceLT, Int.reduceLE, Int.reduceBEq, Nat.reduceBNe, Nat.reduceBEq, Nat.reduceMul]
  · have hr := r_sub 34 [34] [34] (by decide)
    have hf : fSub (.str (T [34])) = some (.str (T [34])) := by rfl
    have fmt := fmt3 [34] (by decide)
    have hmem : (45 ∈ [34]) = False := by simp
    have hsb : setB 34 = [34] := rfl
    rw [hsb]
    have hj := fun co so => jl_run1 a w (i + 1) (i + 1) 34 (done.map (It.trP a)) co so h1 (by decide) h2
    simp only [trSt] at hj
    refine ⟨some (.str (T [91])), some (.int ((i + 2 : Nat) : Int)), some (.str (T [34])), ?_⟩
    simp only [trSt, tr_body, hi, hi1, hj, hr, hf, hs, c1, c2, ltT hl1, leF hl2, li_star, li_q, li_open, li_close, li_ex, li_mi, li_bs, li_bs2, li_ca, bs_ne', inP, T_contains, hmem, Nat.reduceMul, eqP_str, T_beq, one_beq, two_beq, Nat.reduceBEq, idxS0, sS_ab, om1_orc, hz, T_len, T_app, fmt, memP, strsOf, List.any_nil, eL, E1, E2, E3, E4, E5, Nat.reduceSub, Nat.reduceAdd, Nat.reduceLeDiff, Nat.reduceLT, reduceCtorEq, Int.reduceLT, Int.reduceLE, Int.reduceBEq, Nat.reduceBNe, Nat.reduceBEq, Nat.reduceMul]
  · have hr := r_sub 92 [92, 92] [92, 92] (by decide)
    have hf : fSub (.str (T [92, 92])) = some (.str (T [92, 92])) := by rfl
    have fmt := fmt3 [92, 92] (by decide)
    have hmem : (45 ∈ [92]) = False := by simp
    have hsb : setB 92 = [92, 92] := rfl
    rw [hsb]
    have hj := fun co so => jl_run1 a w (i + 1) (i + 1) 92 (done.map (It.trP a)) co so h1 (by decide) h2
    simp only [trSt] at hj
    refine ⟨some (.str (T [91])), some (.int ((i + 2 : Nat) : Int)), some (.str (T [92, 92])), ?_⟩
    simp only [trSt, tr_body, hi, hi1, hj, hr, hf, hs, c1, c2, ltT hl1, leF hl2, li_star, li_q, li_open, li_close, li_ex, li_mi, li_bs, li_bs2, li_ca, bs_ne', inP, T_contains, hmem, Nat.reduceMul, eqP_str, T_beq, one_beq, two_beq, Nat.reduceBEq, idxS0, sS_ab, om1_orc, hz, T_len, T_app, fmt, memP, strsOf, List.any_nil, eL, E1, E2, E3, E4, E5, Nat.reduceSub, Nat.reduceAdd, Nat.reduceLeDiff, Nat.reduceLT, reduceCtorEq, Int.reduceLT, Int.reduceLE, Int.reduceBEq, Nat.reduceBNe, Nat.reduceBEq, Nat.reduceMul]
  · have hr := r_sub 94 [94] [94] (by decide)
    have hf : fSub (.str (T [94])) = some (.str (T [94])) := by rfl
    have fmt := fmt3 [92, 94] (by decide)
    have hmem : (45 ∈ [94]) = False := by simp
    have hsb : setB 94 = [92, 94] := rfl
    rw [hsb]
    have hj := fun co so => jl_run1 a w (i + 1) (i + 1) 94 (done.map (It.trP a)) co so h1 (by decide) h2
    simp only [trSt] at hj
    refine ⟨some (.str (T [91])), some (.int ((i + 2 : Nat) : Int)), some (.str (T [92, 94])), ?_⟩
    simp only [trSt, tr_body, hi, hi1, hj, hr, hf, hs, c1, c2, ltT hl1, leF hl2, li_star, li_q, li_open, li_close, li_ex, li_mi, li_bs, li_bs2, li_ca, bs_ne', inP, T_contains, hmem, Nat.reduceMul, eqP_str, T_beq, one_beq, two_beq, Nat.reduceBEq, idxS0, sS_ab, om1_orc, hz, T_len, T_app, fmt, memP, strsOf, List.any_nil, eL, E1, E2, E3, E4, E5, Nat.reduceSub, Nat.reduceAdd, Nat.reduceLeDiff, Nat.reduceLT, reduceCtorEq, Int.reduceLT, Int.reduceLE, Int.reduceBEq, Nat.reduceBNe, Nat.reduceBEq, Nat.reduceMul]
  · have hr := r_sub 38 [38] [38] (by decide)
    have hf : fSub (.str (T [38])) = some (.str (T [92, 38])) := by rfl
    have fmt := fmt3 [92, 38] (by decide)
    have hmem : (45 ∈ [38]) = False := by simp
    have hsb : setB 38 = [92, 38] := rfl
    rw [hsb]
    have hj := fun co so => jl_run1 a w (i + 1) (i + 1) 38 (done.map (It.trP a)) co so h1 (by decide) h2
    simp only [trSt] at hj
    refine ⟨some (.str (T [91])), some (.int ((i + 2 : Nat) : Int)), some (.str (T [92, 38])), ?_⟩
    simp only [trSt, tr_body, hi, hi1, hj, hr, hf, hs, c1, c2, ltT hl1, leF hl2, li_star, li_q, li_open, li_close, li_ex, li_mi, li_bs, li_bs2, li_ca, bs_ne', inP, T_contains, hmem, Nat.reduceMul, eqP_str, T_beq, one_beq, two_beq, Nat.reduceBEq, idxS0, sS_ab, om1_orc, hz, T_len, T_app, fmt, memP, strsOf, List.any_nil, eL, E1, E2, E3, E4, E5, Nat.reduceSub, Nat.reduceAdd, Nat.reduceLeDiff, Nat.reduceLT, reduceCtorEq, Int.reduceLT, Int.reduceLE, Int.reduceBEq, Nat.reduceBNe, Nat.reduceBEq, Nat.reduceMul]
def segE (a : Addr) (ts : List It) : PV := .lst (ts.map (It.trP a))
def tkW (ts : List It) : List Nat := (ts.map It.sp).flatten
theorem tr_step (a : Addr) (w : List Nat) (i : Nat) (t : It) (r : List Nat) (done : List It) (co jo so : Option PV) (h : w.drop i = t.sp ++ r) (ht : t.tk = true) (hn : done.length ≤ 9999) (hs : t.isStar = true → done = [] ∨ ∃ d y, done = d ++ [y] ∧ y.isStar = false) :
    ∃ co' jo' so', execsM om1 999 tr_body (trSt a w i (done.map (It.trP a)) co jo so) = some (.next, trSt a w (i + t.sp.length) ((done ++ [t]).map (It.trP a)) co' jo' so') := by
  have hat : ∀ k c, (t.sp ++ r)[k]? = some c → w[i + k]? = some c := fun k c hk => by rw [← h, List.getElem?_drop] at hk; exact hk
  cases t with
  | star => exact ⟨_, _, _, tr_star a w i done co jo so (hat 0 42 rfl) hn (hs rfl)⟩
  | q => exact ⟨_, _, _, tr_q a w i done co jo so (hat 0 63 rfl) hn⟩
  | lit c => exact ⟨_, _, _, tr_lit a w i c done co jo so (hat 0 c rfl) ht hn⟩
  | set c =>
    refine tr_set a w i c done co jo so (hat 0 91 rfl) (hat 1 c rfl) (hat 2 93 rfl) ?_ ht hn
    have e : w.drop (i + 1) = c :: 93 :: r := by rw [← List.drop_drop, h]; rfl
    rw [List.drop_take, e, show i + 2 - (i + 1) = 1 by omega]; rfl
theorem tr_loop_run (a : Addr) (w : List Nat) : ∀ (ts done : List It) (i n : Nat) (co jo so : Option PV), w.drop i = tkW ts → i ≤ w.length → (∀ t ∈ ts, t.tk = true) → done.length + ts.length ≤ 9999 →
    nA (match done.getLast? with | some y => y.isStar | none => false) ts = true → ts.length + 1 ≤ n →
    ∃ co' jo' so', whlN (fun τ => testM om1 (.cmp .Lt (.loc 5) (.loc 6)) τ.V τ.K τ.H) (execsM om1 999 tr_body) n (trSt a w i (done.map (It.trP a)) co jo so) = some (.next, trSt a w w.length ((done ++ ts).map (It.trP a)) co' jo' so')
  | [], done, i, n, co, jo, so, h, hi, _, _, _, hn => by
    have e : i = w.length := by
      have := congrArg List.length h
      simp [tkW] at this
      omega
    subst e
    obtain ⟨m, rfl⟩ : ∃ m, n = m + 1 := ⟨n - 1, by simp at hn; omega⟩
    refine ⟨co, jo, so, ?_⟩
    rw [List.append_nil]
    refine whl_stop ?_
    simp only [trSt, ltF (Nat.le_refl w.length), eL, E1, E2, E3, E4, E5, Nat.reduceSub, Nat.reduceAdd, Nat.reduceLeDiff, Nat.reduceLT, reduceCtorEq, Int.reduceLT, Int.reduceLE, Int.reduceBEq, Nat.reduceBNe, Nat.reduceBEq, Nat.reduceMul]
  | t :: ts, done, i, n, co, jo, so, h, hi, ht, hd, hs, hn => by
    have h' : w.drop i = t.sp ++ tkW ts := h
    have hp : 0 < t.sp.length := by cases t <;> simp [It.sp]
    have hlen := congrArg List.length h'
    simp only [List.length_drop, List.length_append] at hlen
    simp only [List.length_cons] at hd hn
    obtain ⟨m, rfl⟩ : ∃ m, n = m + 1 := ⟨n - 1, by omega⟩
    have hs' : ((!((match done.getLast? with | some y => y.isStar | none => false) && t.isStar)) && nA t.isStar ts) = true := hs
    rw [Bool.and_eq_true] at hs'
    obtain ⟨co1, jo1, so1, h1⟩ := tr_step a w i t (tkW ts) done co jo so h' (ht t (by simp)) (by omega) (fun hst => by
      have h3 := hs'.1
      rcases List.eq_nil_or_concat done with rfl | ⟨d, y, rfl⟩
      · exact .inl rfl
      · refine .inr ⟨d, y, by simp, ?_⟩
        simp [hst] at h3
        exact h3)
    have hd2 : w.drop (i + t.sp.length) = tkW ts := by rw [← List.drop_drop, h', List.drop_left' rfl]
    obtain ⟨co2, jo2, so2, h2⟩ := tr_loop_run a w ts (done ++ [t]) (i + t.sp.length) m co1 jo1 so1 hd2 (by omega) (fun x hx => ht x (by simp [hx])) (by simp; omega) (by simpa using hs'.2) (by omega)
    refine ⟨co2, jo2, so2, ?_⟩
    rw [whl_go (τ := trSt a w (i + t.sp.length) ((done ++ [t]).map (It.trP a)) co1 jo1 so1) ?_ h1, h2]
    · simp
    · have hlt : i < w.length := by omega
      simp only [trSt, ltT hlt, eL, E1, E2, E3, E4, E5, Nat.reduceSub, Nat.reduceAdd, Nat.reduceLeDiff, Nat.reduceLT, reduceCtorEq, Int.reduceLT, Int.reduceLE, Int.reduceBEq, Nat.reduceBNe, Nat.reduceBEq, Nat.reduceMul]
theorem clean_trP (a : Addr) : ∀ ts : List It, cleans (ts.map (It.trP a)) = true
  | [] => rfl
  | t :: r => by
    show (clean (t.trP a) && _) = true
    rw [Bool.and_eq_true]
    exact ⟨by cases t <;> rfl, clean_trP a r⟩
theorem frzAll_trP (H : Hs) (a : Addr) (ts : List It) : frzAll H (ts.map (It.trP a)) = some (ts.map (It.trP a)) := frzAll_clean H _ (clean_trP a ts)
theorem run_translate (a : Addr) (ts : List It) (ht : ∀ t ∈ ts, t.tk = true) (hn : ts.length ≤ 900) (hs : nA false ts = true) :
    runOf om1 999 3 d_translate [.str (T (tkW ts)), .val (.ref a), .str (T [46])] = some (segE a ts) := by
  obtain ⟨co, jo, so, h⟩ := tr_loop_run a (tkW ts) ts [] 0 999 none none none rfl (Nat.zero_le _) ht (by simpa using by omega) hs (by omega)
  have h' : execM om1 999 tr_loop (trSt a (tkW ts) 0 [] none none none) = some (.next, trSt a (tkW ts) (tkW ts).length (ts.map (It.trP a)) co jo so) := h
  have z : ((0 : Nat) : Int) = 0 := rfl
  simp only [trSt, z] at h'
  unfold runOf runDf
  rw [show d_translate.body = b_translate from rfl, b_translate]
  simp only [d_translate, om1_len, f_len_str, h', eqP_int, intEq, frzAll_trP, segE, eL, E1, E2, E3, E4, E5, Nat.reduceSub, Nat.reduceAdd, Nat.reduceLeDiff, Nat.reduceLT, reduceCtorEq, Int.reduceLT, Int.reduceLE, Int.reduceBEq, Nat.reduceBNe, Nat.reduceBEq, Nat.reduceMul]
end Mine.P
namespace Mine.P
theorem idxL (H : Hs) (xs : List PV) (i : Nat) (y : PV) (h : xs[i]? = some y) : idxP H (.lst xs) (.int (i : Int)) = some y := by
  have hi : i < xs.length := (List.getElem?_eq_some_iff.mp h).1
  rw [idx_lst]
  unfold place
  rw [if_pos (by omega), if_pos (by omega)]
  exact h
def txt (s : List It) : List Nat := (s.map It.tr).flatten
theorem tr_len (t : It) : t.tr.length ≤ 4 := by
  cases t with
  | star => simp [It.tr]
  | q => simp [It.tr]
  | lit c => simp only [It.tr, escL]; split <;> simp
  | set c => simp only [It.tr, setB]; split <;> (try split) <;> simp
theorem txt_len : ∀ s : List It, (txt s).length ≤ 4 * s.length
  | [] => Nat.le_refl _
  | t :: r => by
    have h1 := tr_len t
    have h2 := txt_len r
    show (t.tr ++ txt r).length ≤ _
    simp only [List.length_append, List.length_cons]; omega
def noStar (s : List It) : Prop := ∀ t ∈ s, t.isStar = false
theorem trP_no (a : Addr) (t : It) (h : t.isStar = false) : t.trP a = .str (T t.tr) := by cases t <;> first | rfl | cases h
def jtSt (a : Addr) (xs : List PV) (i : Nat) (vo : Option PV) (res : List (List Nat)) (g : Hs) : St :=
  ⟨[some (.lst xs), some (.val (.ref a)), some (.loc 0), some (.bm 0), some (.int (i : Int)), some (.int (xs.length : Int)), vo], [], segP res :: g⟩
theorem t1_end (a : Addr) (xs : List PV) (vo : Option PV) (res : List (List Nat)) (g : Hs) :
    testM om1 jt_t1 (jtSt a xs xs.length vo res g).V (jtSt a xs xs.length vo res g).K (jtSt a xs xs.length vo res g).H = some false := by
  simp only [jtSt, jt_t1, ltF (Nat.le_refl xs.length), eL, E1, E2, E3, E4, E5, Nat.reduceSub, Nat.reduceAdd, Nat.reduceLeDiff, Nat.reduceLT, reduceCtorEq, Int.reduceLT, Int.reduceLE, Int.reduceBEq, Nat.reduceBNe, Nat.reduceBEq, Nat.reduceMul]
theorem t1_star (a : Addr) (xs : List PV) (i : Nat) (vo : Option PV) (res : List (List Nat)) (g : Hs) (h : xs[i]? = some (.val (.ref a))) :
    testM om1 jt_t1 (jtSt a xs i vo res g).V (jtSt a xs i vo res g).K (jtSt a xs i vo res g).H = some false := by
  have hi : i < xs.length := (List.getElem?_eq_some_iff.mp h).1
  have hx := idxL (segP res :: g) xs i _ h
  simp only [jtSt, jt_t1, ltT hi, hx, eL, E1, E2, E3, E4, E5, Nat.reduceSub, Nat.reduceAdd, Nat.reduceLeDiff, Nat.reduceLT, reduceCtorEq, Int.reduceLT, Int.reduceLE, Int.reduceBEq, Nat.reduceBNe, Nat.reduceBEq, Nat.reduceMul]
theorem t1_no (a : Addr) (xs : List PV) (i : Nat) (vo : Option PV) (res : List (List Nat)) (g : Hs) (x : Str) (h : xs[i]? = some (.str x)) :
    testM om1 jt_t1 (jtSt a xs i vo res g).V (jtSt a xs i vo res g).K (jtSt a xs i vo res g).H = some true := by
  have hi : i < xs.length := (List.getElem?_eq_some_iff.mp h).1
  have hx := idxL (segP res :: g) xs i _ h
  simp only [jtSt, jt_t1, ltT hi, hx, eL, E1, E2, E3, E4, E5, Nat.reduceSub, Nat.reduceAdd, Nat.reduceLeDiff, Nat.reduceLT, reduceCtorEq, Int.reduceLT, Int.reduceLE, Int.reduceBEq, Nat.reduceBNe, Nat.reduceBEq, Nat.reduceMul]
def Stop (a : Addr) (xs : List PV) (i : Nat) : Prop := i = xs.length ∨ xs[i]? = some (.val (.ref a))
theorem t1_stop {a : Addr} {xs : List PV} {i : Nat} (h : Stop a xs i) (vo : Option PV) (res : List (List Nat)) (g : Hs) :
    testM om1 jt_t1 (jtSt a xs i vo res g).V (jtSt a xs i vo res g).K (jtSt a xs i vo res g).H = some false := by
  rcases h with rfl | h
  · exact t1_end a xs vo res g
  · exact t1_star a xs i vo res g h
theorem at_drop {α : Type} {xs : List α} {i : Nat} {y : α} {r : List α} (h : xs.drop i = y :: r) : xs[i]? = some y := by
  have : (xs.drop i)[0]? = some y := by rw [h]; rfl
  rwa [List.getElem?_drop, Nat.add_zero] at this
theorem drop_succ {α : Type} {xs : List α} {i : Nat} {y : α} {r : List α} (h : xs.drop i = y :: r) : xs.drop (i + 1) = r := by rw [← List.drop_drop, h]; rfl
theorem l1_run (a : Addr) (xs : List PV) : ∀ (s : List It) (rest : List PV) (i n : Nat) (res : List (List Nat)) (vo : Option PV) (g : Hs), xs.drop i = s.map (It.trP a) ++ rest → noStar s → Stop a xs (i + s.length) → s.length + 1 ≤ n → res.length + s.length ≤ 9999 →
    whlN (fun τ => testM om1 jt_t1 τ.V τ.K τ.H) (execsM om1 999 jt_b1) n (jtSt a xs i vo res g) = some (.next, jtSt a xs (i + s.length) vo (res ++ s.map It.tr) g)
  | [], rest, i, n, res, vo, g, h, hs, st, hn, hl => by
    obtain ⟨m, rfl⟩ : ∃ m, n = m + 1 := ⟨n - 1, by simp at hn; omega⟩
    rw [List.map_nil, List.append_nil, List.length_nil, Nat.add_zero]
    refine whl_stop ?_
    exact t1_stop st vo res g
  | t :: s, rest, i, n, res, vo, g, h, hs, st, hn, hl => by
    simp only [List.length_cons] at hn hl st
    obtain ⟨m, rfl⟩ : ∃ m, n = m + 1 := ⟨n - 1, by omega⟩
    have h' : xs.drop i = .str (T t.tr) :: (s.map (It.trP a) ++ rest) := by rw [h, ← trP_no a t (hs t (by simp))]; rfl
    have hx := idxL (segP res :: g) xs i _ (at_drop h')
    have hz : res.length < 16777216 := by omega
    have hb : execsM om1 999 jt_b1 (jtSt a xs i vo res g) = some (.next, jtSt a xs (i + 1) vo (res ++ [t.tr]) g) := by
      simp only [jtSt, jt_b1, hx, segP_len, segP_snoc, hz, addAdd, c1, eL, E1, E2, E3, E4, E5, Nat.reduceSub, Nat.reduceAdd, Nat.reduceLeDiff, Nat.reduceLT, reduceCtorEq, Int.reduceLT, Int.reduceLE, Int.reduceBEq, Nat.reduceBNe, Nat.reduceBEq, Nat.reduceMul]
    rw [whl_go (τ := jtSt a xs (i + 1) vo (res ++ [t.tr]) g) ?_ hb, l1_run a xs s rest (i + 1) m (res ++ [t.tr]) vo g (drop_succ h') (fun x hx => hs x (by simp [hx])) (by rw [show i + 1 + s.length = i + (s.length + 1) by omega]; exact st) (by omega) (by simp; omega)]
    · rw [show i + 1 + s.length = i + (t :: s).length by simp only [List.length_cons]; omega, List.append_assoc]; rfl
    · exact t1_no a xs i vo res g _ (at_drop h')
theorem last_own (r0 : List PV) (g : Hs) (x : List PV) : (r0 :: (g ++ [x]))[g.length + 1]? = some x := by simp
theorem set_own (r0 : List PV) (g : Hs) (x y : List PV) : (r0 :: (g ++ [x])).set (g.length + 1) y = r0 :: (g ++ [y]) := by simp
theorem l3_run (a : Addr) (xs : List PV) : ∀ (s : List It) (rest : List PV) (i n : Nat) (res cur : List (List Nat)) (g : Hs), xs.drop i = s.map (It.trP a) ++ rest → noStar s → Stop a xs (i + s.length) → s.length + 1 ≤ n → cur.length + s.length ≤ 9999 →
    whlN (fun τ => testM om1 jt_t1 τ.V τ.K τ.H) (execsM om1 999 jt_b3) n (jtSt a xs i (some (.loc (g.length + 1))) res (g ++ [segP cur])) = some (.next, jtSt a xs (i + s.length) (some (.loc (g.length + 1))) res (g ++ [segP (cur ++ s.map It.tr)]))
  | [], rest, i, n, res, cur, g, h, hs, st, hn, hl => by
    obtain ⟨m, rfl⟩ : ∃ m, n = m + 1 := ⟨n - 1, by simp at hn; omega⟩
    rw [List.map_nil, List.append_nil, List.length_nil, Nat.add_zero]
    refine whl_stop ?_
    exact t1_stop st _ res _
  | t :: s, rest, i, n, res, cur, g, h, hs, st, hn, hl => by
    simp only [List.length_cons] at hn hl st
    obtain ⟨m, rfl⟩ : ∃ m, n = m + 1 := ⟨n - 1, by omega⟩
    have h' : xs.drop i = .str (T t.tr) :: (s.map (It.trP a) ++ rest) := by rw [h, ← trP_no a t (hs t (by simp))]; rfl
    have hx := idxL (segP res :: (g ++ [segP cur])) xs i _ (at_drop h')
    have hz : cur.length < 16777216 := by omega
    have hb : execsM om1 999 jt_b3 (jtSt a xs i (some (.loc (g.length + 1))) res (g ++ [segP cur])) = some (.next, jtSt a xs (i + 1) (some (.loc (g.length + 1))) res (g ++ [segP (cur ++ [t.tr])])) := by
      have lo := last_own (segP res) g (segP cur)
      have so := set_own (segP res) g (segP cur) (segP cur ++ [.str (T t.tr)])
      simp only [List.getElem?_cons_succ, List.set_cons_succ] at lo so
      simp only [jtSt, jt_b3, hx, lo, so, segP_len, segP_snoc, hz, addAdd, c1, eL, E1, E2, E3, E4, E5, Nat.reduceSub, Nat.reduceAdd, Nat.reduceLeDiff, Nat.reduceLT, reduceCtorEq, Int.reduceLT, Int.reduceLE, Int.reduceBEq, Nat.reduceBNe, Nat.reduceBEq, Nat.reduceMul]
      simp
    rw [whl_go (τ := jtSt a xs (i + 1) (some (.loc (g.length + 1))) res (g ++ [segP (cur ++ [t.tr])])) ?_ hb, l3_run a xs s rest (i + 1) m res (cur ++ [t.tr]) g (drop_succ h') (fun x hx => hs x (by simp [hx])) (by rw [show i + 1 + s.length = i + (s.length + 1) by omega]; exact st) (by omega) (by simp; omega)]
    · rw [show i + 1 + s.length = i + (t :: s).length by simp only [List.length_cons]; omega, List.append_assoc]; rfl
    · exact t1_no a xs i _ res _ _ (at_drop h')
theorem li_ds : Str.ofString ".*" = T [46, 42] := by decide +kernel
theorem li_at : Str.ofString "(?>.*?" = T [40, 63, 62, 46, 42, 63] := by decide +kernel
theorem li_pre : Str.ofString "(?s:" = T [40, 63, 115, 58] := by decide +kernel
theorem li_suf : Str.ofString ")\\Z" = T [41, 92, 90] := by decide +kernel
theorem fmtAt (s : List Nat) (h : s.length ≤ 99999) : fmtP [.str (T [40, 63, 62, 46, 42, 63]), .str (T s), .str (T [41])] Str.empty = some (T ([40, 63, 62, 46, 42, 63] ++ s ++ [41])) := by
  have h1 : ([] ++ [40, 63, 62, 46, 42, 63] : List Nat).length ≤ 16777216 := by simp
  have h2 : ([] ++ [40, 63, 62, 46, 42, 63] ++ s).length ≤ 16777216 := by simp; omega
  have h3 : ([] ++ [40, 63, 62, 46, 42, 63] ++ s ++ [41]).length ≤ 16777216 := by simp; omega
  simp only [fmtP, T_empty, T_app, T_len, sizeLine_eq, h1, h2, h3, if_true]
  rfl
theorem fmtW (s : List Nat) (h : s.length ≤ 99999) : fmtP [.str (T [40, 63, 115, 58]), .str (T s), .str (T [41, 92, 90])] Str.empty = some (T ([40, 63, 115, 58] ++ s ++ [41, 92, 90])) := by
  have h1 : ([] ++ [40, 63, 115, 58] : List Nat).length ≤ 16777216 := by simp
  have h2 : ([] ++ [40, 63, 115, 58] ++ s).length ≤ 16777216 := by simp; omega
  have h3 : ([] ++ [40, 63, 115, 58] ++ s ++ [41, 92, 90]).length ≤ 16777216 := by simp; omega
  simp only [fmtP, T_empty, T_app, T_len, sizeLine_eq, h1, h2, h3, if_true]
  rfl
def jnS : List (List It) → List Nat
  | [] => []
  | [s] => [46, 42] ++ txt s
  | s :: s' :: r => [40, 63, 62, 46, 42, 63] ++ txt s ++ [41] ++ jnS (s' :: r)
def segOK : List (List It) → Prop
  | [] => True
  | [s] => noStar s
  | s :: s' :: r => noStar s ∧ s ≠ [] ∧ segOK (s' :: r)
def stars (ss : List (List It)) : List It := (ss.map fun s => It.star :: s).flatten
theorem whl_brk {test : St → Option Bool} {body : St → Option (Fl × St)} {n : Nat} {σ τ : St} (h : test σ = some true) (hb : body σ = some (.brk, τ)) : whlN test body (n + 1) σ = some (.next, τ) := by rw [whlN, h, hb]
theorem jt_run (a : Addr) (xs : List PV) : ∀ (ss : List (List It)) (i n : Nat) (vo : Option PV) (res : List (List Nat)) (g : Hs), xs.drop i = (stars ss).map (It.trP a) → i ≤ xs.length → segOK ss → (stars ss).length + 1 ≤ n → n ≤ 999 → res.length + 2 * (stars ss).length ≤ 9999 →
    ∃ vo' res' g', res'.flatten = res.flatten ++ jnS ss ∧ whlN (fun τ => testM om1 (.cmp .Lt (.loc 4) (.loc 5)) τ.V τ.K τ.H) (execsM om1 999 jt_body) n (jtSt a xs i vo res g) = some (.next, jtSt a xs xs.length vo' res' g')
  | [], i, n, vo, res, g, h, hi, ok, hn, hn9, hl => by
    have e : i = xs.length := by
      have := congrArg List.length h
      simp [stars] at this
      omega
    subst e
    obtain ⟨m, rfl⟩ : ∃ m, n = m + 1 := ⟨n - 1, by omega⟩
    refine ⟨vo, res, g, by simp [jnS], ?_⟩
    refine whl_stop ?_
    simp only [jtSt, ltF (Nat.le_refl xs.length), eL, E1, E2, E3, E4, E5, Nat.reduceSub, Nat.reduceAdd, Nat.reduceLeDiff, Nat.reduceLT, reduceCtorEq, Int.reduceLT, Int.reduceLE, Int.reduceBEq, Nat.reduceBNe, Nat.reduceBEq, Nat.reduceMul]
  | [s], i, n, vo, res, g, h, hi, ok, hn, hn9, hl => by
    have e0 : stars [s] = It.star :: s := by simp [stars]
    rw [e0] at h hn hl
    have ok' : noStar s := ok
    have hlen := congrArg List.length h
    simp only [List.length_drop, List.length_map, List.length_cons] at hlen hn hl
    obtain ⟨m, rfl⟩ : ∃ m, n = m + 1 := ⟨n - 1, by omega⟩
    have h' : xs.drop i = .val (.ref a) :: s.map (It.trP a) := h
    have hx := idxL (segP res :: g) xs i _ (at_drop h')
    have hd := drop_succ h'
    have hlt : i < xs.length := by omega
    have hz : res.length < 16777216 := by omega
    have hz2 : res.length + 1 < 16777216 := by omega
    have tt : testM om1 (.cmp .Lt (.loc 4) (.loc 5)) (jtSt a xs i vo res g).V (jtSt a xs i vo res g).K (jtSt a xs i vo res g).H = some true := by
      simp only [jtSt, ltT hlt, eL, E1, E2, E3, E4, E5, Nat.reduceSub, Nat.reduceAdd, Nat.reduceLeDiff, Nat.reduceLT, reduceCtorEq, Int.reduceLT, Int.reduceLE, Int.reduceBEq, Nat.reduceBNe, Nat.reduceBEq, Nat.reduceMul]
    cases s with
    | nil =>
      have e1 : i + 1 = xs.length := by simp at hlen; omega
      have e2 : (((i + 1 : Nat) : Int) == (xs.length : Int)) = true := by rw [e1]; exact intEq _
      refine ⟨vo, res ++ [[46, 42]], g, by simp [jnS, txt], ?_⟩
      rw [whl_brk (τ := jtSt a xs xs.length vo (res ++ [[46, 42]]) g) tt ?_]
      simp only [jtSt, jt_body, hx, c1, eqP_int, e2, addAdd, li_ds, segP_len, segP_snoc, hz, e1, intEq, eL, E1, E2, E3, E4, E5, Nat.reduceSub, Nat.reduceAdd, Nat.reduceLeDiff, Nat.reduceLT, reduceCtorEq, Int.reduceLT, Int.reduceLE, Int.reduceBEq, Nat.reduceBNe, Nat.reduceBEq, Nat.reduceMul]
    | cons t s =>
      have e2 : (((i + 1 : Nat) : Int) == (xs.length : Int)) = false := intNe (by simp only [List.length_cons] at hlen; omega)
      have hd' : xs.drop (i + 1) = .str (T t.tr) :: s.map (It.trP a) := by rw [hd, List.map_cons, trP_no a t (ok' t (by simp))]
      have hx1 := idxL (segP res :: g) xs (i + 1) _ (at_drop hd')
      have e3 : i + 1 + (t :: s).length = xs.length := by simp only [List.length_cons] at hlen ⊢; omega
      have l3 := l3_run a xs (t :: s) [] (i + 1) 999 res [] g (by rw [hd, List.append_nil]) ok' (.inl e3) (by simp only [List.length_cons] at hn ⊢; omega) (by simp only [List.length_cons, List.length_nil] at hl ⊢; omega)
      rw [List.nil_append, e3] at l3
      have l3' : execM om1 999 jt_l3 (jtSt a xs (i + 1) (some (.loc (g.length + 1))) res (g ++ [[]])) = some (.next, jtSt a xs xs.length (some (.loc (g.length + 1))) res (g ++ [segP ((t :: s).map It.tr)])) := l3
      have tl := txt_len (t :: s)
      have hj := m_join0 ((t :: s).map It.tr) (by show (txt (t :: s)).length ≤ _; simp only [List.length_cons] at tl hl; omega)
      have ht : ((t :: s).map It.tr).flatten = txt (t :: s) := rfl
      rw [ht] at hj
      simp only [jtSt] at l3'
      generalize (t :: s).map It.tr = F at l3' hj
      have lo := last_own (segP res) g (segP F)
      refine ⟨some (.str (T (txt (t :: s)))), res ++ [[46, 42]] ++ [txt (t :: s)], g ++ [segP F], by simp [jnS], ?_⟩
      generalize txt (t :: s) = X at hj
      have hb : execsM om1 999 jt_body (jtSt a xs i vo res g) = some (.next, jtSt a xs xs.length (some (.str (T X))) (res ++ [[46, 42]] ++ [X]) (g ++ [segP F])) := by
        have lg : (segP res :: g).length = g.length + 1 := rfl
        have la : (res ++ [[46, 42]]).length = res.length + 1 := by simp
        simp only [List.getElem?_cons_succ] at lo
        simp only [jtSt, jt_body, hx, hx1, c1, eqP_int, e2, addAdd, li_ds, li_e, lg, l3', lo, frzAll_segP, clean_segP, hj, segP_len, segP_snoc, hz, hz2, la, intEq, eL, E1, E2, E3, E4, E5, Nat.reduceSub, Nat.reduceAdd, Nat.reduceLeDiff, Nat.reduceLT, reduceCtorEq, Int.reduceLT, Int.reduceLE, Int.reduceBEq, Nat.reduceBNe, Nat.reduceBEq, Nat.reduceMul]
      rw [whl_go tt hb]
      obtain ⟨m', rfl⟩ : ∃ m', m = m' + 1 := ⟨m - 1, by simp only [List.length_cons] at hn; omega⟩
      refine whl_stop ?_
      simp only [jtSt, ltF (Nat.le_refl xs.length), eL, E1, E2, E3, E4, E5, Nat.reduceSub, Nat.reduceAdd, Nat.reduceLeDiff, Nat.reduceLT, reduceCtorEq, Int.reduceLT, Int.reduceLE, Int.reduceBEq, Nat.reduceBNe, Nat.reduceBEq, Nat.reduceMul]
  | s :: s' :: r, i, n, vo, res, g, h, hi, ok, hn, hn9, hl => by
    have e0 : stars (s :: s' :: r) = It.star :: (s ++ stars (s' :: r)) := by simp [stars]
    obtain ⟨u, ss, hu⟩ : ∃ u ss, stars (s' :: r) = It.star :: u ∧ ss = u := by simp [stars]
    rw [e0] at h hn hl
    obtain ⟨ok1, ok2, ok3⟩ := ok
    have hlen := congrArg List.length h
    simp only [List.length_drop, List.length_map, List.length_cons, List.length_append] at hlen hn hl
    obtain ⟨m, rfl⟩ : ∃ m, n = m + 1 := ⟨n - 1, by omega⟩
    have h' : xs.drop i = .val (.ref a) :: (s.map (It.trP a) ++ (stars (s' :: r)).map (It.trP a)) := by rw [h]; simp [It.trP]
    have hx := idxL (segP res :: g) xs i _ (at_drop h')
    have hd := drop_succ h'
    have hlt : i < xs.length := by omega
    have hz : res.length < 16777216 := by omega
    have tt : testM om1 (.cmp .Lt (.loc 4) (.loc 5)) (jtSt a xs i vo res g).V (jtSt a xs i vo res g).K (jtSt a xs i vo res g).H = some true := by
      simp only [jtSt, ltT hlt, eL, E1, E2, E3, E4, E5, Nat.reduceSub, Nat.reduceAdd, Nat.reduceLeDiff, Nat.reduceLT, reduceCtorEq, Int.reduceLT, Int.reduceLE, Int.reduceBEq, Nat.reduceBNe, Nat.reduceBEq, Nat.reduceMul]
    obtain ⟨t, s1, rfl⟩ : ∃ t s1, s = t :: s1 := by
      cases s with
      | nil => exact absurd rfl ok2
      | cons t s1 => exact ⟨t, s1, rfl⟩
    have hsl : 1 ≤ (stars (s' :: r)).length := by rw [hu.1]; simp
    have e2 : (((i + 1 : Nat) : Int) == (xs.length : Int)) = false := intNe (by simp only [List.length_cons] at hlen; omega)
    have hd' : xs.drop (i + 1) = .str (T t.tr) :: (s1.map (It.trP a) ++ (stars (s' :: r)).map (It.trP a)) := by rw [hd, List.map_cons, trP_no a t (ok1 t (by simp))]; rfl
    have hx1 := idxL (segP res :: g) xs (i + 1) _ (at_drop hd')
    have hdd : xs.drop (i + 1 + (t :: s1).length) = (stars (s' :: r)).map (It.trP a) := by rw [← List.drop_drop, hd, List.drop_left' (by simp)]
    have hst : Stop a xs (i + 1 + (t :: s1).length) := .inr (at_drop (r := u.map (It.trP a)) (by rw [hdd, hu.1]; rfl))
    have l3 := l3_run a xs (t :: s1) ((stars (s' :: r)).map (It.trP a)) (i + 1) 999 res [] g hd ok1 hst (by simp only [List.length_cons] at hn ⊢; omega) (by simp only [List.length_cons, List.length_nil] at hl ⊢; omega)
    have e3 : (((i + 1 + (t :: s1).length : Nat) : Int) == (xs.length : Int)) = false := intNe (by simp only [List.length_cons] at hlen ⊢; omega)
    have e4 : i + 1 + (t :: s1).length ≤ xs.length := by simp only [List.length_cons] at hlen ⊢; omega
    rw [List.nil_append] at l3
    have l3' : execM om1 999 jt_l3 (jtSt a xs (i + 1) (some (.loc (g.length + 1))) res (g ++ [[]])) = some (.next, jtSt a xs (i + 1 + (t :: s1).length) (some (.loc (g.length + 1))) res (g ++ [segP ((t :: s1).map It.tr)])) := l3
    have tl := txt_len (t :: s1)
    have hj := m_join0 ((t :: s1).map It.tr) (by show (txt (t :: s1)).length ≤ _; simp only [List.length_cons] at tl hl; omega)
    have ht : ((t :: s1).map It.tr).flatten = txt (t :: s1) := rfl
    have hfm := fmtAt (txt (t :: s1)) (by simp only [List.length_cons] at tl hl; omega)
    have hlast : (t :: s1).length + (stars (s' :: r)).length + 1 + i = xs.length := by simp only [List.length_cons] at hlen ⊢; omega
    rw [ht] at hj
    obtain ⟨vo2, res2, g2, hf2, hw2⟩ := jt_run a xs (s' :: r) (i + 1 + (t :: s1).length) m (some (.str (T (txt (t :: s1))))) (res ++ [[40, 63, 62, 46, 42, 63] ++ txt (t :: s1) ++ [41]]) (g ++ [segP ((t :: s1).map It.tr)]) hdd e4 ok3 (by simp only [List.length_cons] at hn ⊢; omega) (by omega) (by simp only [List.length_append, List.length_cons, List.length_nil] at hl ⊢; omega)
    refine ⟨vo2, res2, g2, ?_, ?_⟩
    · rw [hf2]; simp [jnS]
    · rw [← hw2]
      refine whl_go tt ?_
      clear hf2 hw2 hst hdd e0 h tl
      simp only [jtSt] at l3'
      generalize (t :: s1).map It.tr = F at l3' hj
      generalize txt (t :: s1) = X at hj hfm
      generalize i + 1 + (t :: s1).length = k at l3' e3
      have lo := last_own (segP res) g (segP F)
      have lg : (segP res :: g).length = g.length + 1 := rfl
      simp only [List.getElem?_cons_succ] at lo
      simp only [jtSt, jt_body, hx, hx1, c1, eqP_int, e2, e3, addAdd, li_at, li_rp, li_e, lg, l3', lo, frzAll_segP, clean_segP, hj, hfm, segP_len, segP_snoc, hz, eL, E1, E2, E3, E4, E5, Nat.reduceSub, Nat.reduceAdd, Nat.reduceLeDiff, Nat.reduceLT, reduceCtorEq, Int.reduceLT, Int.reduceLE, Int.reduceBEq, Nat.reduceBNe, Nat.reduceBEq, Nat.reduceMul]
theorem jn_join (a : Addr) (s0 : List It) (ss : List (List It)) (h0 : noStar s0) (hs : segOK ss) (hn : s0.length + (stars ss).length ≤ 900) (hw : (txt s0 ++ jnS ss).length ≤ 99999) :
    runOf om1 999 2 d_join_translated_parts [segE a (s0 ++ stars ss), .val (.ref a)] = some (.str (T ([40, 63, 115, 58] ++ (txt s0 ++ jnS ss) ++ [41, 92, 90]))) := by
  generalize hxs : (s0 ++ stars ss).map (It.trP a) = xs
  have hlx : xs.length = s0.length + (stars ss).length := by rw [← hxs]; simp
  have h1 : xs.drop 0 = s0.map (It.trP a) ++ (stars ss).map (It.trP a) := by rw [← hxs]; simp
  have hst : Stop a xs (0 + s0.length) := by
    cases ss with
    | nil => exact .inl (by rw [hlx]; simp [stars])
    | cons s r =>
      refine .inr ?_
      rw [← hxs, Nat.zero_add, List.map_append, List.getElem?_append_right (by simp)]
      simp [stars, It.trP]
  have l1 := l1_run a xs s0 ((stars ss).map (It.trP a)) 0 999 [] none [] h1 h0 hst (by omega) (by simp; omega)
  rw [Nat.zero_add] at l1 hst
  have l1' : execM om1 999 jt_l1 (jtSt a xs 0 none [] []) = some (.next, jtSt a xs s0.length none (s0.map It.tr) []) := l1
  have hd : xs.drop s0.length = (stars ss).map (It.trP a) := by rw [← hxs, List.map_append, List.drop_left' (by simp)]
  obtain ⟨vo, res, g, hf, hw2⟩ := jt_run a xs ss s0.length 999 none (s0.map It.tr) [] hd (by omega) hs (by omega) (by omega) (by simp; omega)
  have hw2' : execM om1 999 jt_loop (jtSt a xs s0.length none (s0.map It.tr) []) = some (.next, jtSt a xs xs.length vo res g) := hw2
  have hf' : res.flatten = txt s0 ++ jnS ss := hf
  have z : ((0 : Nat) : Int) = 0 := rfl
  have zs : segP [] = [] := rfl
  have hj := m_join0 res (by rw [hf']; omega)
  have hfm := fmtW res.flatten (by rw [hf']; omega)
  rw [← hf']
  simp only [jtSt, z, zs] at l1' hw2'
  unfold runOf runDf
  rw [show d_join_translated_parts.body = b_join_translated_parts from rfl, b_join_translated_parts]
  have hcx : cleans xs = true := hxs ▸ clean_trP a _
  simp only [d_join_translated_parts, hcx, segE, hxs, om1_len, f_len_lst, l1', hw2', hj, hfm, li_e, li_pre, li_suf, eqP_int, intEq, frzAll_segP, clean_segP, eL, E1, E2, E3, E4, E5, Nat.reduceSub, Nat.reduceAdd, Nat.reduceLeDiff, Nat.reduceLT, reduceCtorEq, Int.reduceLT, Int.reduceLE, Int.reduceBEq, Nat.reduceBNe, Nat.reduceBEq, Nat.reduceMul]
end Mine.P
namespace Mine.P
def gl {α : Type} (s : List α) : List (List α) → List α
  | [] => []
  | [x] => x
  | x :: y :: r => x ++ s ++ gl s (y :: r)
theorem gl_flat (s : List U) : ∀ ps : List (List U), (gl s ps).flatten = joinL s.flatten (ps.map List.flatten)
  | [] => rfl
  | [x] => rfl
  | x :: y :: r => by
    show (x ++ s ++ gl s (y :: r)).flatten = x.flatten ++ s.flatten ++ joinL s.flatten ((y :: r).map List.flatten)
    rw [← gl_flat s (y :: r)]; simp
def nS : List It → Nat
  | [] => 0
  | t :: r => (if t.isStar then 1 else 0) + nS r
theorem nS_app : ∀ a b : List It, nS (a ++ b) = nS a + nS b
  | [], b => by simp [nS]
  | t :: a, b => by
    show (if t.isStar then 1 else 0) + nS (a ++ b) = (if t.isStar then 1 else 0) + nS a + nS b
    rw [nS_app a b, Nat.add_assoc]
theorem nS_no : ∀ s : List It, noStar s → nS s = 0
  | [], _ => rfl
  | t :: r, h => by
    show (if t.isStar then 1 else 0) + nS r = 0
    rw [h t (by simp), nS_no r (fun x hx => h x (by simp [hx]))]; rfl
def clU (j : Nat) : List U := if 0 < j then [[41]] else []
def opU (m k : Nat) : List U := if k < m then [[40], [63], [62], [46], [42], [63]] else [[46], [42]]
def It.un : It → List U
  | .star => [] | .q => [[46]] | .set c => [[91], setB c, [93]] | .lit c => [escL c]
theorem un_tr (t : It) : t.un.flatten = t.tr := by cases t <;> simp [It.un, It.tr]
def itU' (m j : Nat) (t : It) : List U := if t.isStar then clU j ++ opU m (j + 1) else t.un
def wrU (m : Nat) : Nat → List It → List U
  | _, [] => []
  | j, t :: r => itU' m j t ++ wrU m (j + if t.isStar then 1 else 0) r
theorem wrU_app (m : Nat) : ∀ (a : List It) (j : Nat) (b : List It), wrU m j (a ++ b) = wrU m j a ++ wrU m (j + nS a) b
  | [], j, b => rfl
  | t :: a, j, b => by
    show itU' m j t ++ wrU m _ (a ++ b) = itU' m j t ++ wrU m _ a ++ wrU m _ b
    rw [wrU_app m a, List.append_assoc]
    simp only [nS, Nat.add_assoc]
theorem wrU_no (m : Nat) : ∀ (s : List It) (j : Nat), noStar s → (wrU m j s).flatten = txt s
  | [], j, _ => rfl
  | t :: r, j, h => by
    have ht := h t (by simp)
    simp only [wrU, itU', ht, Bool.false_eq_true, if_false, List.flatten_append, un_tr, Nat.add_zero]
    rw [wrU_no m r j (fun x hx => h x (by simp [hx]))]; rfl
theorem wr_stars (m : Nat) : ∀ (ss : List (List It)) (j : Nat), segOK ss → m = j + ss.length → (wrU m j (stars ss)).flatten = (if ss = [] then [] else (clU j).flatten) ++ jnS ss
  | [], j, _, _ => rfl
  | [s], j, ok, hm => by
    have e0 : stars [s] = It.star :: s := by simp [stars]
    have ok' : noStar s := ok
    have hm' : m = j + 1 := hm
    simp only [e0, wrU, itU', It.isStar, if_true, List.flatten_append, opU, hm', Nat.lt_irrefl, if_false, jnS]
    simp
    exact wrU_no _ s _ ok'
  | s :: s' :: r, j, ok, hm => by
    have e0 : stars (s :: s' :: r) = It.star :: (s ++ stars (s' :: r)) := by simp [stars]
    obtain ⟨ok1, ok2, ok3⟩ := ok
    simp only [List.length_cons] at hm
    have ih := wr_stars m (s' :: r) (j + 1) ok3 (by simp only [List.length_cons]; omega)
    have hlt : j + 1 < m := by omega
    simp only [e0, wrU, itU', It.isStar, if_true, List.flatten_append, wrU_app, nS_no s ok1, Nat.add_zero, ih, wrU_no m s _ ok1, opU, hlt, jnS]
    simp [clU]
def seg : List It → List It × List (List It)
  | [] => ([], [])
  | t :: r => if t.isStar then ([], (seg r).1 :: (seg r).2) else (t :: (seg r).1, (seg r).2)
theorem seg_eq : ∀ ts : List It, ts = (seg ts).1 ++ stars (seg ts).2
  | [] => rfl
  | t :: r => by
    have ih := seg_eq r
    unfold seg
    split
    · rename_i h
      have : t = .star := by cases t <;> first | rfl | cases h
      subst this
      conv => lhs; rw [ih]
      simp [stars]
    · conv => lhs; rw [ih]
      simp
theorem seg_no : ∀ ts : List It, noStar (seg ts).1
  | [] => fun x h => nomatch h
  | t :: r => by
    unfold seg
    split
    · exact fun x h => nomatch h
    · rename_i h
      intro x hx
      rcases List.mem_cons.mp hx with rfl | hx
      · simpa using h
      · exact seg_no r x hx
theorem seg_star (r : List It) (x : List It) (xs : List (List It)) (h : seg r = ([], x :: xs)) : ∃ r', r = .star :: r' := by
  cases r with
  | nil => cases h
  | cons t r =>
    unfold seg at h
    split at h
    · rename_i hs
      exact ⟨r, by cases t <;> first | rfl | cases hs⟩
    · cases h
theorem nA_weak : ∀ (ts : List It) (p : Bool), nA p ts = true → nA false ts = true
  | [], _, _ => rfl
  | t :: r, p, h => by
    simp only [nA, Bool.and_eq_true] at h ⊢
    exact ⟨rfl, h.2⟩
theorem seg_ok : ∀ ts : List It, nA false ts = true → segOK (seg ts).2
  | [], _ => trivial
  | t :: r, h => by
    have h' : nA t.isStar r = true := by simp only [nA, Bool.and_eq_true] at h; exact h.2
    have ih := seg_ok r (nA_weak r _ h')
    unfold seg
    split
    · rename_i hs
      rw [hs] at h'
      show segOK ((seg r).1 :: (seg r).2)
      cases hq : (seg r).2 with
      | nil => exact seg_no r
      | cons s ss =>
        rw [hq] at ih
        refine ⟨seg_no r, fun e => ?_, ih⟩
        obtain ⟨r', rfl⟩ := seg_star r s ss (by rw [← hq, ← e])
        simp [nA, It.isStar] at h'
    · exact ih
theorem segOK_no : ∀ ss : List (List It), segOK ss → nS (stars ss) = ss.length
  | [], _ => rfl
  | [s], ok => by
    have e0 : stars [s] = It.star :: s := by simp [stars]
    have ok' : noStar s := ok
    rw [e0]
    show 1 + nS s = 1
    rw [nS_no s ok']
  | s :: s' :: r, ok => by
    have e0 : stars (s :: s' :: r) = It.star :: (s ++ stars (s' :: r)) := by simp [stars]
    obtain ⟨ok1, ok2, ok3⟩ := ok
    rw [e0]
    show 1 + nS (s ++ stars (s' :: r)) = _
    rw [nS_app, nS_no s ok1, segOK_no (s' :: r) ok3]
    simp only [List.length_cons]; omega
def preU : List U := [[40], [63], [115], [58]]
def sufU : List U := [[41], [92, 90]]
def WU (ts : List It) : List U := preU ++ wrU (nS ts) 0 ts ++ sufU
theorem WU_eq (ts : List It) (h : nA false ts = true) : (WU ts).flatten = [40, 63, 115, 58] ++ (txt (seg ts).1 ++ jnS (seg ts).2) ++ [41, 92, 90] := by
  have h1 := seg_eq ts
  have h2 := seg_no ts
  have h3 := seg_ok ts h
  have h4 : nS ts = (seg ts).2.length := by
    conv => lhs; rw [h1]
    rw [nS_app, nS_no _ h2, segOK_no _ h3, Nat.zero_add]
  have h5 : (wrU (nS ts) 0 ts).flatten = txt (seg ts).1 ++ jnS (seg ts).2 := by
    conv => lhs; rw [h4]; arg 1; arg 3; rw [h1]
    rw [wrU_app, List.flatten_append, wrU_no _ _ _ h2, nS_no _ h2, wr_stars _ _ _ h3 (by omega)]
    split
    · rfl
    · rfl
  unfold WU
  rw [List.flatten_append, List.flatten_append, h5]; rfl
theorem itU_len (m j : Nat) (t : It) : (itU' m j t).length ≤ 7 ∧ (itU' m j t).flatten.length ≤ 7 := by
  unfold itU'
  split
  · unfold clU opU
    split <;> split <;> simp
  · rw [un_tr]
    have h1 := tr_len t
    refine ⟨?_, by omega⟩
    cases t <;> simp [It.un]
theorem wrU_len (m : Nat) : ∀ (ts : List It) (j : Nat), (wrU m j ts).length ≤ 7 * ts.length ∧ (wrU m j ts).flatten.length ≤ 7 * ts.length
  | [], _ => ⟨Nat.le_refl _, Nat.le_refl _⟩
  | t :: r, j => by
    have h1 := itU_len m j t
    have h2 := wrU_len m r (j + if t.isStar then 1 else 0)
    simp only [wrU, List.flatten_append, List.length_append, List.length_cons]
    exact ⟨by omega, by omega⟩
theorem om2_tr : om2.fn "_translate" = some (runOf om1 999 3 d_translate) := rfl
theorem om2_jn : om2.fn "_join_translated_parts" = some (runOf om1 999 2 d_join_translated_parts) := rfl
theorem run_tr (a : Addr) (ts : List It) (ht : ∀ t ∈ ts, t.tk = true) (hn : ts.length ≤ 900) (hs : nA false ts = true) :
    runTr a (T (tkW ts)) = some (.str (T (WU ts).flatten)) := by
  have h1 := run_translate a ts ht hn hs
  have e := seg_eq ts
  have hl : ts.length = (seg ts).1.length + (stars (seg ts).2).length := by conv => lhs; rw [e]
                                                                            simp
  have hw := WU_eq ts hs
  have hwl : (txt (seg ts).1 ++ jnS (seg ts).2).length ≤ 99999 := by
    have h2 := (wrU_len (nS ts) ts 0).2
    have h3 := congrArg List.length hw
    unfold WU at h3
    simp only [List.length_append, List.flatten_append] at h3 ⊢
    have : preU.flatten.length = 4 := rfl
    have : sufU.flatten.length = 3 := rfl
    simp only [List.length_cons, List.length_nil] at h3
    omega
  have h2 := jn_join a (seg ts).1 (seg ts).2 (seg_no ts) (seg_ok ts hs) (by omega) hwl
  rw [← e] at h2
  rw [hw]
  have hc : clean (segE a ts) = true := clean_trP a ts
  have hcs : cleans (ts.map (It.trP a)) = true := clean_trP a ts
  have hse : segE a ts = .lst (ts.map (It.trP a)) := rfl
  rw [hse] at h1 h2
  unfold runTr
  simp only [b_tr, om2_tr, om2_jn, li_dot, h1, h2, hcs, eL, E1, E2, E3, E4, E5, Nat.reduceSub, Nat.reduceAdd, Nat.reduceLeDiff, Nat.reduceLT, reduceCtorEq, Int.reduceLT, Int.reduceLE, Int.reduceBEq, Nat.reduceBNe, Nat.reduceBEq, Nat.reduceMul]
end Mine.P
namespace Mine.P
def ruSt (w : List Nat) (us : List (List Nat)) (p : Nat) (so uo : Option PV) : St := ⟨[some (.str (T w)), some (.loc 0), some (.int (p : Int)), so, uo, none, none], [], [segP us]⟩
theorem subOne (p q : Nat) (h : q = p + 1) : ((p : Int) == (q : Int) - 1) = true := by
  rw [beq_iff_eq]; omega
theorem addNat (a b : Nat) : (a : Int) + (b : Int) = ((a + b : Nat) : Int) := rfl
theorem ru_loop (w : List Nat) : ∀ (us d : List U) (p : Nat) (so uo : Option PV), (∀ u ∈ us, GoodU u) → d.length + us.length ≤ 9999 →
    ∃ p' so' uo', forL (.tup [3, 4]) (execsM om1 999 ru_body) (itU us p) (ruSt w d p so uo) = some (.next, ruSt w (d ++ us) p' so' uo')
  | [], d, p, so, uo, _, _ => ⟨p, so, uo, by rw [List.append_nil]; rfl⟩
  | u :: r, d, p, so, uo, hu, hn => by
    simp only [List.length_cons] at hn
    have hp : 0 < u.length := by rcases hu u (by simp) with ⟨c, _, rfl⟩ | ⟨c, rfl⟩ <;> simp
    have hz : d.length < 16777216 := by omega
    have hb : execsM om1 999 ru_body (ruSt w d p (some (.int ((p + u.length - 1 : Nat) : Int))) (some (.str (T u)))) = some (.next, ruSt w (d ++ [u]) (p + u.length) (some (.int ((p + u.length - 1 : Nat) : Int))) (some (.str (T u)))) := by
      have e := subOne (p + u.length - 1) (p + u.length) (by omega)
      simp only [ruSt, ru_body, om1_len, f_len_str, addNat, eqP_int, e, segP_len, segP_snoc, hz, eL, E1, E2, E3, E4, E5, Nat.reduceSub, Nat.reduceAdd, Nat.reduceLeDiff, Nat.reduceLT, reduceCtorEq, Int.reduceLT, Int.reduceLE, Int.reduceBEq, Nat.reduceBNe, Nat.reduceBEq, Nat.reduceMul]
    obtain ⟨p', so', uo', h⟩ := ru_loop w r (d ++ [u]) (p + u.length) (some (.int ((p + u.length - 1 : Nat) : Int))) (some (.str (T u))) (fun v hv => hu v (by simp [hv])) (by simp; omega)
    refine ⟨p', so', uo', ?_⟩
    show (match execsM om1 999 ru_body (ruSt w d p (some (.int ((p + u.length - 1 : Nat) : Int))) (some (.str (T u)))) with
      | some (.next, τ) => forL (.tup [3, 4]) (execsM om1 999 ru_body) (itU r (p + u.length)) τ
      | some (.cont, τ) => forL (.tup [3, 4]) (execsM om1 999 ru_body) (itU r (p + u.length)) τ
      | some (.brk, τ) => some (.next, τ)
      | some (.ret v, τ) => some (.ret v, τ)
      | none => none) = _
    rw [hb]
    show forL (.tup [3, 4]) (execsM om1 999 ru_body) (itU r (p + u.length)) _ = _
    rw [h, List.append_assoc]; rfl
theorem eqL_segP (n : Nat) : ∀ xs ys : List (List Nat), xs.length = ys.length → eqL (eqN (n + 1)) (segP xs) (segP ys) = some (xs == ys)
  | [], [], _ => rfl
  | x :: xs, y :: ys, h => by
    have ih := eqL_segP n xs ys (by simpa using h)
    show (match eqN (n + 1) (.str (T x)) (.str (T y)), eqL (eqN (n + 1)) (segP xs) (segP ys) with
      | some a, some b => some (a && b)
      | _, _ => none) = _
    rw [ih]
    show some ((T x == T y) && (xs == ys)) = _
    rw [T_beq]; rfl
  | [], _ :: _, h => by cases h
  | _ :: _, [], h => by cases h
theorem eqP_segP (xs ys : List (List Nat)) : eqP (.lst (segP xs)) (.lst (segP ys)) = some (xs == ys) := by
  show (if ((segP xs).length == (segP ys).length) = true then eqL (eqN 3) (segP xs) (segP ys) else some false) = _
  rw [segP_len, segP_len]
  by_cases h : xs.length = ys.length
  · rw [if_pos (by simpa using h), eqL_segP 2 xs ys h]
  · rw [if_neg (by simpa using h)]
    congr 1
    symm
    rw [beq_eq_false_iff_ne]
    exact fun e => h (by rw [e])
def rdSt (w : List Nat) (us : List (List Nat)) (p : Nat) (so uo : Option PV) (row : List (List Nat)) (k : Nat) : St :=
  ⟨[some (.str (T w)), some (.loc 0), some (.int (p : Int)), so, uo, some (.loc 1), some (.int (k : Int))], [], [segP us, segP row]⟩
section
variable {w : List Nat} {us : List (List Nat)} {p : Nat} {so uo : Option PV} {row : List (List Nat)} {k : Nat}
theorem cut_segP (us rest : List (List Nat)) (k n : Nat) (h : us.drop k = rest) : ((segP us).take (k + n)).drop k = segP (rest.take n) := by
  rw [← h]
  unfold segP
  rw [List.drop_take, ← List.map_drop, ← List.map_take]
  congr 2; omega
theorem e4 (h : us.drop k = rest) (b : Bool) (hb : (rest.take 4 == [[40], [63], [115], [58]]) = b) : eqP (.lst (((segP us).take (k + 4)).drop k)) (.lst [.str (T [40]), .str (T [63]), .str (T [115]), .str (T [58])]) = some b := by
  rw [cut_segP us rest k 4 h, ← hb]; exact eqP_segP _ [[40], [63], [115], [58]]
theorem e6 (h : us.drop k = rest) (b : Bool) (hb : (rest.take 6 == [[40], [63], [62], [46], [42], [63]]) = b) : eqP (.lst (((segP us).take (k + 6)).drop k)) (.lst [.str (T [40]), .str (T [63]), .str (T [62]), .str (T [46]), .str (T [42]), .str (T [63])]) = some b := by
  rw [cut_segP us rest k 6 h, ← hb]; exact eqP_segP _ [[40], [63], [62], [46], [42], [63]]
theorem e2 (h : us.drop k = rest) (b : Bool) (hb : (rest.take 2 == [[46], [42]]) = b) : eqP (.lst (((segP us).take (k + 2)).drop k)) (.lst [.str (T [46]), .str (T [42])]) = some b := by
  rw [cut_segP us rest k 2 h, ← hb]; exact eqP_segP _ [[46], [42]]
theorem idxU (H : Hs) (us : List (List Nat)) (k : Nat) (u : List Nat) (h0 : H[0]? = some (segP us)) (h : us[k]? = some u) : idxP H (.loc 0) (.int (k : Int)) = some (.str (T u)) := by
  have hi : k < us.length := (List.getElem?_eq_some_iff.mp h).1
  rw [idx_loc, h0]
  show (place (segP us).length (k : Int)).bind ((segP us)[·]?) = _
  unfold place
  rw [if_pos (by omega), segP_len, if_pos (by omega)]
  show (segP us)[(k : Int).toNat]? = _
  rw [Int.toNat_natCast]
  unfold segP
  rw [List.getElem?_map, h]; rfl
theorem clean_cut (us : List (List Nat)) (k n : Nat) : cleans (((segP us).take n).drop k) = true := by
  unfold segP
  rw [← List.map_take, ← List.map_drop]
  exact clean_segP _
theorem li_s : Str.ofString "s" = T [115] := by decide +kernel
theorem li_co : Str.ofString ":" = T [58] := by decide +kernel
theorem li_gt : Str.ofString ">" = T [62] := by decide +kernel
theorem li_Z : Str.ofString "\\Z" = T [92, 90] := by decide +kernel
theorem rd_test (h : k < us.length) : testM om1 rd_t (rdSt w us p so uo row k).V (rdSt w us p so uo row k).K (rdSt w us p so uo row k).H = some true := by
  simp only [rdSt, rd_t, om1_len, f_len_lst, frzAll_segP, clean_segP, segP_len, ltT h, eL, E1, E2, E3, E4, E5, Nat.reduceSub, Nat.reduceAdd, Nat.reduceLeDiff, Nat.reduceLT, reduceCtorEq, Int.reduceLT, Int.reduceLE, Int.reduceBEq, Nat.reduceBNe, Nat.reduceBEq, Nat.reduceMul]
theorem rd_done : testM om1 rd_t (rdSt w us p so uo row us.length).V (rdSt w us p so uo row us.length).K (rdSt w us p so uo row us.length).H = some false := by
  simp only [rdSt, rd_t, om1_len, f_len_lst, frzAll_segP, clean_segP, segP_len, ltF (Nat.le_refl us.length), eL, E1, E2, E3, E4, E5, Nat.reduceSub, Nat.reduceAdd, Nat.reduceLeDiff, Nat.reduceLT, reduceCtorEq, Int.reduceLT, Int.reduceLE, Int.reduceBEq, Nat.reduceBNe, Nat.reduceBEq, Nat.reduceMul]
theorem rd_A {r : List (List Nat)} (h : us.drop k = [40] :: [63] :: [115] :: [58] :: r) :
    execsM om1 999 rd_body (rdSt w us p so uo row k) = some (.next, rdSt w us p so uo row (k + 4)) := by
  have h4 := e4 h true (by simp)
  simp only [rdSt, rd_body, li_lp, li_q, li_s, li_co, li_gt, li_dot, li_star, li_open, li_rp, li_Z, li_eq, frzAll_segP, clean_segP, clean_cut, c1, c2, c3, c4, c5, c6, sL_ab, h4, eL, E1, E2, E3, E4, E5, Nat.reduceSub, Nat.reduceAdd, Nat.reduceLeDiff, Nat.reduceLT, reduceCtorEq, Int.reduceLT, Int.reduceLE, Int.reduceBEq, Nat.reduceBNe, Nat.reduceBEq, Nat.reduceMul]
theorem rd_B {r : List (List Nat)} (h : us.drop k = [40] :: [63] :: [62] :: [46] :: [42] :: [63] :: r) (hz : row.length < 16777216) :
    execsM om1 999 rd_body (rdSt w us p so uo row k) = some (.next, rdSt w us p so uo (row ++ [[42]]) (k + 6)) := by
  have h4 := e4 h false (by simp)
  have h6 := e6 h true (by simp)
  simp only [rdSt, rd_body, li_lp, li_q, li_s, li_co, li_gt, li_dot, li_star, li_open, li_rp, li_Z, li_eq, frzAll_segP, clean_segP, clean_cut, c1, c2, c3, c4, c5, c6, sL_ab, h4, h6, segP_len, segP_snoc, hz, eL, E1, E2, E3, E4, E5, Nat.reduceSub, Nat.reduceAdd, Nat.reduceLeDiff, Nat.reduceLT, reduceCtorEq, Int.reduceLT, Int.reduceLE, Int.reduceBEq, Nat.reduceBNe, Nat.reduceBEq, Nat.reduceMul]
theorem rd_C {r : List (List Nat)} (h : us.drop k = [46] :: [42] :: r) (hz : row.length < 16777216) :
    execsM om1 999 rd_body (rdSt w us p so uo row k) = some (.next, rdSt w us p so uo (row ++ [[42]]) (k + 2)) := by
  have h4 := e4 h false (by simp)
  have h6 := e6 h false (by simp)
  have h2 := e2 h true (by simp)
  simp only [rdSt, rd_body, li_lp, li_q, li_s, li_co, li_gt, li_dot, li_star, li_open, li_rp, li_Z, li_eq, frzAll_segP, clean_segP, clean_cut, c1, c2, c3, c4, c5, c6, sL_ab, h4, h6, h2, segP_len, segP_snoc, hz, eL, E1, E2, E3, E4, E5, Nat.reduceSub, Nat.reduceAdd, Nat.reduceLeDiff, Nat.reduceLT, reduceCtorEq, Int.reduceLT, Int.reduceLE, Int.reduceBEq, Nat.reduceBNe, Nat.reduceBEq, Nat.reduceMul]
theorem rd_D {r : List (List Nat)} (h : us.drop k = [46] :: r) (hr : r.head? ≠ some [42]) (hz : row.length < 16777216) :
    execsM om1 999 rd_body (rdSt w us p so uo row k) = some (.next, rdSt w us p so uo (row ++ [[63]]) (k + 1)) := by
  have h4 := e4 h false (by simp)
  have h6 := e6 h false (by simp)
  have h2 := e2 h false (by cases r with | nil => simp | cons a b => simp at hr; simp [hr])
  have hx := idxU [segP us, segP row] us k [46] rfl (at_drop h)
  simp only [rdSt, rd_body, li_lp, li_q, li_s, li_co, li_gt, li_dot, li_star, li_open, li_rp, li_Z, li_eq, frzAll_segP, clean_segP, clean_cut, c1, c2, c3, c4, c5, c6, sL_ab, h4, h6, h2, hx, eqP_str, T_beq, segP_len, segP_snoc, hz, eL, E1, E2, E3, E4, E5, Nat.reduceSub, Nat.reduceAdd, Nat.reduceLeDiff, Nat.reduceLT, reduceCtorEq, Int.reduceLT, Int.reduceLE, Int.reduceBEq, Nat.reduceBNe, Nat.reduceBEq, Nat.reduceMul]
theorem rd_E {r : List (List Nat)} {v0 : List Nat} {z : Nat} (h : us.drop k = [91] :: (v0 ++ [z]) :: [93] :: r) (hz : row.length < 16777216) :
    execsM om1 999 rd_body (rdSt w us p so uo row k) = some (.next, rdSt w us p so uo (row ++ [[61, z]]) (k + 3)) := by
  have h4 := e4 h false (by simp)
  have h6 := e6 h false (by simp)
  have h2 := e2 h false (by simp)
  have hx := idxU [segP us, segP row] us k [91] rfl (at_drop h)
  have hx2 := idxU [segP us, segP row] us (k + 1) (v0 ++ [z]) rfl (at_drop (drop_succ h))
  simp only [rdSt, rd_body, li_lp, li_q, li_s, li_co, li_gt, li_dot, li_star, li_open, li_rp, li_Z, li_eq, frzAll_segP, clean_segP, clean_cut, c1, c2, c3, c4, c5, c6, sL_ab, h4, h6, h2, hx, hx2, sS_last, T_len, T_app, eqP_str, T_beq, one_beq, segP_len, segP_snoc, hz, eL, E1, E2, E3, E4, E5, Nat.reduceSub, Nat.reduceAdd, Nat.reduceLeDiff, Nat.reduceLT, reduceCtorEq, Int.reduceLT, Int.reduceLE, Int.reduceBEq, Nat.reduceBNe, Nat.reduceBEq, Nat.reduceMul]
theorem rd_F {r : List (List Nat)} {u u0 : List Nat} {z : Nat} (h : us.drop k = u :: r) (hu : u = u0 ++ [z]) (n1 : u ≠ [40]) (n2 : u ≠ [46]) (n3 : u ≠ [91]) (n4 : u ≠ [41]) (n5 : u ≠ [92, 90]) (hz : row.length < 16777216) :
    execsM om1 999 rd_body (rdSt w us p so uo row k) = some (.next, rdSt w us p so uo (row ++ [[61, z]]) (k + 1)) := by
  have b1 : (u == [46]) = false := by simpa using n2
  have b2 : (u == [91]) = false := by simpa using n3
  have b3 : ([41] == u) = false := by rw [beq_eq_false_iff_ne]; exact n4.symm
  have b4 : ([92, 90] == u) = false := by rw [beq_eq_false_iff_ne]; exact n5.symm
  have h4 := e4 h false (by simp [n1])
  have h6 := e6 h false (by simp [n1])
  have h2 := e2 h false (by simp [n2])
  have hx := idxU [segP us, segP row] us k u rfl (at_drop h)
  have hl := sS_last u0 z
  rw [← hu] at hl
  simp only [rdSt, rd_body, li_lp, li_q, li_s, li_co, li_gt, li_dot, li_star, li_open, li_rp, li_Z, li_eq, frzAll_segP, clean_segP, clean_cut, c1, c2, c3, c4, c5, c6, sL_ab, h4, h6, h2, hx, hl, b1, b2, b3, b4, inP, memP, strsOf, T_len, T_app, eqP_str, T_beq, segP_len, segP_snoc, hz, eL, E1, E2, E3, E4, E5, Nat.reduceSub, Nat.reduceAdd, Nat.reduceLeDiff, Nat.reduceLT, reduceCtorEq, Int.reduceLT, Int.reduceLE, Int.reduceBEq, Nat.reduceBNe, Nat.reduceBEq, Nat.reduceMul]
theorem rd_G1 {r : List (List Nat)} (h : us.drop k = [41] :: r) :
    execsM om1 999 rd_body (rdSt w us p so uo row k) = some (.next, rdSt w us p so uo row (k + 1)) := by
  have h4 := e4 h false (by simp)
  have h6 := e6 h false (by simp)
  have h2 := e2 h false (by simp)
  have hx := idxU [segP us, segP row] us k [41] rfl (at_drop h)
  simp only [rdSt, rd_body, li_lp, li_q, li_s, li_co, li_gt, li_dot, li_star, li_open, li_rp, li_Z, li_eq, frzAll_segP, clean_segP, clean_cut, c1, c2, c3, c4, c5, c6, sL_ab, h4, h6, h2, hx, inP, memP, strsOf, eqP_str, T_beq, one_beq, Nat.reduceBEq, eL, E1, E2, E3, E4, E5, Nat.reduceSub, Nat.reduceAdd, Nat.reduceLeDiff, Nat.reduceLT, reduceCtorEq, Int.reduceLT, Int.reduceLE, Int.reduceBEq, Nat.reduceBNe, Nat.reduceBEq, Nat.reduceMul]
theorem rd_G2 {r : List (List Nat)} (h : us.drop k = [92, 90] :: r) :
    execsM om1 999 rd_body (rdSt w us p so uo row k) = some (.next, rdSt w us p so uo row (k + 1)) := by
  have h4 := e4 h false (by simp)
  have h6 := e6 h false (by simp)
  have h2 := e2 h false (by simp)
  have hx := idxU [segP us, segP row] us k [92, 90] rfl (at_drop h)
  simp only [rdSt, rd_body, li_lp, li_q, li_s, li_co, li_gt, li_dot, li_star, li_open, li_rp, li_Z, li_eq, frzAll_segP, clean_segP, clean_cut, c1, c2, c3, c4, c5, c6, sL_ab, h4, h6, h2, hx, inP, memP, strsOf, eqP_str, T_beq, one_beq, two_beq, Nat.reduceBEq, eL, E1, E2, E3, E4, E5, Nat.reduceSub, Nat.reduceAdd, Nat.reduceLeDiff, Nat.reduceLT, reduceCtorEq, Int.reduceLT, Int.reduceLE, Int.reduceBEq, Nat.reduceBNe, Nat.reduceBEq, Nat.reduceMul]
end
theorem escL_last (c : Nat) : ∃ u0, escL c = u0 ++ [c] := by unfold escL; split; exact ⟨[92], rfl⟩; exact ⟨[], rfl⟩
theorem setB_last (c : Nat) (h : c ≠ 92 ∨ True) : ∃ u0, setB c = u0 ++ [c] := by
  unfold setB
  split
  · rename_i e; subst e; exact ⟨[92], rfl⟩
  · split
    · exact ⟨[92], rfl⟩
    · exact ⟨[], rfl⟩
theorem escL_ne (c : Nat) : escL c ≠ [40] ∧ escL c ≠ [46] ∧ escL c ≠ [91] ∧ escL c ≠ [41] ∧ escL c ≠ [92, 90] ∧ escL c ≠ [42] := by
  unfold escL
  split
  · rename_i h
    refine ⟨by simp, by simp, by simp, by simp, ?_, by simp⟩
    intro e
    have : c = 90 := by simpa using e
    subst this
    exact absurd h (by decide)
  · rename_i h
    refine ⟨?_, ?_, ?_, ?_, by simp, ?_⟩ <;>
    · intro e
      injection e with e1
      subst e1
      exact h (by decide)
def Tl (tl : List U) : Prop := tl = [] ∨ tl = sufU
theorem head_ok (m : Nat) (ts : List It) (j : Nat) (tl : List U) (h : Tl tl) : (wrU m j ts ++ tl).head? ≠ some [42] := by
  cases ts with
  | nil => rcases h with rfl | rfl <;> simp [wrU, sufU]
  | cons t r =>
    cases t with
    | star =>
      simp only [wrU, itU', It.isStar, if_true]
      unfold clU opU
      split <;> split <;> simp
    | q => simp [wrU, itU', It.isStar, It.un]
    | set c => simp [wrU, itU', It.isStar, It.un]
    | lit c =>
      have := (escL_ne c).2.2.2.2.2
      simp [wrU, itU', It.isStar, It.un, this]
section
variable {w : List Nat} {us : List (List Nat)} {p : Nat} {so uo : Option PV}
theorem lt_drop {α : Type} {xs : List α} {k : Nat} {y : α} {r : List α} (h : xs.drop k = y :: r) : k < xs.length := by
  have := congrArg List.length h
  simp at this
  omega
theorem rd_go {row row' : List (List Nat)} {k k' n : Nat} (h : k < us.length) (hb : execsM om1 999 rd_body (rdSt w us p so uo row k) = some (.next, rdSt w us p so uo row' k')) :
    whlN (fun τ => testM om1 rd_t τ.V τ.K τ.H) (execsM om1 999 rd_body) (n + 1) (rdSt w us p so uo row k) = whlN (fun τ => testM om1 rd_t τ.V τ.K τ.H) (execsM om1 999 rd_body) n (rdSt w us p so uo row' k') := by
  refine whl_go ?_ hb
  exact rd_test h
theorem drop6 {xs : List U} {k : Nat} {s r : List U} (h : xs.drop k = s ++ r) : xs.drop (k + s.length) = r := by rw [← List.drop_drop, h, List.drop_left' rfl]
theorem rd_items (m : Nat) (tl : List U) (htl : Tl tl) : ∀ (ts : List It) (j k n : Nat) (row : List (List Nat)), us.drop k = wrU m j ts ++ tl → 2 * ts.length + 3 ≤ n → row.length + ts.length ≤ 9999 →
    whlN (fun τ => testM om1 rd_t τ.V τ.K τ.H) (execsM om1 999 rd_body) n (rdSt w us p so uo row k) = some (.next, rdSt w us p so uo (row ++ ts.map It.td) us.length) ∨ us.length < k
  | [], j, k, n, row, h, hn, hl => by
    rw [List.map_nil, List.append_nil]
    have h' : us.drop k = tl := h
    obtain ⟨n, rfl⟩ : ∃ q, n = q + 1 + 1 + 1 := ⟨n - 3, by simp at hn; omega⟩
    rcases htl with rfl | rfl
    · by_cases e : us.length < k
      · exact .inr e
      · have e : k = us.length := by
          have := congrArg List.length h'
          simp at this
          omega
        subst e
        refine .inl (whl_stop ?_)
        exact rd_done
    · have h1 : us.drop k = [41] :: [[92, 90]] := h'
      have h2 := drop_succ h1
      have e : k + 1 + 1 = us.length := by
        have := congrArg List.length h1
        simp at this
        omega
      left
      rw [rd_go (lt_drop h1) (rd_G1 h1), rd_go (lt_drop h2) (rd_G2 h2), e]
      refine whl_stop ?_
      exact rd_done
  | t :: ts, j, k, n, row, h, hn, hl => by
    simp only [List.length_cons] at hn hl
    have hz : row.length < 16777216 := by omega
    obtain ⟨n, rfl⟩ : ∃ q, n = q + 1 + 1 := ⟨n - 2, by omega⟩
    have hh : us.drop k = itU' m j t ++ (wrU m (j + if t.isStar then 1 else 0) ts ++ tl) := by rw [h]; simp [wrU]
    have fin : ∀ (k' n' : Nat) (row' : List (List Nat)), us.drop k' = wrU m (j + if t.isStar then 1 else 0) ts ++ tl → n ≤ n' → row' = row ++ [t.td] → k' ≤ us.length →
        whlN (fun τ => testM om1 rd_t τ.V τ.K τ.H) (execsM om1 999 rd_body) n' (rdSt w us p so uo row' k') = some (.next, rdSt w us p so uo (row ++ (t :: ts).map It.td) us.length) := by
      intro k' n' row' hd hn' hr hk
      subst hr
      rcases rd_items m tl htl ts _ k' n' (row ++ [t.td]) hd (by omega) (by simp; omega) with e | e
      · rw [e, List.append_assoc]; rfl
      · omega
    left
    cases t with
    | star =>
      simp only [itU', It.isStar, if_true, List.append_assoc] at hh
      have op : ∀ (k' n' : Nat), us.drop k' = opU m (j + 1) ++ (wrU m (j + 1) ts ++ tl) → n ≤ n' →
          whlN (fun τ => testM om1 rd_t τ.V τ.K τ.H) (execsM om1 999 rd_body) (n' + 1) (rdSt w us p so uo row k') = some (.next, rdSt w us p so uo (row ++ (It.star :: ts).map It.td) us.length) := by
        intro k' n' hd hn'
        unfold opU at hd
        split at hd
        · have hd6 := drop6 hd
          rw [rd_go (lt_drop hd) (rd_B hd hz)]
          refine fin (k' + 6) n' _ hd6 hn' rfl ?_
          have := congrArg List.length hd
          simp at this
          omega
        · have hd6 := drop6 hd
          rw [rd_go (lt_drop hd) (rd_C hd hz)]
          refine fin (k' + 2) n' _ hd6 hn' rfl ?_
          have := congrArg List.length hd
          simp at this
          omega
      unfold clU at hh
      split at hh
      · have hh' : us.drop k = [41] :: (opU m (j + 1) ++ (wrU m (j + 1) ts ++ tl)) := hh
        rw [rd_go (lt_drop hh') (rd_G1 hh')]
        exact op (k + 1) n (drop_succ hh') (Nat.le_refl _)
      · exact op k (n + 1) hh (by omega)
    | q =>
      have hh' : us.drop k = [46] :: (wrU m j ts ++ tl) := hh
      rw [rd_go (lt_drop hh') (rd_D hh' (head_ok m ts j tl htl) hz)]
      exact fin (k + 1) (n + 1) _ (drop_succ hh') (by omega) rfl (lt_drop hh')
    | set c =>
      obtain ⟨u0, hu⟩ := setB_last c (.inr trivial)
      have hh' : us.drop k = [91] :: (u0 ++ [c]) :: [93] :: (wrU m j ts ++ tl) := by rw [← hu]; exact hh
      rw [rd_go (lt_drop hh') (rd_E hh' hz)]
      refine fin (k + 3) (n + 1) _ (drop6 (s := [[91], u0 ++ [c], [93]]) hh') (by omega) rfl ?_
      have := congrArg List.length hh'
      simp at this
      omega
    | lit c =>
      obtain ⟨u0, hu⟩ := escL_last c
      obtain ⟨n1, n2, n3, n4, n5, _⟩ := escL_ne c
      have hh' : us.drop k = escL c :: (wrU m j ts ++ tl) := hh
      rw [rd_go (lt_drop hh') (rd_F hh' hu n1 n2 n3 n4 n5 hz)]
      exact fin (k + 1) (n + 1) _ (drop_succ hh') (by omega) rfl (lt_drop hh')
end
theorem escL_good (c : Nat) : GoodU (escL c) := by
  unfold escL
  split
  · exact .inr ⟨c, rfl⟩
  · rename_i h
    exact .inl ⟨c, fun e => h (by subst e; decide), rfl⟩
theorem setB_good (c : Nat) : GoodU (setB c) := by
  unfold setB
  split
  · exact .inr ⟨92, rfl⟩
  · rename_i h
    split
    · exact .inr ⟨c, rfl⟩
    · exact .inl ⟨c, h, rfl⟩
theorem one_good (c : Nat) (h : c ≠ 92) : GoodU [c] := .inl ⟨c, h, rfl⟩
theorem itU_good (m j : Nat) (t : It) : ∀ u ∈ itU' m j t, GoodU u := by
  unfold itU' clU opU
  split
  · split <;> split <;> simp [one_good]
  · cases t with
    | star => simp [It.un]
    | q => simp [It.un, one_good]
    | set c => simp [It.un, one_good, setB_good]
    | lit c => simp [It.un, escL_good]
theorem wrU_good (m : Nat) : ∀ (ts : List It) (j : Nat), ∀ u ∈ wrU m j ts, GoodU u
  | [], _, u, h => nomatch h
  | t :: r, j, u, h => by
    rcases List.mem_append.mp h with h | h
    · exact itU_good m j t u h
    · exact wrU_good m r _ u h
theorem pre_good : ∀ u ∈ preU, GoodU u := by simp [preU, one_good]
theorem suf_good : ∀ u ∈ sufU, GoodU u := by
  intro u hu
  rcases List.mem_cons.mp hu with rfl | hu
  · exact one_good _ (by decide)
  · rw [List.mem_singleton.mp hu]; exact .inr ⟨90, rfl⟩
def pcU (m : Nat) (f l : Bool) (j : Nat) (r : Row) : List U := (if f then preU else []) ++ wrU m j r ++ (if l then sufU else [])
theorem pcU_good (m : Nat) (f l : Bool) (j : Nat) (r : Row) : ∀ u ∈ pcU m f l j r, GoodU u := by
  intro u hu
  rcases List.mem_append.mp hu with hu | hu
  · rcases List.mem_append.mp hu with hu | hu
    · cases f
      · cases hu
      · exact pre_good u hu
    · exact wrU_good m r j u hu
  · cases l
    · cases hu
    · exact suf_good u hu
def tdP (r : Row) : List PV := segP (r.map It.td)
theorem run_read (m : Nat) (f l : Bool) (j : Nat) (r : Row) (hr : r.length ≤ 99) :
    runOf om1 999 1 d_law_read [.str (T (pcU m f l j r).flatten)] = some (.lst (tdP r)) := by
  have hlen : (pcU m f l j r).length ≤ 900 := by
    have h1 := (wrU_len m r j).1
    unfold pcU
    simp only [List.length_append]
    have h2 : (if f then preU else []).length ≤ 4 := by cases f <;> simp [preU]
    have h3 : (if l then sufU else []).length ≤ 2 := by cases l <;> simp [sufU]
    omega
  have hg := pcU_good m f l j r
  have htl : Tl (if l then sufU else []) := by cases l; exact .inl rfl; exact .inr rfl
  have hpu : pcU m f l j r = (if f then preU else []) ++ (wrU m j r ++ (if l then sufU else [])) := by unfold pcU; rw [List.append_assoc]
  generalize hus : pcU m f l j r = us at hlen hg hpu
  obtain ⟨p, so, uo, h1⟩ := ru_loop us.flatten us [] 0 none none hg (by simp; omega)
  rw [List.nil_append] at h1
  have h1' : forL (.tup [3, 4]) (execsM om1 999 ru_body) (itU us 0) ⟨[some (.str (T us.flatten)), some (.loc 0), some (.int 0), none, none, none, none], [], [[]]⟩ = some (.next, ruSt us.flatten us p so uo) := h1
  have h2 : execM om1 999 rd_loop (rdSt us.flatten us p so uo [] 0) = some (.next, rdSt us.flatten us p so uo (r.map It.td) us.length) := by
    show whlN (fun τ => testM om1 rd_t τ.V τ.K τ.H) (execsM om1 999 rd_body) (998 + 1) _ = _
    cases f with
    | false =>
      rcases rd_items (w := us.flatten) (us := us) (p := p) (so := so) (uo := uo) m _ htl r j 0 999 [] hpu (by omega) (by simp; omega) with e | e
      · rw [e]; rfl
      · omega
    | true =>
      have hd : us.drop 0 = [40] :: [63] :: [115] :: [58] :: (wrU m j r ++ (if l then sufU else [])) := hpu
      rw [rd_go (lt_drop hd) (rd_A hd)]
      rcases rd_items (w := us.flatten) (us := us) (p := p) (so := so) (uo := uo) m _ htl r j (0 + 4) 998 [] (drop6 (s := preU) hd) (by omega) (by simp; omega) with e | e
      · rw [e]; rfl
      · have := congrArg List.length hd
        simp at this
        omega
  have z : ((0 : Nat) : Int) = 0 := rfl
  have zs : segP [] = [] := rfl
  simp only [rdSt, z, zs] at h2
  have hz : (itU us 0).length ≤ 16777216 := by
    have : ∀ (us : List U) (i : Nat), (itU us i).length = us.length := fun us => by
      induction us with
      | nil => intro i; rfl
      | cons a b ih => intro i; show (itU b _).length + 1 = b.length + 1; rw [ih]
    rw [this]; omega
  unfold runOf runDf
  rw [show d_law_read.body = b_law_read from rfl, b_law_read]
  simp only [d_law_read, om1_gen, itF_str, itAll_flat us hg, hz, h1', ruSt, h2, frzAll_segP, clean_segP, tdP, eL, E1, E2, E3, E4, E5, Nat.reduceSub, Nat.reduceAdd, Nat.reduceLeDiff, Nat.reduceLT, reduceCtorEq, Int.reduceLT, Int.reduceLE, Int.reduceBEq, Nat.reduceBNe, Nat.reduceBEq, Nat.reduceMul]
end Mine.P
namespace Mine.P
def joSt (x : List Nat) (P : PV) (path : List Nat) (bo : Option PV) : St := ⟨[some (.str (T x)), some P, some (.str (T [47])), some (.str (T path)), bo], [], []⟩
theorem head_ne {b : List Nat} (h : 47 ∉ b) : (b.head? == some 47) = false := by
  cases b with
  | nil => rfl
  | cons a r => simp at h ⊢; omega
theorem last_ne {b : List Nat} (h : b.getLast? ≠ some 47) : (b.getLast? == some 47) = false := by simpa using h
theorem len_ne {b : List Nat} (h : b ≠ []) : (b.length != 0) = true := by cases b with | nil => exact absurd rfl h | cons a r => simp
theorem jo_step (x : List Nat) (P : PV) (path b : List Nat) (hp : path ≠ []) (hl : path.getLast? ≠ some 47) (hb : 47 ∉ b) (hz : path.length + b.length ≤ 99999) :
    execsM om1 99 jo_body (joSt x P path (some (.str (T b)))) = some (.next, joSt x P (path ++ (47 :: b)) (some (.str (T b)))) := by
  have e1 := T_starts b 47
  rw [head_ne hb] at e1
  have e2 := T_ends path 47 hp
  rw [last_ne hl] at e2
  have e3 := len_ne hp
  have z1 : 1 + b.length ≤ 16777216 := by omega
  have z2 : path.length + (b.length + 1) ≤ 16777216 := by omega
  simp only [joSt, jo_body, om1_fspath, run_fspath, m_starts, m_ends, e1, e2, e3, T_len, T_app, z1, z2, addAdd, eL, E1, E2, E3, E4, E5, Nat.reduceSub, Nat.reduceAdd, Nat.reduceLeDiff, Nat.reduceLT, reduceCtorEq, Int.reduceLT, Int.reduceLE, Int.reduceBEq, Nat.reduceBNe, Nat.reduceBEq, Nat.reduceMul]
theorem jo_loop (x : List Nat) (P : PV) : ∀ (ps : List (List Nat)) (path : List Nat) (bo : Option PV), path ≠ [] → path.getLast? ≠ some 47 → (∀ p ∈ ps, p ≠ [] ∧ 47 ∉ p) → path.length + (ps.map List.length).sum + ps.length ≤ 99999 →
    ∃ bo', forL (.one 4) (execsM om1 99 jo_body) (segP ps) (joSt x P path bo) = some (.next, joSt x P (joinL [47] (path :: ps)) bo')
  | [], path, bo, _, _, _, _ => ⟨bo, rfl⟩
  | b :: r, path, bo, hp, hl, h, hz => by
    simp only [List.map_cons, List.sum_cons, List.length_cons] at hz
    have hb := h b (by simp)
    have e := jo_step x P path b hp hl hb.2 (by omega)
    obtain ⟨bo', e2⟩ := jo_loop x P r (path ++ (47 :: b)) (some (.str (T b))) (by simp) (by
      rw [List.getLast?_append, show ((47 : Nat) :: b).getLast? = b.getLast? by cases b with | nil => exact absurd rfl hb.1 | cons c d => simp [List.getLast?_cons_cons]]
      cases hg : b.getLast? with
      | none => exact absurd (List.getLast?_eq_none_iff.mp hg) hb.1
      | some z =>
        simp
        intro e
        subst e
        exact hb.2 (List.mem_of_getLast? hg)) (fun p hp => h p (by simp [hp])) (by simp only [List.length_append, List.length_cons]; omega)
    refine ⟨bo', ?_⟩
    show (match execsM om1 99 jo_body (joSt x P path (some (.str (T b)))) with
      | some (.next, τ) => forL (.one 4) (execsM om1 99 jo_body) (segP r) τ
      | some (.cont, τ) => forL (.one 4) (execsM om1 99 jo_body) (segP r) τ
      | some (.brk, τ) => some (.next, τ)
      | some (.ret v, τ) => some (.ret v, τ)
      | none => none) = _
    rw [e]
    show forL (.one 4) (execsM om1 99 jo_body) (segP r) _ = _
    have hj : joinL [47] ((path ++ 47 :: b) :: r) = joinL [47] (path :: b :: r) := by
      cases r with
      | nil => simp [joinL]
      | cons c d => simp [joinL]
    rw [e2, hj]
theorem run_join (x : List Nat) (ps : List (List Nat)) (hx : x ≠ [] ∧ 47 ∉ x) (h : ∀ p ∈ ps, p ≠ [] ∧ 47 ∉ p) (hn : ps.length ≤ 99) (hz : x.length + (ps.map List.length).sum + ps.length ≤ 99999) :
    fJoin (.str (T x) :: segP ps) = some (.str (T (joinL [47] (x :: ps)))) := by
  obtain ⟨bo, e⟩ := jo_loop x (.tup (segP ps)) ps x none hx.1 (fun hl => hx.2 (List.mem_of_getLast? hl)) h hz
  have hc : (segP ps).length ≤ 1000 := by rw [segP_len]; omega
  show (if (segP ps).length ≤ 1000 then runDf om1 99 d_join [.str (T x), .tup (segP ps)] else none) = _
  rw [if_pos hc]
  unfold runDf
  rw [show d_join.body = b_join from rfl, b_join]
  simp only [joSt] at e
  simp only [d_join, om1_fspath, om1_get_sep, run_fspath, run_get_sep, e, clean_segP, eL, E1, E2, E3, E4, E5, Nat.reduceSub, Nat.reduceAdd, Nat.reduceLeDiff, Nat.reduceLT, reduceCtorEq, Int.reduceLT, Int.reduceLE, Int.reduceBEq, Nat.reduceBNe, Nat.reduceBEq, Nat.reduceMul]
theorem om1_isi : om1.fn "isinstance" = some fIsInst := rfl
theorem om1_bytes : om1.gl "bytes" = some (.val (.type "bytes")) := rfl
theorem om2_isi : om2.fn "isinstance" = some fIsInst := rfl
theorem om2_bytes : om2.gl "bytes" = some (.val (.type "bytes")) := rfl
theorem f_isi (x : Str) : fIsInst [.str x, .val (.type "bytes")] = some (.bool false) := rfl
theorem run_splitroot (w : List Nat) (h : w.take 1 ≠ [47]) : runOf om1 99 1 d_splitroot [.str (T w)] = some (.tup [.str (T []), .str (T []), .str (T w)]) := by
  have h1 : slcP (.str (T w)) .none (.int 1) = some (.str (T (w.take 1))) := sS_to w 1
  have h2 : (w.take 1 == [47]) = false := by simpa using h
  unfold runOf runDf
  simp only [d_splitroot, b_splitroot, om1_fspath, run_fspath, om1_isi, om1_bytes, f_isi, li_0, li_e, h1, h2, eqP_str, T_beq, eL, E1, E2, E3, E4, E5, Nat.reduceSub, Nat.reduceAdd, Nat.reduceLeDiff, Nat.reduceLT, reduceCtorEq, Int.reduceLT, Int.reduceLE, Int.reduceBEq, Nat.reduceBNe, Nat.reduceBEq, Nat.reduceMul]
theorem li_dd : Str.ofString ".." = T [46, 46] := by decide +kernel
def npStep (acc : List (List Nat)) (p : List Nat) : List (List Nat) :=
  if p = [46] then acc else if p = [46, 46] then (if acc = [] then acc ++ [p] else if acc.getLast? = some [46, 46] then acc ++ [p] else acc.dropLast) else acc ++ [p]
def npSt (w : List Nat) (comps : PV) (acc : List (List Nat)) (co : Option PV) : St :=
  ⟨[some (.str (T w)), some (.str (T [47])), some (.str (T [46])), some (.str (T [46, 46])), some (.str (T [])), some (.str (T [])), some comps, some (.loc 0), co], [], [segP acc]⟩
theorem np_step (w : List Nat) (comps : PV) (acc : List (List Nat)) (p : List Nat) (hp : p ≠ []) (hz : acc.length ≤ 9999) :
    execsM om2 99 np_body (npSt w comps acc (some (.str (T p)))) = some (.next, npSt w comps (npStep acc p) (some (.str (T p)))) ∨
    execsM om2 99 np_body (npSt w comps acc (some (.str (T p)))) = some (.cont, npSt w comps (npStep acc p) (some (.str (T p)))) := by
  have hl := len_ne hp
  have hz' : acc.length < 16777216 := by omega
  by_cases h1 : p = [46]
  · right
    have b1 : (p == [46]) = true := by simpa using h1
    simp only [npStep, if_pos h1, npSt, np_body, T_len, hl, b1, eqP_str, T_beq, eL, E1, E2, E3, E4, E5, Nat.reduceSub, Nat.reduceAdd, Nat.reduceLeDiff, Nat.reduceLT, reduceCtorEq, Int.reduceLT, Int.reduceLE, Int.reduceBEq, Nat.reduceBNe, Nat.reduceBEq, Nat.reduceMul]
  · left
    have b1 : (p == [46]) = false := by simpa using h1
    by_cases h2 : p = [46, 46]
    · have b2 : (p == [46, 46]) = true := by simpa using h2
      rcases List.eq_nil_or_concat acc with rfl | ⟨d, y, rfl⟩
      · simp only [npStep, if_neg h1, if_pos h2, npSt, np_body, T_len, hl, b1, b2, eqP_str, T_beq, segP, List.map_nil, List.isEmpty_nil, Nat.reduceBNe, bne_self_eq_false, eL, E1, E2, E3, E4, E5, Nat.reduceSub, Nat.reduceAdd, Nat.reduceLeDiff, Nat.reduceLT, reduceCtorEq, Int.reduceLT, Int.reduceLE, Int.reduceBEq, Nat.reduceBNe, Nat.reduceBEq, Nat.reduceMul]
      · have hc : d.concat y = d ++ [y] := List.concat_eq_append
        rw [hc] at hz hz' ⊢
        have ne : d ++ [y] ≠ [] := by simp
        have em : (segP (d ++ [y])).isEmpty = false := by simp [segP]
        have hi := idxLast [segP (d ++ [y])] 0 (segP d) (.str (T y)) (by simp [segP])
        by_cases h3 : y = [46, 46]
        · have b3 : (y == [46, 46]) = true := by simpa using h3
          have e3 : (d ++ [y]).getLast? = some [46, 46] := by simp [h3]
          simp only [npStep, if_neg h1, if_pos h2, if_neg ne, if_pos e3, npSt, np_body, T_len, hl, b1, b2, b3, eqP_str, T_beq, hi, em, segP_len, segP_snoc, hz', Nat.reduceBNe, bne_self_eq_false, List.length_nil, eL, E1, E2, E3, E4, E5, Nat.reduceSub, Nat.reduceAdd, Nat.reduceLeDiff, Nat.reduceLT, reduceCtorEq, Int.reduceLT, Int.reduceLE, Int.reduceBEq, Nat.reduceBNe, Nat.reduceBEq, Nat.reduceMul]
        · have b3 : (y == [46, 46]) = false := by simpa using h3
          have e3 : ¬ (d ++ [y]).getLast? = some [46, 46] := by simpa using h3
          have gl1 : (segP (d ++ [y])).getLast? = some (.str (T y)) := by simp [segP]
          have dl : (segP (d ++ [y])).dropLast = segP (d ++ [y]).dropLast := by simp [segP]
          simp only [npStep, if_neg h1, if_pos h2, if_neg ne, if_neg e3, npSt, np_body, T_len, hl, b1, b2, b3, eqP_str, T_beq, hi, em, gl1, dl, segP_len, segP_snoc, hz', Nat.reduceBNe, bne_self_eq_false, List.length_nil, eL, E1, E2, E3, E4, E5, Nat.reduceSub, Nat.reduceAdd, Nat.reduceLeDiff, Nat.reduceLT, reduceCtorEq, Int.reduceLT, Int.reduceLE, Int.reduceBEq, Nat.reduceBNe, Nat.reduceBEq, Nat.reduceMul]
    · have b2 : (p == [46, 46]) = false := by simpa using h2
      simp only [npStep, if_neg h1, if_neg h2, npSt, np_body, T_len, hl, b1, b2, eqP_str, T_beq, segP_len, segP_snoc, hz', eL, E1, E2, E3, E4, E5, Nat.reduceSub, Nat.reduceAdd, Nat.reduceLeDiff, Nat.reduceLT, reduceCtorEq, Int.reduceLT, Int.reduceLE, Int.reduceBEq, Nat.reduceBNe, Nat.reduceBEq, Nat.reduceMul]
theorem npStep_len (acc : List (List Nat)) (p : List Nat) : (npStep acc p).length ≤ acc.length + 1 := by
  unfold npStep
  split
  · omega
  · split
    · split
      · simp
      · split
        · simp
        · simp; omega
    · simp
theorem np_loop (w : List Nat) (comps : PV) : ∀ (ps acc : List (List Nat)) (co : Option PV), (∀ p ∈ ps, p ≠ []) → acc.length + ps.length ≤ 9999 →
    ∃ co', forL (.one 8) (execsM om2 99 np_body) (segP ps) (npSt w comps acc co) = some (.next, npSt w comps (ps.foldl npStep acc) co')
  | [], acc, co, _, _ => ⟨co, rfl⟩
  | p :: r, acc, co, h, hz => by
    simp only [List.length_cons] at hz
    have e := np_step w comps acc p (h p (by simp)) (by omega)
    have hl := npStep_len acc p
    obtain ⟨co', e2⟩ := np_loop w comps r (npStep acc p) (some (.str (T p))) (fun x hx => h x (by simp [hx])) (by omega)
    refine ⟨co', ?_⟩
    show (match execsM om2 99 np_body (npSt w comps acc (some (.str (T p)))) with
      | some (.next, τ) => forL (.one 8) (execsM om2 99 np_body) (segP r) τ
      | some (.cont, τ) => forL (.one 8) (execsM om2 99 np_body) (segP r) τ
      | some (.brk, τ) => some (.next, τ)
      | some (.ret v, τ) => some (.ret v, τ)
      | none => none) = _
    rcases e with e | e <;>
    · rw [e]
      exact e2
theorem joinL_len (s : List Nat) : ∀ ps : List (List Nat), (joinL s ps).length ≤ (ps.map List.length).sum + ps.length * s.length
  | [] => Nat.zero_le _
  | [x] => by simp [joinL]
  | x :: y :: r => by
    have := joinL_len s (y :: r)
    simp only [joinL, List.length_append, List.map_cons, List.sum_cons, List.length_cons] at this ⊢
    rw [Nat.add_mul, Nat.add_mul] at *
    omega
theorem m_join1 (s : List Nat) (segs : List (List Nat)) (h : (segs.map List.length).sum + segs.length * s.length ≤ 16777216) : methP "join" (.str (T s)) [.lst (segP segs)] = some (.str (T (joinL s segs))) := by
  rw [m_join, segP_strs]
  have e : ((segs.map T).map (·.length)).sum = (segs.map List.length).sum := by
    congr 1
    rw [List.map_map]
    exact List.map_congr_left fun x _ => T_len x
  show (if ((segs.map T).map (·.length)).sum + (segs.map T).length * (T s).length ≤ 16777216 then some (PV.str (Str.join (T s) (segs.map T))) else none) = _
  rw [e, List.length_map, T_len, if_pos h, T_join]
theorem npStep_sum (acc : List (List Nat)) (p : List Nat) : ((npStep acc p).map List.length).sum ≤ (acc.map List.length).sum + p.length := by
  unfold npStep
  split
  · omega
  · split
    · split
      · simp
      · split
        · simp
        · rcases List.eq_nil_or_concat acc with rfl | ⟨d, y, rfl⟩
          · simp
          · simp; omega
    · simp
theorem np_sum : ∀ (ps acc : List (List Nat)), ((ps.foldl npStep acc).map List.length).sum ≤ (acc.map List.length).sum + (ps.map List.length).sum ∧ (ps.foldl npStep acc).length ≤ acc.length + ps.length
  | [], acc => ⟨by simp, by simp⟩
  | p :: r, acc => by
    have h1 := npStep_sum acc p
    have h2 := npStep_len acc p
    have h3 := np_sum r (npStep acc p)
    simp only [List.foldl_cons, List.map_cons, List.sum_cons, List.length_cons]
    exact ⟨by omega, by omega⟩
theorem om2_fspath : om2.fn "fspath" = some (runOf om0 9 1 d_fspath) := rfl
theorem om2_splitroot : om2.fn "splitroot" = some (runOf om1 99 1 d_splitroot) := rfl
theorem segP_map (ps : List (List Nat)) : (ps.map T).map PV.str = segP ps := by rw [List.map_map]; rfl
theorem run_normpath (ps : List (List Nat)) (h0 : ps ≠ []) (h : ∀ p ∈ ps, p ≠ [] ∧ 47 ∉ p) (hn : ps.length ≤ 99) (hz : (ps.map List.length).sum ≤ 99999) (hr : joinL [47] (ps.foldl npStep []) ≠ []) :
    runOf om2 99 1 d_normpath [.str (T (joinL [47] ps))] = some (.str (T (joinL [47] (ps.foldl npStep [])))) := by
  have hw : joinL [47] ps ≠ [] ∧ (joinL [47] ps).take 1 ≠ [47] := by
    match ps, h0, h with
    | [x], _, h =>
      have hx := h x (by simp)
      refine ⟨hx.1, fun e => ?_⟩
      cases x with
      | nil => exact hx.1 rfl
      | cons a b => simp [joinL] at e; subst e; exact hx.2 (by simp)
    | x :: y :: r, _, h =>
      have hx := h x (by simp)
      cases x with
      | nil => exact absurd rfl hx.1
      | cons a b =>
        refine ⟨by simp [joinL], fun e => ?_⟩
        simp [joinL] at e; subst e; exact hx.2 (by simp)
  have hl := joinL_len [47] ps
  have hsp := T_split 47 ps h0 (fun p hp => (h p hp).2)
  have hsr := run_splitroot (joinL [47] ps) hw.2
  have hln : ((joinL [47] ps).length != 0) = true := len_ne hw.1
  have hl1 : (T [47]).length = 1 := rfl
  have hl2 : (joinL [47] ps).length ≤ 1000000 := by simp only [List.length_cons, List.length_nil] at hl; omega
  obtain ⟨co, hlp⟩ := np_loop (joinL [47] ps) (.lst (segP ps)) ps [] none (fun p hp => (h p hp).1) (by simp; omega)
  have hsum := np_sum ps []
  simp only [List.map_nil, List.sum_nil, List.length_nil, Nat.zero_add] at hsum
  have hj := m_join1 [47] (ps.foldl npStep []) (by simp only [List.length_cons, List.length_nil]; omega)
  have hjl := joinL_len [47] (ps.foldl npStep [])
  have hrn : ((joinL [47] (ps.foldl npStep [])).length != 0) = true := len_ne hr
  have hz2 : (joinL [47] (ps.foldl npStep [])).length ≤ 16777216 := by simp only [List.length_cons, List.length_nil] at hjl; omega
  have zs : segP [] = [] := rfl
  generalize ps.foldl npStep [] = R at *
  generalize joinL [47] ps = w at *
  generalize joinL [47] R = v at *
  simp only [npSt, zs] at hlp
  unfold runOf runDf
  rw [show d_normpath.body = b_normpath from rfl, b_normpath]
  simp only [d_normpath, om2_fspath, run_fspath, om2_isi, om2_bytes, f_isi, li_0, li_e, li_dot, li_dd, T_len, hln, om2_splitroot, hsr, m_split, hl1, hl2, hsp, segP_map, hlp, frzAll_segP, clean_segP, hj, T_app, hz2, hrn, List.length_nil, eL, E1, E2, E3, E4, E5, Nat.reduceSub, Nat.reduceAdd, Nat.reduceLeDiff, Nat.reduceLT, reduceCtorEq, Int.reduceLT, Int.reduceLE, Int.reduceBEq, Nat.reduceBNe, Nat.reduceBEq, Nat.reduceMul]
end Mine.P
namespace Mine.P
def intP (l : List Nat) : List PV := l.map fun (n : Nat) => .int (n : Int)
theorem intP_len (l : List Nat) : (intP l).length = l.length := by simp [intP]
theorem clean_intP : ∀ l : List Nat, cleans (intP l) = true
  | [] => rfl
  | x :: r => clean_intP r
theorem intP_snoc (l : List Nat) (x : Nat) : intP l ++ [.int (x : Int)] = intP (l ++ [x]) := by simp [intP]
theorem intsOf_P : ∀ l : List Nat, intsOf (intP l) = some (l.map fun (n : Nat) => (n : Int))
  | [] => rfl
  | x :: r => by
    show (intsOf (intP r)).map ((x : Int) :: ·) = _
    rw [intsOf_P r]; rfl
theorem memP_int (l : List Nat) (x : Nat) : memP (.int (x : Int)) (intP l) = some (decide (x ∈ l)) := by
  show (intsOf (intP l)).map (fun zs => zs.any (· == (x : Int))) = _
  rw [intsOf_P]
  show some _ = _
  congr 1
  rw [Bool.eq_iff_iff, decide_eq_true_eq, List.any_eq_true]
  constructor
  · rintro ⟨z, hz, e⟩
    obtain ⟨n, hn, rfl⟩ := List.mem_map.mp hz
    have : n = x := by
      have := beq_iff_eq.mp e
      omega
    rwa [← this]
  · intro h
    exact ⟨_, List.mem_map.mpr ⟨x, h, rfl⟩, by simp⟩
def nmStep (s : List Nat × Option (List Nat)) (k : Nat) : List Nat × Option (List Nat) :=
  if 0 < k then (s.1 ++ [k], s.2) else match s.2 with
    | none => (s.1, some s.1)
    | some b => (b, none)
def leftOf (marks : List Nat) : List Nat := (marks.foldl nmStep ([], none)).1
def b2n (b : Bool) : Nat := if b then 1 else 0
def nestB (marks : List Nat) (last : Nat) (b e : Bool) : Bool :=
  (b2n b + b2n (decide (1 ∈ leftOf marks)) == b2n (decide (last ∈ leftOf marks)) + b2n e) && (decide (0 < b2n b + b2n (decide (1 ∈ leftOf marks))) || (leftOf marks).isEmpty)
def backP : Option (List Nat) → PV
  | none => .none
  | some b => .lst (intP b)
def neSt (M L B E : PV) (s : List Nat × Option (List Nat)) (oo : Option PV) : St := ⟨[some M, some L, some B, some E, some (.lst (intP s.1)), some (backP s.2), oo, none, none], [], []⟩
theorem ne_step (M L B E : PV) (s : List Nat × Option (List Nat)) (k : Nat) (hz : s.1.length ≤ 9999) :
    execsM om0 9 ne_body (neSt M L B E s (some (.int (k : Int)))) = some (.next, neSt M L B E (nmStep s k) (some (.int (k : Int)))) := by
  obtain ⟨l, bk⟩ := s
  by_cases h : 0 < k
  · have h' : ((0 : Int) < (k : Int)) = True := by simp only [eq_iff_iff, iff_true]; omega
    have hz' : l.length + 1 ≤ 16777216 := by simp at hz; omega
    simp only [nmStep, if_pos h, neSt, ne_body, h', clean_intP, intP_len, hz', intP_snoc, eL, E1, E2, E3, E4, E5, Nat.reduceSub, Nat.reduceAdd, Nat.reduceLeDiff, Nat.reduceLT, reduceCtorEq, Int.reduceLT, Int.reduceLE, Int.reduceBEq, Nat.reduceBNe, Nat.reduceBEq, Nat.reduceMul]
  · have h0 : k = 0 := by omega
    subst h0
    have z : ((0 : Nat) : Int) = 0 := rfl
    cases bk with
    | none => simp only [nmStep, Nat.lt_irrefl, neSt, ne_body, backP, z, Int.lt_irrefl, clean_intP, eL, E1, E2, E3, E4, E5, Nat.reduceSub, Nat.reduceAdd, Nat.reduceLeDiff, Nat.reduceLT, reduceCtorEq, Int.reduceLT, Int.reduceLE, Int.reduceBEq, Nat.reduceBNe, Nat.reduceBEq, Nat.reduceMul]
    | some b => simp only [nmStep, Nat.lt_irrefl, neSt, ne_body, backP, z, Int.lt_irrefl, clean_intP, eL, E1, E2, E3, E4, E5, Nat.reduceSub, Nat.reduceAdd, Nat.reduceLeDiff, Nat.reduceLT, reduceCtorEq, Int.reduceLT, Int.reduceLE, Int.reduceBEq, Nat.reduceBNe, Nat.reduceBEq, Nat.reduceMul]
theorem nmStep_len (s : List Nat × Option (List Nat)) (k n : Nat) (h : s.1.length ≤ n ∧ ∀ b, s.2 = some b → b.length ≤ n) : (nmStep s k).1.length ≤ n + 1 ∧ ∀ b, (nmStep s k).2 = some b → b.length ≤ n + 1 := by
  obtain ⟨l, bk⟩ := s
  unfold nmStep
  split
  · exact ⟨by simp; exact h.1, fun b hb => by have := h.2 b hb; omega⟩
  · cases bk with
    | none => exact ⟨by have := h.1; simp at this ⊢; omega, fun b hb => by cases hb; have := h.1; simp at this ⊢; omega⟩
    | some b => exact ⟨by have := h.2 b rfl; simp at this ⊢; omega, fun b hb => by cases hb⟩
theorem ne_loop (M L B E : PV) : ∀ (ks : List Nat) (s : List Nat × Option (List Nat)) (n : Nat) (oo : Option PV), (s.1.length ≤ n ∧ ∀ b, s.2 = some b → b.length ≤ n) → n + ks.length ≤ 9999 →
    ∃ oo', forL (.one 6) (execsM om0 9 ne_body) (intP ks) (neSt M L B E s oo) = some (.next, neSt M L B E (ks.foldl nmStep s) oo')
  | [], s, n, oo, _, _ => ⟨oo, rfl⟩
  | k :: r, s, n, oo, hs, hn => by
    simp only [List.length_cons] at hn
    have e := ne_step M L B E s k (by have := hs.1; omega)
    obtain ⟨oo', e2⟩ := ne_loop M L B E r (nmStep s k) (n + 1) (some (.int (k : Int))) (nmStep_len s k n hs) (by omega)
    refine ⟨oo', ?_⟩
    show (match execsM om0 9 ne_body (neSt M L B E s (some (.int (k : Int)))) with
      | some (.next, τ) => forL (.one 6) (execsM om0 9 ne_body) (intP r) τ
      | some (.cont, τ) => forL (.one 6) (execsM om0 9 ne_body) (intP r) τ
      | some (.brk, τ) => some (.next, τ)
      | some (.ret v, τ) => some (.ret v, τ)
      | none => none) = _
    rw [e]
    exact e2
theorem ite_b2n (b : Bool) : (match (some (PV.bool b) : Option PV) with | some (.bool true) => some (PV.int 1) | some (.bool false) => some (PV.int 0) | _ => none) = some (.int (b2n b : Int)) := by cases b <;> rfl
theorem beqNat (a b : Nat) : ((a : Int) == (b : Int)) = (a == b) := by
  rw [Bool.eq_iff_iff, beq_iff_eq, beq_iff_eq]; omega
theorem ltNat (a : Nat) : decide ((0 : Int) < (a : Int)) = decide (0 < a) := by
  rw [Bool.eq_iff_iff, decide_eq_true_eq, decide_eq_true_eq]; omega
theorem nc0 : ((0 : Nat) : Int) = 0 := rfl
theorem run_nested (marks : List Nat) (last : Nat) (b e : Bool) (hn : marks.length ≤ 999) :
    runOf om0 9 4 d_law_nested [.lst (intP marks), .int (last : Int), .int (b2n b : Int), .int (b2n e : Int)] = some (.bool (nestB marks last b e)) := by
  obtain ⟨oo, h⟩ := ne_loop (.lst (intP marks)) (.int (last : Int)) (.int (b2n b : Int)) (.int (b2n e : Int)) marks ([], none) 0 none ⟨Nat.le_refl _, fun b hb => by cases hb⟩ (by omega)
  have hl : (marks.foldl nmStep ([], none)).1 = leftOf marks := rfl
  have zs : intP [] = [] := rfl
  unfold neSt at h
  simp only [zs, backP, hl] at h
  have m1 : memP (.int 1) (intP (leftOf marks)) = some (decide (1 ∈ leftOf marks)) := memP_int _ 1
  have ml := memP_int (leftOf marks) last
  unfold nestB
  generalize leftOf marks = L at *
  generalize (marks.foldl nmStep ([], none)).2 = BK at *
  generalize decide (1 ∈ L) = x at *
  generalize decide (last ∈ L) = y at *
  have em : (intP L).isEmpty = L.isEmpty := by cases L <;> rfl
  unfold runOf runDf
  rw [show d_law_nested.body = b_law_nested from rfl, b_law_nested]
  cases L with
  | nil =>
    cases b <;> cases e <;> cases x <;> cases y <;>
    (simp only [b2n, Bool.false_eq_true, if_true, if_false, nc0, nc1] at h; simp only [d_law_nested, h, inP, m1, ml, clean_intP, b2n, eqP_int, eqP_lst_nil, intP_len, List.length_nil, Int.reduceAdd, Int.reduceEq, nc0, nc1, eL, E1, E2, E3, E4, E5, Nat.reduceSub, Nat.reduceAdd, Nat.reduceLeDiff, Nat.reduceLT, reduceCtorEq, Int.reduceLT, Int.reduceLE, Int.reduceBEq, Nat.reduceBNe, Nat.reduceBEq, Nat.reduceMul]; try rfl)
  | cons a r =>
    cases b <;> cases e <;> cases x <;> cases y <;>
    (simp only [b2n, Bool.false_eq_true, if_true, if_false, nc0, nc1] at h; simp only [d_law_nested, h, inP, m1, ml, clean_intP, b2n, eqP_int, eqP_lst_nil, intP_len, List.length_cons, Int.reduceAdd, Int.reduceEq, nc0, nc1, eL, E1, E2, E3, E4, E5, Nat.reduceSub, Nat.reduceAdd, Nat.reduceLeDiff, Nat.reduceLT, reduceCtorEq, Int.reduceLT, Int.reduceLE, Int.reduceBEq, Nat.reduceBNe, Nat.reduceBEq, Nat.reduceMul]; try rfl)
end Mine.P
namespace Mine.P
abbrev Ms := Option Int × Option (Option Int)
def msU (s : Ms) (u : U) : Ms := if u = [34] then (match s.2 with
  | none => (s.1, some s.1)
  | some b => (b, none)) else (stU s.1 u, s.2)
theorem mach_fold : ∀ (us : List U) (o : Option Int) (sv : Option (Option Int)), mach us o sv = (us.foldl msU (o, sv)).1
  | [], o, sv => by cases sv <;> rfl
  | u :: r, o, none => by
    simp only [mach, List.foldl_cons, msU]
    split <;> exact mach_fold r _ _
  | u :: r, o, some b => by
    simp only [mach, List.foldl_cons, msU]
    split <;> exact mach_fold r _ _
def stM (m k : Nat) (o : Option Int) : Option Int := (clU (k - 1) ++ opU m k).foldl stU o
def msM (m : Nat) (s : Ms) (k : Nat) : Ms := if 0 < k then (stM m k s.1, s.2) else match s.2 with
  | none => (s.1, some s.1)
  | some b => (b, none)
def mkI (j : Nat) (t : It) : List Nat := if t.isStar then [j + 1] else if t.td = [61, 34] then [0] else []
def mkR : Nat → Row → List Nat
  | _, [] => []
  | j, t :: r => mkI j t ++ mkR (j + if t.isStar then 1 else 0) r
theorem fold_noq : ∀ (us : List U) (s : Ms), [34] ∉ us → us.foldl msU s = (us.foldl stU s.1, s.2)
  | [], s, _ => rfl
  | u :: r, s, h => by
    have h1 : u ≠ [34] := fun e => h (by simp [e])
    have h2 : [34] ∉ r := fun e => h (by simp [e])
    rw [List.foldl_cons, List.foldl_cons]
    have : msU s u = (stU s.1 u, s.2) := by unfold msU; rw [if_neg h1]
    rw [this, fold_noq r _ h2]
theorem stU_neu (o : Option Int) (u : U) (h1 : u ≠ [40]) (h2 : u ≠ [41]) : stU o u = o := by
  cases o with
  | none => rfl
  | some c => show (if u = [40] then some (c + 1) else if u = [41] then _ else some c) = some c; rw [if_neg h1, if_neg h2]
theorem msU_neu (s : Ms) (u : U) (h1 : u ≠ [40]) (h2 : u ≠ [41]) (h3 : u ≠ [34]) : msU s u = s := by
  unfold msU
  rw [if_neg h3, stU_neu _ _ h1 h2]
theorem msU_q (m : Nat) (s : Ms) : msU s [34] = msM m s 0 := rfl
theorem item_fold (m j : Nat) (t : It) (ht : t.ok = true) (s : Ms) : (itU' m j t).foldl msU s = (mkI j t).foldl (msM m) s := by
  cases t with
  | star =>
    have e : mkI j .star = [j + 1] := rfl
    have e2 : itU' m j .star = clU j ++ opU m (j + 1) := rfl
    rw [e, e2, fold_noq]
    · rw [List.foldl_cons, List.foldl_nil]
      unfold msM stM
      rw [if_pos (Nat.succ_pos j), Nat.add_sub_cancel]
    · unfold clU opU
      split <;> split <;> simp
  | q => exact msU_neu s [46] (by decide) (by decide) (by decide)
  | lit c =>
    have e2 : itU' m j (.lit c) = [escL c] := rfl
    obtain ⟨n1, _, _, n4, _, _⟩ := escL_ne c
    rw [e2]
    by_cases hc : c = 34
    · subst hc; rfl
    · have e : mkI j (.lit c) = [] := by simp [mkI, It.isStar, It.td, hc]
      rw [e]
      refine msU_neu s (escL c) n1 n4 ?_
      unfold escL
      split
      · simp
      · simpa using hc
  | set c =>
    have e2 : itU' m j (.set c) = [[91], setB c, [93]] := rfl
    rw [e2]
    have f1 : ∀ s : Ms, msU s [91] = s := fun s => msU_neu s [91] (by decide) (by decide) (by decide)
    have f2 : ∀ s : Ms, msU s [93] = s := fun s => msU_neu s [93] (by decide) (by decide) (by decide)
    simp only [List.foldl_cons, List.foldl_nil, f1, f2]
    have hc' : c = 42 ∨ c = 63 ∨ c = 91 ∨ c = 93 ∨ c = 34 ∨ c = 92 ∨ c = 94 ∨ c = 38 := by simpa [It.ok] using ht
    rcases hc' with rfl | rfl | rfl | rfl | rfl | rfl | rfl | rfl <;> first
      | exact msU_neu s _ (by decide) (by decide) (by decide)
      | rfl
theorem row_fold (m : Nat) : ∀ (r : Row) (j : Nat) (s : Ms), (∀ t ∈ r, t.ok = true) → (wrU m j r).foldl msU s = (mkR j r).foldl (msM m) s
  | [], _, _, _ => rfl
  | t :: r, j, s, h => by
    simp only [wrU, mkR, List.foldl_append]
    rw [item_fold m j t (h t (by simp)), row_fold m r _ _ (fun x hx => h x (by simp [hx]))]
def preE (b : Bool) (s : Ms) : Ms := if b then (stU s.1 [40], s.2) else s
def sufE (b : Bool) (s : Ms) : Ms := if b then (stU s.1 [41], s.2) else s
theorem pc_fold (m : Nat) (f l : Bool) (j : Nat) (r : Row) (s : Ms) (h : ∀ t ∈ r, t.ok = true) : (pcU m f l j r).foldl msU s = sufE l ((mkR j r).foldl (msM m) (preE f s)) := by
  unfold pcU
  rw [List.foldl_append, List.foldl_append, row_fold m r j _ h]
  have e1 : (if f then preU else []).foldl msU s = preE f s := by
    cases f
    · rfl
    · show (preU.foldl msU s) = (stU s.1 [40], s.2)
      rw [fold_noq preU s (by decide)]
      have : preU.foldl stU s.1 = stU s.1 [40] := by
        show stU (stU (stU (stU s.1 [40]) [63]) [115]) [58] = _
        rw [stU_neu _ [58] (by decide) (by decide), stU_neu _ [115] (by decide) (by decide), stU_neu _ [63] (by decide) (by decide)]
      rw [this]
  rw [e1]
  cases l
  · rfl
  · show (sufU.foldl msU _) = (stU _ [41], _)
    rw [fold_noq sufU _ (by decide)]
    congr 1
    show stU (stU _ [41]) [92, 90] = _
    rw [stU_neu _ [92, 90] (by decide) (by decide)]
theorem gl_cons {α : Type} (s x : List α) (xs : List (List α)) : gl s (x :: xs) = x ++ (if xs = [] then [] else s ++ gl s xs) := by
  cases xs with
  | nil => simp [gl]
  | cons y r => simp [gl]
section
variable {n m : Nat} {P : Nat → List U} {M : Nat → List Nat}
theorem slash_neu (s : Ms) : msU s [47] = s := msU_neu s [47] (by decide) (by decide) (by decide)
theorem tail_fold (hP : ∀ k s, k < n → (P k).foldl msU s = sufE (decide (k + 1 = n)) ((M k).foldl (msM m) (preE (decide (k = 0)) s))) :
    ∀ (is : List Nat) (s : Ms), is.Pairwise (· < ·) → (∀ k ∈ is, 0 < k ∧ k < n) → (gl [[47]] (is.map P)).foldl msU s = sufE (decide (n - 1 ∈ is)) ((is.flatMap M).foldl (msM m) s)
  | [], s, _, _ => by simp [gl, sufE]
  | k :: r, s, hp, hk => by
    obtain ⟨h1, h2⟩ := List.pairwise_cons.mp hp
    have hk0 := hk k (by simp)
    rw [List.map_cons, gl_cons, List.foldl_append, hP k s hk0.2]
    have e0 : decide (k = 0) = false := by simp; omega
    rw [e0]
    show (if r.map P = [] then [] else [[47]] ++ gl [[47]] (r.map P)).foldl msU (sufE (decide (k + 1 = n)) ((M k).foldl (msM m) s)) = _
    rw [List.flatMap_cons, List.foldl_append]
    cases r with
    | nil =>
      have e1 : decide (n - 1 ∈ [k]) = decide (k + 1 = n) := by
        rw [Bool.eq_iff_iff, decide_eq_true_eq, decide_eq_true_eq, List.mem_singleton]; omega
      rw [e1]; rfl
    | cons k2 r =>
      have hlt := h1 k2 (by simp)
      have hk2 := hk k2 (by simp)
      have e1 : decide (k + 1 = n) = false := by simp; omega
      have e2 : decide (n - 1 ∈ k :: k2 :: r) = decide (n - 1 ∈ k2 :: r) := by
        rw [Bool.eq_iff_iff, decide_eq_true_eq, decide_eq_true_eq, List.mem_cons]
        constructor
        · rintro (h | h)
          · omega
          · exact h
        · exact .inr
      rw [if_neg (by simp), e1, e2, List.singleton_append, List.foldl_cons, slash_neu]
      exact tail_fold hP (k2 :: r) _ h2 (fun x hx => hk x (by simp [hx]))
theorem sel_fold (hP : ∀ k s, k < n → (P k).foldl msU s = sufE (decide (k + 1 = n)) ((M k).foldl (msM m) (preE (decide (k = 0)) s)))
    (is : List Nat) (s : Ms) (hp : is.Pairwise (· < ·)) (hk : ∀ k ∈ is, k < n) : (gl [[47]] (is.map P)).foldl msU s = sufE (decide (n - 1 ∈ is)) ((is.flatMap M).foldl (msM m) (preE (decide (0 ∈ is)) s)) := by
  cases is with
  | nil => simp [gl, sufE, preE]
  | cons k r =>
    obtain ⟨h1, h2⟩ := List.pairwise_cons.mp hp
    by_cases h0 : k = 0
    · subst h0
      have hn := hk 0 (by simp)
      rw [List.map_cons, gl_cons, List.foldl_append, hP 0 s hn, List.flatMap_cons, List.foldl_append]
      have e0 : decide (0 ∈ 0 :: r) = true := by simp
      rw [e0]
      show (if r.map P = [] then [] else [[47]] ++ gl [[47]] (r.map P)).foldl msU (sufE (decide (0 + 1 = n)) ((M 0).foldl (msM m) (preE true s))) = _
      cases r with
      | nil =>
        have e1 : decide (n - 1 ∈ [0]) = decide (0 + 1 = n) := by
          rw [Bool.eq_iff_iff, decide_eq_true_eq, decide_eq_true_eq, List.mem_singleton]; omega
        rw [e1]; rfl
      | cons k2 r =>
        have hlt := h1 k2 (by simp)
        have hk2 := hk k2 (by simp)
        have e1 : decide (0 + 1 = n) = false := by simp; omega
        have e2 : decide (n - 1 ∈ 0 :: k2 :: r) = decide (n - 1 ∈ k2 :: r) := by
          rw [Bool.eq_iff_iff, decide_eq_true_eq, decide_eq_true_eq, List.mem_cons]
          constructor
          · rintro (h | h)
            · omega
            · exact h
          · exact .inr
        rw [if_neg (by simp), e1, e2, List.singleton_append, List.foldl_cons, slash_neu]
        exact tail_fold hP (k2 :: r) _ h2 (fun x hx => ⟨h1 x hx, hk x (by simp [hx])⟩)
    · have e0 : decide (0 ∈ k :: r) = false := by
        simp only [decide_eq_false_iff_not, List.mem_cons, not_or]
        exact ⟨fun e => h0 e.symm, fun e => by have := h1 0 e; omega⟩
      rw [e0]
      exact tail_fold hP (k :: r) s hp (fun x hx => ⟨by
        rcases List.mem_cons.mp hx with rfl | hx
        · omega
        · have := h1 x hx; omega, hk x hx⟩)
end
def runM (m : Nat) (b : Int) (l : List Nat) : Option Int := l.foldl (fun o k => stM m k o) (some b)
theorem runM_snoc (m : Nat) (b : Int) (l : List Nat) (k : Nat) : runM m b (l ++ [k]) = stM m k (runM m b l) := by simp [runM]
theorem rel_fold (m : Nat) (b : Int) : ∀ (ks : List Nat) (l : List Nat) (bk : Option (List Nat)),
    ks.foldl (msM m) (runM m b l, bk.map (runM m b)) = (runM m b (ks.foldl nmStep (l, bk)).1, (ks.foldl nmStep (l, bk)).2.map (runM m b))
  | [], l, bk => rfl
  | k :: r, l, bk => by
    rw [List.foldl_cons, List.foldl_cons]
    by_cases hk : 0 < k
    · have e1 : msM m (runM m b l, bk.map (runM m b)) k = (runM m b (l ++ [k]), bk.map (runM m b)) := by unfold msM; rw [if_pos hk, runM_snoc]
      have e2 : nmStep (l, bk) k = (l ++ [k], bk) := by unfold nmStep; rw [if_pos hk]
      rw [e1, e2, rel_fold m b r]
    · cases bk with
      | none =>
        have e1 : msM m (runM m b l, none) k = (runM m b l, (some l).map (runM m b)) := by unfold msM; rw [if_neg hk]; rfl
        have e2 : nmStep (l, none) k = (l, some l) := by unfold nmStep; rw [if_neg hk]
        rw [Option.map_none, e1, e2, rel_fold m b r]
      | some c =>
        have e1 : msM m (runM m b l, (some c).map (runM m b)) k = (runM m b c, none) := by unfold msM; rw [if_neg hk]; rfl
        have e2 : nmStep (l, some c) k = (c, none) := by unfold nmStep; rw [if_neg hk]
        have e3 := rel_fold m b r c none
        rw [Option.map_none] at e3
        rw [e1, e2, e3]
theorem left_run (m : Nat) (b : Int) (ks : List Nat) : (ks.foldl (msM m) (some b, none)).1 = runM m b (leftOf ks) := by
  have := rel_fold m b ks [] none
  exact congrArg (·.1) this
theorem left_sub : ∀ (ks l : List Nat) (bk : Option (List Nat)), (∀ b, bk = some b → List.Sublist b l) → List.Sublist (ks.foldl nmStep (l, bk)).1 (l ++ ks.filter (0 < ·))
  | [], l, bk, _ => by simp
  | k :: r, l, bk, h => by
    rw [List.foldl_cons]
    by_cases hk : 0 < k
    · have e2 : nmStep (l, bk) k = (l ++ [k], bk) := by unfold nmStep; rw [if_pos hk]
      have e3 : (k :: r).filter (0 < ·) = k :: r.filter (0 < ·) := by simp [hk]
      rw [e2, e3]
      have := left_sub r (l ++ [k]) bk (fun b hb => (h b hb).trans (List.sublist_append_left _ _))
      rwa [List.append_assoc] at this
    · have e3 : (k :: r).filter (0 < ·) = r.filter (0 < ·) := by simp [hk]
      rw [e3]
      cases bk with
      | none =>
        have e2 : nmStep (l, none) k = (l, some l) := by unfold nmStep; rw [if_neg hk]
        rw [e2]
        exact left_sub r l (some l) (fun b hb => by cases hb; exact List.Sublist.refl _)
      | some c =>
        have e2 : nmStep (l, some c) k = (c, none) := by unfold nmStep; rw [if_neg hk]
        rw [e2]
        exact (left_sub r c none (fun b hb => by cases hb)).trans (List.Sublist.append_right (h c rfl) _)
theorem stM_1 (m : Nat) (c : Int) (h : 1 < m) : stM m 1 (some c) = some (c + 1) := by
  unfold stM clU opU
  rw [if_neg (by omega), if_pos h]; rfl
theorem stM_11 (c : Int) : stM 1 1 (some c) = some c := rfl
theorem stM_none (m k : Nat) : stM m k none = none := fold_none _
theorem stM_mid (m k : Nat) (c : Int) (h1 : 1 < k) (h2 : k < m) : stM m k (some c) = if c < 1 then none else some c := by
  unfold stM clU opU
  rw [if_pos (by omega), if_pos h2]
  show stU (stU (stU (stU (stU (stU (if c - 1 < 0 then none else some (c - 1)) [40]) [63]) [62]) [46]) [42]) [63] = _
  by_cases h : c < 1
  · rw [if_pos h, if_pos (by omega)]; rfl
  · rw [if_neg h, if_neg (by omega)]
    rw [stU_neu _ [63] (by decide) (by decide), stU_neu _ [42] (by decide) (by decide), stU_neu _ [46] (by decide) (by decide), stU_neu _ [62] (by decide) (by decide), stU_neu _ [63] (by decide) (by decide)]
    show some (c - 1 + 1) = some c
    congr 1; omega
theorem stM_last (k : Nat) (c : Int) (h1 : 1 < k) : stM k k (some c) = if c < 1 then none else some (c - 1) := by
  unfold stM clU opU
  rw [if_pos (by omega), if_neg (by omega)]
  show stU (stU (if c - 1 < 0 then none else some (c - 1)) [46]) [42] = _
  rw [stU_neu _ [42] (by decide) (by decide), stU_neu _ [46] (by decide) (by decide)]
  by_cases h : c < 1
  · rw [if_pos h, if_pos (by omega)]
  · rw [if_neg h, if_neg (by omega)]
theorem run_none (m : Nat) : ∀ l : List Nat, l.foldl (fun o k => stM m k o) none = none
  | [] => rfl
  | k :: r => by rw [List.foldl_cons, stM_none]; exact run_none m r
theorem run_tail (m : Nat) : ∀ (l : List Nat) (c : Int), l.Pairwise (· < ·) → (∀ k ∈ l, 1 < k ∧ k ≤ m) → runM m c l = if l = [] then some c else if c < 1 then none else some (c - (if m ∈ l then 1 else 0))
  | [], c, _, _ => rfl
  | k :: r, c, hp, hk => by
    obtain ⟨h1, h2⟩ := List.pairwise_cons.mp hp
    have hk0 := hk k (by simp)
    have hr : ∀ x ∈ r, 1 < x ∧ x ≤ m := fun x hx => hk x (by simp [hx])
    show r.foldl (fun o k => stM m k o) (stM m k (some c)) = _
    rw [if_neg (by simp)]
    by_cases hm : k < m
    · rw [stM_mid m k c hk0.1 hm]
      by_cases hc : c < 1
      · rw [if_pos hc, if_pos hc, run_none]
      · rw [if_neg hc, if_neg hc]
        have ih := run_tail m r c h2 hr
        unfold runM at ih
        rw [ih]
        cases r with
        | nil =>
          have : m ∉ [k] := by simp; omega
          rw [if_pos rfl, if_neg this]; simp
        | cons k2 r =>
          rw [if_neg (by simp), if_neg hc]
          have : (m ∈ k :: k2 :: r) ↔ m ∈ k2 :: r := by
            rw [List.mem_cons]
            constructor
            · rintro (h | h)
              · omega
              · exact h
            · exact .inr
          simp only [this]
    · have e : k = m := by omega
      subst e
      have er : r = [] := by
        cases r with
        | nil => rfl
        | cons k2 r => have := h1 k2 (by simp); have := (hr k2 (by simp)).2; omega
      subst er
      rw [stM_last k c hk0.1, if_pos (by simp : k ∈ [k])]; rfl
theorem count_fin (m : Nat) (l : List Nat) (b e : Bool) (hp : l.Pairwise (· < ·)) (hk : ∀ k ∈ l, 0 < k ∧ k ≤ m) :
    ((if e then stU (runM m (b2n b : Int) l) [41] else runM m (b2n b : Int) l) == some 0) =
      ((b2n b + b2n (decide (1 ∈ l)) == b2n (decide (m ∈ l)) + b2n e) && (decide (0 < b2n b + b2n (decide (1 ∈ l))) || l.isEmpty)) := by
  have suf : ∀ c : Int, stU (some c) [41] = if c - 1 < 0 then none else some (c - 1) := fun c => rfl
  cases l with
  | nil => cases b <;> cases e <;> simp [runM, b2n, stU]
  | cons k r =>
    obtain ⟨h1, h2⟩ := List.pairwise_cons.mp hp
    have hk0 := hk k (by simp)
    have hr : ∀ x ∈ r, 1 < x ∧ x ≤ m := fun x hx => ⟨by have := h1 x hx; omega, (hk x (by simp [hx])).2⟩
    by_cases k1 : k = 1
    · subst k1
      have m1 : decide (1 ∈ 1 :: r) = true := by simp
      rw [m1]
      by_cases hm : m = 1
      · subst hm
        have er : r = [] := by
          cases r with
          | nil => rfl
          | cons k2 r => have := hr k2 (by simp); omega
        subst er
        have e1 : runM 1 (b2n b : Int) [1] = some (b2n b : Int) := rfl
        rw [e1, suf]
        cases b <;> cases e <;> simp [b2n]
      · have e1 : runM m (b2n b : Int) (1 :: r) = runM m ((b2n b : Int) + 1) r := by
          show r.foldl _ (stM m 1 (some (b2n b : Int))) = _
          rw [stM_1 m _ (by omega)]; rfl
        have mm : decide (m ∈ 1 :: r) = decide (m ∈ r) := by
          rw [Bool.eq_iff_iff, decide_eq_true_eq, decide_eq_true_eq, List.mem_cons]
          constructor
          · rintro (h | h)
            · omega
            · exact h
          · exact .inr
        rw [e1, mm, run_tail m r _ h2 hr]
        cases r with
        | nil => cases b <;> cases e <;> simp [b2n, stU]
        | cons k2 r =>
          rw [if_neg (show ¬ (k2 :: r) = [] by simp)]
          by_cases hmr : m ∈ k2 :: r
          · simp only [hmr, if_true, decide_true]
            cases b <;> cases e <;> simp [b2n, stU]
          · simp only [hmr, if_false, decide_false]
            cases b <;> cases e <;> simp [b2n, stU]
    · have n1 : decide (1 ∈ k :: r) = false := by
        simp only [decide_eq_false_iff_not, List.mem_cons, not_or]
        exact ⟨fun e => k1 e.symm, fun e => by have := (hr 1 e).1; omega⟩
      rw [n1, run_tail m (k :: r) _ hp (fun x hx => by
        rcases List.mem_cons.mp hx with rfl | hx
        · omega
        · exact hr x hx), if_neg (show ¬ (k :: r) = [] by simp)]
      by_cases hmr : m ∈ k :: r
      · simp only [hmr, if_true, decide_true]
        cases b <;> cases e <;> simp [b2n, stU]
      · simp only [hmr, if_false, decide_false]
        cases b <;> cases e <;> simp [b2n, stU]
end Mine.P
namespace Mine.P
def toks : List Row → List It
  | [] => []
  | [r] => r
  | r :: s :: rs => r ++ It.lit 47 :: toks (s :: rs)
theorem toks_W : ∀ rows : List Row, tkW (toks rows) = joinL [47] (rows.map tkW)
  | [] => rfl
  | [r] => rfl
  | r :: s :: rs => by
    show tkW (r ++ It.lit 47 :: toks (s :: rs)) = tkW r ++ [47] ++ joinL [47] ((s :: rs).map tkW)
    rw [← toks_W (s :: rs)]
    simp [tkW, It.sp]
theorem toks_tk : ∀ rows : List Row, (∀ r ∈ rows, r ≠ [] ∧ okRow r) → ∀ t ∈ toks rows, t.tk = true
  | [], _, t, ht => nomatch ht
  | [r], h, t, ht => It.tk_of_ok t ((h r (by simp)).2.1 t ht)
  | r :: s :: rs, h, t, ht => by
    rcases List.mem_append.mp ht with ht | ht
    · exact It.tk_of_ok t ((h r (by simp)).2.1 t ht)
    · rcases List.mem_cons.mp ht with rfl | ht
      · rfl
      · exact toks_tk (s :: rs) (fun x hx => h x (by simp [hx])) t ht
theorem nA_app : ∀ (a : List It) (p : Bool) (t : It) (b : List It), t.isStar = false → nA p (a ++ t :: b) = (nA p a && nA false b)
  | [], p, t, b, ht => by simp [nA, ht]
  | x :: a, p, t, b, ht => by
    show (!(p && x.isStar) && nA x.isStar (a ++ t :: b)) = (!(p && x.isStar) && nA x.isStar a && nA false b)
    rw [nA_app a _ t b ht, Bool.and_assoc]
theorem toks_nA : ∀ rows : List Row, (∀ r ∈ rows, r ≠ [] ∧ okRow r) → nA false (toks rows) = true
  | [], _ => rfl
  | [r], h => (h r (by simp)).2.2
  | r :: s :: rs, h => by
    show nA false (r ++ It.lit 47 :: toks (s :: rs)) = true
    rw [nA_app r false _ _ rfl, (h r (by simp)).2.2, toks_nA (s :: rs) (fun x hx => h x (by simp [hx]))]; rfl
theorem toks_len : ∀ rows : List Row, (toks rows).length ≤ (rows.map List.length).sum + rows.length
  | [] => Nat.le_refl _
  | [r] => by simp [toks]
  | r :: s :: rs => by
    have := toks_len (s :: rs)
    simp only [toks, List.length_append, List.length_cons, List.map_cons, List.sum_cons] at this ⊢
    omega
def nSr : List Row → Nat
  | [] => 0
  | r :: rs => nS r + nSr rs
theorem toks_nS : ∀ rows : List Row, nS (toks rows) = nSr rows
  | [] => rfl
  | [r] => by simp [toks, nSr]
  | r :: s :: rs => by
    show nS (r ++ It.lit 47 :: toks (s :: rs)) = nS r + nSr (s :: rs)
    rw [nS_app, ← toks_nS (s :: rs)]
    show nS r + (0 + _) = _
    rw [Nat.zero_add]
def pcsU (m : Nat) : Bool → Nat → List Row → List (List U)
  | _, _, [] => []
  | f, j, r :: rs => pcU m f rs.isEmpty j r :: pcsU m false (j + nS r) rs
def mksR : Nat → List Row → List (List Nat)
  | _, [] => []
  | j, r :: rs => mkR j r :: mksR (j + nS r) rs
theorem pcs_gl (m : Nat) : ∀ (rows : List Row) (f : Bool) (j : Nat), rows ≠ [] → gl [[47]] (pcsU m f j rows) = (if f then preU else []) ++ wrU m j (toks rows) ++ sufU
  | [], _, _, h => absurd rfl h
  | [r], f, j, _ => by simp [pcsU, gl, pcU, toks]
  | r :: s :: rs, f, j, _ => by
    have ih := pcs_gl m (s :: rs) false (j + nS r) (by simp)
    have e : pcsU m false (j + nS r) (s :: rs) ≠ [] := by simp [pcsU]
    show gl [[47]] (pcU m f false j r :: pcsU m false (j + nS r) (s :: rs)) = (if f then preU else []) ++ wrU m j (r ++ It.lit 47 :: toks (s :: rs)) ++ sufU
    rw [gl_cons, if_neg e, ih, wrU_app]
    have e2 : wrU m (j + nS r) (It.lit 47 :: toks (s :: rs)) = [[47]] ++ wrU m (j + nS r) (toks (s :: rs)) := rfl
    rw [e2]
    simp [pcU]
theorem pcs_len (m : Nat) : ∀ (rows : List Row) (f : Bool) (j : Nat), (pcsU m f j rows).length = rows.length
  | [], _, _ => rfl
  | r :: rs, f, j => by simp only [pcsU, List.length_cons, pcs_len m rs]
theorem mks_len : ∀ (rows : List Row) (j : Nat), (mksR j rows).length = rows.length
  | [], _ => rfl
  | r :: rs, j => by simp only [mksR, List.length_cons, mks_len rs]
theorem pcs_at (m : Nat) : ∀ (rows : List Row) (f : Bool) (j k : Nat), k < rows.length →
    ∃ j' r, r ∈ rows ∧ rows[k]? = some r ∧ (pcsU m f j rows)[k]? = some (pcU m (f && decide (k = 0)) (decide (k + 1 = rows.length)) j' r) ∧ (mksR j rows)[k]? = some (mkR j' r)
  | [], _, _, k, h => absurd h (Nat.not_lt_zero k)
  | r :: rs, f, j, 0, _ => by
    refine ⟨j, r, by simp, rfl, ?_, rfl⟩
    cases rs with
    | nil => simp [pcsU]
    | cons s q => simp [pcsU]
  | r :: rs, f, j, k + 1, h => by
    obtain ⟨j', r', h1, h2, h3, h4⟩ := pcs_at m rs false (j + nS r) k (by simpa using h)
    refine ⟨j', r', by simp [h1], by simpa using h2, ?_, by simpa [mksR] using h4⟩
    show (pcsU m false (j + nS r) rs)[k]? = _
    rw [h3]; simp
theorem mkR_pos : ∀ (r : Row) (j : Nat), (mkR j r).filter (0 < ·) = List.range' (j + 1) (nS r)
  | [], j => rfl
  | t :: r, j => by
    simp only [mkR, List.filter_append, mkR_pos r, nS]
    unfold mkI
    cases ht : t.isStar
    · simp only [Bool.false_eq_true, if_false, Nat.add_zero, Nat.zero_add]
      split <;> simp
    · simp only [if_true]
      rw [Nat.add_comm 1 (nS r), List.range'_succ]
      simp
theorem mks_pos : ∀ (rows : List Row) (j : Nat), (mksR j rows).flatten.filter (0 < ·) = List.range' (j + 1) (nSr rows)
  | [], j => rfl
  | r :: rs, j => by
    simp only [mksR, List.flatten_cons, List.filter_append, mkR_pos, mks_pos rs, nSr]
    rw [show j + nS r + 1 = j + 1 + nS r by omega, List.range'_append_1]
def At0 {α : Type} (l : List (List α)) (k : Nat) : List α := (l[k]?).getD []
theorem sel_sub {α : Type} : ∀ (l : List (List α)) (is : List Nat), is.Pairwise (· < ·) → (∀ k ∈ is, k < l.length) → List.Sublist (is.flatMap (At0 l)) l.flatten
  | [], is, _, h => by
    have : is = [] := by
      cases is with
      | nil => rfl
      | cons a b => exact absurd (h a (by simp)) (Nat.not_lt_zero a)
    subst this
    simp
  | x :: l, is, hp, h => by
    have key : ∀ js : List Nat, js.Pairwise (· < ·) → (∀ k ∈ js, 0 < k ∧ k < (x :: l).length) → List.Sublist (js.flatMap (At0 (x :: l))) l.flatten := by
      intro js hjs hj
      have e : js.flatMap (At0 (x :: l)) = (js.map (· - 1)).flatMap (At0 l) := by
        rw [List.flatMap_def, List.flatMap_def, List.map_map]
        congr 1
        apply List.map_congr_left
        intro k hk
        have := hj k hk
        obtain ⟨q, rfl⟩ : ∃ q, k = q + 1 := ⟨k - 1, by omega⟩
        simp [At0]
      rw [e]
      refine sel_sub l (js.map (· - 1)) ?_ ?_
      · rw [List.pairwise_map]
        refine List.Pairwise.imp_of_mem ?_ hjs
        intro a b ha hb hab
        have := hj a ha
        have := hj b hb
        omega
      · intro k hk
        obtain ⟨q, hq, rfl⟩ := List.mem_map.mp hk
        have := hj q hq
        simp only [List.length_cons] at this
        omega
    cases is with
    | nil => simp
    | cons k r =>
      obtain ⟨h1, h2⟩ := List.pairwise_cons.mp hp
      by_cases hk : k = 0
      · subst hk
        rw [List.flatMap_cons, List.flatten_cons]
        exact List.Sublist.append (List.Sublist.refl _) (key r h2 (fun q hq => ⟨h1 q hq, h q (by simp [hq])⟩))
      · rw [List.flatten_cons]
        exact (key (k :: r) hp (fun q hq => ⟨by
          rcases List.mem_cons.mp hq with rfl | hq
          · omega
          · have := h1 q hq; omega, h q hq⟩)).trans (List.sublist_append_right _ _)
theorem range_sorted (j n : Nat) : (List.range' (j + 1) n).Pairwise (· < ·) := List.pairwise_lt_range'
section
variable (rows : List Row)
def Pc (k : Nat) : List U := At0 (pcsU (nSr rows) true 0 rows) k
def Mk (k : Nat) : List Nat := At0 (mksR 0 rows) k
def selU (is : List Nat) : List U := gl [[47]] (is.map (Pc rows))
theorem ck_sel (hok : ∀ r ∈ rows, r ≠ [] ∧ okRow r) (is : List Nat) (hp : is.Pairwise (· < ·)) (hk : ∀ k ∈ is, k < rows.length) :
    ckU (selU rows is) = nestB (is.flatMap (Mk rows)) (nSr rows) (decide (0 ∈ is)) (decide (rows.length - 1 ∈ is)) := by
  have hP : ∀ k s, k < rows.length → (Pc rows k).foldl msU s = sufE (decide (k + 1 = rows.length)) ((Mk rows k).foldl (msM (nSr rows)) (preE (decide (k = 0)) s)) := by
    intro k s hkl
    obtain ⟨j', r, h1, h2, h3, h4⟩ := pcs_at (nSr rows) rows true 0 k hkl
    unfold Pc Mk At0
    rw [h3, h4, Option.getD_some, Option.getD_some, Bool.true_and]
    exact pc_fold _ _ _ _ _ _ (hok r h1).2.1
  have h1 := sel_fold hP is (some 0, none) hp hk
  unfold ckU selU
  rw [mach_fold, h1]
  have hpre : preE (decide (0 ∈ is)) (some 0, none) = (some (b2n (decide (0 ∈ is)) : Int), none) := by cases decide (0 ∈ is) <;> rfl
  rw [hpre]
  have hl := left_run (nSr rows) (b2n (decide (0 ∈ is)) : Int) (is.flatMap (Mk rows))
  have hsuf : ∀ (e : Bool) (s : Ms), (sufE e s).1 = if e then stU s.1 [41] else s.1 := fun e s => by cases e <;> rfl
  rw [hsuf, hl]
  have hsub : List.Sublist (leftOf (is.flatMap (Mk rows))) (List.range' 1 (nSr rows)) := by
    have a := left_sub (is.flatMap (Mk rows)) [] none (fun b hb => by cases hb)
    rw [List.nil_append] at a
    have b := (sel_sub (mksR 0 rows) is hp (fun k hk' => by rw [mks_len]; exact hk k hk')).filter (0 < ·)
    rw [mks_pos] at b
    exact a.trans b
  exact count_fin (nSr rows) _ _ _ (List.Pairwise.sublist hsub (range_sorted 0 _)) (fun k hk' => by
    have := hsub.subset hk'
    rw [List.mem_range'_1] at this
    omega)
theorem Pc_good (k : Nat) : ∀ u ∈ Pc rows k, GoodU u := by
  unfold Pc At0
  by_cases h : k < rows.length
  · obtain ⟨j', r, h1, h2, h3, h4⟩ := pcs_at (nSr rows) rows true 0 k h
    rw [h3]
    exact pcU_good _ _ _ _ _
  · rw [List.getElem?_eq_none (by rw [pcs_len]; omega)]
    exact fun u hu => nomatch hu
theorem pcU_len (m : Nat) (f l : Bool) (j : Nat) (r : Row) (hr : r.length ≤ 99) : (pcU m f l j r).length ≤ 800 ∧ (pcU m f l j r).flatten.length ≤ 800 := by
  have h1 := wrU_len m r j
  have h2 : (if f then preU else []).length ≤ 4 ∧ (if f then preU else []).flatten.length ≤ 4 := by cases f <;> simp [preU]
  have h3 : (if l then sufU else []).length ≤ 2 ∧ (if l then sufU else []).flatten.length ≤ 3 := by cases l <;> simp [sufU]
  unfold pcU
  simp only [List.length_append, List.flatten_append]
  exact ⟨by omega, by omega⟩
theorem Pc_len (hr : ∀ r ∈ rows, r.length ≤ 99) (k : Nat) : (Pc rows k).length ≤ 800 ∧ (Pc rows k).flatten.length ≤ 800 := by
  unfold Pc At0
  by_cases h : k < rows.length
  · obtain ⟨j', r, h1, h2, h3, h4⟩ := pcs_at (nSr rows) rows true 0 k h
    rw [h3]
    exact pcU_len _ _ _ _ _ (hr r h1)
  · rw [List.getElem?_eq_none (by rw [pcs_len]; omega)]
    exact ⟨by simp, by simp⟩
theorem gl_mem {α : Type} (s : List α) : ∀ (xs : List (List α)) (u : α), u ∈ gl s xs → u ∈ s ∨ ∃ x ∈ xs, u ∈ x
  | [], u, h => nomatch h
  | x :: xs, u, h => by
    rw [gl_cons] at h
    rcases List.mem_append.mp h with h | h
    · exact .inr ⟨x, by simp, h⟩
    · split at h
      · cases h
      · rcases List.mem_append.mp h with h | h
        · exact .inl h
        · rcases gl_mem s xs u h with h | ⟨y, hy, h⟩
          · exact .inl h
          · exact .inr ⟨y, by simp [hy], h⟩
theorem selU_good (is : List Nat) : ∀ u ∈ selU rows is, GoodU u := by
  intro u hu
  rcases gl_mem _ _ u hu with h | ⟨x, hx, h⟩
  · rw [List.mem_singleton.mp h]; exact one_good 47 (by decide)
  · obtain ⟨k, _, rfl⟩ := List.mem_map.mp hx
    exact Pc_good rows k u h
theorem selU_len (hr : ∀ r ∈ rows, r.length ≤ 99) : ∀ is : List Nat, (selU rows is).length ≤ 801 * is.length ∧ (selU rows is).flatten.length ≤ 801 * is.length
  | [] => ⟨Nat.le_refl _, Nat.le_refl _⟩
  | k :: r => by
    have h1 := Pc_len rows hr k
    have h2 := selU_len hr r
    unfold selU at h2 ⊢
    rw [List.map_cons, gl_cons]
    simp only [List.length_append, List.flatten_append, List.length_cons]
    split
    · simp only [List.length_nil, List.flatten_nil]; exact ⟨by omega, by omega⟩
    · simp only [List.length_append, List.flatten_append, List.length_cons, List.length_nil, List.flatten_cons, List.flatten_nil, List.append_nil]; exact ⟨by omega, by omega⟩
def selT (is : List Nat) : List Nat := joinL [47] (is.map fun k => (Pc rows k).flatten)
theorem selT_eq (is : List Nat) : (selU rows is).flatten = selT rows is := by
  unfold selU selT
  rw [gl_flat, List.map_map]; rfl
theorem run_check_sel (hok : ∀ r ∈ rows, r ≠ [] ∧ okRow r) (hr : ∀ r ∈ rows, r.length ≤ 99) (is : List Nat) (hp : is.Pairwise (· < ·)) (hk : ∀ k ∈ is, k < rows.length) (hl : is.length ≤ 9) :
    runOf om1 999 1 d_check_parenthesis [.str (T (selT rows is))] = some (.bool (nestB (is.flatMap (Mk rows)) (nSr rows) (decide (0 ∈ is)) (decide (rows.length - 1 ∈ is)))) := by
  have h1 := selU_len rows hr is
  rw [← ck_sel rows hok is hp hk, ← selT_eq]
  exact run_check _ (selU_good rows is) (by omega) (by omega)
end
end Mine.P
namespace Mine.P
variable {F : List PV → Option PV}
theorem om3_names : (om3 F).fn "_law_names" = some (runOf om1 99 1 d_law_names) := rfl
theorem om3_read : (om3 F).fn "_law_read" = some (runOf om1 999 1 d_law_read) := rfl
theorem om3_split : (om3 F).fn "split" = some (runOf om1 99 1 d_split) := rfl
theorem om3_nested : (om3 F).fn "_law_nested" = some (runOf om0 9 4 d_law_nested) := rfl
theorem om3_pv : (om3 F).fn "_pre_parse_validation" = some (runOf om2 99 1 d_pre_parse_validation) := rfl
theorem om3_np : (om3 F).fn "normpath" = some (runOf om2 99 1 d_normpath) := rfl
theorem om3_translate : (om3 F).fn "translate" = some F := rfl
theorem om3_join : (om3 F).fs "join" = some fJoin := rfl
theorem om3_len : (om3 F).fn "len" = some fLen := rfl
theorem om3_range : (om3 F).fn "range" = some fRange := rfl
theorem om3_list : (om3 F).fn "list" = some fList := rfl
theorem mapO_map {α β γ : Type} (f : β → Option γ) (g : α → γ) (e : α → β) : ∀ l : List α, (∀ x ∈ l, f (e x) = some (g x)) → mapO f (l.map e) = some (l.map g)
  | [], _ => rfl
  | x :: r, h => by
    simp only [List.map_cons, mapO, h x (by simp), mapO_map f g e r (fun y hy => h y (by simp [hy]))]
def nmL (rows : List Row) : List PV := rows.map fun l => .lst (encR l)
theorem encN_L (rows : List Row) : encN rows = .lst (nmL rows) := rfl
theorem clean_nmL (rows : List Row) : cleans (nmL rows) = true := clean_encN rows
def tdL (rows : List Row) : List PV := rows.map fun r => .lst (tdP r)
theorem clean_tdL (rows : List Row) : cleans (tdL rows) = true := by
  induction rows with
  | nil => rfl
  | cons a r ih =>
    show (clean (.lst (tdP a)) && cleans (tdL r)) = true
    rw [ih, Bool.and_true]
    exact clean_segP _
theorem at_join {V : Vs} {i : Nat} {x : PV} (h : V[i]? = some (some x)) : (V[i]?).join = some x := by rw [h]; rfl
theorem ev_c1 (rows : List Row) (hl : rows.length ≤ 99) (hr : ∀ r ∈ rows, r.length ≤ 99) (V K : Vs) (H : Hs) (hV : V[1]? = some (some (.lst (nmL rows)))) :
    evalB (om3 F) lw_c1 false V K H = some (.lst (segP (rows.map tkW))) := by
  have h1 : overO H (evalB (om3 F) (.loc 1) false V K H) = some (nmL rows) := by
    simp only [hV, clean_nmL, eL, E1, E2, E3, E4, E5, Nat.reduceSub, Nat.reduceAdd, Nat.reduceLeDiff, Nat.reduceLT, reduceCtorEq, Int.reduceLT, Int.reduceLE, Int.reduceBEq, Nat.reduceBNe, Nat.reduceBEq, Nat.reduceMul]
  have h2 : ∀ r ∈ rows, (match bindT (.one 0) (.lst (encR r)) (List.replicate 1 none) with
      | some V' => evalB (om3 F) (.meth "join" (.cst (.str "")) (.of [(.comp ["spelled", "item"] (.tup [0, 1]) (.loc 0) (.loc 0))])) false V' K H
      | none => none) = some (.str (T (tkW r))) := by
    intro r hrr
    have h3 : mapO (fun x => match bindT (.tup [0, 1]) x (List.replicate 2 none) with
        | some V' => evalB (om3 F) (.loc 0) false V' K H
        | none => none) (encR r) = some (segP (r.map It.sp)) := by
      unfold segP
      rw [List.map_map]
      exact mapO_map _ _ It.enc r fun t _ => rfl
    have h4 : evalB (om3 F) (.comp ["spelled", "item"] (.tup [0, 1]) (.loc 0) (.loc 0)) false [some (.lst (encR r))] K H = some (.lst (segP (r.map It.sp))) := by
      show (match overO H (some (.lst (encR r))) with
        | some xs => lstO (mapO (fun x => match bindT (.tup [0, 1]) x (List.replicate 2 none) with
          | some V' => evalB (om3 F) (.loc 0) false V' K H
          | none => none) xs)
        | none => none) = _
      have h5 : overO H (some (.lst (encR r))) = some (encR r) := by simp only [clean_encR, eL, E1, E2, E3, E4, E5, Nat.reduceSub, Nat.reduceAdd, Nat.reduceLeDiff, Nat.reduceLT, reduceCtorEq, Int.reduceLT, Int.reduceLE, Int.reduceBEq, Nat.reduceBNe, Nat.reduceBEq, Nat.reduceMul]
      have hz : (r.map It.sp).length ≤ 16777216 := by have := hr r hrr; simp; omega
      rw [h5]
      show lstO (mapO _ (encR r)) = _
      rw [h3]
      simp only [clean_segP, segP_len, hz, eL, E1, E2, E3, E4, E5, Nat.reduceSub, Nat.reduceAdd, Nat.reduceLeDiff, Nat.reduceLT, reduceCtorEq, Int.reduceLT, Int.reduceLE, Int.reduceBEq, Nat.reduceBNe, Nat.reduceBEq, Nat.reduceMul]
    have h6 : (tkW r).length ≤ 16777216 := by
      have : ∀ r : Row, (tkW r).length ≤ 3 * r.length := by
        intro r
        induction r with
        | nil => simp [tkW]
        | cons t r ih =>
          have : t.sp.length ≤ 3 := by cases t <;> simp [It.sp]
          show (t.sp ++ tkW r).length ≤ _
          simp only [List.length_append, List.length_cons]; omega
      have h7 := this r
      have := hr r hrr
      omega
    show methO H "join" (some (.str (Str.ofString ""))) (match evalB (om3 F) (.comp ["spelled", "item"] (.tup [0, 1]) (.loc 0) (.loc 0)) false [some (.lst (encR r))] K H, some [] with
      | some x, some xs => some (x :: xs)
      | _, _ => none) = _
    rw [h4, li_e]
    have hj := m_join0 (r.map It.sp) h6
    simp only [clean_segP, hj, eL, E1, E2, E3, E4, E5, Nat.reduceSub, Nat.reduceAdd, Nat.reduceLeDiff, Nat.reduceLT, reduceCtorEq, Int.reduceLT, Int.reduceLE, Int.reduceBEq, Nat.reduceBNe, Nat.reduceBEq, Nat.reduceMul]
    rfl
  have h3 : mapO (fun x => match bindT (.one 0) x (List.replicate 1 none) with
      | some V' => evalB (om3 F) (.meth "join" (.cst (.str "")) (.of [(.comp ["spelled", "item"] (.tup [0, 1]) (.loc 0) (.loc 0))])) false V' K H
      | none => none) (nmL rows) = some (segP (rows.map tkW)) := by
    unfold segP nmL
    rw [List.map_map]
    exact mapO_map _ _ _ rows h2
  have hz : (rows.map tkW).length ≤ 16777216 := by simp; omega
  show (match overO H (evalB (om3 F) (.loc 1) false V K H) with
    | some xs => lstO (mapO (fun x => match bindT (.one 0) x (List.replicate 1 none) with
      | some V' => evalB (om3 F) (.meth "join" (.cst (.str "")) (.of [(.comp ["spelled", "item"] (.tup [0, 1]) (.loc 0) (.loc 0))])) false V' K H
      | none => none) xs)
    | none => none) = _
  rw [h1]
  show lstO (mapO _ (nmL rows)) = _
  rw [h3]
  simp only [clean_segP, segP_len, hz, eL, E1, E2, E3, E4, E5, Nat.reduceSub, Nat.reduceAdd, Nat.reduceLeDiff, Nat.reduceLT, reduceCtorEq, Int.reduceLT, Int.reduceLE, Int.reduceBEq, Nat.reduceBNe, Nat.reduceBEq, Nat.reduceMul]
theorem ev_c2 (rows : List Row) (hl : rows.length ≤ 99) (hr : ∀ r ∈ rows, r.length ≤ 99) (V K : Vs) (H : Hs) (hV : V[1]? = some (some (.lst (nmL rows)))) :
    evalB (om3 F) lw_c2 false V K H = some (.lst (tdL rows)) := by
  have h1 : overO H (evalB (om3 F) (.loc 1) false V K H) = some (nmL rows) := by
    simp only [hV, clean_nmL, eL, E1, E2, E3, E4, E5, Nat.reduceSub, Nat.reduceAdd, Nat.reduceLeDiff, Nat.reduceLT, reduceCtorEq, Int.reduceLT, Int.reduceLE, Int.reduceBEq, Nat.reduceBNe, Nat.reduceBEq, Nat.reduceMul]
  have h2 : ∀ r ∈ rows, (match bindT (.one 0) (.lst (encR r)) (List.replicate 1 none) with
      | some V' => evalB (om3 F) (.comp ["spelled", "item"] (.tup [0, 1]) (.loc 0) (.loc 1)) false V' K H
      | none => none) = some (.lst (tdP r)) := by
    intro r hrr
    have h3 : mapO (fun x => match bindT (.tup [0, 1]) x (List.replicate 2 none) with
        | some V' => evalB (om3 F) (.loc 1) false V' K H
        | none => none) (encR r) = some (tdP r) := by
      unfold tdP segP
      rw [List.map_map]
      exact mapO_map _ _ It.enc r fun t _ => rfl
    show (match overO H (some (.lst (encR r))) with
        | some xs => lstO (mapO (fun x => match bindT (.tup [0, 1]) x (List.replicate 2 none) with
          | some V' => evalB (om3 F) (.loc 1) false V' K H
          | none => none) xs)
        | none => none) = _
    have h5 : overO H (some (.lst (encR r))) = some (encR r) := by simp only [clean_encR, eL, E1, E2, E3, E4, E5, Nat.reduceSub, Nat.reduceAdd, Nat.reduceLeDiff, Nat.reduceLT, reduceCtorEq, Int.reduceLT, Int.reduceLE, Int.reduceBEq, Nat.reduceBNe, Nat.reduceBEq, Nat.reduceMul]
    have hz : (r.map It.td).length ≤ 16777216 := by have := hr r hrr; simp; omega
    rw [h5]
    show lstO (mapO _ (encR r)) = _
    rw [h3]
    simp only [tdP, clean_segP, segP_len, hz, eL, E1, E2, E3, E4, E5, Nat.reduceSub, Nat.reduceAdd, Nat.reduceLeDiff, Nat.reduceLT, reduceCtorEq, Int.reduceLT, Int.reduceLE, Int.reduceBEq, Nat.reduceBNe, Nat.reduceBEq, Nat.reduceMul]
  have h3 : mapO (fun x => match bindT (.one 0) x (List.replicate 1 none) with
      | some V' => evalB (om3 F) (.comp ["spelled", "item"] (.tup [0, 1]) (.loc 0) (.loc 1)) false V' K H
      | none => none) (nmL rows) = some (tdL rows) := mapO_map _ _ _ rows h2
  have hz : (tdL rows).length ≤ 16777216 := by simp [tdL]; omega
  show (match overO H (evalB (om3 F) (.loc 1) false V K H) with
    | some xs => lstO (mapO (fun x => match bindT (.one 0) x (List.replicate 1 none) with
      | some V' => evalB (om3 F) (.comp ["spelled", "item"] (.tup [0, 1]) (.loc 0) (.loc 1)) false V' K H
      | none => none) xs)
    | none => none) = _
  rw [h1]
  show lstO (mapO _ (nmL rows)) = _
  rw [h3]
  simp only [clean_tdL, hz, eL, E1, E2, E3, E4, E5, Nat.reduceSub, Nat.reduceAdd, Nat.reduceLeDiff, Nat.reduceLT, reduceCtorEq, Int.reduceLT, Int.reduceLE, Int.reduceBEq, Nat.reduceBNe, Nat.reduceBEq, Nat.reduceMul]
theorem ev_c3 (rows : List Row) (ps : List (List Nat)) (hl : rows.length ≤ 99) (hlen : ps.length = rows.length)
    (hrd : ∀ k (h : k < rows.length) (h' : k < ps.length), runOf om1 999 1 d_law_read [.str (T ps[k])] = some (.lst (tdP rows[k]))) (V K : Vs) (H : Hs) (hK : K[0]? = some (some (.lst (segP ps)))) :
    evalB (om3 F) lw_c3 false V K H = some (.lst (tdL rows)) := by
  have h1 : overO H (evalB (om3 F) (.cel 0) false V K H) = some (segP ps) := by
    simp only [hK, clean_segP, eL, E1, E2, E3, E4, E5, Nat.reduceSub, Nat.reduceAdd, Nat.reduceLeDiff, Nat.reduceLT, reduceCtorEq, Int.reduceLT, Int.reduceLE, Int.reduceBEq, Nat.reduceBNe, Nat.reduceBEq, Nat.reduceMul]
  have h2 : ∀ k ∈ List.finRange rows.length, (match bindT (.one 0) (.str (T (ps[k.val]'(by rw [hlen]; exact k.isLt)))) (List.replicate 1 none) with
      | some V' => evalB (om3 F) (.call "_law_read" (.of [(.loc 0)])) false V' K H
      | none => none) = some (.lst (tdP rows[k.val])) := by
    intro k _
    have h3 := hrd k.val k.isLt (by rw [hlen]; exact k.isLt)
    have hc : cleans (tdP rows[k.val]) = true := clean_segP _
    show callO H ((om3 F).fn "_law_read") (some [.str (T (ps[k.val]'(by rw [hlen]; exact k.isLt)))]) = _
    simp only [om3_read, h3, hc, eL, E1, E2, E3, E4, E5, Nat.reduceSub, Nat.reduceAdd, Nat.reduceLeDiff, Nat.reduceLT, reduceCtorEq, Int.reduceLT, Int.reduceLE, Int.reduceBEq, Nat.reduceBNe, Nat.reduceBEq, Nat.reduceMul]
  have h3 : mapO (fun x => match bindT (.one 0) x (List.replicate 1 none) with
      | some V' => evalB (om3 F) (.call "_law_read" (.of [(.loc 0)])) false V' K H
      | none => none) (segP ps) = some (tdL rows) := by
    have e1 : segP ps = (List.finRange rows.length).map fun k => .str (T (ps[k.val]'(by rw [hlen]; exact k.isLt))) := by
      apply List.ext_getElem
      · simp [segP, hlen]
      · intro i _ _; simp [segP]
    have e2 : tdL rows = (List.finRange rows.length).map fun k => .lst (tdP rows[k.val]) := by
      apply List.ext_getElem
      · simp [tdL]
      · intro i _ _; simp [tdL]
    rw [e1, e2]
    exact mapO_map _ _ _ _ h2
  have hz : (tdL rows).length ≤ 16777216 := by simp [tdL]; omega
  show (match overO H (evalB (om3 F) (.cel 0) false V K H) with
    | some xs => lstO (mapO (fun x => match bindT (.one 0) x (List.replicate 1 none) with
      | some V' => evalB (om3 F) (.call "_law_read" (.of [(.loc 0)])) false V' K H
      | none => none) xs)
    | none => none) = _
  rw [h1]
  show lstO (mapO _ (segP ps)) = _
  rw [h3]
  simp only [clean_tdL, hz, eL, E1, E2, E3, E4, E5, Nat.reduceSub, Nat.reduceAdd, Nat.reduceLeDiff, Nat.reduceLT, reduceCtorEq, Int.reduceLT, Int.reduceLE, Int.reduceBEq, Nat.reduceBNe, Nat.reduceBEq, Nat.reduceMul]
end Mine.P
namespace Mine.P
variable {F : List PV → Option PV}
def rngs (n : Nat) : List (List Nat) := ((List.range' 1 n).map fun b => (List.range b).map fun a => List.range' a (b - a)).flatten
def isL (xss : List (List Nat)) : List PV := xss.map fun s => .lst (intP s)
theorem ev_c4 (rows : List Row) (h1 : rows ≠ []) (h4 : rows.length ≤ 4) (V K : Vs) (H : Hs) (hV : V[1]? = some (some (.lst (nmL rows)))) :
    evalB (om3 F) lw_c4 false V K H = some (.lst (isL (rngs rows.length))) := by
  have h0 : evalB (om3 F) (.call "range" (.of [(.cst (.int 1)), (.bin .Add (.call "len" (.of [(.loc 1)])) (.cst (.int 1)))])) false V K H = some (.rng 1 ((rows.length : Int) + 1)) := by
    have hf : fRange [.int 1, .int ((rows.length : Int) + 1)] = some (.rng 1 ((rows.length : Int) + 1)) := by
      show (if 0 ≤ (1 : Int) ∧ (1 : Int) ≤ 1000 ∧ 0 ≤ (rows.length : Int) + 1 ∧ (rows.length : Int) + 1 ≤ 1000 then some (PV.rng 1 ((rows.length : Int) + 1)) else none) = _
      rw [if_pos ⟨by omega, by omega, by omega, by omega⟩]
    have hl : (nmL rows).length = rows.length := by simp [nmL]
    simp only [hV, om3_range, om3_len, clean_nmL, f_len_lst, hl, hf, eL, E1, E2, E3, E4, E5, Nat.reduceSub, Nat.reduceAdd, Nat.reduceLeDiff, Nat.reduceLT, reduceCtorEq, Int.reduceLT, Int.reduceLE, Int.reduceBEq, Nat.reduceBNe, Nat.reduceBEq, Nat.reduceMul]
  have hn : rows.length = 1 ∨ rows.length = 2 ∨ rows.length = 3 ∨ rows.length = 4 := by
    have := List.length_pos_iff.mpr h1
    omega
  unfold lw_c4
  rw [evalB]
  rw [h0]
  rcases hn with e | e | e | e <;> rw [e] <;> rfl
theorem ev_c5 (ps : List (List Nat)) (is : List Nat) (hk : ∀ k ∈ is, k < ps.length) (hl : is.length ≤ 99) (V K : Vs) (H : Hs) (hV : V[15]? = some (some (.lst (intP is)))) (hK : K[0]? = some (some (.lst (segP ps)))) :
    evalB (om3 F) lw_c5 false V K H = some (.lst (segP (is.map (At0 ps)))) := by
  have h1 : overO H (evalB (om3 F) (.loc 15) false V K H) = some (intP is) := by
    simp only [hV, clean_intP, eL, E1, E2, E3, E4, E5, Nat.reduceSub, Nat.reduceAdd, Nat.reduceLeDiff, Nat.reduceLT, reduceCtorEq, Int.reduceLT, Int.reduceLE, Int.reduceBEq, Nat.reduceBNe, Nat.reduceBEq, Nat.reduceMul]
  have h2 : ∀ k ∈ is, (match bindT (.one 0) (.int ((k : Nat) : Int)) (List.replicate 1 none) with
      | some V' => evalB (om3 F) (.idx (.cel 0) (.loc 0)) false V' K H
      | none => none) = some (.str (T (At0 ps k))) := by
    intro k hkm
    have h := hk k hkm
    have hi := idxL H (segP ps) k (.str (T (At0 ps k))) (by simp [segP, At0, List.getElem?_eq_getElem h])
    show idxO H (K[0]?).join (some (.int (k : Int))) = _
    rw [hK]
    exact hi
  have h3 : mapO (fun x => match bindT (.one 0) x (List.replicate 1 none) with
      | some V' => evalB (om3 F) (.idx (.cel 0) (.loc 0)) false V' K H
      | none => none) (intP is) = some (segP (is.map (At0 ps))) := by
    unfold segP
    rw [List.map_map]
    exact mapO_map _ _ _ is h2
  have hz : (is.map (At0 ps)).length ≤ 16777216 := by simp; omega
  show (match overO H (evalB (om3 F) (.loc 15) false V K H) with
    | some xs => lstO (mapO (fun x => match bindT (.one 0) x (List.replicate 1 none) with
      | some V' => evalB (om3 F) (.idx (.cel 0) (.loc 0)) false V' K H
      | none => none) xs)
    | none => none) = _
  rw [h1]
  show lstO (mapO _ (intP is)) = _
  rw [h3]
  simp only [clean_segP, segP_len, hz, eL, E1, E2, E3, E4, E5, Nat.reduceSub, Nat.reduceAdd, Nat.reduceLeDiff, Nat.reduceLT, reduceCtorEq, Int.reduceLT, Int.reduceLE, Int.reduceBEq, Nat.reduceBNe, Nat.reduceBEq, Nat.reduceMul]
def mkH (ms : List (List Nat)) : Hs := ((List.range ms.length).map fun k => .loc (k + 1)) :: ms.map intP
theorem mkH_0 (ms : List (List Nat)) (G : Hs) : (mkH ms ++ G)[0]? = some ((List.range ms.length).map fun k => .loc (k + 1)) := rfl
theorem mkH_k (ms : List (List Nat)) (G : Hs) (k : Nat) (h : k < ms.length) : (mkH ms ++ G)[k + 1]? = some (intP (At0 ms k)) := by
  show (ms.map intP ++ G)[k]? = _
  rw [List.getElem?_append_left (by simpa using h)]
  simp [At0, List.getElem?_eq_getElem h]
theorem mk_idx (ms : List (List Nat)) (G : Hs) (k : Nat) (h : k < ms.length) : idxP (mkH ms ++ G) (.loc 0) (.int (k : Int)) = some (.loc (k + 1)) := by
  rw [idx_loc, mkH_0]
  show (place ((List.range ms.length).map fun k => PV.loc (k + 1)).length (k : Int)).bind (((List.range ms.length).map fun k => PV.loc (k + 1))[·]?) = _
  unfold place
  rw [if_pos (by omega), if_pos (by simp; omega)]
  show ((List.range ms.length).map fun k => PV.loc (k + 1))[(k : Int).toNat]? = _
  rw [Int.toNat_natCast]
  simp [h]
theorem ev_c6 (ms : List (List Nat)) (G : Hs) (is : List Nat) (hk : ∀ k ∈ is, k < ms.length) (hz : (is.flatMap (At0 ms)).length ≤ 16777216) (V K : Vs) (hV : V[15]? = some (some (.lst (intP is)))) (hK : K[1]? = some (some (.loc 0))) :
    evalB (om3 F) lw_c6 false V K (mkH ms ++ G) = some (.lst (intP (is.flatMap (At0 ms)))) := by
  have h1 : overO (mkH ms ++ G) (evalB (om3 F) (.loc 15) false V K (mkH ms ++ G)) = some (intP is) := by
    simp only [hV, clean_intP, eL, E1, E2, E3, E4, E5, Nat.reduceSub, Nat.reduceAdd, Nat.reduceLeDiff, Nat.reduceLT, reduceCtorEq, Int.reduceLT, Int.reduceLE, Int.reduceBEq, Nat.reduceBNe, Nat.reduceBEq, Nat.reduceMul]
  have h2 : ∀ k ∈ is, (match overO (mkH ms ++ G) (evalB (om3 F) (.idx (.cel 1) (.loc 0)) false ((List.replicate 2 none).set 0 (some (.int ((k : Nat) : Int)))) K (mkH ms ++ G)) with
        | some xs₂ => mapO (fun y => evalB (om3 F) (.loc 1) false (((List.replicate 2 none).set 0 (some (.int ((k : Nat) : Int)))).set 1 (some y)) K (mkH ms ++ G)) xs₂
        | none => none) = some (intP (At0 ms k)) := by
    intro k hkm
    have h := hk k hkm
    have e1 : evalB (om3 F) (.idx (.cel 1) (.loc 0)) false ((List.replicate 2 none).set 0 (some (.int ((k : Nat) : Int)))) K (mkH ms ++ G) = some (.loc (k + 1)) := by
      show idxO (mkH ms ++ G) (K[1]?).join (some (.int (k : Int))) = _
      rw [hK]
      exact mk_idx ms G k h
    have e2 : overO (mkH ms ++ G) (some (.loc (k + 1))) = some (intP (At0 ms k)) := by
      have := mkH_k ms G k h
      simp only [overO, frz1, this, clean_intP, itemsP, if_true]
    rw [e1, e2]
    show mapO _ (intP (At0 ms k)) = _
    have := mapO_map (fun y => evalB (om3 F) (.loc 1) false (((List.replicate 2 none).set 0 (some (.int ((k : Nat) : Int)))).set 1 (some y)) K (mkH ms ++ G)) id id (intP (At0 ms k)) (fun x _ => rfl)
    simpa using this
  have h3 : mapO (fun x => match overO (mkH ms ++ G) (evalB (om3 F) (.idx (.cel 1) (.loc 0)) false ((List.replicate 2 none).set 0 (some x)) K (mkH ms ++ G)) with
        | some xs₂ => mapO (fun y => evalB (om3 F) (.loc 1) false (((List.replicate 2 none).set 0 (some x)).set 1 (some y)) K (mkH ms ++ G)) xs₂
        | none => none) (intP is) = some (is.map fun k => intP (At0 ms k)) := mapO_map _ _ _ is h2
  have h4 : (is.map fun k => intP (At0 ms k)).flatten = intP (is.flatMap (At0 ms)) := by
    unfold intP
    rw [List.flatMap_def, List.map_flatten, List.map_map]; rfl
  show (match overO (mkH ms ++ G) (evalB (om3 F) (.loc 15) false V K (mkH ms ++ G)) with
    | some xs => lstO ((mapO (fun x => match overO (mkH ms ++ G) (evalB (om3 F) (.idx (.cel 1) (.loc 0)) false ((List.replicate 2 none).set 0 (some x)) K (mkH ms ++ G)) with
        | some xs₂ => mapO (fun y => evalB (om3 F) (.loc 1) false (((List.replicate 2 none).set 0 (some x)).set 1 (some y)) K (mkH ms ++ G)) xs₂
        | none => none) xs).map List.flatten)
    | none => none) = _
  rw [h1]
  show lstO ((mapO _ (intP is)).map List.flatten) = _
  rw [h3]
  simp only [Option.map_some, h4, clean_intP, intP_len, hz, eL, E1, E2, E3, E4, E5, Nat.reduceSub, Nat.reduceAdd, Nat.reduceLeDiff, Nat.reduceLT, reduceCtorEq, Int.reduceLT, Int.reduceLE, Int.reduceBEq, Nat.reduceBNe, Nat.reduceBEq, Nat.reduceMul]
theorem ite_one (H : Hs) (o : Option PV) (b : Bool) (h : o = some (.bool b)) : (match o with
    | some (.bool true) => some (PV.int 1)
    | some (.bool false) => some (PV.int 0)
    | _ => none) = some (.int (b2n b : Int)) := by subst h; cases b <;> rfl
theorem ev_i1 (is : List Nat) (V K : Vs) (H : Hs) (hV : V[15]? = some (some (.lst (intP is)))) : evalB (om3 F) lw_i1 false V K H = some (.int (b2n (decide (0 ∈ is)) : Int)) := by
  have m0 : memP (.int 0) (intP is) = some (decide (0 ∈ is)) := memP_int is 0
  have h : evalB (om3 F) (.cmp .In (.cst (.int 0)) (.loc 15)) true V K H = some (.bool (decide (0 ∈ is))) := by
    simp only [hV, inP, m0, clean_intP, eL, E1, E2, E3, E4, E5, Nat.reduceSub, Nat.reduceAdd, Nat.reduceLeDiff, Nat.reduceLT, reduceCtorEq, Int.reduceLT, Int.reduceLE, Int.reduceBEq, Nat.reduceBNe, Nat.reduceBEq, Nat.reduceMul]
  exact ite_one H _ _ h
theorem ev_i2 (rows : List Row) (hr : rows ≠ []) (is : List Nat) (V K : Vs) (H : Hs) (h1 : V[1]? = some (some (.lst (nmL rows)))) (hV : V[15]? = some (some (.lst (intP is)))) : evalB (om3 F) lw_i2 false V K H = some (.int (b2n (decide (rows.length - 1 ∈ is)) : Int)) := by
  have hp := List.length_pos_iff.mpr hr
  have e : (rows.length : Int) - 1 = ((rows.length - 1 : Nat) : Int) := by omega
  have m0 := memP_int is (rows.length - 1)
  have hl : (nmL rows).length = rows.length := by simp [nmL]
  have h : evalB (om3 F) (.cmp .In (.bin .Sub (.call "len" (.of [(.loc 1)])) (.cst (.int 1))) (.loc 15)) true V K H = some (.bool (decide (rows.length - 1 ∈ is))) := by
    simp only [h1, hV, om3_len, f_len_lst, hl, e, inP, m0, clean_nmL, clean_intP, eL, E1, E2, E3, E4, E5, Nat.reduceSub, Nat.reduceAdd, Nat.reduceLeDiff, Nat.reduceLT, reduceCtorEq, Int.reduceLT, Int.reduceLE, Int.reduceBEq, Nat.reduceBNe, Nat.reduceBEq, Nat.reduceMul]
  exact ite_one H _ _ h
def st1 (S N X W : PV) (rest : List Nat) (ro po : Option PV) (ps : List (List Nat)) : St :=
  ⟨[some S, some N, some X, some W, some (.str (T rest)), ro, po, none, none, none, none, none, none, none, none, none, none, none, none], [some (.lst (segP ps)), none], []⟩
theorem joinL_snoc (c : Nat) (p : List Nat) : ∀ ps : List (List Nat), ps ≠ [] → joinL [c] (ps ++ [p]) = joinL [c] ps ++ c :: p
  | [], h => absurd rfl h
  | [x], _ => by simp [joinL]
  | x :: y :: r, _ => by
    have ih := joinL_snoc c p (y :: r) (by simp)
    show x ++ [c] ++ joinL [c] ((y :: r) ++ [p]) = x ++ [c] ++ joinL [c] (y :: r) ++ c :: p
    rw [ih]; simp
theorem joinL_last (c : Nat) : ∀ ps : List (List Nat), ps ≠ [] → (∀ p ∈ ps, p ≠ [] ∧ c ∉ p) → ∃ a z, joinL [c] ps = a ++ [z] ∧ z ≠ c
  | [], h, _ => absurd rfl h
  | [x], _, h => by
    have hx := h x (by simp)
    rcases List.eq_nil_or_concat x with rfl | ⟨d, y, rfl⟩
    · exact absurd rfl hx.1
    · exact ⟨d, y, by simp [joinL], fun e => hx.2 (by simp [e])⟩
  | x :: y :: r, _, h => by
    obtain ⟨a, z, e, hz⟩ := joinL_last c (y :: r) (by simp) (fun p hp => h p (by simp [hp]))
    refine ⟨x ++ [c] ++ a, z, ?_, hz⟩
    show x ++ [c] ++ joinL [c] (y :: r) = _
    rw [e]; simp
theorem sp_step (S N X W : PV) (ro po : Option PV) (init ps : List (List Nat)) (p : List Nat) (h : ∀ q ∈ init ++ [p], q ≠ [] ∧ 47 ∉ q) (hl : (joinL [47] init).length ≤ 1000000) (hz : ps.length ≤ 999) :
    execsM (om3 F) 99 lw_sp (st1 S N X W (joinL [47] (init ++ [p])) ro po ps) = some (.next, st1 S N X W (joinL [47] init) ro (some (.str (T p))) (p :: ps)) := by
  have hs : runOf om1 99 1 d_split [.str (T (joinL [47] (init ++ [p])))] = some (.tup [.str (T (joinL [47] init)), .str (T p)]) := by
    have hp := (h p (by simp)).2
    by_cases hi : init = []
    · subst hi
      exact run_split_last p hp
    · obtain ⟨a, z, e, hzc⟩ := joinL_last 47 init hi (fun q hq => h q (by simp [hq]))
      rw [joinL_snoc 47 p init hi, e]
      exact run_split_mid a p z hzc hp (by rw [e] at hl; simp at hl; omega)
  have hz' : 1 + ps.length ≤ 16777216 := by omega
  have hc : PV.str (T p) :: segP ps = segP (p :: ps) := rfl
  simp only [st1, lw_sp, om3_split, hs, clean_segP, segP_len, hz', hc, eL, E1, E2, E3, E4, E5, Nat.reduceSub, Nat.reduceAdd, Nat.reduceLeDiff, Nat.reduceLT, reduceCtorEq, Int.reduceLT, Int.reduceLE, Int.reduceBEq, Nat.reduceBNe, Nat.reduceBEq, Nat.reduceMul]
theorem sp_loop (S N X W : PV) : ∀ (vs : List PV) (ro po : Option PV) (qs ps : List (List Nat)), vs.length = qs.length → (∀ q ∈ qs, q ≠ [] ∧ 47 ∉ q) → (qs.map List.length).sum + qs.length ≤ 99999 → ps.length + qs.length ≤ 99 →
    ∃ ro' po', forL (.one 5) (execsM (om3 F) 99 lw_sp) vs (st1 S N X W (joinL [47] qs) ro po ps) = some (.next, st1 S N X W [] ro' po' (qs ++ ps))
  | [], ro, po, qs, ps, hlen, _, _, _ => by
    have : qs = [] := List.length_eq_zero_iff.mp hlen.symm
    subst this
    exact ⟨ro, po, rfl⟩
  | v :: vs, ro, po, qs, ps, hlen, h, hz, hn => by
    rcases List.eq_nil_or_concat qs with rfl | ⟨init, p, rfl⟩
    · cases hlen
    · have hc : init.concat p = init ++ [p] := List.concat_eq_append
      rw [hc] at hlen h hz hn ⊢
      simp only [List.length_append, List.length_cons, List.length_nil, List.map_append, List.sum_append, List.map_cons, List.map_nil, List.sum_cons, List.sum_nil] at hlen hz hn
      have hj := joinL_len [47] init
      simp only [List.length_cons, List.length_nil] at hj
      have e := sp_step (F := F) S N X W (some v) po init ps p h (by omega) (by omega)
      obtain ⟨ro', po', e2⟩ := sp_loop S N X W vs (some v) (some (.str (T p))) init (p :: ps) (by omega) (fun q hq => h q (by simp [hq])) (by omega) (by simp; omega)
      refine ⟨ro', po', ?_⟩
      show (match execsM (om3 F) 99 lw_sp (st1 S N X W (joinL [47] (init ++ [p])) (some v) po ps) with
        | some (.next, τ) => forL (.one 5) (execsM (om3 F) 99 lw_sp) vs τ
        | some (.cont, τ) => forL (.one 5) (execsM (om3 F) 99 lw_sp) vs τ
        | some (.brk, τ) => some (.next, τ)
        | some (.ret v, τ) => some (.ret v, τ)
        | none => none) = _
      rw [e]
      show forL (.one 5) (execsM (om3 F) 99 lw_sp) vs _ = _
      rw [e2]; simp
end Mine.P
namespace Mine.P
variable {F : List PV → Option PV}
def st2 (S N X W R : PV) (ro po : Option PV) (Td : PV) (j : Nat) (kept : List Nat) (ko io : Option PV) (ps : PV) (H : Hs) : St :=
  ⟨[some S, some N, some X, some W, some R, ro, po, some Td, some (.int (j : Int)), some (.lst (intP kept)), ko, io, none, none, none, none, none, none, none], [some ps, some (.loc 0)], H⟩
theorem mk_idx' (ms : List (List Nat)) (cur : List Nat) : idxP (mkH (ms ++ [cur])) (.loc 0) (.int (ms.length : Int)) = some (.loc (ms.length + 1)) := by
  have := mk_idx (ms ++ [cur]) [] ms.length (by simp)
  rwa [List.append_nil] at this
theorem mk_get (ms : List (List Nat)) (cur : List Nat) : (mkH (ms ++ [cur]))[ms.length + 1]? = some (intP cur) := by
  have := mkH_k (ms ++ [cur]) [] ms.length (by simp)
  rw [List.append_nil] at this
  rw [this]; simp [At0]
theorem mk_set (ms : List (List Nat)) (cur c2 : List Nat) : (mkH (ms ++ [cur])).set (ms.length + 1) (intP c2) = mkH (ms ++ [c2]) := by
  unfold mkH
  simp [List.set_append_right]
theorem intP_0 (l : List Nat) : intP l ++ [.int 0] = intP (l ++ [0]) := by simp [intP]
theorem li_eqdq : Str.ofString "=\"" = T [61, 34] := by decide +kernel
theorem in_step (S N X W R : PV) (ro po : Option PV) (Td : PV) (j : Nat) (kept : List Nat) (ms : List (List Nat)) (cur : List Nat) (t : It) (ps : PV) (hz : cur.length ≤ 9999) :
    execsM (om3 F) 99 lw_in (st2 S N X W R ro po Td j kept (some (.int (ms.length : Int))) (some (.str (T t.td))) ps (mkH (ms ++ [cur]))) =
      some (.next, st2 S N X W R ro po Td (j + if t.isStar then 1 else 0) kept (some (.int (ms.length : Int))) (some (.str (T t.td))) ps (mkH (ms ++ [cur ++ mkI j t]))) := by
  have hi := mk_idx' ms cur
  have hg := mk_get ms cur
  have hz' : cur.length < 16777216 := by omega
  cases hs : t.isStar with
  | true =>
    have ht : t = .star := by cases t <;> first | rfl | cases hs
    subst ht
    have hm : mkI j .star = [j + 1] := rfl
    rw [hm]
    simp only [st2, lw_in, It.td, li_star, eqP_str, T_beq, c1, hi, hg, intP_len, hz', intP_snoc, mk_set, eL, E1, E2, E3, E4, E5, Nat.reduceSub, Nat.reduceAdd, Nat.reduceLeDiff, Nat.reduceLT, reduceCtorEq, Int.reduceLT, Int.reduceLE, Int.reduceBEq, Nat.reduceBNe, Nat.reduceBEq, Nat.reduceMul]
  | false =>
    have h1 : (t.td == [42]) = false := by
      rw [beq_eq_false_iff_ne]
      intro e
      rw [(td_star t).mp e] at hs; cases hs
    by_cases h2 : t.td = [61, 34]
    · have h2' : (t.td == [61, 34]) = true := by simpa using h2
      have hm : mkI j t = [0] := by unfold mkI; rw [hs, if_neg (by simp), if_pos h2]
      rw [hm]
      simp only [st2, lw_in, li_star, li_eqdq, eqP_str, T_beq, h1, h2', hi, hg, intP_len, hz', intP_0, mk_set, Nat.add_zero, eL, E1, E2, E3, E4, E5, Nat.reduceSub, Nat.reduceAdd, Nat.reduceLeDiff, Nat.reduceLT, reduceCtorEq, Int.reduceLT, Int.reduceLE, Int.reduceBEq, Nat.reduceBNe, Nat.reduceBEq, Nat.reduceMul]
    · have h2' : (t.td == [61, 34]) = false := by simpa using h2
      have hm : mkI j t = [] := by unfold mkI; rw [hs, if_neg (by simp), if_neg h2]
      rw [hm]
      simp only [st2, lw_in, li_star, li_eqdq, eqP_str, T_beq, h1, h2', List.append_nil, Nat.add_zero, eL, E1, E2, E3, E4, E5, Nat.reduceSub, Nat.reduceAdd, Nat.reduceLeDiff, Nat.reduceLT, reduceCtorEq, Int.reduceLT, Int.reduceLE, Int.reduceBEq, Nat.reduceBNe, Nat.reduceBEq, Nat.reduceMul]
theorem mkI_len (j : Nat) (t : It) : (mkI j t).length ≤ 1 := by
  unfold mkI
  split
  · simp
  · split <;> simp
theorem in_loop (S N X W R : PV) (ro po : Option PV) (Td : PV) (kept : List Nat) (ms : List (List Nat)) (ps : PV) : ∀ (r : Row) (j : Nat) (cur : List Nat) (io : Option PV), cur.length + r.length ≤ 9999 →
    ∃ io', forL (.one 11) (execsM (om3 F) 99 lw_in) (tdP r) (st2 S N X W R ro po Td j kept (some (.int (ms.length : Int))) io ps (mkH (ms ++ [cur]))) =
      some (.next, st2 S N X W R ro po Td (j + nS r) kept (some (.int (ms.length : Int))) io' ps (mkH (ms ++ [cur ++ mkR j r])))
  | [], j, cur, io, _ => ⟨io, by simp [mkR, nS]; rfl⟩
  | t :: r, j, cur, io, hz => by
    simp only [List.length_cons] at hz
    have hm := mkI_len j t
    have e := in_step (F := F) S N X W R ro po Td j kept ms cur t ps (by omega)
    obtain ⟨io', e2⟩ := in_loop S N X W R ro po Td kept ms ps r (j + if t.isStar then 1 else 0) (cur ++ mkI j t) (some (.str (T t.td))) (by simp; omega)
    refine ⟨io', ?_⟩
    show (match execsM (om3 F) 99 lw_in (st2 S N X W R ro po Td j kept (some (.int (ms.length : Int))) (some (.str (T t.td))) ps (mkH (ms ++ [cur]))) with
      | some (.next, τ) => forL (.one 11) (execsM (om3 F) 99 lw_in) (tdP r) τ
      | some (.cont, τ) => forL (.one 11) (execsM (om3 F) 99 lw_in) (tdP r) τ
      | some (.brk, τ) => some (.next, τ)
      | some (.ret v, τ) => some (.ret v, τ)
      | none => none) = _
    rw [e]
    show forL (.one 11) (execsM (om3 F) 99 lw_in) (tdP r) _ = _
    rw [e2, Nat.add_assoc, List.append_assoc]; rfl
def kStep (n : Nat) (kept : List Nat) (k : Nat) (r : Row) : List Nat :=
  if (decide (0 < k) && decide (k < n - 1)) && (r.map It.td == [[63], [63]]) then (if kept.isEmpty then [k] else kept.dropLast)
  else if (k == 0) || ((k == n - 1) || !(r.map It.td == [[63]])) then kept ++ [k] else kept
section
variable {S X W R : PV} {ro po : Option PV} {rows : List Row} {j k : Nat} {kept : List Nat} {io : Option PV} {ps : PV} {H : Hs} {r : Row}
theorem nmL_len (rows : List Row) : (nmL rows).length = rows.length := by simp [nmL]
theorem clean_td (r : Row) : cleans (tdP r) = true := clean_segP _
theorem eq_td (r : Row) (us : List (List Nat)) : eqP (.lst (tdP r)) (.lst (segP us)) = some (r.map It.td == us) := eqP_segP _ _
theorem test_t1 (hr : rows[k]? = some r) :
    testM (om3 F) lw_t1 (st2 S (.lst (nmL rows)) X W R ro po (.lst (tdL rows)) j kept (some (.int (k : Int))) io ps H).V (st2 S (.lst (nmL rows)) X W R ro po (.lst (tdL rows)) j kept (some (.int (k : Int))) io ps H).K (st2 S (.lst (nmL rows)) X W R ro po (.lst (tdL rows)) j kept (some (.int (k : Int))) io ps H).H =
      some ((decide (0 < k) && decide (k < rows.length - 1)) && (r.map It.td == [[63], [63]])) := by
  have hk : k < rows.length := (List.getElem?_eq_some_iff.mp hr).1
  have e : (rows.length : Int) - 1 = ((rows.length - 1 : Nat) : Int) := by omega
  have hx := idxL H (tdL rows) k (.lst (tdP r)) (by simp [tdL, hr])
  have hq : eqP (.lst (tdP r)) (.lst [.str (T [63]), .str (T [63])]) = some (r.map It.td == [[63], [63]]) := eq_td r [[63], [63]]
  have b1 : decide ((0 : Int) < (k : Int)) = decide (0 < k) := ltNat k
  have b2 : decide ((k : Int) < ((rows.length - 1 : Nat) : Int)) = decide (k < rows.length - 1) := by
    rw [Bool.eq_iff_iff, decide_eq_true_eq, decide_eq_true_eq]; omega
  generalize decide (0 < k) = B1 at b1 ⊢
  generalize decide (k < rows.length - 1) = B2 at b2 ⊢
  generalize (r.map It.td == [[63], [63]]) = B3 at hq ⊢
  cases B1 <;> cases B2 <;> cases B3 <;>
  simp only [st2, lw_t1, om3_len, f_len_lst, nmL_len, clean_nmL, clean_td, e, b1, b2, hx, hq, li_q, eL, E1, E2, E3, E4, E5, Nat.reduceSub, Nat.reduceAdd, Nat.reduceLeDiff, Nat.reduceLT, reduceCtorEq, Int.reduceLT, Int.reduceLE, Int.reduceBEq, Nat.reduceBNe, Nat.reduceBEq, Nat.reduceMul]
theorem test_t2 (hr : rows[k]? = some r) :
    testM (om3 F) lw_t2 (st2 S (.lst (nmL rows)) X W R ro po (.lst (tdL rows)) j kept (some (.int (k : Int))) io ps H).V (st2 S (.lst (nmL rows)) X W R ro po (.lst (tdL rows)) j kept (some (.int (k : Int))) io ps H).K (st2 S (.lst (nmL rows)) X W R ro po (.lst (tdL rows)) j kept (some (.int (k : Int))) io ps H).H =
      some ((k == 0) || ((k == rows.length - 1) || !(r.map It.td == [[63]]))) := by
  have hk : k < rows.length := (List.getElem?_eq_some_iff.mp hr).1
  have e : (rows.length : Int) - 1 = ((rows.length - 1 : Nat) : Int) := by omega
  have hx := idxL H (tdL rows) k (.lst (tdP r)) (by simp [tdL, hr])
  have hq : eqP (.lst (tdP r)) (.lst [.str (T [63])]) = some (r.map It.td == [[63]]) := eq_td r [[63]]
  have b1 : ((k : Int) == 0) = (k == 0) := beqNat k 0
  have b2 := beqNat k (rows.length - 1)
  generalize (k == 0) = B1 at b1 ⊢
  generalize (k == rows.length - 1) = B2 at b2 ⊢
  generalize (r.map It.td == [[63]]) = B3 at hq ⊢
  cases B1 <;> cases B2 <;> cases B3 <;>
  simp only [st2, lw_t2, om3_len, f_len_lst, nmL_len, clean_nmL, clean_td, e, b1, b2, hx, hq, eqP_int, li_q, eL, E1, E2, E3, E4, E5, Nat.reduceSub, Nat.reduceAdd, Nat.reduceLeDiff, Nat.reduceLT, reduceCtorEq, Int.reduceLT, Int.reduceLE, Int.reduceBEq, Nat.reduceBNe, Nat.reduceBEq, Nat.reduceMul]
end
theorem mk_new0 (ms : List (List Nat)) : (mkH ms)[0]? = some ((List.range ms.length).map fun k => .loc (k + 1)) := rfl
theorem mk_new (ms : List (List Nat)) : (mkH ms).set 0 (((List.range ms.length).map fun k => .loc (k + 1)) ++ [.loc (mkH ms).length]) ++ [[]] = mkH (ms ++ [[]]) := by
  unfold mkH
  simp [List.range_succ]
  rfl
theorem mk_step (S X W R : PV) (ro po : Option PV) (rows : List Row) (j : Nat) (kept : List Nat) (ms : List (List Nat)) (io : Option PV) (ps : PV) (r : Row) (hr : rows[ms.length]? = some r) (hz : r.length ≤ 999) (hk : kept.length ≤ 99) (hms : ms.length ≤ 99) :
    ∃ io', execsM (om3 F) 99 lw_mk (st2 S (.lst (nmL rows)) X W R ro po (.lst (tdL rows)) j kept (some (.int (ms.length : Int))) io ps (mkH ms)) =
      some (.next, st2 S (.lst (nmL rows)) X W R ro po (.lst (tdL rows)) (j + nS r) (kStep rows.length kept ms.length r) (some (.int (ms.length : Int))) io' ps (mkH (ms ++ [mkR j r]))) := by
  obtain ⟨io', hi⟩ := in_loop (F := F) S (.lst (nmL rows)) X W R ro po (.lst (tdL rows)) kept ms ps r j [] io (by simp; omega)
  rw [List.nil_append] at hi
  have h1 : execM (om3 F) 99 lw_inl (st2 S (.lst (nmL rows)) X W R ro po (.lst (tdL rows)) j kept (some (.int (ms.length : Int))) io ps (mkH (ms ++ [[]]))) =
      some (.next, st2 S (.lst (nmL rows)) X W R ro po (.lst (tdL rows)) (j + nS r) kept (some (.int (ms.length : Int))) io' ps (mkH (ms ++ [mkR j r]))) := by
    have hx := idxL (mkH (ms ++ [[]])) (tdL rows) ms.length (.lst (tdP r)) (by simp [tdL, hr])
    have he : evalM (om3 F) (.idx (.loc 7) (.loc 10)) (st2 S (.lst (nmL rows)) X W R ro po (.lst (tdL rows)) j kept (some (.int (ms.length : Int))) io ps (mkH (ms ++ [[]]))).V (st2 S (.lst (nmL rows)) X W R ro po (.lst (tdL rows)) j kept (some (.int (ms.length : Int))) io ps (mkH (ms ++ [[]]))).K (mkH (ms ++ [[]])) = some (.lst (tdP r)) := by
      simp only [st2, hx, eL, E1, E2, E3, E4, E5, Nat.reduceSub, Nat.reduceAdd, Nat.reduceLeDiff, Nat.reduceLT, reduceCtorEq, Int.reduceLT, Int.reduceLE, Int.reduceBEq, Nat.reduceBNe, Nat.reduceBEq, Nat.reduceMul]
    show (match evalM (om3 F) (.idx (.loc 7) (.loc 10)) (st2 S (.lst (nmL rows)) X W R ro po (.lst (tdL rows)) j kept (some (.int (ms.length : Int))) io ps (mkH (ms ++ [[]]))).V (st2 S (.lst (nmL rows)) X W R ro po (.lst (tdL rows)) j kept (some (.int (ms.length : Int))) io ps (mkH (ms ++ [[]]))).K (mkH (ms ++ [[]])) with
      | some v => if isLoc v then none else match itemsP v with
        | some xs => forL (.one 11) (execsM (om3 F) 99 lw_in) xs (st2 S (.lst (nmL rows)) X W R ro po (.lst (tdL rows)) j kept (some (.int (ms.length : Int))) io ps (mkH (ms ++ [[]])))
        | none => none
      | none => none) = _
    rw [he]
    exact hi
  have t1 := test_t1 (F := F) (S := S) (X := X) (W := W) (R := R) (ro := ro) (po := po) (j := j + nS r) (kept := kept) (io := io') (ps := ps) (H := mkH (ms ++ [mkR j r])) hr
  have t2 := test_t2 (F := F) (S := S) (X := X) (W := W) (R := R) (ro := ro) (po := po) (j := j + nS r) (kept := kept) (io := io') (ps := ps) (H := mkH (ms ++ [mkR j r])) hr
  have n0 := mk_new0 ms
  have nn := mk_new ms
  have hl : ((List.range ms.length).map fun k => PV.loc (k + 1)).length < 16777216 := by simp; omega
  simp only [testM] at t1 t2
  refine ⟨io', ?_⟩
  rw [lw_mk]
  unfold kStep
  generalize ((decide (0 < ms.length) && decide (ms.length < rows.length - 1)) && (r.map It.td == [[63], [63]])) = B1 at t1 ⊢
  generalize ((ms.length == 0) || ((ms.length == rows.length - 1) || !(r.map It.td == [[63]]))) = B2 at t2 ⊢
  simp only [st2] at h1 t1 t2 ⊢
  cases B1
  · cases B2
    · simp only [n0, hl, nn, h1, t1, t2, eL, E1, E2, E3, E4, E5, Nat.reduceSub, Nat.reduceAdd, Nat.reduceLeDiff, Nat.reduceLT, reduceCtorEq, Int.reduceLT, Int.reduceLE, Int.reduceBEq, Nat.reduceBNe, Nat.reduceBEq, Nat.reduceMul]
    · have hkz : kept.length + 1 ≤ 16777216 := by omega
      simp only [n0, hl, nn, h1, t1, t2, clean_intP, intP_len, hkz, intP_snoc, eL, E1, E2, E3, E4, E5, Nat.reduceSub, Nat.reduceAdd, Nat.reduceLeDiff, Nat.reduceLT, reduceCtorEq, Int.reduceLT, Int.reduceLE, Int.reduceBEq, Nat.reduceBNe, Nat.reduceBEq, Nat.reduceMul]
  · rcases List.eq_nil_or_concat kept with rfl | ⟨d, y, rfl⟩
    · have zs : intP [] = [] := rfl
      have zo : intP [ms.length] = [.int (ms.length : Int)] := rfl
      simp only [zs] at h1 t1 t2 ⊢
      simp only [n0, hl, nn, h1, t1, t2, eqP_lst_nil, List.isEmpty_nil, zo, eL, E1, E2, E3, E4, E5, Nat.reduceSub, Nat.reduceAdd, Nat.reduceLeDiff, Nat.reduceLT, reduceCtorEq, Int.reduceLT, Int.reduceLE, Int.reduceBEq, Nat.reduceBNe, Nat.reduceBEq, Nat.reduceMul]
    · have hc : d.concat y = d ++ [y] := List.concat_eq_append
      rw [hc] at h1 t1 t2 hk ⊢
      have e1 : ((intP (d ++ [y])).length == 0) = false := by simp [intP]
      have e2 : (d ++ [y]).isEmpty = false := by simp
      have e3 : slcP (.lst (intP (d ++ [y]))) .none (.int (-1)) = some (.lst (intP d)) := by
        have := sL_init (intP d) (.int (y : Int))
        rwa [intP_snoc] at this
      have e4 : (d ++ [y]).dropLast = d := by simp
      simp only [n0, hl, nn, h1, t1, t2, clean_intP, eqP_lst_nil, e1, e2, e3, e4, eL, E1, E2, E3, E4, E5, Nat.reduceSub, Nat.reduceAdd, Nat.reduceLeDiff, Nat.reduceLT, reduceCtorEq, Int.reduceLT, Int.reduceLE, Int.reduceBEq, Nat.reduceBNe, Nat.reduceBEq, Nat.reduceMul]
end Mine.P
namespace Mine.P
variable {F : List PV → Option PV}
def keptGo (n : Nat) : Nat → List Row → List Nat → List Nat
  | _, [], kept => kept
  | k, r :: rs, kept => keptGo n (k + 1) rs (kStep n kept k r)
theorem kStep_len (n : Nat) (kept : List Nat) (k : Nat) (r : Row) : (kStep n kept k r).length ≤ kept.length + 1 := by
  unfold kStep
  split
  · split
    · simp
    · simp; omega
  · split <;> simp
theorem mk_loop (S X W R : PV) (ro po : Option PV) (rows : List Row) (ps : PV) (hz : ∀ r ∈ rows, r.length ≤ 99) (hn : rows.length ≤ 9) : ∀ (rs : List Row) (j : Nat) (kept : List Nat) (ms : List (List Nat)) (ko io : Option PV), rows.drop ms.length = rs → ms.length + rs.length ≤ 9 → kept.length ≤ ms.length →
    ∃ ko' io', forL (.one 10) (execsM (om3 F) 99 lw_mk) (intP (List.range' ms.length rs.length)) (st2 S (.lst (nmL rows)) X W R ro po (.lst (tdL rows)) j kept ko io ps (mkH ms)) =
      some (.next, st2 S (.lst (nmL rows)) X W R ro po (.lst (tdL rows)) (j + nSr rs) (keptGo rows.length ms.length rs kept) ko' io' ps (mkH (ms ++ mksR j rs)))
  | [], j, kept, ms, ko, io, _, _, _ => ⟨ko, io, by simp [keptGo, mksR, nSr]; rfl⟩
  | r :: rs, j, kept, ms, ko, io, hd, hm, hk => by
    simp only [List.length_cons] at hm
    have hr : rows[ms.length]? = some r := at_drop hd
    have hrm : r ∈ rows := List.mem_of_getElem? hr
    obtain ⟨io1, e⟩ := mk_step (F := F) S X W R ro po rows j kept ms io ps r hr (by have := hz r hrm; omega) (by omega) (by omega)
    have hl : (ms ++ [mkR j r]).length = ms.length + 1 := by simp
    have hkl := kStep_len rows.length kept ms.length r
    obtain ⟨ko', io', e2⟩ := mk_loop S X W R ro po rows ps hz hn rs (j + nS r) (kStep rows.length kept ms.length r) (ms ++ [mkR j r]) (some (.int (ms.length : Int))) io1 (by rw [hl]; exact drop_succ hd) (by omega) (by omega)
    rw [hl] at e2
    refine ⟨ko', io', ?_⟩
    show (match execsM (om3 F) 99 lw_mk (st2 S (.lst (nmL rows)) X W R ro po (.lst (tdL rows)) j kept (some (.int (ms.length : Int))) io ps (mkH ms)) with
      | some (.next, τ) => forL (.one 10) (execsM (om3 F) 99 lw_mk) (intP (List.range' (ms.length + 1) rs.length)) τ
      | some (.cont, τ) => forL (.one 10) (execsM (om3 F) 99 lw_mk) (intP (List.range' (ms.length + 1) rs.length)) τ
      | some (.brk, τ) => some (.next, τ)
      | some (.ret v, τ) => some (.ret v, τ)
      | none => none) = _
    rw [e]
    show forL (.one 10) (execsM (om3 F) 99 lw_mk) _ _ = _
    rw [e2, Nat.add_assoc, List.append_assoc]; rfl
theorem items_rng (n : Nat) (h : n ≤ 1000) : itemsP (.rng 0 (n : Int)) = some (intP (List.range' 0 n)) := by
  show (if -1000000 ≤ (0 : Int) ∧ (0 : Int) ≤ 1000000 ∧ -1000000 ≤ (n : Int) ∧ (n : Int) ≤ 1000000 then some ((List.range ((n : Int) - 0).toNat).map fun (k : Nat) => PV.int (0 + (k : Int))) else none) = _
  rw [if_pos ⟨by omega, by omega, by omega, by omega⟩]
  congr 1
  have e : ((n : Int) - 0).toNat = n := by omega
  rw [e, List.range_eq_range']
  unfold intP
  exact List.map_congr_left fun k _ => by rw [Int.zero_add]
theorem mk_all (S X W R : PV) (ro po : Option PV) (rows : List Row) (ps : PV) (hz : ∀ r ∈ rows, r.length ≤ 99) (hn : rows.length ≤ 9) :
    ∃ ko' io', execM (om3 F) 99 lw_mkl (st2 S (.lst (nmL rows)) X W R ro po (.lst (tdL rows)) 0 [] none none ps [[]]) =
      some (.next, st2 S (.lst (nmL rows)) X W R ro po (.lst (tdL rows)) (nSr rows) (keptGo rows.length 0 rows []) ko' io' ps (mkH (mksR 0 rows))) := by
  obtain ⟨ko, io, e⟩ := mk_loop (F := F) S X W R ro po rows ps hz hn rows 0 [] [] none none rfl (by simpa using hn) (Nat.le_refl _)
  rw [Nat.zero_add, List.nil_append] at e
  refine ⟨ko, io, ?_⟩
  have hf : fRange [.int (rows.length : Int)] = some (.rng 0 (rows.length : Int)) := by
    show (if 0 ≤ (rows.length : Int) ∧ (rows.length : Int) ≤ 1000 then some (PV.rng 0 (rows.length : Int)) else none) = _
    rw [if_pos ⟨by omega, by omega⟩]
  have hi := items_rng rows.length (by omega)
  have he : evalM (om3 F) (.call "range" (.of [(.call "len" (.of [(.loc 1)]))])) (st2 S (.lst (nmL rows)) X W R ro po (.lst (tdL rows)) 0 [] none none ps [[]]).V (st2 S (.lst (nmL rows)) X W R ro po (.lst (tdL rows)) 0 [] none none ps [[]]).K [[]] = some (.rng 0 (rows.length : Int)) := by
    simp only [st2, om3_range, om3_len, f_len_lst, nmL_len, clean_nmL, hf, eL, E1, E2, E3, E4, E5, Nat.reduceSub, Nat.reduceAdd, Nat.reduceLeDiff, Nat.reduceLT, reduceCtorEq, Int.reduceLT, Int.reduceLE, Int.reduceBEq, Nat.reduceBNe, Nat.reduceBEq, Nat.reduceMul]
  show (match evalM (om3 F) (.call "range" (.of [(.call "len" (.of [(.loc 1)]))])) (st2 S (.lst (nmL rows)) X W R ro po (.lst (tdL rows)) 0 [] none none ps [[]]).V (st2 S (.lst (nmL rows)) X W R ro po (.lst (tdL rows)) 0 [] none none ps [[]]).K [[]] with
    | some v => if isLoc v then none else match itemsP v with
      | some xs => forL (.one 10) (execsM (om3 F) 99 lw_mk) xs (st2 S (.lst (nmL rows)) X W R ro po (.lst (tdL rows)) 0 [] none none ps [[]])
      | none => none
    | none => none) = _
  rw [he]
  show (match itemsP (.rng 0 (rows.length : Int)) with
      | some xs => forL (.one 10) (execsM (om3 F) 99 lw_mk) xs (st2 S (.lst (nmL rows)) X W R ro po (.lst (tdL rows)) 0 [] none none ps [[]])
      | none => none) = _
  rw [hi]
  exact e
def psOf (rows : List Row) : List (List Nat) := (pcsU (nSr rows) true 0 rows).map List.flatten
theorem psOf_len (rows : List Row) : (psOf rows).length = rows.length := by simp [psOf, pcs_len]
theorem psOf_at (rows : List Row) (k : Nat) : At0 (psOf rows) k = (Pc rows k).flatten := by
  unfold psOf Pc At0
  rw [List.getElem?_map]
  cases (pcsU (nSr rows) true 0 rows)[k]? <;> rfl
theorem selT_ps (rows : List Row) (is : List Nat) : joinL [47] (is.map (At0 (psOf rows))) = selT rows is := by
  unfold selT
  congr 1
  exact List.map_congr_left fun k _ => psOf_at rows k
def nb (rows : List Row) (is : List Nat) : Bool := nestB (is.flatMap (Mk rows)) (nSr rows) (decide (0 ∈ is)) (decide (rows.length - 1 ∈ is))
def st3 (S X W R : PV) (ro po : Option PV) (rows : List Row) (kept : List Nat) (ko io : Option PV) (Ch : PV) (so to ho no : Option PV) (given due : List Str) : St :=
  ⟨[some S, some (.lst (nmL rows)), some X, some W, some R, ro, po, some (.lst (tdL rows)), some (.int (nSr rows : Int)), some (.lst (intP kept)), ko, io, some Ch, some (.loc (rows.length + 1)), some (.loc (rows.length + 2)), so, to, ho, no], [some (.lst (segP (psOf rows))), some (.loc 0)], mkH (mksR 0 rows) ++ [strP given, strP due]⟩
theorem mkH_len (ms : List (List Nat)) : (mkH ms).length = ms.length + 1 := by simp [mkH]
section
variable {rows : List Row} {g d : List PV}
theorem g13 : (mkH (mksR 0 rows) ++ [g, d])[rows.length + 1]? = some g := by
  rw [List.getElem?_append_right (by rw [mkH_len, mks_len]; exact Nat.le_refl _), mkH_len, mks_len, Nat.sub_self]; rfl
theorem g14 : (mkH (mksR 0 rows) ++ [g, d])[rows.length + 2]? = some d := by
  rw [List.getElem?_append_right (by rw [mkH_len, mks_len]; omega), mkH_len, mks_len, show rows.length + 2 - (rows.length + 1) = 1 by omega]; rfl
theorem s13 (x : List PV) : (mkH (mksR 0 rows) ++ [g, d]).set (rows.length + 1) x = mkH (mksR 0 rows) ++ [x, d] := by
  rw [List.set_append_right _ _ (by rw [mkH_len, mks_len]; exact Nat.le_refl _), mkH_len, mks_len, Nat.sub_self]; rfl
theorem s14 (x : List PV) : (mkH (mksR 0 rows) ++ [g, d]).set (rows.length + 2) x = mkH (mksR 0 rows) ++ [g, x] := by
  rw [List.set_append_right _ _ (by rw [mkH_len, mks_len]; omega), mkH_len, mks_len, show rows.length + 2 - (rows.length + 1) = 1 by omega]; rfl
end
theorem sum_le {α : Type} (f : α → Nat) (B : Nat) : ∀ l : List α, (∀ x ∈ l, f x ≤ B) → (l.map f).sum ≤ l.length * B
  | [], _ => by simp
  | x :: r, h => by
    have h1 := h x (by simp)
    have h2 := sum_le f B r (fun y hy => h y (by simp [hy]))
    simp only [List.map_cons, List.sum_cons, List.length_cons, Nat.add_mul, Nat.one_mul]
    omega
theorem mkR_len : ∀ (r : Row) (j : Nat), (mkR j r).length ≤ r.length
  | [], _ => Nat.le_refl _
  | t :: r, j => by
    have h1 := mkI_len j t
    have h2 := mkR_len r (j + if t.isStar then 1 else 0)
    simp only [mkR, List.length_append, List.length_cons]; omega
theorem held_len (rows : List Row) (hz : ∀ r ∈ rows, r.length ≤ 99) (is : List Nat) (hk : ∀ k ∈ is, k < rows.length) : (is.flatMap (Mk rows)).length ≤ is.length * 99 := by
  rw [List.length_flatMap]
  refine sum_le _ 99 is fun k hkm => ?_
  obtain ⟨j', r, h1, h2, h3, h4⟩ := pcs_at (nSr rows) rows true 0 k (hk k hkm)
  unfold Mk At0
  rw [h4, Option.getD_some]
  have := mkR_len r j'
  have := hz r h1
  omega
theorem fn_step (S X W R : PV) (ro po : Option PV) (rows : List Row) (hr : rows ≠ []) (hz : ∀ r ∈ rows, r.length ≤ 99) (kept : List Nat) (ko io : Option PV) (Ch : PV) (to ho no : Option PV) (given due : List Str) (is : List Nat) (hk : ∀ k ∈ is, k < rows.length) (hl : is.length ≤ 9) (hg : given.length ≤ 999) (hd : due.length ≤ 999) :
    ∃ to' ho' no', execsM (om3 F) 99 lw_fn (st3 S X W R ro po rows kept ko io Ch (some (.lst (intP is))) to ho no given due) =
      some (.next, st3 S X W R ro po rows kept ko io Ch (some (.lst (intP is))) to' ho' no' (given ++ [T (selT rows is)]) (due ++ [if nb rows is then T (selT rows is) else bad])) := by
  have hc5 := fun (V K : Vs) (H : Hs) => ev_c5 (F := F) (psOf rows) is (by rw [psOf_len]; exact hk) (by omega) V K H
  have hh := held_len rows hz is hk
  have hc6 := fun (V K : Vs) => ev_c6 (F := F) (mksR 0 rows) [strP given, strP due] is (by rw [mks_len]; exact hk) (by show (is.flatMap (Mk rows)).length ≤ _; omega) V K
  have hi1 := fun (V K : Vs) (H : Hs) => ev_i1 (F := F) is V K H
  have hi2 := fun (V K : Vs) (H : Hs) => ev_i2 (F := F) rows hr is V K H
  have hn := run_nested (is.flatMap (Mk rows)) (nSr rows) (decide (0 ∈ is)) (decide (rows.length - 1 ∈ is)) (by omega)
  have hnb : nestB (is.flatMap (Mk rows)) (nSr rows) (decide (0 ∈ is)) (decide (rows.length - 1 ∈ is)) = nb rows is := rfl
  rw [hnb] at hn
  have hmk : is.flatMap (At0 (mksR 0 rows)) = is.flatMap (Mk rows) := rfl
  have hsum : ((is.map (At0 (psOf rows))).map List.length).sum ≤ is.length * 800 := by
    rw [List.map_map]
    refine sum_le _ 800 is fun k _ => ?_
    show (At0 (psOf rows) k).length ≤ 800
    rw [psOf_at]; exact (Pc_len rows hz k).2
  have hj := m_join1 [47] (is.map (At0 (psOf rows))) (by simp only [List.length_map, List.length_cons, List.length_nil]; omega)
  rw [selT_ps] at hj
  have hg' : given.length < 16777216 := by omega
  have hd' : due.length < 16777216 := by omega
  have lt1 : rows.length + 1 < 16777216 ∨ True := .inr trivial
  refine ⟨some (.str (T (selT rows is))), some (.lst (intP (is.flatMap (Mk rows)))), some (.bool (nb rows is)), ?_⟩
  have hb : bad = Str.ofString "('', '')" := rfl
  generalize nb rows is = B at hn ⊢
  cases B <;>
  simp only [st3, lw_fn, hc5, hc6, hi1, hi2, hmk, hj, li_0, om3_nested, hn, clean_segP, clean_intP, g13, g14, s13, s14, strP_len, strP_snoc, hg', hd', hb, eL, E1, E2, E3, E4, E5, Nat.reduceSub, Nat.reduceAdd, Nat.reduceLeDiff, Nat.reduceLT, reduceCtorEq, Int.reduceLT, Int.reduceLE, Int.reduceBEq, Nat.reduceBNe, Nat.reduceBEq, Nat.reduceMul]
theorem fn_loop (S X W R : PV) (ro po : Option PV) (rows : List Row) (hr : rows ≠ []) (hz : ∀ r ∈ rows, r.length ≤ 99) (kept : List Nat) (ko io : Option PV) (Ch : PV) : ∀ (xss : List (List Nat)) (so to ho no : Option PV) (given due : List Str), (∀ is ∈ xss, (∀ k ∈ is, k < rows.length) ∧ is.length ≤ 9) → given.length + xss.length ≤ 99 → due.length + xss.length ≤ 99 →
    ∃ so' to' ho' no', forL (.one 15) (execsM (om3 F) 99 lw_fn) (isL xss) (st3 S X W R ro po rows kept ko io Ch so to ho no given due) =
      some (.next, st3 S X W R ro po rows kept ko io Ch so' to' ho' no' (given ++ xss.map fun is => T (selT rows is)) (due ++ xss.map fun is => if nb rows is then T (selT rows is) else bad))
  | [], so, to, ho, no, given, due, _, _, _ => ⟨so, to, ho, no, by simp [isL, forL]⟩
  | is :: xss, so, to, ho, no, given, due, h, hg, hd => by
    simp only [List.length_cons] at hg hd
    obtain ⟨to1, ho1, no1, e⟩ := fn_step (F := F) S X W R ro po rows hr hz kept ko io Ch to ho no given due is (h is (by simp)).1 (h is (by simp)).2 (by omega) (by omega)
    obtain ⟨so', to', ho', no', e2⟩ := fn_loop S X W R ro po rows hr hz kept ko io Ch xss (some (.lst (intP is))) to1 ho1 no1 (given ++ [T (selT rows is)]) (due ++ [if nb rows is then T (selT rows is) else bad]) (fun x hx => h x (by simp [hx])) (by simp; omega) (by simp; omega)
    refine ⟨so', to', ho', no', ?_⟩
    show (match execsM (om3 F) 99 lw_fn (st3 S X W R ro po rows kept ko io Ch (some (.lst (intP is))) to ho no given due) with
      | some (.next, τ) => forL (.one 15) (execsM (om3 F) 99 lw_fn) (isL xss) τ
      | some (.cont, τ) => forL (.one 15) (execsM (om3 F) 99 lw_fn) (isL xss) τ
      | some (.brk, τ) => some (.next, τ)
      | some (.ret v, τ) => some (.ret v, τ)
      | none => none) = _
    rw [e]
    show forL (.one 15) (execsM (om3 F) 99 lw_fn) (isL xss) _ = _
    rw [e2, List.append_assoc, List.append_assoc]; rfl
end Mine.P
namespace Mine.P
theorem it_ne (m j : Nat) (t : It) : (itU' m j t).flatten ≠ [] := by
  cases t with
  | star =>
    simp only [itU', It.isStar, if_true]
    unfold clU opU
    split <;> split <;> simp
  | q => simp [itU', It.isStar, It.un]
  | set c => simp [itU', It.isStar, It.un]
  | lit c =>
    obtain ⟨u0, h⟩ := escL_last c
    simp [itU', It.isStar, It.un, h]
theorem wr_ne (m j : Nat) (r : Row) (h : r ≠ []) : (wrU m j r).flatten ≠ [] := by
  cases r with
  | nil => exact absurd rfl h
  | cons t r =>
    intro e
    rw [wrU, List.flatten_append] at e
    exact it_ne m j t (List.append_eq_nil_iff.mp e).1
theorem esc_slash (c : Nat) (h : c ≠ 47) : 47 ∉ escL c := by
  unfold escL
  split <;> simp <;> omega
theorem set_slash (c : Nat) (h : c ≠ 47) : 47 ∉ setB c := by
  unfold setB
  split
  · simp
  · split <;> simp <;> omega
theorem it_slash (m j : Nat) (t : It) (h : t.ok = true) : 47 ∉ (itU' m j t).flatten := by
  cases t with
  | star =>
    simp only [itU', It.isStar, if_true]
    unfold clU opU
    split <;> split <;> simp
  | q => simp [itU', It.isStar, It.un]
  | set c =>
    have hc : c ≠ 47 := by
      intro e; subst e; exact absurd h (by decide)
    have := set_slash c hc
    simp [itU', It.isStar, It.un, this]
  | lit c =>
    have hc : c ≠ 47 := by
      intro e; subst e; exact absurd h (by decide)
    have := esc_slash c hc
    simp [itU', It.isStar, It.un, this]
theorem wr_slash (m : Nat) : ∀ (r : Row) (j : Nat), (∀ t ∈ r, t.ok = true) → 47 ∉ (wrU m j r).flatten
  | [], _, _ => by simp [wrU]
  | t :: r, j, h => by
    rw [wrU, List.flatten_append, List.mem_append, not_or]
    exact ⟨it_slash m j t (h t (by simp)), wr_slash m r _ (fun x hx => h x (by simp [hx]))⟩
theorem pc_ok (m : Nat) (f l : Bool) (j : Nat) (r : Row) (h : r ≠ [] ∧ okRow r) : (pcU m f l j r).flatten ≠ [] ∧ 47 ∉ (pcU m f l j r).flatten := by
  unfold pcU
  rw [List.flatten_append, List.flatten_append]
  constructor
  · intro e
    have := List.append_eq_nil_iff.mp e
    exact wr_ne m j r h.1 (List.append_eq_nil_iff.mp this.1).2
  · rw [List.mem_append, List.mem_append, not_or, not_or]
    refine ⟨⟨?_, wr_slash m r j h.2.1⟩, ?_⟩
    · cases f <;> simp [preU]
    · cases l <;> simp [sufU]
theorem ps_ok (rows : List Row) (h : ∀ r ∈ rows, r ≠ [] ∧ okRow r) : ∀ p ∈ psOf rows, p ≠ [] ∧ 47 ∉ p := by
  intro p hp
  obtain ⟨k, hk, e⟩ := List.mem_iff_getElem.mp hp
  have hk' : k < rows.length := by rw [psOf_len] at hk; exact hk
  obtain ⟨j', r, h1, h2, h3, h4⟩ := pcs_at (nSr rows) rows true 0 k hk'
  have e2 : (psOf rows)[k]? = some (pcU (nSr rows) (true && decide (k = 0)) (decide (k + 1 = rows.length)) j' r).flatten := by
    unfold psOf; rw [List.getElem?_map, h3]; rfl
  have e3 : (psOf rows)[k]? = some p := by rw [List.getElem?_eq_getElem hk, e]
  rw [e2] at e3
  injection e3 with e3
  rw [← e3]
  exact pc_ok _ _ _ _ _ (h r h1)
theorem pc_first (m : Nat) (l : Bool) (j : Nat) (r : Row) : (pcU m true l j r).flatten ≠ [46] ∧ (pcU m true l j r).flatten ≠ [46, 46] := by
  unfold pcU
  simp [preU]
theorem pc_last (m : Nat) (f : Bool) (j : Nat) (r : Row) : (pcU m f true j r).flatten ≠ [46] ∧ (pcU m f true j r).flatten ≠ [46, 46] := by
  have h : 90 ∈ (pcU m f true j r).flatten := by unfold pcU; simp [sufU]
  constructor <;>
  · intro e
    rw [e] at h
    simp at h
theorem it_dot (m j : Nat) (t : It) (rest s : List Nat) (h : (itU' m j t).flatten ++ rest = 46 :: s) (hs : s = [] ∨ s = [46]) : t = .q ∧ rest = s := by
  cases t with
  | star =>
    exfalso
    simp only [itU', It.isStar, if_true] at h
    unfold clU opU at h
    split at h <;> split at h <;> simp at h
    rcases hs with rfl | rfl <;> simp at h
  | q =>
    refine ⟨rfl, ?_⟩
    simpa [itU', It.isStar, It.un] using h
  | set c => simp [itU', It.isStar, It.un] at h
  | lit c =>
    exfalso
    simp only [itU', It.isStar, Bool.false_eq_true, if_false, It.un] at h
    unfold escL at h
    split at h
    · simp at h
    · rename_i hc
      simp at h
      have := h.1
      subst this
      exact hc (by decide)
theorem td_q (t : It) : t.td = [63] ↔ t = .q := by cases t <;> simp [It.td]
theorem mid1 (m j : Nat) (r : Row) (h : r ≠ []) : (pcU m false false j r).flatten = [46] ↔ r.map It.td = [[63]] := by
  have e0 : (pcU m false false j r).flatten = (wrU m j r).flatten := by simp [pcU]
  rw [e0]
  constructor
  · intro e
    cases r with
    | nil => exact absurd rfl h
    | cons t r =>
      rw [wrU, List.flatten_append] at e
      obtain ⟨h1, h2⟩ := it_dot m j t _ [] e (.inl rfl)
      subst h1
      cases r with
      | nil => rfl
      | cons t2 r => exact absurd h2 (wr_ne m _ _ (by simp))
  · intro e
    cases r with
    | nil => exact absurd rfl h
    | cons t r =>
      simp only [List.map_cons, List.cons.injEq, List.map_eq_nil_iff] at e
      obtain ⟨e1, rfl⟩ := e
      rw [(td_q t).mp e1]; rfl
theorem mid2 (m j : Nat) (r : Row) (h : r ≠ []) : (pcU m false false j r).flatten = [46, 46] ↔ r.map It.td = [[63], [63]] := by
  have e0 : (pcU m false false j r).flatten = (wrU m j r).flatten := by simp [pcU]
  constructor
  · intro e
    rw [e0] at e
    cases r with
    | nil => exact absurd rfl h
    | cons t r =>
      rw [wrU, List.flatten_append] at e
      obtain ⟨h1, h2⟩ := it_dot m j t _ [46] e (.inr rfl)
      subst h1
      cases r with
      | nil => simp [wrU] at h2
      | cons t2 r =>
        have h3 : (pcU m false false (j + 0) (t2 :: r)).flatten = [46] := by
          have h2' : (wrU m (j + 0) (t2 :: r)).flatten = [46] := h2
          simpa [pcU] using h2'
        have := (mid1 m (j + 0) (t2 :: r) (by simp)).mp h3
        rw [List.map_cons, this]; rfl
  · intro e
    rw [e0]
    cases r with
    | nil => exact absurd rfl h
    | cons t r =>
      simp only [List.map_cons, List.cons.injEq] at e
      obtain ⟨e1, e2⟩ := e
      cases r with
      | nil => simp at e2
      | cons t2 r =>
        simp only [List.map_cons, List.cons.injEq, List.map_eq_nil_iff] at e2
        obtain ⟨e2, rfl⟩ := e2
        rw [(td_q t).mp e1, (td_q t2).mp e2]; rfl
def keptOf (rows : List Row) : List Nat := keptGo rows.length 0 rows []
theorem kind_mid (m j : Nat) (r : Row) (h : r ≠ []) (p : List Nat) (hp : p = (pcU m false false j r).flatten) :
    (p = [46] ∧ (r.map It.td == [[63]]) = true ∧ (r.map It.td == [[63], [63]]) = false) ∨ (p = [46, 46] ∧ (r.map It.td == [[63]]) = false ∧ (r.map It.td == [[63], [63]]) = true) ∨
    (p ≠ [46] ∧ p ≠ [46, 46] ∧ (r.map It.td == [[63]]) = false ∧ (r.map It.td == [[63], [63]]) = false) := by
  have m1 := mid1 m j r h
  have m2 := mid2 m j r h
  rw [← hp] at m1 m2
  by_cases h1 : p = [46]
  · left
    have := m1.mp h1
    exact ⟨h1, by rw [this]; rfl, by rw [this]; rfl⟩
  · right
    have n1 : (r.map It.td == [[63]]) = false := by
      rw [beq_eq_false_iff_ne]; exact fun e => h1 (m1.mpr e)
    by_cases h2 : p = [46, 46]
    · left
      have := m2.mp h2
      exact ⟨h2, n1, by rw [this]; rfl⟩
    · right
      exact ⟨h1, h2, n1, by rw [beq_eq_false_iff_ne]; exact fun e => h2 (m2.mpr e)⟩
structure KeptOk (rows : List Row) : Prop where
  sorted : (keptOf rows).Pairwise (· < ·)
  lt : ∀ k ∈ keptOf rows, k < rows.length
  len : (keptOf rows).length ≤ 9
  np : (psOf rows).foldl npStep [] = (keptOf rows).map (At0 (psOf rows))
  ne : keptOf rows ≠ []
theorem kept_ok (rows : List Row) (h0 : rows ≠ []) (h4 : rows.length ≤ 4) (h : ∀ r ∈ rows, r ≠ [] ∧ okRow r) : KeptOk rows := by
  match rows, h0, h4, h with
  | [r0], _, _, h =>
    have f0 := pc_first (nSr [r0]) true 0 r0
    have hps : psOf [r0] = [(pcU (nSr [r0]) true true 0 r0).flatten] := rfl
    have hk : keptOf [r0] = [0] := rfl
    constructor
    · rw [hk]; simp
    · rw [hk]; simp
    · rw [hk]; simp
    · rw [hk, hps]
      generalize (pcU (nSr [r0]) true true 0 r0).flatten = p0 at *
      simp [npStep, f0, At0]
    · rw [hk]; simp
  | [r0, r1], _, _, h =>
    have f0 := pc_first (nSr [r0, r1]) false 0 r0
    have f1 := pc_last (nSr [r0, r1]) false (0 + nS r0) r1
    have hps : psOf [r0, r1] = [(pcU (nSr [r0, r1]) true false 0 r0).flatten, (pcU (nSr [r0, r1]) false true (0 + nS r0) r1).flatten] := rfl
    have hk : keptOf [r0, r1] = [0, 1] := rfl
    constructor
    · rw [hk]; simp
    · rw [hk]; simp
    · rw [hk]; simp
    · rw [hk, hps]
      generalize (pcU (nSr [r0, r1]) true false 0 r0).flatten = p0 at *
      generalize (pcU (nSr [r0, r1]) false true (0 + nS r0) r1).flatten = p1 at *
      simp [npStep, f0, f1, At0]
    · rw [hk]; simp
  | [r0, r1, r2], _, _, h =>
    have f0 := pc_first (nSr [r0, r1, r2]) false 0 r0
    have f2 := pc_last (nSr [r0, r1, r2]) false (0 + nS r0 + nS r1) r2
    have k1 := kind_mid (nSr [r0, r1, r2]) (0 + nS r0) r1 (h r1 (by simp)).1 _ rfl
    have hps : psOf [r0, r1, r2] = [(pcU (nSr [r0, r1, r2]) true false 0 r0).flatten, (pcU (nSr [r0, r1, r2]) false false (0 + nS r0) r1).flatten, (pcU (nSr [r0, r1, r2]) false true (0 + nS r0 + nS r1) r2).flatten] := rfl
    generalize (pcU (nSr [r0, r1, r2]) true false 0 r0).flatten = p0 at *
    generalize (pcU (nSr [r0, r1, r2]) false false (0 + nS r0) r1).flatten = p1 at *
    generalize (pcU (nSr [r0, r1, r2]) false true (0 + nS r0 + nS r1) r2).flatten = p2 at *
    have hk : keptOf [r0, r1, r2] = keptGo 3 0 [r0, r1, r2] [] := rfl
    rcases k1 with ⟨a, b, c⟩ | ⟨a, b, c⟩ | ⟨a, a', b, c⟩ <;>
    simp only [keptGo, kStep, b, c] at hk <;>
    simp at hk <;>
    exact ⟨by rw [hk]; simp, by rw [hk]; simp, by rw [hk]; simp, by rw [hk, hps]; simp [npStep, *, At0], by rw [hk]; simp⟩
  | [r0, r1, r2, r3], _, _, h =>
    have f0 := pc_first (nSr [r0, r1, r2, r3]) false 0 r0
    have f3 := pc_last (nSr [r0, r1, r2, r3]) false (0 + nS r0 + nS r1 + nS r2) r3
    have k1 := kind_mid (nSr [r0, r1, r2, r3]) (0 + nS r0) r1 (h r1 (by simp)).1 _ rfl
    have k2 := kind_mid (nSr [r0, r1, r2, r3]) (0 + nS r0 + nS r1) r2 (h r2 (by simp)).1 _ rfl
    have hps : psOf [r0, r1, r2, r3] = [(pcU (nSr [r0, r1, r2, r3]) true false 0 r0).flatten, (pcU (nSr [r0, r1, r2, r3]) false false (0 + nS r0) r1).flatten, (pcU (nSr [r0, r1, r2, r3]) false false (0 + nS r0 + nS r1) r2).flatten, (pcU (nSr [r0, r1, r2, r3]) false true (0 + nS r0 + nS r1 + nS r2) r3).flatten] := rfl
    generalize (pcU (nSr [r0, r1, r2, r3]) true false 0 r0).flatten = p0 at *
    generalize (pcU (nSr [r0, r1, r2, r3]) false false (0 + nS r0) r1).flatten = p1 at *
    generalize (pcU (nSr [r0, r1, r2, r3]) false false (0 + nS r0 + nS r1) r2).flatten = p2 at *
    generalize (pcU (nSr [r0, r1, r2, r3]) false true (0 + nS r0 + nS r1 + nS r2) r3).flatten = p3 at *
    have hk : keptOf [r0, r1, r2, r3] = keptGo 4 0 [r0, r1, r2, r3] [] := rfl
    rcases k1 with ⟨a, b, c⟩ | ⟨a, b, c⟩ | ⟨a, a', b, c⟩ <;> rcases k2 with ⟨d, e, f⟩ | ⟨d, e, f⟩ | ⟨d, d', e, f⟩ <;>
    simp only [keptGo, kStep, b, c, e, f] at hk <;>
    simp at hk <;>
    exact ⟨by rw [hk]; simp, by rw [hk]; simp, by rw [hk]; simp, by rw [hk, hps]; simp [npStep, *, At0], by rw [hk]; simp⟩
end Mine.P
namespace Mine.P
theorem clean_ints : ∀ xs : List Int, cleans (xs.map PV.int) = true
  | [] => rfl
  | x :: r => clean_ints r
theorem eqL_strP (n : Nat) : ∀ xs : List Str, eqL (eqN (n + 1)) (strP xs) (strP xs) = some true
  | [] => rfl
  | x :: r => by
    show (match eqN (n + 1) (.str x) (.str x), eqL (eqN (n + 1)) (strP r) (strP r) with
      | some a, some b => some (a && b)
      | _, _ => none) = _
    rw [eqL_strP n r]
    show some ((x == x) && true) = _
    rw [beq_self_eq_true]; rfl
theorem eqP_strP (xs : List Str) : eqP (.lst (strP xs)) (.lst (strP xs)) = some true := by
  show (if ((strP xs).length == (strP xs).length) = true then eqL (eqN 3) (strP xs) (strP xs) else some false) = _
  rw [beq_self_eq_true, if_pos rfl]
  exact eqL_strP 2 xs
theorem eqL_tdL : ∀ rows : List Row, eqL (eqN 3) (tdL rows) (tdL rows) = some true
  | [] => rfl
  | r :: rs => by
    show (match eqN 3 (.lst (tdP r)) (.lst (tdP r)), eqL (eqN 3) (tdL rs) (tdL rs) with
      | some a, some b => some (a && b)
      | _, _ => none) = _
    rw [eqL_tdL rs]
    have : eqN 3 (.lst (tdP r)) (.lst (tdP r)) = some true := by
      show (if ((tdP r).length == (tdP r).length) = true then eqL (eqN 2) (tdP r) (tdP r) else some false) = _
      rw [beq_self_eq_true, if_pos rfl]
      have := eqL_segP 1 (r.map It.td) (r.map It.td) rfl
      rw [beq_self_eq_true] at this
      exact this
    rw [this]; rfl
theorem eqP_tdL (rows : List Row) : eqP (.lst (tdL rows)) (.lst (tdL rows)) = some true := by
  show (if ((tdL rows).length == (tdL rows).length) = true then eqL (eqN 3) (tdL rows) (tdL rows) else some false) = _
  rw [beq_self_eq_true, if_pos rfl]
  exact eqL_tdL rows
def trF (P W : List Nat) : List PV → Option PV
  | [.str x] => if x = T P then some (.str (T W)) else none
  | _ => none
theorem trF_at (P W : List Nat) : trF P W [.str (T P)] = some (.str (T W)) := by
  show (if T P = T P then some (PV.str (T W)) else none) = _
  rw [if_pos rfl]
theorem trF_spec (ts : List It) (ht : ∀ t ∈ ts, t.tk = true) (hn : ts.length ≤ 900) (hs : nA false ts = true) : TrSpec (trF (tkW ts) (WU ts).flatten) := by
  intro args r h
  unfold trF at h
  split at h
  · rename_i x
    split at h
    · rename_i e
      subst e
      refine ⟨_, rfl, fun a => ?_⟩
      rw [← h]
      exact run_tr a ts ht hn hs
    · cases h
  · cases h
theorem rngs_ok (n : Nat) (h : n ≤ 4) : ∀ is ∈ rngs n, is.Pairwise (· < ·) ∧ (∀ k ∈ is, k < n) ∧ is.length ≤ 9 := by
  have : n = 0 ∨ n = 1 ∨ n = 2 ∨ n = 3 ∨ n = 4 := by omega
  rcases this with rfl | rfl | rfl | rfl | rfl <;> decide
theorem rngs_len (n : Nat) (h : n ≤ 4) : (rngs n).length ≤ 10 := by
  have : n = 0 ∨ n = 1 ∨ n = 2 ∨ n = 3 ∨ n = 4 := by omega
  rcases this with rfl | rfl | rfl | rfl | rfl <;> decide
theorem isL_len (xss : List (List Nat)) : (isL xss).length = xss.length := by simp [isL]
theorem isL_snoc (xss : List (List Nat)) (s : List Nat) : isL xss ++ [.lst (intP s)] = isL (xss ++ [s]) := by simp [isL]
theorem clean_isL : ∀ xss : List (List Nat), cleans (isL xss) = true
  | [] => rfl
  | s :: r => by
    show (clean (.lst (intP s)) && cleans (isL r)) = true
    rw [clean_isL r, Bool.and_true]
    exact clean_intP s
theorem len_le_sum : ∀ (rows : List Row) (r : Row), r ∈ rows → r.length ≤ (rows.map List.length).sum
  | [], r, h => nomatch h
  | s :: rs, r, h => by
    rcases List.mem_cons.mp h with rfl | h
    · simp
    · have := len_le_sum rs r h
      simp only [List.map_cons, List.sum_cons]; omega
def xs0 (ns : List Int) : List Int := (ns.take 10 ++ [48, 1, 49, 8, 33, 1]).take 10
theorem WU_ps (rows : List Row) (h : rows ≠ []) : (WU (toks rows)).flatten = joinL [47] (psOf rows) := by
  have h1 := pcs_gl (nSr rows) rows true 0 h
  have h2 := gl_flat [[47]] (pcsU (nSr rows) true 0 rows)
  rw [h1] at h2
  unfold WU
  rw [toks_nS]
  exact h2
theorem ps_sum (rows : List Row) (hz : ∀ r ∈ rows, r.length ≤ 99) (hn : rows.length ≤ 9) : ((psOf rows).map List.length).sum ≤ 9 * 800 := by
  have := sum_le List.length 800 (psOf rows) (fun p hp => by
    obtain ⟨k, hk, e⟩ := List.mem_iff_getElem.mp hp
    have h1 := (Pc_len rows hz k).2
    rw [← psOf_at] at h1
    unfold At0 at h1
    rw [List.getElem?_eq_getElem hk, Option.getD_some, e] at h1
    exact h1)
  rw [psOf_len] at this
  have h2 : rows.length * 800 ≤ 9 * 800 := Nat.mul_le_mul_right 800 hn
  omega
def ckT (t : Str) : Bool := match runOf om1 999 1 d_check_parenthesis [.str t] with
  | some (.bool b) => b
  | _ => false
theorem law_rows (rows : List Row) (k : Nat) (R : Rows rows k) (hk : k ≤ 10) (ns : List Int) (hnm : runOf om1 99 1 d_law_names [.lst ((xs0 ns).map .int)] = some (encN rows)) :
    fLaw (trF (tkW (toks rows)) (WU (toks rows)).flatten) [.lst (ns.map .int)] = some (.bool true) := by
  have hz : ∀ r ∈ rows, r.length ≤ 99 := fun r hr => by have := len_le_sum rows r hr; have := R.tot; omega
  have hn4 := R.le
  obtain ⟨r0, rs, hrows⟩ : ∃ r0 rs, rows = r0 :: rs := by
    cases rows with
    | nil => exact absurd rfl R.ne
    | cons a b => exact ⟨a, b, rfl⟩
  have hok := R.each
  have hpk := ps_ok rows hok
  have hkept := kept_ok rows R.ne hn4 hok
  have hWps := WU_ps rows R.ne
  have hPj := toks_W rows
  have hpsum := ps_sum rows hz (by omega)
  have hsum : ((rows.map tkW).map List.length).sum ≤ 3 * k := by
    rw [← R.tot, List.map_map]
    have : ∀ r : Row, (tkW r).length ≤ 3 * r.length := by
      intro r
      induction r with
      | nil => simp [tkW]
      | cons t r ih =>
        have : t.sp.length ≤ 3 := by cases t <;> simp [It.sp]
        show (t.sp ++ tkW r).length ≤ _
        simp only [List.length_append, List.length_cons]; omega
    clear hkept hpk hWps hPj hpsum hnm hz hrows hn4 hok
    have key : ∀ rows : List Row, (rows.map (List.length ∘ tkW)).sum ≤ 3 * (rows.map List.length).sum := by
      intro rows
      induction rows with
      | nil => simp
      | cons a b ih =>
        have := this a
        simp only [List.map_cons, List.sum_cons, Function.comp] at ih ⊢
        omega
    exact key rows
  have htk : ∀ r ∈ rows, tkW r ≠ [] ∧ 47 ∉ tkW r := by
    intro r hr
    obtain ⟨h1, h2⟩ := hok r hr
    have sl : ∀ r : Row, (∀ t ∈ r, t.ok = true) → 47 ∉ tkW r := by
      intro r
      induction r with
      | nil => intro _; simp [tkW]
      | cons t r ih =>
        intro h
        show 47 ∉ t.sp ++ tkW r
        rw [List.mem_append, not_or]
        refine ⟨?_, ih fun x hx => h x (by simp [hx])⟩
        have ht := h t (by simp)
        cases t with
        | star => simp [It.sp]
        | q => simp [It.sp]
        | set c =>
          have hc : c ≠ 47 := by intro e; subst e; exact absurd ht (by decide)
          simp [It.sp]; omega
        | lit c =>
          have hc : c ≠ 47 := by intro e; subst e; exact absurd ht (by decide)
          simp [It.sp]; omega
    refine ⟨?_, sl r h2.1⟩
    cases r with
    | nil => exact absurd rfl h1
    | cons t r =>
      intro e
      have : t.sp ++ tkW r = [] := e
      cases t <;> simp [It.sp] at this
  have hnm' : runOf om1 99 1 d_law_names [.lst ((xs0 ns).map .int)] = some (.lst (nmL rows)) := hnm
  generalize hF : trF (tkW (toks rows)) (WU (toks rows)).flatten = F
  have hFat : F [.str (T (tkW (toks rows)))] = some (.str (T (WU (toks rows)).flatten)) := by rw [← hF]; exact trF_at _ _
  rw [hPj, hWps] at hFat
  -- the script
  have s10 : slcP (.lst (ns.map .int)) .none (.int 10) = some (.lst ((ns.take 10).map .int)) := by
    have := sL_to (ns.map PV.int) 10
    rw [← List.map_take] at this
    exact this
  have x10 : slcP (.lst ((ns.take 10).map .int ++ [.int 48, .int 1, .int 49, .int 8, .int 33, .int 1])) .none (.int 10) = some (.lst ((xs0 ns).map .int)) := by
    have := sL_to ((ns.take 10).map PV.int ++ [.int 48, .int 1, .int 49, .int 8, .int 33, .int 1]) 10
    have e : (ns.take 10).map PV.int ++ [.int 48, .int 1, .int 49, .int 8, .int 33, .int 1] = (ns.take 10 ++ [48, 1, 49, 8, 33, 1]).map PV.int := by simp
    rw [e, ← List.map_take] at this
    rw [e]
    exact this
  have hcl : cleans ((ns.take 10).map PV.int ++ [.int 48, .int 1, .int 49, .int 8, .int 33, .int 1]) = true := by
    have e : (ns.take 10).map PV.int ++ [.int 48, .int 1, .int 49, .int 8, .int 33, .int 1] = (ns.take 10 ++ [48, 1, 49, 8, 33, 1]).map PV.int := by simp
    rw [e]; exact clean_ints _
  have z10 : ((ns.take 10).map PV.int).length + 6 ≤ 16777216 := by simp; omega
  -- the texts
  have hc1 := fun (V K : Vs) (H : Hs) => ev_c1 (F := F) rows (by omega) hz V K H
  have hc2 := fun (V K : Vs) (H : Hs) => ev_c2 (F := F) rows (by omega) hz V K H
  have hi0 : ∀ H : Hs, idxP H (.lst (segP (rows.map tkW))) (.int 0) = some (.str (T (tkW r0))) := fun H => idxL H (segP (rows.map tkW)) 0 (.str (T (tkW r0))) (by rw [hrows]; rfl)
  have hs1 : slcP (.lst (segP (rows.map tkW))) (.int 1) .none = some (.lst (segP (rs.map tkW))) := by
    have := sL_from (segP (rows.map tkW)) 1
    rw [hrows] at this ⊢
    exact this
  have hsum' := hsum
  rw [hrows] at hsum'
  simp only [List.map_cons, List.sum_cons] at hsum'
  have hrl : rs.length ≤ 3 := by rw [hrows] at hn4; simpa using hn4
  have hjn := run_join (tkW r0) (rs.map tkW) (htk r0 (by rw [hrows]; simp)) (fun p hp => by
    obtain ⟨r, hr, rfl⟩ := List.mem_map.mp hp
    exact htk r (by rw [hrows]; simp [hr])) (by simp; omega) (by simp only [List.length_map]; omega)
  have ejn : tkW r0 :: rs.map tkW = rows.map tkW := by rw [hrows]; rfl
  rw [ejn] at hjn
  -- the pieces
  obtain ⟨ro, po, hsp⟩ := sp_loop (F := F) (.lst (ns.map .int)) (.lst (nmL rows)) (.lst (segP (rows.map tkW))) (.str (T (joinL [47] (psOf rows)))) (nmL rows) none none (psOf rows) [] (by rw [nmL_len, psOf_len]) hpk (by rw [psOf_len]; omega) (by rw [psOf_len]; simp; omega)
  rw [List.append_nil] at hsp
  have hsp' : execM (om3 F) 99 lw_spl (st1 (.lst (ns.map .int)) (.lst (nmL rows)) (.lst (segP (rows.map tkW))) (.str (T (joinL [47] (psOf rows)))) (joinL [47] (psOf rows)) none none []) = some (.next, st1 (.lst (ns.map .int)) (.lst (nmL rows)) (.lst (segP (rows.map tkW))) (.str (T (joinL [47] (psOf rows)))) [] ro po (psOf rows)) := hsp
  have zs : segP [] = [] := rfl
  have zi : intP [] = [] := rfl
  have zst : strP [] = [] := rfl
  simp only [st1, zs] at hsp'
  have hc3 := fun (V K : Vs) (H : Hs) => ev_c3 (F := F) rows (psOf rows) (by omega) (psOf_len rows) (fun k h h' => by
    obtain ⟨j', r, h1, h2, h3, h4⟩ := pcs_at (nSr rows) rows true 0 k h
    have e1 : (psOf rows)[k] = (pcU (nSr rows) (true && decide (k = 0)) (decide (k + 1 = rows.length)) j' r).flatten := by
      have : (psOf rows)[k]? = some (pcU (nSr rows) (true && decide (k = 0)) (decide (k + 1 = rows.length)) j' r).flatten := by
        unfold psOf; rw [List.getElem?_map, h3]; rfl
      rw [List.getElem?_eq_getElem h'] at this
      exact Option.some.inj this
    have e2 : rows[k] = r := by
      rw [List.getElem?_eq_getElem h] at h2
      exact Option.some.inj h2
    rw [e1, e2]
    exact run_read _ _ _ _ _ (hz r h1)) V K H
  have htd := eqP_tdL rows
  -- the marks
  obtain ⟨ko, io, hmk⟩ := mk_all (F := F) (.lst (ns.map .int)) (.lst (segP (rows.map tkW))) (.str (T (joinL [47] (psOf rows)))) (.str (T [])) ro po rows (.lst (segP (psOf rows))) hz (by omega)
  have hkd : keptGo rows.length 0 rows [] = keptOf rows := rfl
  rw [hkd] at hmk
  simp only [st2, nc0, zi] at hmk
  -- the choices
  have hc4 := fun (V K : Vs) (H : Hs) => ev_c4 (F := F) rows R.ne hn4 V K H
  have hrg := rngs_len rows.length hn4
  have zrg : (rngs rows.length).length + 1 ≤ 16777216 := by omega
  have hch : ∀ is ∈ rngs rows.length ++ [keptOf rows], is.Pairwise (· < ·) ∧ (∀ k ∈ is, k < rows.length) ∧ is.length ≤ 9 := by
    intro is his
    rcases List.mem_append.mp his with h | h
    · exact rngs_ok rows.length hn4 is h
    · rw [List.mem_singleton.mp h]
      exact ⟨hkept.sorted, hkept.lt, hkept.len⟩
  have hxl : (rngs rows.length ++ [keptOf rows]).length ≤ 11 := by simp; omega
  obtain ⟨so, to, ho, no, hfn⟩ := fn_loop (F := F) (.lst (ns.map .int)) (.lst (segP (rows.map tkW))) (.str (T (joinL [47] (psOf rows)))) (.str (T [])) ro po rows R.ne hz (keptOf rows) ko io (.lst (isL (rngs rows.length ++ [keptOf rows]))) (rngs rows.length ++ [keptOf rows]) none none none none [] [] (fun is his => (hch is his).2) (by simp only [List.length_nil]; omega) (by simp only [List.length_nil]; omega)
  rw [List.nil_append, List.nil_append] at hfn
  have hfn' : execM (om3 F) 99 lw_fnl (st3 (.lst (ns.map .int)) (.lst (segP (rows.map tkW))) (.str (T (joinL [47] (psOf rows)))) (.str (T [])) ro po rows (keptOf rows) ko io (.lst (isL (rngs rows.length ++ [keptOf rows]))) none none none none [] []) = some (.next, st3 (.lst (ns.map .int)) (.lst (segP (rows.map tkW))) (.str (T (joinL [47] (psOf rows)))) (.str (T [])) ro po rows (keptOf rows) ko io (.lst (isL (rngs rows.length ++ [keptOf rows]))) so to ho no ((rngs rows.length ++ [keptOf rows]).map fun is => T (selT rows is)) ((rngs rows.length ++ [keptOf rows]).map fun is => if nb rows is then T (selT rows is) else bad)) := hfn
  have hck : ∀ is ∈ rngs rows.length ++ [keptOf rows], runOf om1 999 1 d_check_parenthesis [.str (T (selT rows is))] = some (.bool (nb rows is)) := fun is his =>
    run_check_sel rows hok hz is (hch is his).1 (hch is his).2.1 (hch is his).2.2
  have hckT : ∀ is ∈ rngs rows.length ++ [keptOf rows], ckT (T (selT rows is)) = nb rows is := fun is his => by
    unfold ckT; rw [hck is his]
  have hpv := run_pv ((rngs rows.length ++ [keptOf rows]).map fun is => T (selT rows is)) ckT (fun t ht => by
    obtain ⟨is, his, rfl⟩ := List.mem_map.mp ht
    rw [hckT is his]; exact hck is his) (by rw [List.length_map]; omega)
  have hdue : ((rngs rows.length ++ [keptOf rows]).map fun is => T (selT rows is)).map (fun t => if ckT t then t else bad) = (rngs rows.length ++ [keptOf rows]).map fun is => if nb rows is then T (selT rows is) else bad := by
    rw [List.map_map]
    exact List.map_congr_left fun is his => by
      show (if ckT (T (selT rows is)) then _ else _) = _
      rw [hckT is his]
  rw [hdue] at hpv
  have hlast : strP ((rngs rows.length ++ [keptOf rows]).map fun is => T (selT rows is)) = strP ((rngs rows.length).map fun is => T (selT rows is)) ++ [.str (T (selT rows (keptOf rows)))] := by
    simp [strP]
  have hnp := run_normpath (psOf rows) (by intro e; have := psOf_len rows; rw [e, hrows] at this; simp at this) hpk (by rw [psOf_len]; omega) (by omega) (by
    rw [hkept.np]
    intro e
    cases hq : keptOf rows with
    | nil => exact hkept.ne hq
    | cons a b =>
      have ha := hkept.lt a (by rw [hq]; simp)
      have h1 : At0 (psOf rows) a ≠ [] := by
        have hl : a < (psOf rows).length := by rw [psOf_len]; exact ha
        unfold At0
        rw [List.getElem?_eq_getElem hl, Option.getD_some]
        exact (hpk _ (List.getElem_mem hl)).1
      rw [hq, List.map_cons] at e
      cases hb : b.map (At0 (psOf rows)) with
      | nil => rw [hb] at e; exact h1 e
      | cons c d => rw [hb] at e; simp [joinL] at e)
  rw [hkept.np, selT_ps] at hnp
  simp only [st3, zst] at hfn'
  generalize (rngs rows.length ++ [keptOf rows]).map (fun is => T (selT rows is)) = given at hfn' hpv hlast
  generalize (rngs rows.length ++ [keptOf rows]).map (fun is => if nb rows is then T (selT rows is) else bad) = due at hfn' hpv
  have hgl : idxP (mkH (mksR 0 rows) ++ [strP given, strP due]) (.loc (rows.length + 1)) (.int (-1)) = some (.str (T (selT rows (keptOf rows)))) := idxLast _ _ _ _ (by rw [g13, hlast])
  have ladd : rows.length + 1 + 1 = rows.length + 2 := rfl
  have lapp : mkH (mksR 0 rows) ++ [[]] ++ [[]] = mkH (mksR 0 rows) ++ [[], []] := by rw [List.append_assoc]; rfl
  have heq := eqP_strP due
  unfold fLaw runOf runDf
  rw [show d_law.body = b_law from rfl, b_law]
  simp only [d_law, hcl, s10, x10, z10, om3_names, hnm', clean_ints, clean_nmL, hc1, hi0, hs1, om3_join, om3_translate, clean_segP, hjn, hFat, zs, hsp', hc2, li_e, hc3, htd, clean_tdL, eqP_str, T_beq, hmk, hc4, clean_intP, clean_isL, isL_len, zrg, isL_snoc, mkH_len, mks_len, List.length_append, List.length_singleton, ladd, lapp, hfn', lw_r1, lw_r2, om3_np, om3_pv, hnp, hgl, g13, g14, frzAll_strP, hpv, heq, eqcO, eL, E1, E2, E3, E4, E5, Nat.reduceSub, Nat.reduceAdd, Nat.reduceLeDiff, Nat.reduceLT, reduceCtorEq, Int.reduceLT, Int.reduceLE, Int.reduceBEq, Nat.reduceBNe, Nat.reduceBEq, Nat.reduceMul]
theorem plain_law : ∀ ns : List Int, ns.length ≤ 63 → ∃ F, TrSpec F ∧ fLaw F [.lst (ns.map .int)] = some (.bool true) := by
  intro ns hns
  have hl : (xs0 ns).length ≤ 10 := by unfold xs0; simp; omega
  have hne : xs0 ns ≠ [] := by
    intro e
    have := congrArg List.length e
    unfold xs0 at this
    simp at this
  obtain ⟨rows, R, h⟩ := run_names (xs0 ns) hne (by omega)
  have hn := toks_len rows
  have ht := R.tot
  have hle := R.le
  exact ⟨_, trF_spec (toks rows) (toks_tk rows R.each) (by omega) (toks_nA rows R.each), law_rows rows _ R hl ns h⟩
end Mine.P
theorem PySem.Challenge.cw_ik0131_01_holds : PySem.Challenge.rw_ik0131_01.Holds :=
  Mine.fin_all Mine.P.plain_law
