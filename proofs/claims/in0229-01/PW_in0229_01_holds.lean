import PyProof.Rows.All
import Wide.All
import OpenK.AllK
import Wide.FinOn
import KE.KFromBytes
import KE.KLcPair
import KE.KSuperObj
import Lean
import PySem.Challenge.RW_in0229_01
set_option Elab.async false
section
open PySem PySem.W PyProof.Rows
set_option Elab.async false
set_option maxRecDepth 100000
set_option maxHeartbeats 0
namespace Mini
local macro_rules | `(tactic| o_head $_) => `(tactic| assumption)
theorem hd (h : PySem.Challenge.rw_in0229_01.row.Holds) : PySem.Challenge.rw_in0229_01.row.Holds := by k_head
end Mini
end

section
open PySem PySem.W PyProof.Rows
set_option Elab.async false
set_option maxRecDepth 100000
set_option maxHeartbeats 0
namespace Mini
noncomputable abbrev hk : Hook := kmHook hd.heap_1 [2, 3, 6, 11, 12, 32, 34, 35, 37, 38, 42, 43, 44, 46, 47, 49, 50, 52, 56, 58, 59, 61, 62, 63, 65, 66, 68, 69, 70, 72, 73, 75, 76, 77, 79, 80, 82, 83, 84, 86, 87, 89, 90, 91, 94, 95, 96, 99, 100, 101, 104, 105] (fun _ => by kernel_rfl) [64]
/-- the text less its two loose lines and its names -/
noncomputable def vw : Program := { PySem.Challenge.pw_in0229_01 with main := { PySem.Challenge.pw_in0229_01.main with body := match PySem.Challenge.pw_in0229_01.main.body with
  | [a, _, b, _, _, c, _, _, d, _, e, f, _, g, h, i, j, k] => [a, b, c, d, e, f, g, h, i, j, k]
  | _ => [] } }
noncomputable abbrev vl : List Str := [Str.ofString "_twin_re_1", Str.ofString "_special_chars_map"]
noncomputable abbrev xt (s : Shared) : Bool := xlAt vw [] s && recOk (RowW.records PySem.Challenge.rw_in0229_01.row.toRowW) s
noncomputable abbrev Run (w : World) : Prop :=
  (openEnds treeTable PySem.Challenge.rw_in0229_01.row.prog w 3510).map (fun s => (openSeen vw vl (importedModules PySem.Challenge.rw_in0229_01.row.prog.main.body) xt true s, Hook.obs hk s)) = some (openGood vw vl, Hook.val hk w)
noncomputable abbrev r1 : String := "comprehension-iter-twice"
noncomputable abbrev r2 : String := "special-get-raises"
theorem lift_run {ie} {tr} {fm} {os} {tt} (h1 : importEnds = ie) (h2 : topRun = tr) (h3 : fenceModules? = fm) (h4 : openSeen = os) (h5 : treeTable = tt) {w : World}
    (h : (((ie tt (opening PySem.Challenge.rw_in0229_01.row.prog) w 3510 (start (opening PySem.Challenge.rw_in0229_01.row.prog)).1 (start (opening PySem.Challenge.rw_in0229_01.row.prog)).2).bind (fm PySem.Challenge.rw_in0229_01.row.prog)).bind fun s₀ =>
      match s₀.heap.isNs mainGlobals && s₀.gens.size == 0 with
      | true => (tr tt PySem.Challenge.rw_in0229_01.row.prog w s₀.heap.objs.size (s₀.heap.nsMap mainGlobals (Str.ofString "__annotations__")) 3510 s₀ (topStub PySem.Challenge.rw_in0229_01.row.prog)).bind fun s₁ =>
        match staticsOk (importedModules PySem.Challenge.rw_in0229_01.row.prog.main.body) s₀.heap s₁.heap && namesBound PySem.Challenge.rw_in0229_01.row.prog s₁.heap && gensDone s₁ && laidKept s₀.heap s₁.heap with
        | true => some s₁
        | false => none
      | false => none).map (fun s => (os vw vl (importedModules PySem.Challenge.rw_in0229_01.row.prog.main.body) xt true s, Hook.obs hk s)) = some (openGood vw vl, Hook.val hk w)) : Run w := by
  subst h1 h2 h3 h4 h5
  exact h
theorem run_ff (w : World) : Run ((w.withFollow r2 false).withFollow r1 false) :=
  lift_run PySem.W.Fast.te10274390034422433532 PySem.W.Fast.te14082659384304107361 PySem.W.Fast.te14289696077712309145 PySem.W.Fast.te4187177175401517315 PySem.W.Fast.te14364793385576792824 (by kernel_rfl)
theorem run_ft (w : World) : Run ((w.withFollow r2 true).withFollow r1 false) :=
  lift_run PySem.W.Fast.te10274390034422433532 PySem.W.Fast.te14082659384304107361 PySem.W.Fast.te14289696077712309145 PySem.W.Fast.te4187177175401517315 PySem.W.Fast.te14364793385576792824 (by kernel_rfl)
theorem run_tf (w : World) : Run ((w.withFollow r2 false).withFollow r1 true) :=
  lift_run PySem.W.Fast.te10274390034422433532 PySem.W.Fast.te14082659384304107361 PySem.W.Fast.te14289696077712309145 PySem.W.Fast.te4187177175401517315 PySem.W.Fast.te14364793385576792824 (by kernel_rfl)
theorem run_tt (w : World) : Run ((w.withFollow r2 true).withFollow r1 true) :=
  lift_run PySem.W.Fast.te10274390034422433532 PySem.W.Fast.te14082659384304107361 PySem.W.Fast.te14289696077712309145 PySem.W.Fast.te4187177175401517315 PySem.W.Fast.te14364793385576792824 (by kernel_rfl)
theorem left : LeftO PySem.Challenge.rw_in0229_01.row.prog vw vl xt (Hook.obs hk) (Hook.val hk) 3510 := fun w =>
  byRow2 (P := Run) r1 (fun w => byRow2 (P := fun w => Run (w.withFollow r1 false)) r2 run_ff run_ft w) (fun w => byRow2 (P := fun w => Run (w.withFollow r1 true)) r2 run_tf run_tt w) w
end Mini
end

section
/-! The mini language: a fragment of Python as data, values as trees, an evaluator. -/
namespace Mini

noncomputable abbrev S := List Nat

inductive D where
  | none | bool (b : Bool) | int (i : Int) | str (s : S) | tup (a b : D) | lst (l : List D) | star

inductive X where
  | d (v : D) | own (l : List D) | bnd (x : Nat)

inductive Cmp where
  | eq | ne | lt | le | gt | ge | is | isNot | mem | notMem

inductive E where
  | no
  | none | bool (b : Bool) | int (i : Int) | str (s : S)
  | v (x : Nat)
  | neg (i : Nat)
  | not (a : E) | and (a b : E) | or (a b : E)
  | cmp (o : Cmp) (a b : E) | cmp2 (o₁ o₂ : Cmp) (a b c : E)
  | add (a b : E) | sub (a b : E) | mod (a b : E)
  | ite (c a b : E)
  | idx (a i : E)
  | slcAB (a lo hi : E) | slcA (a lo : E) | slcB (a hi : E)
  | tup (a b : E) | lnil | lcons (a r : E)
  | len (a : E) | any (a : E) | lrange (a b : E)
  | strip (a : E) | repl (a : E) (p q : S) | find (a : E) (p : S) (i j : E) | join (sep : S) (a : E)
  | call1 (f : Nat) (a : E) | call2 (f : Nat) (a b : E) | call3 (f : Nat) (a b c : E)
  | fstr (pre : S) (a : E) (post : S)
  | comp (elt : E) (x : Nat) (src : E) | compIf (elt : E) (x : Nat) (src cond : E) | compT (elt : E) (x y : Nat) (src : E)
  | joinRep (sep : S) (x : Nat) (src : E) (p q p' q' : S)
  | reSub (a : E)
  | lhead (a : E) (n : Nat)
  | isStr (a : E) | mapT (a : E)

inductive T where
  | no | skip | seq (a b : T)
  | asg (x : Nat) (e : E) | own (x : Nat) (e : E) | asgC (x : Nat) (e : E)
  | asg2 (x y : Nat) (a b : E) | unp (x y : Nat) (e : E) | aug (x : Nat) (e : E)
  | app (x : Nat) (e : E) | bind (y x : Nat) | appB (y : Nat) (e : E) | augLast (x : Nat) (s : S)
  | ifs (c : E) (a b : T) | while (c : E) (b : T)
  | for1 (x : Nat) (src : E) (b : T) | for2 (x y : Nat) (src : E) (b : T) | forEn (k x y : Nat) (src : E) (b : T) | forDn (k : Nat) (a : E) (b : T)
  | ret (e : E) | assert (e : E) | brk | freeze (x : Nat)

inductive Fl where
  | next | brk | ret (d : D)

noncomputable abbrev Env := List (Option X)
noncomputable def getV (ρ : Env) (x : Nat) : Option X := (ρ[x]?).join
noncomputable def setV (ρ : Env) (x : Nat) (v : X) : Env := ρ.set x (some v)

noncomputable def asD : X → Option D
  | .d v => some v
  | _ => none
noncomputable def asL : X → Option (List D)
  | .d (.lst l) => some l
  | .own l => some l
  | _ => none
/-- a list that turns no more -/
noncomputable def asF : X → Option (List D)
  | .d (.lst l) => some l
  | _ => none
/-- what may be walked: a list's items, a text's signs -/
noncomputable def asIt : X → Option (List D)
  | .d (.lst l) => some l
  | .own l => some l
  | .d (.str s) => some (s.map fun c => .str [c])
  | _ => none
noncomputable def asI : X → Option Int
  | .d (.int i) => some i
  | _ => none
noncomputable def asS : X → Option S
  | .d (.str s) => some s
  | _ => none
noncomputable def asB : X → Option Bool
  | .d (.bool b) => some b
  | _ => none
noncomputable def truth : X → Option Bool
  | .d (.bool b) => some b
  | .d (.str s) => if s.length ≤ 4096 then some (!s.isEmpty) else none
  | .d (.lst l) => if l.length ≤ 4096 then some (!l.isEmpty) else none
  | .own l => if l.length ≤ 4096 then some (!l.isEmpty) else none
  | _ => none

/-- the greatest length that a text or a list may have here -/
noncomputable def cap : Nat := 4096
noncomputable def icap : Nat := 1048576
noncomputable def okI (i : Int) : Option X := if -1048576 ≤ i ∧ i ≤ 1048576 then some (.d (.int i)) else none
noncomputable def okS (s : S) : Option X := if s.length ≤ 4096 then some (.d (.str s)) else none
noncomputable def okL (l : List D) : Option X := if l.length ≤ 4096 then some (.d (.lst l)) else none

/-- the place that an index means -/
noncomputable def at? (i : Int) (n : Nat) : Option Nat :=
  if 0 ≤ i then (if i < n then some i.toNat else none) else (if 0 ≤ i + n then some (i + n).toNat else none)
/-- a slice's end, cut to the text -/
noncomputable def cut (i : Int) (n : Nat) : Nat := if 0 ≤ i then min i.toNat n else (i + n).toNat

noncomputable def leS : S → S → Bool
  | [], _ => true
  | _ :: _, [] => false
  | a :: x, b :: y => if a < b then true else if a = b then leS x y else false

noncomputable def replF (p q : S) : Nat → S → S
  | 0, x => x
  | _ + 1, [] => []
  | n + 1, c :: x => if p.isPrefixOf (c :: x) then q ++ replF p q n ((c :: x).drop p.length) else c :: replF p q n x
/-- x.replace(p, q), p not empty -/
noncomputable def repl (p q x : S) : S := replF p q (x.length + 1) x

noncomputable def isSp (c : Nat) : Bool := c == 32 || (9 ≤ c && c ≤ 13) || (28 ≤ c && c ≤ 31)
noncomputable def stripS (x : S) : S := (((x.dropWhile isSp).reverse).dropWhile isSp).reverse

noncomputable def joinS (sep : S) : List S → S
  | [] => []
  | [x] => x
  | x :: r => x ++ sep ++ joinS sep r

/-- the first place of c at or behind i and ahead of j, or -1 -/
noncomputable def findF (c : Nat) (x : S) (i j : Nat) : Int := match (List.range (j - i)).find? (fun k => x[i + k]? == some c) with
  | some k => ((i + k : Nat) : Int)
  | none => -1

noncomputable def strs? : List D → Option (List S)
  | [] => some []
  | .str s :: r => (strs? r).map (s :: ·)
  | _ => none
noncomputable def bools? : List D → Option (List Bool)
  | [] => some []
  | .bool s :: r => (bools? r).map (s :: ·)
  | _ => none
noncomputable def ints? : List D → Option (List Int)
  | [] => some []
  | .int s :: r => (ints? r).map (s :: ·)
  | _ => none

noncomputable def cmpS (o : Cmp) (x y : S) : Option Bool := match o with
  | .eq => some (x == y)
  | .ne => some (x != y)
  | .le => some (leS x y)
  | .gt => some (!leS x y)
  | .mem => match x with
    | [c] => some (y.contains c)
    | _ => none
  | .notMem => match x with
    | [c] => some (!y.contains c)
    | _ => none
  | _ => none
noncomputable def cmpI (o : Cmp) (x y : Int) : Option Bool := match o with
  | .eq => some (x == y)
  | .lt => some (decide (x < y))
  | .le => some (decide (x ≤ y))
  | .gt => some (decide (x > y))
  | .ge => some (decide (x ≥ y))
  | _ => none
noncomputable def cmpB (o : Cmp) (x y : Bool) : Option Bool := match o with
  | .eq => some (x == y)
  | .is => some (x == y)
  | .isNot => some (x != y)
  | _ => none
noncomputable def cmpN (o : Cmp) (b : Bool) : Option Bool := match o with
  | .is => some b
  | .isNot => some (!b)
  | _ => none
noncomputable def cmpM (o : Cmp) (r : Option Bool) : Option Bool := match o with
  | .mem => r
  | _ => none
noncomputable def pairHas (s : S) : D → D → Option Bool
  | .str a, .str b => some (s == a || s == b)
  | _, _ => none
noncomputable def cmpD (o : Cmp) : D → D → Option Bool
  | .str x, .str y => cmpS o x y
  | .int x, .int y => cmpI o x y
  | .bool x, .bool y => cmpB o x y
  | .str _, .star => cmpN o false
  | .star, .star => cmpN o true
  | .int i, .lst l => cmpM o ((ints? l).map (·.contains i))
  | .bool i, .lst l => cmpM o ((bools? l).map (·.contains i))
  | .str s, .tup a b => cmpM o (pairHas s a b)
  | _, _ => none
noncomputable def cmpX (o : Cmp) : X → X → Option Bool
  | .d a, .d b => cmpD o a b
  | _, _ => none

noncomputable def isV : E → Bool
  | .v _ => true
  | _ => false

noncomputable def addX : X → X → Option X
  | .d (.int i), .d (.int j) => okI (i + j)
  | .d (.str i), .d (.str j) => okS (i ++ j)
  | x, y => do okL ((← asL x) ++ (← asL y))
noncomputable def subX (x y : X) : Option X := do okI ((← asI x) - (← asI y))
noncomputable def modX (x y : X) : Option X := do
  let i ← asI x
  let j ← asI y
  if 0 < j then okI (i % j) else none
noncomputable def idxS (s : S) (i : Int) : Option X := do
  if 4096 < s.length then none else
  let k ← at? i s.length
  return .d (.str [← s[k]?])
noncomputable def idxL (l : List D) (i : Int) : Option X := do
  if 4096 < l.length then none else
  let k ← at? i l.length
  return .d (← l[k]?)
/-- b: it is a name's list or a text -/
noncomputable def idxX (b : Bool) (x y : X) : Option X := do
  let i ← asI y
  match x with
  | .d (.str s) => idxS s i
  | x => if b then do idxL (← asL x) i else none
noncomputable def slcX (x : X) (lo hi : Option X) : Option X := do
  let s ← asS x
  if 4096 < s.length then none else
  match lo, hi with
  | some lo, some hi => do okS ((s.take (cut (← asI hi) s.length)).drop (cut (← asI lo) s.length))
  | some lo, none => do okS (s.drop (cut (← asI lo) s.length))
  | none, some hi => do okS (s.take (cut (← asI hi) s.length))
  | none, none => none
noncomputable def tupX (x y : X) : Option X := do return .d (.tup (← asD x) (← asD y))
noncomputable def lenX : X → Option X
  | .d (.str s) => okI s.length
  | x => do okI (← asL x).length
noncomputable def anyX (x : X) : Option X := do return .d (.bool ((← bools? (← asL x)).any id))
noncomputable def lrangeX (x y : X) : Option X := do
  let i ← asI x
  let j ← asI y
  if -1048576 ≤ i ∧ i ≤ 1048576 ∧ -1048576 ≤ j ∧ j ≤ 1048576 then okL ((List.range (j - i).toNat).map fun (k : Nat) => D.int (i + (k : Int))) else none
noncomputable def stripX (x : X) : Option X := do
  let s ← asS x
  if s.all (· < 128) && decide (s.length ≤ 4096) then okS (stripS s) else none
noncomputable def replX (p q : S) (x : X) : Option X := do
  let s ← asS x
  if p.isEmpty || p == q || 16 < q.length || 4096 < s.length then none else okS (repl p q s)
noncomputable def findX (p : S) (x i j : X) : Option X := do
  let s ← asS x
  let i ← asI i
  let j ← asI j
  match p with
  | [c] => if 0 ≤ i ∧ 0 ≤ j ∧ j ≤ s.length then okI (findF c s i.toNat j.toNat) else none
  | _ => none
noncomputable def joinX (sep : S) (x : X) : Option X := do
  let l ← asL x
  if l.length ≤ 4096 ∧ sep.length ≤ 16 then okS (joinS sep (← strs? l)) else none
noncomputable def fstrX (pre post : S) (x : X) : Option X := do okS (pre ++ (← asS x) ++ post)
noncomputable def joinRepX (sep p q p' q' : S) (x : X) : Option X := do
  let l ← strs? (← asL x)
  if 4096 < l.length || 16 < sep.length || p.isEmpty || p == q || 16 < q.length || p'.isEmpty || p' == q' || 16 < q'.length || l.any (fun s => 4096 < s.length || 4096 < (repl p q s).length) then none
  else okS (joinS sep (l.map fun s => repl p' q' (repl p q s)))
/-- the texts that are looked through for set signs -/
noncomputable def reTexts : List S := [[32, 9, 10], [34, 40, 45, 41, 47, 58, 45, 59, 92, 92, 92, 45], [32, 34, 40, 45, 41, 47, 58, 45, 59, 92, 92]]
noncomputable def reSubX (x : X) : Option X := do
  let s ← asS x
  if reTexts.contains s then okS s else none

/-- the signs that escape leaves as they are -/
noncomputable def escOk (c : Nat) : Bool := (48 ≤ c && c ≤ 57) || (65 ≤ c && c ≤ 90) || (97 ≤ c && c ≤ 122)
noncomputable def mapX (x : X) : Option X := match x with
  | .d (.str [c]) => if escOk c then some (.d (.str [c])) else none
  | _ => none

variable (prim : Nat → List D → Option D)

noncomputable def evalE : E → Env → Option X
  | .no, _ => none
  | .none, _ => some (.d .none)
  | .bool b, _ => some (.d (.bool b))
  | .int i, _ => okI i
  | .str s, _ => okS s
  | .v x, ρ => getV ρ x
  | .neg i, _ => okI (-(i : Int))
  | .not a, ρ => do return .d (.bool (!(← truth (← evalE a ρ))))
  | .and a b, ρ => do
    let x ← evalE a ρ
    if ← truth x then evalE b ρ else return x
  | .or a b, ρ => do
    let x ← evalE a ρ
    if ← truth x then return x else evalE b ρ
  | .cmp o a b, ρ => do
    let x ← evalE a ρ
    let y ← evalE b ρ
    return .d (.bool (← cmpX o x y))
  | .cmp2 o₁ o₂ a b c, ρ => do
    let x ← evalE a ρ
    let y ← evalE b ρ
    if ← cmpX o₁ x y then
      let z ← evalE c ρ
      return .d (.bool (← cmpX o₂ y z))
    else return .d (.bool false)
  | .add a b, ρ => do
    let x ← evalE a ρ
    let y ← evalE b ρ
    addX x y
  | .sub a b, ρ => do
    let x ← evalE a ρ
    let y ← evalE b ρ
    subX x y
  | .mod a b, ρ => do
    let x ← evalE a ρ
    let y ← evalE b ρ
    modX x y
  | .ite c a b, ρ => do if ← truth (← evalE c ρ) then evalE a ρ else evalE b ρ
  | .idx a i, ρ => do
    let x ← evalE a ρ
    let y ← evalE i ρ
    idxX (isV a) x y
  | .slcAB a lo hi, ρ => do
    let x ← evalE a ρ
    let i ← evalE lo ρ
    let j ← evalE hi ρ
    slcX x (some i) (some j)
  | .slcA a lo, ρ => do
    let x ← evalE a ρ
    let i ← evalE lo ρ
    slcX x (some i) none
  | .slcB a hi, ρ => do
    let x ← evalE a ρ
    let j ← evalE hi ρ
    slcX x none (some j)
  | .tup a b, ρ => do
    let x ← evalE a ρ
    let y ← evalE b ρ
    tupX x y
  | .lnil, _ => some (.d (.lst []))
  | .lcons a r, ρ => do
    let x ← asD (← evalE a ρ)
    let l ← asL (← evalE r ρ)
    okL (x :: l)
  | .len a, ρ => do lenX (← evalE a ρ)
  | .any a, ρ => do anyX (← evalE a ρ)
  | .lrange a b, ρ => do
    let x ← evalE a ρ
    let y ← evalE b ρ
    lrangeX x y
  | .strip a, ρ => do stripX (← evalE a ρ)
  | .repl a p q, ρ => do replX p q (← evalE a ρ)
  | .find a p i j, ρ => do
    let x ← evalE a ρ
    let y ← evalE i ρ
    let z ← evalE j ρ
    findX p x y z
  | .join sep a, ρ => do joinX sep (← evalE a ρ)
  | .call1 f a, ρ => do
    let x ← asD (← evalE a ρ)
    return .d (← prim f [x])
  | .call2 f a b, ρ => do
    let x ← asD (← evalE a ρ)
    let y ← asD (← evalE b ρ)
    return .d (← prim f [x, y])
  | .call3 f a b c, ρ => do
    let x ← asD (← evalE a ρ)
    let y ← asD (← evalE b ρ)
    let z ← asD (← evalE c ρ)
    return .d (← prim f [x, y, z])
  | .fstr pre a post, ρ => do fstrX pre post (← evalE a ρ)
  | .comp elt x src, ρ => do
    let l ← asIt (← evalE src ρ)
    if 4096 < l.length then none else
    let r ← l.mapM fun d => do return [← asD (← evalE elt (setV ρ x (.d d)))]
    okL r.flatten
  | .compIf elt x src c, ρ => do
    let l ← asIt (← evalE src ρ)
    if 4096 < l.length then none else
    let r ← l.mapM fun d => do
      if ← truth (← evalE c (setV ρ x (.d d))) then do return [← asD (← evalE elt (setV ρ x (.d d)))] else return []
    okL r.flatten
  | .compT elt x y src, ρ => do
    let l ← asL (← evalE src ρ)
    if 4096 < l.length then none else
    let r ← l.mapM fun d => match d with
      | .tup a b => do return [← asD (← evalE elt (setV (setV ρ x (.d a)) y (.d b)))]
      | _ => none
    okL r.flatten
  | .joinRep sep _ src p q p' q', ρ => do joinRepX sep p q p' q' (← evalE src ρ)
  | .reSub a, ρ => do reSubX (← evalE a ρ)
  | .isStr a, ρ => do
    let _ ← asS (← evalE a ρ)
    return .d (.bool true)
  | .mapT a, ρ => do mapX (← evalE a ρ)
  | .lhead a n, ρ => do
    let l ← asL (← evalE a ρ)
    if 4096 < l.length then none else okL (l.take n)

noncomputable def whileN (test : Env → Option Bool) (body : Env → Option (Fl × Env)) : Nat → Env → Option (Fl × Env)
  | 0, _ => none
  | n + 1, ρ => do
    if ← test ρ then
      match ← body ρ with
      | (.next, ρ') => whileN test body n ρ'
      | (.brk, ρ') => return (.next, ρ')
      | (.ret d, ρ') => return (.ret d, ρ')
    else return (.next, ρ)

noncomputable def forN (body : D → Env → Option (Fl × Env)) : List D → Env → Option (Fl × Env)
  | [], ρ => some (.next, ρ)
  | d :: r, ρ => do
    match ← body d ρ with
    | (.next, ρ') => forN body r ρ'
    | (.brk, ρ') => return (.next, ρ')
    | (.ret d, ρ') => return (.ret d, ρ')

noncomputable def enum : Nat → List D → List D
  | _, [] => []
  | k, d :: r => .tup (.int k) d :: enum (k + 1) r

noncomputable def evalS (fuel : Nat) : T → Env → Option (Fl × Env)
  | .no, _ => none
  | .skip, ρ => some (.next, ρ)
  | .seq a b, ρ => do
    match ← evalS fuel a ρ with
    | (.next, ρ') => evalS fuel b ρ'
    | r => return r
  | .asg x e, ρ => do return (.next, setV ρ x (.d (← asD (← evalE prim e ρ))))
  | .asgC x e, ρ => do return (.next, setV ρ x (.d (← asD (← evalE prim e ρ))))
  | .own x e, ρ => do
    let l ← asL (← evalE prim e ρ)
    if 4096 < l.length then none else
    if ρ.any (fun o => match o with | some (.bnd y) => y == x | _ => false) then none else return (.next, setV ρ x (.own l))
  | .asg2 x y a b, ρ => do
    let u ← asD (← evalE prim a ρ)
    let v ← asD (← evalE prim b ρ)
    return (.next, setV (setV ρ y (.d v)) x (.d u))
  | .unp x y e, ρ => do
    match ← asD (← evalE prim e ρ) with
    | .tup u v => return (.next, setV (setV ρ x (.d u)) y (.d v))
    | _ => none
  | .aug x e, ρ => do
    let i ← asI (← getV ρ x)
    let j ← asI (← evalE prim e ρ)
    let r ← okI (i + j)
    return (.next, setV ρ x r)
  | .app x e, ρ => do
    match ← getV ρ x with
    | .own l => do
      let d ← asD (← evalE prim e ρ)
      if l.length < 4096 then return (.next, setV ρ x (.own (l ++ [d]))) else none
    | _ => none
  | .bind y x, ρ => do
    match ← getV ρ x with
    | .own _ => return (.next, setV ρ y (.bnd x))
    | _ => none
  | .appB y e, ρ => do
    match ← getV ρ y with
    | .bnd x => match ← getV ρ x with
      | .own l => do
        let d ← asD (← evalE prim e ρ)
        if l.length < 4096 then return (.next, setV ρ x (.own (l ++ [d]))) else none
      | _ => none
    | _ => none
  | .augLast x s, ρ => do
    match ← getV ρ x with
    | .own l => match l.getLast? with
      | some (.str z) => do
        let .d r ← okS (z ++ s) | none
        return (.next, setV ρ x (.own (l.dropLast ++ [r])))
      | _ => none
    | _ => none
  | .ifs c a b, ρ => do if ← truth (← evalE prim c ρ) then evalS fuel a ρ else evalS fuel b ρ
  | .while c b, ρ => whileN (fun ρ => do truth (← evalE prim c ρ)) (evalS fuel b) fuel ρ
  | .for1 x src b, ρ => do
    forN (fun d ρ => evalS fuel b (setV ρ x (.d d))) (← asF (← evalE prim src ρ)) ρ
  | .for2 x y src b, ρ => do
    forN (fun d ρ => match d with
      | .tup u v => evalS fuel b (setV (setV ρ x (.d u)) y (.d v))
      | _ => none) (← asF (← evalE prim src ρ)) ρ
  | .forEn k x y src b, ρ => do
    forN (fun d ρ => match d with
      | .tup i (.tup u v) => evalS fuel b (setV (setV (setV ρ k (.d i)) x (.d u)) y (.d v))
      | _ => none) (enum 0 (← asF (← evalE prim src ρ))) ρ
  | .forDn k a b, ρ => do
    let i ← asI (← evalE prim a ρ)
    if i < -1048576 ∨ 1048576 < i then none else
    forN (fun d ρ => evalS fuel b (setV ρ k (.d d))) ((List.range i.toNat).map fun (j : Nat) => D.int (i - (j : Int))) ρ
  | .ret e, ρ => do return (.ret (← asD (← evalE prim e ρ)), ρ)
  | .assert e, ρ => do if ← truth (← evalE prim e ρ) then return (.next, ρ) else none
  | .brk, ρ => some (.brk, ρ)
  | .freeze x, ρ => do
    match ← getV ρ x with
    | .own l => return (.next, setV ρ x (.d (.lst l)))
    | _ => none

/-- a function: the number of its names, its body; the arguments go into the first places -/
structure Fn where
  names : Nat
  body : T
noncomputable def Fn.run (f : Fn) (fuel : Nat) (args : List D) : Option D := do
  match ← evalS prim fuel f.body (args.map (fun d => some (X.d d)) ++ List.replicate (f.names - args.length) none) with
  | (.ret d, _) => return d
  | _ => none

end Mini
end

section
open PySem PySem.Spec PySem.Calls PyProof.Rows PySem.W
set_option maxRecDepth 100000
namespace Mini

/-- what stands fixed through the whole proof -/
structure Wd where
  prog : Program
  w : World
  base : Heap
  tabs : List Addr
  tinv : Heap → Prop
  tinv_keep : ∀ h h' : Heap, tinv h → (∀ P ∈ tabs, ∀ o, h.get? P = some o → h'.get? P = some o) → tinv h'
  live : ∀ h, tinv h → ∀ P ∈ tabs, ∃ o, h.get? P = some o

noncomputable abbrev Vw (O : List Addr) (h : Heap) (b : Addr) (o : Obj) : Prop := b ∉ O ∧ h.get? b = some o
noncomputable abbrev tupO (u v : Value) (n : Nat) : Obj := { cls := .type "tuple", data := .seq #[u, v] n }
noncomputable abbrev lstO (vs : Array Value) (n : Nat) : Obj := { cls := .type "list", data := .seq vs n }

/-- a value of the heap's that bears a tree -/
inductive VR (sa : Addr) (P : Addr → Obj → Prop) : Value → D → Prop where
  | none : VR sa P .none .none
  | bool (b) : VR sa P (.bool b) (.bool b)
  | int (i t) : VR sa P (.int i t) (.int i)
  | str (x : Str) (t) : VR sa P (.str x t) (.str x.cps.toList)
  | star : VR sa P (.ref sa) .star
  | tup {a u v n d e} : P a (tupO u v n) → VR sa P u d → VR sa P v e → VR sa P (.ref a) (.tup d e)
  | lst {a} {vs : Array Value} {n} {ds : List D} : P a (lstO vs n) → vs.size = ds.length → (∀ (i : Nat) (v : Value) (d : D), vs[i]? = some v → ds[i]? = some d → VR sa P v d) → VR sa P (.ref a) (.lst ds)

theorem VR.mono {sa : Addr} {P P' : Addr → Obj → Prop} (hp : ∀ b o, P b o → P' b o) {v : Value} {d : D} (h : VR sa P v d) : VR sa P' v d := by
  induction h with
  | none => exact .none
  | bool b => exact .bool b
  | int i t => exact .int i t
  | str x t => exact .str x t
  | star => exact .star
  | tup h _ _ ih1 ih2 => exact .tup (hp _ _ h) ih1 ih2
  | lst h hs _ ih => exact .lst (hp _ _ h) hs fun i v d hv hd => ih i v d hv hd

/-- a list's items bear trees -/
noncomputable def VRs (sa : Addr) (P : Addr → Obj → Prop) (vs : Array Value) (ds : List D) : Prop :=
  vs.size = ds.length ∧ ∀ (i : Nat) (v : Value) (d : D), vs[i]? = some v → ds[i]? = some d → VR sa P v d
theorem VRs.mono {sa : Addr} {P P' : Addr → Obj → Prop} (hp : ∀ b o, P b o → P' b o) {vs : Array Value} {ds : List D} (h : VRs sa P vs ds) : VRs sa P' vs ds :=
  ⟨h.1, fun i v d hv hd => (h.2 i v d hv hd).mono hp⟩
theorem VRs.get {sa : Addr} {P : Addr → Obj → Prop} {vs : Array Value} {ds : List D} (h : VRs sa P vs ds) {i : Nat} {d : D} (hd : ds[i]? = some d) : ∃ v, vs[i]? = some v ∧ VR sa P v d := by
  have hl : i < vs.size := by rw [h.1]; exact (List.getElem?_eq_some_iff.mp hd).1
  exact ⟨vs[i], by simp [hl], h.2 i _ d (by simp [hl]) hd⟩
theorem VRs.nil {sa : Addr} {P : Addr → Obj → Prop} : VRs sa P #[] [] := ⟨rfl, fun i v d hv => by simp at hv⟩
theorem VRs.push {sa : Addr} {P : Addr → Obj → Prop} {vs : Array Value} {ds : List D} {v : Value} {d : D} (h : VRs sa P vs ds) (hv : VR sa P v d) : VRs sa P (vs.push v) (ds ++ [d]) := by
  refine ⟨by simp [h.1], fun i u e hu he => ?_⟩
  rw [Array.getElem?_push] at hu
  split at hu
  · rename_i hi
    subst hi
    cases hu
    rw [h.1, List.getElem?_append_right (Nat.le_refl _)] at he
    simp at he
    subst he; exact hv
  · rename_i hi
    have hl : i < vs.size := by
      rcases Nat.lt_or_ge i vs.size with q | q
      · exact q
      · rw [Array.getElem?_eq_none q] at hu; cases hu
    rw [List.getElem?_append_left (by rw [← h.1]; exact hl)] at he
    exact h.2 i u e hu he
theorem VRs.ofList {sa : Addr} {P : Addr → Obj → Prop} {v : Value} {d : D} {l : List Value} {ds : List D} (hv : VR sa P v d) (h : VRs sa P l.toArray ds) : VRs sa P (v :: l).toArray (d :: ds) := by
  refine ⟨by have := h.1; simp at this ⊢; exact this, fun i u e hu he => ?_⟩
  cases i with
  | zero => simp at hu he; subst hu; subst he; exact hv
  | succ i => exact h.2 i u e (by simpa using hu) (by simpa using he)
theorem VRs.append {sa : Addr} {P : Addr → Obj → Prop} {vs vs' : Array Value} {ds ds' : List D} (h : VRs sa P vs ds) (h' : VRs sa P vs' ds') : VRs sa P (vs ++ vs') (ds ++ ds') := by
  refine ⟨by simp [h.1, h'.1], fun i u e hu he => ?_⟩
  rcases Nat.lt_or_ge i vs.size with q | q
  · rw [Array.getElem?_append_left q] at hu
    rw [List.getElem?_append_left (by rw [← h.1]; exact q)] at he
    exact h.2 i u e hu he
  · rw [Array.getElem?_append_right q] at hu
    rw [List.getElem?_append_right (by rw [← h.1]; exact q)] at he
    exact h'.2 _ u e hu (by rw [h.1]; exact he)

theorem VR.ofVRs {sa : Addr} {P : Addr → Obj → Prop} {a : Addr} {vs : Array Value} {n : Nat} {ds : List D} (hp : P a (lstO vs n)) (h : VRs sa P vs ds) : VR sa P (.ref a) (.lst ds) := .lst hp h.1 h.2
theorem VR.list {sa : Addr} {P : Addr → Obj → Prop} {v : Value} {ds : List D} (h : VR sa P v (.lst ds)) : ∃ a vs n, v = .ref a ∧ P a (lstO vs n) ∧ VRs sa P vs ds := by
  cases h with
  | lst hp hs hv => exact ⟨_, _, _, rfl, hp, hs, hv⟩
theorem VR.pair {sa : Addr} {P : Addr → Obj → Prop} {v : Value} {d e : D} (h : VR sa P v (.tup d e)) : ∃ a u w n, v = .ref a ∧ P a (tupO u w n) ∧ VR sa P u d ∧ VR sa P w e := by
  cases h with
  | tup hp h1 h2 => exact ⟨_, _, _, _, rfl, hp, h1, h2⟩
theorem VR.text {sa : Addr} {P : Addr → Obj → Prop} {v : Value} {l : S} (h : VR sa P v (.str l)) : ∃ (x : Str) (t : Tok), v = .str x t ∧ x.cps.toList = l := by
  generalize e : D.str l = d at h
  cases h <;> cases e
  exact ⟨_, _, rfl, rfl⟩
theorem VR.num {sa : Addr} {P : Addr → Obj → Prop} {v : Value} {i : Int} (h : VR sa P v (.int i)) : ∃ t, v = .int i t := by
  cases h; exact ⟨_, rfl⟩
theorem VR.boolean {sa : Addr} {P : Addr → Obj → Prop} {v : Value} {b : Bool} (h : VR sa P v (.bool b)) : v = .bool b := by
  cases h; rfl
theorem VR.astar {sa : Addr} {P : Addr → Obj → Prop} {v : Value} (h : VR sa P v .star) : v = .ref sa := by
  cases h; rfl
theorem VR.ofStr {sa : Addr} {P : Addr → Obj → Prop} {x : Str} {t : Tok} {l : S} (h : x.cps.toList = l) : VR sa P (.str x t) (.str l) := h ▸ .str x t

/-- what a step of the text's leaves: all but the code tables is kept -/
structure Step (K : Wd) (s s' : Shared) : Prop where
  keep : ∀ b o, b ∉ K.tabs → s.heap.get? b = some o → s'.heap.get? b = some o
  os : s'.os = s.os
  gens : AllBare s.gens → AllBare s'.gens
  tinv : K.tinv s.heap → K.tinv s'.heap
  toks : s.toks ≤ s'.toks

theorem Step.refl {K : Wd} {s : Shared} : Step K s s := ⟨fun _ _ _ e => e, rfl, id, id, Nat.le_refl _⟩
theorem Step.trans {K : Wd} {s s' s'' : Shared} (a : Step K s s') (b : Step K s' s'') : Step K s s'' :=
  ⟨fun x o h e => b.keep x o h (a.keep x o h e), b.os.trans a.os, fun g => b.gens (a.gens g), fun g => b.tinv (a.tinv g), Nat.le_trans a.toks b.toks⟩
/-- a step that keeps the whole heap -/
theorem Step.of {K : Wd} {s : Shared} {h' : Heap} {tk : Nat} (hk : ∀ b o, s.heap.get? b = some o → h'.get? b = some o) (ht : s.toks ≤ tk) :
    Step K s { s with heap := h', toks := tk } :=
  ⟨fun b o _ e => hk b o e, rfl, id, fun i => K.tinv_keep _ _ i fun _ _ o e => hk _ o e, ht⟩
theorem Step.tok {K : Wd} {s : Shared} {tk : Nat} (ht : s.toks ≤ tk) : Step K s { s with toks := tk } := Step.of (fun _ _ e => e) ht
theorem Step.push {K : Wd} {s : Shared} (o : Obj) : Step K s { s with heap := s.heap.push o } :=
  Step.of (tk := s.toks) (fun _ _ e => Heap.get?_push_of_some _ e) (Nat.le_refl _)

noncomputable abbrev NoE : Value → Shared → Prop := fun _ _ => False

structure Rm (A : Around) (n : Nat) : Prop where
  handled : A.handled = none
  depth : A.depth + 2 * n + 2 < recursionLimit
  units : A.units + 16 * n + 64 < cLine
theorem Rm.less {A : Around} {n m : Nat} (h : Rm A n) (l : m ≤ n) : Rm A m := ⟨h.handled, by have := h.depth; omega, by have := h.units; omega⟩
theorem Rm.deeper {A : Around} {n : Nat} {env : PySem.Env} (h : Rm A (n + 1)) : Rm (A.deeper env) n :=
  ⟨h.handled, by have := h.depth; show A.depth + 1 + _ + _ < _; omega, by have := h.units; show A.units + 3 + _ + _ < _; omega⟩

/-- the state between two steps -/
structure St (K : Wd) (s : Shared) : Prop where
  base : ∀ b o, K.base.get? b = some o → s.heap.get? b = some o
  gens : AllBare s.gens
  toks : 0 < s.toks
  tinv : K.tinv s.heap
theorem St.step {K : Wd} {s s' : Shared} (hb : ∀ P ∈ K.tabs, K.base.get? P = none) (x : St K s) (y : Step K s s') : St K s' :=
  ⟨fun b o e => y.keep b o (fun h => by rw [hb b h] at e; cases e) (x.base b o e), y.gens x.gens, Nat.lt_of_lt_of_le x.toks y.toks, y.tinv x.tinv⟩

theorem Vw.step {K : Wd} {s s' : Shared} {O : List Addr} (hO : ∀ a ∈ K.tabs, a ∈ O) (y : Step K s s') {b : Addr} {o : Obj} (h : Vw O s.heap b o) : Vw O s'.heap b o :=
  ⟨h.1, y.keep b o (fun q => h.1 (hO b q)) h.2⟩
theorem VR.step {K : Wd} {s s' : Shared} {O : List Addr} {sa : Addr} {v : Value} {d : D} (hO : ∀ a ∈ K.tabs, a ∈ O) (y : Step K s s') (h : VR sa (Vw O s.heap) v d) : VR sa (Vw O s'.heap) v d :=
  h.mono fun _ _ => Vw.step hO y
theorem VRs.step {K : Wd} {s s' : Shared} {O : List Addr} {sa : Addr} {v : Array Value} {d : List D} (hO : ∀ a ∈ K.tabs, a ∈ O) (y : Step K s s') (h : VRs sa (Vw O s.heap) v d) : VRs sa (Vw O s'.heap) v d :=
  h.mono fun _ _ => Vw.step hO y

/-- a value that bears what a name of the mini language holds -/
noncomputable def RX (sa : Addr) (T O : List Addr) (h : Heap) (v : Value) : X → Prop
  | .d d => VR sa (Vw O h) v d
  | .own l => ∃ a vs n, v = .ref a ∧ h.get? a = some (lstO vs n) ∧ VRs sa (Vw O h) vs l ∧ a ∈ O ∧ a ∉ T
  | .bnd _ => True

theorem RX.mono {sa : Addr} {T O O' : List Addr} {h h' : Heap} {v : Value} {x : X} (hv : ∀ b o, Vw O h b o → Vw O' h' b o) (hk : ∀ b o, b ∈ O → b ∉ T → h.get? b = some o → b ∈ O' ∧ h'.get? b = some o)
    (r : RX sa T O h v x) : RX sa T O' h' v x := by
  cases x with
  | d d => exact VR.mono hv r
  | own l =>
    obtain ⟨a, vs, n, rfl, ha, hs, hm, hn⟩ := r
    exact ⟨a, vs, n, rfl, (hk a _ hm hn ha).2, hs.mono hv, (hk a _ hm hn ha).1, hn⟩
  | bnd _ => trivial
theorem RX.step {K : Wd} {s s' : Shared} {O : List Addr} {sa : Addr} {v : Value} {x : X} (hO : ∀ a ∈ K.tabs, a ∈ O) (y : Step K s s') (r : RX sa K.tabs O s.heap v x) : RX sa K.tabs O s'.heap v x :=
  r.mono (fun _ _ => Vw.step hO y) fun b o hb hn e => ⟨hb, y.keep b o hn e⟩

theorem RX.list {sa : Addr} {T O : List Addr} {h : Heap} {v : Value} {x : X} {l : List D} (r : RX sa T O h v x) (hl : asL x = some l) :
    ∃ a vs n, v = .ref a ∧ h.get? a = some (lstO vs n) ∧ VRs sa (Vw O h) vs l := by
  cases x with
  | d d =>
    cases d <;> simp [asL] at hl
    subst hl
    obtain ⟨a, vs, n, rfl, hp, hs⟩ := VR.list r
    exact ⟨a, vs, n, rfl, hp.2, hs⟩
  | own m =>
    simp [asL] at hl
    subst hl
    obtain ⟨a, vs, n, rfl, ha, hs, _⟩ := r
    exact ⟨a, vs, n, rfl, ha, hs⟩
  | bnd _ => simp [asL] at hl
theorem isList_of {h : Heap} {a : Addr} {vs : Array Value} {n : Nat} (e : h.get? a = some (lstO vs n)) : h.IsList a vs := ⟨_, e, rfl, n, rfl⟩

end Mini
end

section
open PySem PySem.Spec PySem.Calls PyProof.Rows PySem.W PySem.Builtin PySem.Builtin.Str PySem.StrLaws
set_option maxRecDepth 100000
namespace Mini

/-! texts: the library's words told by lists of signs -/

theorem str_len (x : Str) : x.length = x.cps.toList.length := by simp [Str.length]

/-! slices -/
theorem cut_clip (i : Int) (n : Nat) : (max (0 : Int) (min (if i < 0 then i + n else i) n)) = ((cut i n : Nat) : Int) := by
  unfold cut
  split <;> split <;> omega
theorem cut_le (i : Int) (n : Nat) : (cut i n) ≤ max n (cut i n) := Nat.le_max_right _ _
theorem slice_idx (i j : Int) (n : Nat) : strSliceIndices (some i) (some j) 1 n = sliceRange (max 0 (min (if i < 0 then i + n else i) n)) (max 0 (min (if j < 0 then j + n else j) n)) 1 := by
  simp [strSliceIndices]
theorem slice_ss (x : Str) (i j : Int) : (Txt.slice x (some i) (some j)).cps.toList = (x.cps.toList.take (cut j x.length)).drop (cut i x.length) := by
  have hi : (cut i x.length : Int) ≤ x.length := by have := cut_clip i x.length; omega
  have hj : (cut j x.length : Int) ≤ x.length := by have := cut_clip j x.length; omega
  have e : Txt.slice x (some i) (some j) = sliceText x (some (cut i x.length : Int)) (some (cut j x.length : Int)) := by
    show sliceText x (some i) (some j) = _
    unfold sliceText
    have q : strSliceIndices (some i) (some j) 1 x.length = strSliceIndices (some (cut i x.length : Int)) (some (cut j x.length : Int)) 1 x.length := by
      rw [slice_idx, slice_idx, cut_clip, cut_clip]
      have a1 : ¬ ((cut i x.length : Int) < 0) := by omega
      have a2 : ¬ ((cut j x.length : Int) < 0) := by omega
      rw [if_neg a1, if_neg a2]
      have b1 : max (0 : Int) (min (cut i x.length : Int) x.length) = cut i x.length := by omega
      have b2 : max (0 : Int) (min (cut j x.length : Int) x.length) = cut j x.length := by omega
      rw [b1, b2]
    rw [q]
  rw [e]
  rcases Nat.le_total (cut i x.length) (cut j x.length) with h | h
  · rw [sliceText_nat x h (by omega), List.drop_take]
  · have hl : (x.cps.toList.take (cut j x.length)).drop (cut i x.length) = [] := List.drop_eq_nil_of_le (by rw [List.length_take]; omega)
    rw [hl]
    rcases Nat.eq_or_lt_of_le h with h | h
    · rw [← h, sliceText_nat x (Nat.le_refl _) (by omega)]; simp
    · unfold sliceText
      have q : strSliceIndices (some (cut i x.length : Int)) (some (cut j x.length : Int)) 1 x.length = [] := by
        rw [slice_idx]
        have a1 : ¬ ((cut i x.length : Int) < 0) := by omega
        have a2 : ¬ ((cut j x.length : Int) < 0) := by omega
        rw [if_neg a1, if_neg a2]
        have b1 : max (0 : Int) (min (cut i x.length : Int) x.length) = cut i x.length := by omega
        have b2 : max (0 : Int) (min (cut j x.length : Int) x.length) = cut j x.length := by omega
        rw [b1, b2]
        have hlt : ¬ ((cut i x.length : Int) < cut j x.length) := by omega
        unfold sliceRange
        simp [hlt]
      rw [q]
      split
      · rename_i h0
        simp at h0
        exfalso; omega
      · rfl
theorem slice_sn (x : Str) (i : Int) : (Txt.slice x (some i) none).cps.toList = x.cps.toList.drop (cut i x.length) := by
  have e : Txt.slice x (some i) none = Txt.slice x (some i) (some (x.length : Int)) := by
    show sliceText x (some i) none = sliceText x (some i) (some (x.length : Int))
    unfold sliceText
    rw [sliceIdx_none_hi]
  rw [e, slice_ss]
  have : cut (x.length : Int) x.length = x.length := by unfold cut; split <;> omega
  rw [this, str_len, List.take_length]
theorem slice_ns (x : Str) (j : Int) : (Txt.slice x none (some j)).cps.toList = x.cps.toList.take (cut j x.length) := by
  have e : Txt.slice x none (some j) = Txt.slice x (some 0) (some j) := by
    show sliceText x none (some j) = sliceText x (some 0) (some j)
    unfold sliceText
    rw [sliceIdx_none_lo]
  rw [e, slice_ss]
  have : cut 0 x.length = 0 := by unfold cut; simp
  rw [this, List.drop_zero]

/-! one sign at a place -/
theorem at_seq (i : Int) (n : Nat) : seqIndex? i n = at? i n := by
  unfold at?
  by_cases h : 0 ≤ i
  · rw [if_pos h]
    split
    · exact StrLaws.seqIndex_nonneg h (by assumption)
    · unfold seqIndex?
      have : ¬ i < 0 := by omega
      simp [this]
      omega
  · rw [if_neg h]
    split
    · exact StrLaws.seqIndex_neg (by omega) (by omega)
    · unfold seqIndex?
      have : i < 0 := by omega
      simp [this]
      omega

/-! order -/
theorem leS_eq : ∀ x y : S, leS x y = !decide (y < x)
  | [], y => by cases y <;> simp [leS]
  | a :: x, [] => by simp [leS]
  | a :: x, b :: y => by
    have ih := leS_eq x y
    have e := lt_cons_cons b a y x
    unfold leS
    rw [e, ih]
    by_cases h1 : a < b
    · have h2 : ¬ b < a := by omega
      have h3 : (b == a) = false := by simp; omega
      simp [h1, h2, h3]
    · by_cases h2 : a = b
      · subst h2; simp
      · have h3 : b < a := by omega
        simp [h1, h2, h3]

/-! replace -/
noncomputable def occI (s sub : Str) (hi : Nat) : List Nat → Nat → List Nat
  | [], _ => []
  | i :: r, free => if (free ≤ i ∧ i + sub.length ≤ hi) ∧ subAt s sub i = true then i :: occI s sub hi r (i + sub.length) else occI s sub hi r free
theorem occI_cons (s sub : Str) (hi i : Nat) (r : List Nat) (free : Nat) : occI s sub hi (i :: r) free = if (free ≤ i ∧ i + sub.length ≤ hi) ∧ subAt s sub i = true then i :: occI s sub hi r (i + sub.length) else occI s sub hi r free := rfl
theorem forIn_occI (s sub : Str) (hi limit : Nat) : ∀ (l : List Nat) (arr : Array Nat) (free : Nat), arr.size + l.length ≤ limit →
    (forIn l (arr, free) (occBody s sub hi limit)).run.fst.toList = arr.toList ++ occI s sub hi l free
  | [], arr, free, _ => by
    show arr.toList = arr.toList ++ []
    simp
  | i :: r, arr, free, h => by
    rw [List.forIn_cons]
    unfold occBody occI
    have hl : arr.size < limit := by simp at h; omega
    by_cases hc : (free ≤ i ∧ i + sub.length ≤ hi) ∧ subAt s sub i = true
    · rw [if_pos hc, if_pos ⟨⟨⟨hl, hc.1.1⟩, hc.1.2⟩, hc.2⟩]
      have ih := forIn_occI s sub hi limit r (arr.push i) (i + sub.length) (by simp at h ⊢; omega)
      have e : (arr.push i).toList ++ occI s sub hi r (i + sub.length) = arr.toList ++ i :: occI s sub hi r (i + sub.length) := by simp
      rw [← e, ← ih]; rfl
    · rw [if_neg hc, if_neg (fun q => hc ⟨⟨q.1.1.2, q.1.2⟩, q.2⟩)]
      exact forIn_occI s sub hi limit r arr free (by simp at h ⊢; omega)
theorem occ_is (x y : Str) : occurrences x y 0 x.length (x.length + 1) = occI x y x.length (List.range' 0 (x.length + 1)) 0 := by
  rw [occ_eq]
  have := forIn_occI x y x.length (x.length + 1) (List.range' 0 (x.length + 1 - 0)) #[] 0 (by simp)
  simpa using this
theorem occI_free (s sub : Str) (hi : Nat) : ∀ (l : List Nat) (f f' : Nat), (∀ i ∈ l, f ≤ i ∧ f' ≤ i) → occI s sub hi l f = occI s sub hi l f'
  | [], _, _, _ => rfl
  | i :: r, f, f', h => by
    have hm := h i List.mem_cons_self
    have ih := occI_free s sub hi r f f' fun k hk => h k (List.mem_cons_of_mem _ hk)
    rw [occI_cons, occI_cons]
    by_cases hc : (f ≤ i ∧ i + sub.length ≤ hi) ∧ subAt s sub i = true
    · rw [if_pos hc, if_pos ⟨⟨hm.2, hc.1.2⟩, hc.2⟩]
    · rw [if_neg hc, if_neg (fun q => hc ⟨⟨hm.1, q.1.2⟩, q.2⟩)]
      exact ih
/-- what lies below the free place is passed by -/
theorem occI_skip (s sub : Str) (hi : Nat) : ∀ (n i f : Nat), i ≤ f → occI s sub hi (List.range' i n) f = occI s sub hi (List.range' f (n - (f - i))) f
  | 0, i, f, h => by
    have : (0 : Nat) - (f - i) = 0 := by omega
    rw [this]; rfl
  | n + 1, i, f, h => by
    rcases Nat.eq_or_lt_of_le h with h | h
    · subst h; rw [Nat.sub_self, Nat.sub_zero]
    · rw [List.range'_succ, occI_cons, if_neg (fun q => by have := q.1.1; omega)]
      have ih := occI_skip s sub hi n (i + 1) f h
      have e : n + 1 - (f - i) = n - (f - (i + 1)) := by omega
      rw [e, ← ih]
noncomputable def recon (x q : S) (w : Nat) : Nat → List Nat → S
  | a, [] => x.drop a
  | a, i :: r => (x.drop a).take (i - a) ++ q ++ recon x q w (i + w) r
theorem recon_cons {x q : S} {w a : Nat} {l : List Nat} {c : Nat} (hc : x[a]? = some c) (h : ∀ i ∈ l, a + 1 ≤ i) : recon x q w a l = c :: recon x q w (a + 1) l := by
  obtain ⟨ha, hc⟩ := List.getElem?_eq_some_iff.mp hc
  have hd : x.drop a = c :: x.drop (a + 1) := by rw [List.drop_eq_getElem_cons ha, hc]
  cases l with
  | nil => exact hd
  | cons i r =>
    have hi := h i List.mem_cons_self
    obtain ⟨k, hk⟩ : ∃ k, i - a = k + 1 := ⟨i - a - 1, by omega⟩
    have hk' : i - (a + 1) = k := by omega
    show (x.drop a).take (i - a) ++ q ++ _ = c :: ((x.drop (a + 1)).take (i - (a + 1)) ++ q ++ _)
    rw [hd, hk, hk']; rfl
theorem occI_ge (s sub : Str) (hi : Nat) : ∀ (l : List Nat) (f m : Nat), (∀ i ∈ l, m ≤ i) → ∀ i ∈ occI s sub hi l f, m ≤ i
  | [], _, _, _, i, h => nomatch h
  | k :: r, f, m, h, i, hi => by
    unfold occI at hi
    have hr : ∀ i ∈ r, m ≤ i := fun j hj => h j (List.mem_cons_of_mem _ hj)
    split at hi
    · rcases List.mem_cons.mp hi with rfl | hi
      · exact h _ List.mem_cons_self
      · exact occI_ge s sub _ r _ m hr i hi
    · exact occI_ge s sub _ r _ m hr i hi
theorem prefix_take (p l : S) : p.isPrefixOf l = (l.take p.length == p) := by
  rw [Bool.eq_iff_iff]
  constructor
  · intro h
    obtain ⟨t, ht⟩ := List.isPrefixOf_iff_prefix.mp h
    rw [← ht]; simp
  · intro h
    have := eq_of_beq h
    exact List.isPrefixOf_iff_prefix.mpr ⟨l.drop p.length, by conv => lhs; lhs; rw [← this]
                                                              exact List.take_append_drop ..⟩
theorem replF_fuel (p q : S) (hp : 0 < p.length) : ∀ (n m : Nat) (l : S), l.length < n → l.length < m → replF p q n l = replF p q m l
  | 0, _, _, h, _ => absurd h (Nat.not_lt_zero _)
  | _ + 1, 0, _, _, h => absurd h (Nat.not_lt_zero _)
  | n + 1, m + 1, [], _, _ => rfl
  | n + 1, m + 1, c :: l, h1, h2 => by
    unfold replF
    have hd : ((c :: l).drop p.length).length < n := by rw [List.length_drop, List.length_cons]; simp at h1; omega
    have hd' : ((c :: l).drop p.length).length < m := by rw [List.length_drop, List.length_cons]; simp at h2; omega
    rw [replF_fuel p q hp n m _ hd hd', replF_fuel p q hp n m l (by simp at h1; omega) (by simp at h2; omega)]
theorem recon_repl (x y : Str) (q : S) (hp : 0 < y.length) : ∀ (n i : Nat), x.length - i ≤ n → i ≤ x.length →
    recon x.cps.toList q y.length i (occI x y x.length (List.range' i (x.length + 1 - i)) i) = replF y.cps.toList q (x.length - i + 1) (x.cps.toList.drop i) := by
  have hpl : y.length = y.cps.toList.length := str_len y
  intro n
  induction n with
  | zero =>
    intro i h1 h2
    have hi : i = x.length := by omega
    subst hi
    have e1 : x.length + 1 - x.length = 1 := by omega
    have e2 : x.cps.toList.drop x.length = [] := List.drop_eq_nil_of_le (by rw [← str_len]; exact Nat.le_refl _)
    rw [e1, e2]
    show recon _ _ _ _ (occI x y x.length [x.length] x.length) = _
    unfold occI
    rw [if_neg (fun z => by have := z.1.2; omega)]
    show x.cps.toList.drop x.length = _
    rw [e2]; rfl
  | succ n ih =>
    intro i h1 h2
    rcases Nat.lt_or_ge i x.length with hlt | hge
    · have e1 : x.length + 1 - i = (x.length - i) + 1 := by omega
      rw [e1, List.range'_succ]
      have hil : i < x.cps.toList.length := by rw [← str_len]; exact hlt
      have hd : x.cps.toList.drop i = x.cps.toList[i] :: x.cps.toList.drop (i + 1) := List.drop_eq_getElem_cons hil
      unfold occI
      by_cases hc : (i ≤ i ∧ i + y.length ≤ x.length) ∧ subAt x y i = true
      · rw [if_pos hc]
        have hb := hc.1.2
        have hpre : y.cps.toList.isPrefixOf (x.cps.toList.drop i) = true := by
          rw [prefix_take, ← hpl, ← subAt_eq]; exact hc.2
        show (x.cps.toList.drop i).take (i - i) ++ q ++ recon _ _ _ (i + y.length) _ = _
        rw [Nat.sub_self, List.take_zero, List.nil_append, occI_skip _ _ _ _ (i + 1) (i + y.length) (by omega)]
        have e2 : x.length - i - (i + y.length - (i + 1)) = x.length + 1 - (i + y.length) := by omega
        have ih' := ih (i + y.length) (by omega) hb
        rw [show (i + 1 : Nat) = Nat.succ i from rfl] at *
        rw [e2, ih']
        rw [hd] at hpre ⊢
        conv => rhs; unfold replF
        rw [if_pos hpre]
        congr 1
        rw [← hd, List.drop_drop, ← hpl]
        refine replF_fuel _ _ (by rw [← hpl]; exact hp) _ _ _ ?_ ?_ <;> rw [List.length_drop, ← str_len] <;> omega
      · rw [if_neg hc]
        have hpre : ¬ y.cps.toList.isPrefixOf (x.cps.toList.drop i) = true := by
          intro h
          apply hc
          rw [prefix_take, ← hpl, ← subAt_eq] at h
          refine ⟨⟨Nat.le_refl _, ?_⟩, h⟩
          have h3 := h
          rw [subAt_eq] at h3
          have h4 := congrArg List.length (eq_of_beq h3)
          rw [List.length_take, List.length_drop, ← hpl, ← str_len] at h4
          omega
        have hfree : occI x y x.length (List.range' (i + 1) (x.length - i)) i = occI x y x.length (List.range' (i + 1) (x.length - i)) (i + 1) :=
          occI_free _ _ _ _ _ _ fun k hk => by
            have := (List.mem_range'.mp hk); obtain ⟨z, _, hz⟩ := this; omega
        rw [hfree, recon_cons (c := x.cps.toList[i]) (List.getElem?_eq_getElem hil) (occI_ge _ _ _ _ _ _ fun k hk => by
            obtain ⟨z, _, hz⟩ := List.mem_range'.mp hk; omega)]
        have ih' := ih (i + 1) (by omega) hlt
        have e3 : x.length + 1 - (i + 1) = x.length - i := by omega
        rw [e3] at ih'
        rw [ih', hd]
        conv => rhs; unfold replF
        rw [hd] at hpre
        rw [if_neg hpre]
        congr 2
        omega
    · have hi : i = x.length := by omega
      exact ih i (by omega) h2
theorem parts_recon (x z : Str) (w : Nat) : ∀ (cuts : List Nat) (a : Nat),
    (Str.join z (((a :: cuts.map (· + w)).zip (cuts ++ [x.length])).map fun (i, j) => strSub x i j)).cps.toList = recon x.cps.toList z.cps.toList w a cuts
  | [], a => by
    show (strSub x a x.length).cps.toList = x.cps.toList.drop a
    rw [strSub_toList]
    exact List.take_of_length_le (by rw [List.length_drop, ← str_len]; exact Nat.le_refl _)
  | i :: r, a => by
    have ih := parts_recon x z w r (i + w)
    show (Str.join z (strSub x a i :: (((i + w) :: r.map (· + w)).zip (r ++ [x.length])).map fun (i, j) => strSub x i j)).cps.toList = _
    generalize hL : (((i + w) :: r.map (· + w)).zip (r ++ [x.length])).map (fun (i, j) => strSub x i j) = L at ih
    cases L with
    | nil => cases r <;> simp at hL
    | cons b t =>
      show (strSub x a i ++ z ++ Str.join z (b :: t)).cps.toList = (x.cps.toList.drop a).take (i - a) ++ z.cps.toList ++ recon _ _ _ (i + w) r
      rw [Str.cps_append, Str.cps_append, Array.toList_append, Array.toList_append, ih, strSub_toList]
theorem occI_nil_repl (x y : Str) (q : S) (hp : 0 < y.length) (h : occurrences x y 0 x.length (x.length + 1) = []) : repl y.cps.toList q x.cps.toList = x.cps.toList := by
  have e := recon_repl x y q hp x.length 0 (by omega) (Nat.zero_le _)
  rw [Nat.sub_zero] at e
  rw [occ_is] at h
  rw [h] at e
  unfold repl
  rw [← str_len]
  exact e.symm
theorem replace_is (x y z : Str) (hp : 0 < y.length) : (Txt.replace x y z).cps.toList = repl y.cps.toList z.cps.toList x.cps.toList := by
  unfold Txt.replace
  have hy : (y.length == 0) = false := by simp; omega
  rw [hy, Bool.false_and, Bool.or_false]
  cases ho : occurrences x y 0 x.length (x.length + 1) with
  | nil => rw [if_pos (by rfl), occI_nil_repl x y _ hp ho]
  | cons i r =>
    rw [if_neg (by simp)]
    rw [glued_eq_join]
    have e := parts_recon x z y.length (i :: r) 0
    have e2 := recon_repl x y z.cps.toList hp x.length 0 (by omega) (Nat.zero_le _)
    rw [Nat.sub_zero, Nat.sub_zero] at e2
    rw [occ_is] at ho
    rw [ho] at e2
    unfold partsBetween
    rw [e, e2]
    unfold repl
    rw [← str_len]; rfl

/-! find -/
theorem find_one (x : Str) (c : Nat) (lo hi : Nat) (hh : hi ≤ x.length) : (match occurrences x ⟨#[c]⟩ lo hi 1 with | k :: _ => (k : Int) | [] => -1) = findF c x.cps.toList lo hi := by
  have hat : ∀ i, At x ⟨#[c]⟩ hi i ↔ (i < hi ∧ x.cps.toList[i]? = some c) := by
    intro i
    unfold At
    rw [subAt_eq]
    show (i + 1 ≤ hi ∧ ((x.cps.toList.drop i).take 1 == [c]) = true) ↔ _
    constructor
    · rintro ⟨h1, h2⟩
      refine ⟨h1, ?_⟩
      have h3 := eq_of_beq h2
      have h4 : (x.cps.toList.drop i)[0]? = some c := by
        have := congrArg (·[0]?) h3
        simpa [List.getElem?_take] using this
      simpa [List.getElem?_drop] using h4
    · rintro ⟨h1, h2⟩
      refine ⟨h1, ?_⟩
      obtain ⟨h3, h4⟩ := List.getElem?_eq_some_iff.mp h2
      rw [List.drop_eq_getElem_cons h3, h4]; simp
  unfold findF
  rw [occ_eq]
  rcases occ_first x ⟨#[c]⟩ hi 1 (Nat.le_refl _) (List.range' lo (hi + 1 - lo)) lo (fun i hi' => by obtain ⟨z, _, hz⟩ := List.mem_range'.mp hi'; omega) with ⟨h0, hn⟩ | ⟨pre, a, post, e, h0, ha, hn⟩
  · rw [h0]
    have hf : (List.range (hi - lo)).find? (fun k => x.cps.toList[lo + k]? == some c) = none := by
      rw [List.find?_eq_none]
      intro k hk hq
      have hk' : k < hi - lo := List.mem_range.mp hk
      exact hn (lo + k) (List.mem_range'.mpr ⟨k, by omega, by omega⟩) ((hat _).mpr ⟨by omega, eq_of_beq hq⟩)
    rw [hf]
  · have hal : lo ≤ a ∧ a < hi := by
      have hm : a ∈ List.range' lo (hi + 1 - lo) := by rw [e]; simp
      obtain ⟨z, _, hz⟩ := List.mem_range'.mp hm
      exact ⟨by omega, ((hat a).mp ha).1⟩
    have hf : (List.range (hi - lo)).find? (fun k => x.cps.toList[lo + k]? == some c) = some (a - lo) := by
      rw [List.find?_range_eq_some]
      refine ⟨?_, ?_, ?_⟩
      · have : lo + (a - lo) = a := by omega
        rw [this, ((hat a).mp ha).2]; simp
      · exact List.mem_range.mpr (by omega)
      · intro k hk
        have hpre : lo + k ∈ pre := by
          have hm : lo + k ∈ List.range' lo (hi + 1 - lo) := List.mem_range'.mpr ⟨k, by omega, by omega⟩
          rw [e] at hm
          rcases List.mem_append.mp hm with h | h
          · exact h
          · exfalso
            have hs : (List.range' lo (hi + 1 - lo)).Pairwise (· < ·) := List.pairwise_lt_range'
            rw [e] at hs
            have h2 := (List.pairwise_append.mp hs).2.1
            rcases List.mem_cons.mp h with h | h
            · omega
            · have := (List.pairwise_cons.mp h2).1 _ h; omega
        have h3 := hn _ hpre
        have h4 : ¬ (x.cps.toList[lo + k]? = some c) := fun q => h3 ((hat _).mpr ⟨by omega, q⟩)
        simpa using h4
    rw [hf]
    generalize (forIn (List.range' lo (hi + 1 - lo)) ((#[] : Array Nat), lo) (occBody x ⟨#[c]⟩ hi 1)).run.fst = arr at h0
    have h1 : arr.toList[0]? = some a := by simpa using h0
    cases hL : arr.toList with
    | nil => rw [hL] at h1; cases h1
    | cons b t =>
      rw [hL] at h1; simp at h1; subst h1
      show (b : Int) = ((lo + (b - lo) : Nat) : Int)
      omega

/-! join -/
theorem join_is (sep : Str) : ∀ l : List Str, (Str.join sep l).cps.toList = joinS sep.cps.toList (l.map (·.cps.toList))
  | [] => rfl
  | [x] => rfl
  | x :: y :: r => by
    have ih := join_is sep (y :: r)
    show (x ++ sep ++ Str.join sep (y :: r)).cps.toList = x.cps.toList ++ sep.cps.toList ++ joinS _ _
    rw [Str.cps_append, Str.cps_append, Array.toList_append, Array.toList_append, ih]
theorem txt_join (sep : Str) (l : List Str) : (Txt.join sep l).cps.toList = joinS sep.cps.toList (l.map (·.cps.toList)) := by
  unfold Txt.join
  rw [glued_eq_join, join_is]

end Mini
end

section
open PySem PySem.Spec PySem.Calls PyProof.Rows PySem.W PySem.Builtin PySem.Builtin.Str PySem.StrLaws
set_option maxRecDepth 100000
namespace Mini
section
variable {K : Wd} {A : Around} {s : Shared} {sa : Addr} {O : List Addr} {v u : Value} {x y : X}

noncomputable abbrev M (K : Wd) : Model := model K.prog K.w

theorem lift {α : Type} {t : Sem α} {P : α → Shared → Prop} {E : Value → Shared → Prop} {Q : α → Shared → Prop} (h : wpAny (M K) A t P NoE s) (hq : ∀ a s', P a s' → Q a s') : wpAny (M K) A t Q E s :=
  wpAny_mono h hq fun _ _ f => f.elim
/-- a tree whose leaves are told up to the tokens -/
theorem toks {α : Type} {t : Sem α} {P : α → Shared → Prop} {E : Value → Shared → Prop} (h : wpAny (M K) A t (fun a s' => s.toks ≤ s'.toks → P a s') E s) : wpAny (M K) A t P E s :=
  wpAny_mono (wpAny_toks_of (n := s.toks) (Nat.le_refl _) h) (fun _ _ q => q.2 q.1) fun _ _ q => q.2

theorem nat63 {n : Nat} (h : n ≤ 16777216) : ¬ ((n : Int) ≥ 2 ^ 63) := by omega

/-- a text that is no longer than the model's line -/
theorem okS_some {z : S} {x : X} (h : okS z = some x) : x = .d (.str z) ∧ z.length ≤ 4096 := by
  unfold okS at h
  split at h
  · cases h; exact ⟨rfl, by assumption⟩
  · cases h
theorem okI_some {z : Int} {x : X} (h : okI z = some x) : x = .d (.int z) ∧ -1048576 ≤ z ∧ z ≤ 1048576 := by
  unfold okI at h
  split at h
  · cases h; exact ⟨rfl, by assumption⟩
  · cases h
theorem okL_some {z : List D} {x : X} (h : okL z = some x) : x = .d (.lst z) ∧ z.length ≤ 4096 := by
  unfold okL at h
  split at h
  · cases h; exact ⟨rfl, by assumption⟩
  · cases h

theorem asS_some {x : X} {l : S} (h : asS x = some l) : x = .d (.str l) := by
  unfold asS at h; split at h <;> simp_all
theorem asI_some {x : X} {l : Int} (h : asI x = some l) : x = .d (.int l) := by
  unfold asI at h; split at h <;> simp_all
theorem asB_some {x : X} {l : Bool} (h : asB x = some l) : x = .d (.bool l) := by
  unfold asB at h; split at h <;> simp_all
theorem asD_some {x : X} {l : D} (h : asD x = some l) : x = .d l := by
  unfold asD at h; split at h <;> simp_all

theorem isEmpty_vrs {P : Addr → Obj → Prop} {vs : Array Value} {l : List D} (h : VRs sa P vs l) : (!vs.toList.isEmpty) = !l.isEmpty := by
  have := h.1
  cases l with
  | nil =>
    have e : vs = #[] := by simpa using this
    rw [e]; rfl
  | cons d r =>
    cases hv : vs.toList with
    | nil => have e : vs.size = 0 := by rw [← Array.length_toList, hv]; rfl
             rw [e] at this; simp at this
    | cons v t => rfl

/-! truth -/
theorem truth_ok {b : Bool} (h : truth x = some b) (r : RX sa K.tabs O s.heap v x) :
    wpAny (M K) A (truthy v) (fun c s' => c = b ∧ Step K s s') NoE s := by
  cases x with
  | bnd _ => cases h
  | own l =>
    obtain ⟨a, vs, n, rfl, ha, hs, _⟩ := r
    simp only [truth] at h
    split at h
    · cases h
      refine wpAny_truthy_list (isList_of ha) (by rw [hs.1]; omega) ⟨?_, Step.tok (by omega)⟩
      rw [← Array.isEmpty_toList]; exact isEmpty_vrs hs
    · cases h
  | d d =>
    cases d with
    | bool c => cases VR.boolean r; cases h; exact wpAny_truthy_bool ⟨rfl, .refl⟩
    | str l =>
      obtain ⟨t, k, rfl, rfl⟩ := VR.text r
      simp only [truth] at h
      split at h
      · rename_i hz
        cases h
        refine P.truthy_str (nat63 (by rw [str_len]; omega)) ⟨?_, Step.tok (by omega)⟩
        rw [str_len]; cases t.cps.toList with
        | nil => rfl
        | cons c r => simp; omega
      · cases h
    | lst l =>
      obtain ⟨a, vs, n, rfl, ha, hs⟩ := VR.list r
      simp only [truth] at h
      split at h
      · cases h
        refine wpAny_truthy_list (isList_of ha.2) (by rw [hs.1]; omega) ⟨?_, Step.tok (by omega)⟩
        rw [← Array.isEmpty_toList]; exact isEmpty_vrs hs
      · cases h
    | _ => cases h

/-! comparisons -/
noncomputable def cmpOf : Cmp → CmpOp
  | .eq => .Eq | .ne => .NotEq | .lt => .Lt | .le => .LtE | .gt => .Gt | .ge => .GtE | .is => .Is | .isNot => .IsNot | .mem => .In | .notMem => .NotIn

theorem same_no {a b : Value} (h : (∃ x t y, a = .str x t ∧ b = .ref y)) : isSame a b = pure false := by
  obtain ⟨x, t, y, rfl, rfl⟩ := h
  rfl
theorem is_pure {a b : Value} {c : Bool} (h : isSame a b = pure c) : wpAny (M K) A (compareOp .Is a b) (fun r s' => r = .bool c ∧ Step K s s') NoE s := by
  show wpAny _ _ (do return Value.bool (← isSame a b)) _ _ s
  rw [h]; exact wpAny_pure ⟨rfl, .refl⟩
theorem isNot_pure {a b : Value} {c : Bool} (h : isSame a b = pure c) : wpAny (M K) A (compareOp .IsNot a b) (fun r s' => r = .bool (!c) ∧ Step K s s') NoE s := by
  show wpAny _ _ (do return Value.bool (!(← isSame a b))) _ _ s
  rw [h]; exact wpAny_pure ⟨rfl, .refl⟩
theorem same_ref (a : Addr) : isSame (.ref a) (.ref a) = pure true := by
  unfold isSame
  simp

theorem bools_get : ∀ {l : List D} {bs : List Bool}, bools? l = some bs → l = bs.map .bool
  | [], _, h => by cases h; rfl
  | d :: r, bs, h => by
    cases d <;> simp [bools?] at h
    obtain ⟨cs, hc, rfl⟩ := h
    rw [bools_get hc]; rfl
theorem ints_get : ∀ {l : List D} {bs : List Int}, ints? l = some bs → l = bs.map .int
  | [], _, h => by cases h; rfl
  | d :: r, bs, h => by
    cases d <;> simp [ints?] at h
    obtain ⟨cs, hc, rfl⟩ := h
    rw [ints_get hc]; rfl
theorem strs_get : ∀ {l : List D} {bs : List S}, strs? l = some bs → l = bs.map .str
  | [], _, h => by cases h; rfl
  | d :: r, bs, h => by
    cases d <;> simp [strs?] at h
    obtain ⟨cs, hc, rfl⟩ := h
    rw [strs_get hc]; rfl

/-- the look along a list for an int -/
noncomputable def hitI (i : Int) : Value → Bool
  | .int j _ => j == i
  | _ => false
noncomputable def hitB (i : Bool) : Value → Bool
  | .bool j => j == i
  | _ => false
theorem vrs_mem {P : Addr → Obj → Prop} {vs : Array Value} {l : List D} (h : VRs sa P vs l) {y : Value} (hy : y ∈ vs) : ∃ (k : Nat) (d : D), l[k]? = some d ∧ vs[k]? = some y ∧ VR sa P y d := by
  obtain ⟨k, hk, rfl⟩ := Array.mem_iff_getElem.mp hy
  have hk' : k < l.length := by rw [← h.1]; exact hk
  exact ⟨k, l[k], List.getElem?_eq_getElem hk', by simp [hk], h.2 k _ _ (by simp [hk]) (List.getElem?_eq_getElem hk')⟩
theorem any_hit {P : Addr → Obj → Prop} {α : Type} [BEq α] [LawfulBEq α] {f : α → D} {vs : Array Value} {l : List α} (h : VRs sa P vs (l.map f)) (i : α) (e : Value → Bool)
    (he : ∀ y d, VR sa P y (f d) → e y = (d == i)) : vs.any e = l.contains i := by
  rw [Bool.eq_iff_iff, Array.any_eq_true, List.contains_iff_mem]
  constructor
  · rintro ⟨k, hk, hq⟩
    obtain ⟨k', d, h1, h2, h3⟩ := vrs_mem h (Array.getElem_mem hk)
    rw [List.getElem?_map] at h1
    cases hl : l[k']? with
    | none => rw [hl] at h1; cases h1
    | some z =>
      rw [hl] at h1
      cases h1
      rw [he _ _ h3] at hq
      rw [← eq_of_beq hq]
      exact List.mem_of_getElem? hl
  · intro hm
    obtain ⟨k, hk, rfl⟩ := List.mem_iff_getElem.mp hm
    have hk' : k < vs.size := by rw [h.1, List.length_map]; exact hk
    refine ⟨k, hk', ?_⟩
    have := h.2 k vs[k] (f l[k]) (by simp [hk']) (by simp [hk])
    rw [he _ _ this]; simp
theorem in_ints {a : Addr} {vs : Array Value} {n : Nat} {l : List Int} {i : Int} {t : Tok} {P : Addr → Obj → Prop} (ha : s.heap.get? a = some (lstO vs n)) (h : VRs sa P vs (l.map .int)) :
    wpAny (M K) A (compareOp .In (.int i t) (.ref a)) (fun r s' => r = .bool (l.contains i) ∧ Step K s s') NoE s :=
  SeqAt.in_listAt (hitI i) (isList_of ha) (fun y hy => by
    obtain ⟨k, d, h1, h2, h3⟩ := vrs_mem h hy
    rw [List.getElem?_map] at h1
    cases hl : l[k]? with
    | none => rw [hl] at h1; cases h1
    | some z =>
      rw [hl] at h1; cases h1
      obtain ⟨t', rfl⟩ := VR.num h3
      exact SeqAt.EqAt.int_int z t' i t) ⟨by rw [any_hit h i (hitI i) fun y d hv => by obtain ⟨t', rfl⟩ := VR.num hv; rfl], .refl⟩
theorem in_bools {a : Addr} {vs : Array Value} {n : Nat} {l : List Bool} {i : Bool} {P : Addr → Obj → Prop} (ha : s.heap.get? a = some (lstO vs n)) (h : VRs sa P vs (l.map .bool)) :
    wpAny (M K) A (compareOp .In (.bool i) (.ref a)) (fun r s' => r = .bool (l.contains i) ∧ Step K s s') NoE s :=
  SeqAt.in_listAt (hitB i) (isList_of ha) (fun y hy => by
    obtain ⟨k, d, h1, h2, h3⟩ := vrs_mem h hy
    rw [List.getElem?_map] at h1
    cases hl : l[k]? with
    | none => rw [hl] at h1; cases h1
    | some z =>
      rw [hl] at h1; cases h1
      cases VR.boolean h3
      exact SeqAt.EqAt.bool_bool z i) ⟨by rw [any_hit h i (hitB i) fun y d hv => by cases VR.boolean hv; rfl], .refl⟩
theorem str_beq' (x y : Str) : (x == y) = (x.cps.toList == y.cps.toList) := (toList_beq x y).symm
theorem in_sign {c : Nat} {x z : Str} {t k : Tok} (hz : z.cps.toList = [c]) : (!(occurrences x z 0 x.length 1).isEmpty) = x.cps.toList.contains c := by
  have e : z = ⟨#[c]⟩ := Str.ext' (Array.ext' hz)
  rw [e, found_one, Bool.eq_iff_iff]
  simp

theorem cmpS_ok {o : Cmp} {b : Bool} {c d : S} (h : cmpS o c d = some b) (r : RX sa K.tabs O s.heap v (.d (.str c))) (q : RX sa K.tabs O s.heap u (.d (.str d))) : wpAny (M K) A (compareOp (cmpOf o) v u) (fun r s' => r = .bool b ∧ Step K s s') NoE s := by
  obtain ⟨x, t, rfl, hx⟩ := VR.text r
  obtain ⟨z, k, rfl, rfl⟩ := VR.text q
  cases o with
  | eq => subst hx; cases h; exact P.eq_str ⟨rfl, .refl⟩
  | ne => subst hx; cases h; exact P.ne_str ⟨rfl, .refl⟩
  | le => subst hx; cases h; exact P.le_str ⟨by rw [leS_eq], .refl⟩
  | gt => subst hx; cases h; exact P.gt_str ⟨by rw [leS_eq, Bool.not_not], .refl⟩
  | mem =>
    cases c with
    | nil => cases h
    | cons c tl => cases tl with
      | nil => cases h; exact PyProof.Rows.in_str ⟨by rw [in_sign (t := t) (k := t) hx], .refl⟩
      | cons e tl => cases h
  | notMem =>
    cases c with
    | nil => cases h
    | cons c tl => cases tl with
      | nil => cases h; exact PyProof.Rows.notIn_str ⟨by rw [in_sign (t := t) (k := t) hx], .refl⟩
      | cons e tl => cases h
  | _ => cases h
theorem cmpI_ok {o : Cmp} {b : Bool} {c d : Int} (h : cmpI o c d = some b) (r : RX sa K.tabs O s.heap v (.d (.int c))) (q : RX sa K.tabs O s.heap u (.d (.int d))) : wpAny (M K) A (compareOp (cmpOf o) v u) (fun r s' => r = .bool b ∧ Step K s s') NoE s := by
  obtain ⟨t, rfl⟩ := VR.num r
  obtain ⟨k, rfl⟩ := VR.num q
  cases o with
  | eq => cases h; exact P.eq_int ⟨rfl, .refl⟩
  | lt => cases h; exact P.lt_int ⟨rfl, .refl⟩
  | le => cases h; exact P.le_int ⟨rfl, .refl⟩
  | gt => cases h; exact P.gt_int ⟨rfl, .refl⟩
  | ge => cases h; exact P.ge_int ⟨rfl, .refl⟩
  | _ => cases h
theorem cmpM_some {o : Cmp} {x : Option Bool} {b : Bool} (h : cmpM o x = some b) : o = .mem ∧ x = some b := by
  cases o with
  | mem => exact ⟨rfl, h⟩
  | _ => cases h
theorem pairHas_some {s : S} {d e : D} {b : Bool} (h : pairHas s d e = some b) : ∃ x y, d = .str x ∧ e = .str y ∧ b = (s == x || s == y) := by
  unfold pairHas at h
  split at h
  · cases h; exact ⟨_, _, rfl, rfl, rfl⟩
  · cases h
theorem in_pair {s' : S} {d e : D} {b : Bool} (h : pairHas s' d e = some b) (r : RX sa K.tabs O s.heap v (.d (.str s'))) (q : RX sa K.tabs O s.heap u (.d (.tup d e))) : wpAny (M K) A (compareOp .In v u) (fun r s' => r = .bool b ∧ Step K s s') NoE s := by
  obtain ⟨y1, y2, rfl, rfl, rfl⟩ := pairHas_some h
  obtain ⟨x, t, rfl, rfl⟩ := VR.text r
  obtain ⟨a, v1, v2, n, rfl, ha, h1, h2⟩ := VR.pair q
  obtain ⟨x1, t1, rfl, rfl⟩ := VR.text h1
  obtain ⟨x2, t2, rfl, rfl⟩ := VR.text h2
  refine SeqAt.in_tupleAt (fun z => match z with | .str w _ => w == x | _ => false) ⟨_, ha.2, rfl, n, rfl⟩ (fun z hz => ?_) ⟨?_, .refl⟩
  · rcases (by simpa using hz : z = .str x1 t1 ∨ z = .str x2 t2) with rfl | rfl
    · exact SeqAt.EqAt.str_str _ _ _ _
    · exact SeqAt.EqAt.str_str _ _ _ _
  · simp only [List.any_toArray, List.any_cons, List.any_nil, Bool.or_false, str_beq']
    rw [Bool.beq_comm (a := x1.cps.toList), Bool.beq_comm (a := x2.cps.toList)]
theorem cmp_ok {o : Cmp} {b : Bool} (hu : A.units + 8 < cLine) (h : cmpX o x y = some b) (r : RX sa K.tabs O s.heap v x) (q : RX sa K.tabs O s.heap u y) :
    wpAny (M K) A (compareOp (cmpOf o) v u) (fun r s' => r = .bool b ∧ Step K s s') NoE s := by
  cases x with
  | own l => cases h
  | bnd l => cases h
  | d d =>
  cases y with
  | own l => cases h
  | bnd l => cases h
  | d e =>
  have h : cmpD o d e = some b := h
  cases d with
  | str c => cases e with
    | str d => exact cmpS_ok h r q
    | star =>
      obtain ⟨x, t, rfl, _⟩ := VR.text r
      cases VR.astar q
      cases o with
      | «is» => cases h; exact is_pure (same_no ⟨_, _, _, rfl, rfl⟩)
      | isNot => cases h; exact isNot_pure (same_no ⟨_, _, _, rfl, rfl⟩)
      | _ => cases h
    | tup a b =>
      obtain ⟨rfl, h2⟩ := cmpM_some h
      exact in_pair h2 r q
    | _ => cases h
  | int i => cases e with
    | int d => exact cmpI_ok h r q
    | lst l =>
      obtain ⟨rfl, h2⟩ := cmpM_some h
      cases hl : ints? l with
      | none => rw [hl] at h2; cases h2
      | some is =>
        rw [hl] at h2; cases h2
        rw [ints_get hl] at q
        obtain ⟨t, rfl⟩ := VR.num r
        obtain ⟨a, vs, n, rfl, ha, hs⟩ := VR.list q
        exact in_ints ha.2 hs
    | _ => cases h
  | bool i => cases e with
    | bool d =>
      cases VR.boolean r
      cases VR.boolean q
      cases o with
      | eq => cases h; exact PyProof.Rows.eq_bool ⟨rfl, .refl⟩
      | «is» => cases h; exact PyProof.Rows.is_bool ⟨rfl, .refl⟩
      | isNot => cases h; exact PyProof.Rows.isnot_bool ⟨rfl, .refl⟩
      | _ => cases h
    | lst l =>
      obtain ⟨rfl, h2⟩ := cmpM_some h
      cases hl : bools? l with
      | none => rw [hl] at h2; cases h2
      | some is =>
        rw [hl] at h2; cases h2
        rw [bools_get hl] at q
        cases VR.boolean r
        obtain ⟨a, vs, n, rfl, ha, hs⟩ := VR.list q
        exact in_bools ha.2 hs
    | _ => cases h
  | star => cases e with
    | star =>
      cases VR.astar r
      cases VR.astar q
      cases o with
      | «is» => cases h; exact is_pure (same_ref _)
      | isNot => cases h; exact isNot_pure (same_ref _)
      | _ => cases h
    | _ => cases h
  | _ => cases h
end
end Mini
end

section
open PySem PySem.Spec PySem.Calls PyProof.Rows PySem.W PySem.Builtin PySem.Builtin.Str PySem.StrLaws
set_option maxRecDepth 100000
namespace Mini
section
variable {K : Wd} {A : Around} {s : Shared} {sa : Addr} {O : List Addr} {v u : Value} {x y z : X}

/-- the fact and the step that each prim's lemma tells -/
noncomputable abbrev Gv (K : Wd) (sa : Addr) (O : List Addr) (z : X) (s : Shared) : Value → Shared → Prop := fun r s' => RX sa K.tabs O s'.heap r z ∧ Step K s s'

theorem ob {α β : Type} {o : Option α} {f : α → Option β} {b : β} (h : (o >>= f) = some b) : ∃ a, o = some a ∧ f a = some b := by
  cases o with
  | none => cases h
  | some a => exact ⟨a, rfl, h⟩
theorem opure {α : Type} {a b : α} (h : (pure a : Option α) = some b) : a = b := by cases h; rfl
theorem app_list (a b : Str) : (a ++ b).cps.toList = a.cps.toList ++ b.cps.toList := by
  show (a.cps ++ b.cps).toList = _
  exact Array.toList_append

theorem given_tok {d : D} {tk : Nat} (h : VR sa (Vw O s.heap) v d) (ht : s.toks ≤ tk) : Gv K sa O (.d d) s v { s with toks := tk } := ⟨h, Step.tok ht⟩

theorem add_ok (hOt : ∀ a ∈ O, a < s.heap.objs.size) (h : addX x y = some z) (r : RX sa K.tabs O s.heap v x) (q : RX sa K.tabs O s.heap u y) :
    wpAny (M K) A (binaryOp .Add v u) (Gv K sa O z s) NoE s := by
  unfold addX at h
  split at h
  · rename_i i j
    obtain ⟨rfl, h1, h2⟩ := okI_some h
    obtain ⟨t, rfl⟩ := VR.num r; obtain ⟨k, rfl⟩ := VR.num q
    exact P.add_int ⟨.int _ _, Step.tok (by omega)⟩
  · rename_i i j
    obtain ⟨rfl, h1⟩ := okS_some h
    obtain ⟨t, k, rfl, rfl⟩ := VR.text r; obtain ⟨t', k', rfl, rfl⟩ := VR.text q
    refine toks (PyProof.Rows.add_str (fun t'' tk hk => ⟨VR.ofStr (app_list _ _), Step.tok hk⟩) ?_)
    have := str_len t; have := str_len t'
    rw [List.length_append] at h1
    show _ ≤ 2 ^ 24
    omega
  · cases hx : asL x with
    | none => simp [hx] at h
    | some l =>
      cases hy : asL y with
      | none => simp [hx, hy] at h
      | some m =>
        simp [hx, hy] at h
        obtain ⟨rfl, h1⟩ := okL_some h
        obtain ⟨a, vs, n, rfl, ha, hs⟩ := RX.list r hx
        obtain ⟨b, ws, n', rfl, hb, ht⟩ := RX.list q hy
        refine P.add_list (hl := ha) (hb := hb) ⟨VR.ofVRs (n := 0) ⟨fun hm => Nat.lt_irrefl _ (hOt _ hm), Heap.get?_push_size _ rfl⟩ ?_, Step.push _⟩ ?_
        · exact (hs.append ht).mono fun b o hv => ⟨hv.1, Heap.get?_push_of_some _ hv.2⟩
        · rw [hs.1, ht.1]; rw [List.length_append] at h1; show _ ≤ 2 ^ 24; omega
theorem sub_ok (h : subX x y = some z) (r : RX sa K.tabs O s.heap v x) (q : RX sa K.tabs O s.heap u y) :
    wpAny (M K) A (binaryOp .Sub v u) (Gv K sa O z s) NoE s := by
  unfold subX at h
  cases hx : asI x <;> simp [hx] at h
  cases hy : asI y <;> simp [hy] at h
  obtain ⟨rfl, h1, h2⟩ := okI_some h
  cases asI_some hx; cases asI_some hy
  obtain ⟨t, rfl⟩ := VR.num r; obtain ⟨k, rfl⟩ := VR.num q
  exact P.sub_int ⟨.int _ _, Step.tok (by omega)⟩
theorem mod_ok (h : modX x y = some z) (r : RX sa K.tabs O s.heap v x) (q : RX sa K.tabs O s.heap u y) :
    wpAny (M K) A (binaryOp .Mod v u) (Gv K sa O z s) NoE s := by
  unfold modX at h
  cases hx : asI x <;> simp [hx] at h
  cases hy : asI y <;> simp [hy] at h
  obtain ⟨hp, h⟩ := h
  obtain ⟨rfl, h1, h2⟩ := okI_some h
  cases asI_some hx; cases asI_some hy
  obtain ⟨t, rfl⟩ := VR.num r; obtain ⟨k, rfl⟩ := VR.num q
  refine PyProof.Rows.mod_int' (by omega) ⟨?_, Step.tok (by omega)⟩
  rw [Int.fmod_eq_emod_of_nonneg _ (by omega)]
  exact .int _ _
theorem neg_ok {i : Nat} (h : okI (-(i : Int)) = some z) (t : Tok) : wpAny (M K) A (unaryOp .USub (.int i t)) (Gv K sa O z s) NoE s := by
  obtain ⟨rfl, h1, h2⟩ := okI_some h
  exact P.neg_int ⟨.int _ _, Step.tok (by omega)⟩

theorem at_some {i : Int} {n k : Nat} (h : at? i n = some k) : k < n ∧ ((0 ≤ i ∧ k = i.toNat ∧ i < n) ∨ (i < 0 ∧ -(n : Int) ≤ i ∧ k = (i + n).toNat)) := by
  unfold at? at h
  split at h
  · split at h
    · cases h; omega
    · cases h
  · split at h
    · cases h; omega
    · cases h

/-- what an index gives: the type's own item -/
theorem idx_ok {b : Bool} (h : idxX b x y = some z) (r : RX sa K.tabs O s.heap v x) (q : RX sa K.tabs O s.heap u y) :
    ∃ T id, s.TypeIs v T ∧ typeLookup (.type T) "__getitem__" = pure (some (.builtin id)) ∧ wpAny (M K) A (getItem v u) (Gv K sa O z s) NoE s := by
  unfold idxX at h
  cases hy : asI y with
  | none => simp [hy] at h
  | some i =>
  cases asI_some hy
  obtain ⟨k, rfl⟩ := VR.num q
  simp [hy] at h
  split at h
  · rename_i l
    unfold idxS at h
    split at h
    · cases h
    rename_i hlen
    · obtain ⟨j, ha, h⟩ := ob h
      obtain ⟨c, hcx, h⟩ := ob h
      cases opure h
      obtain ⟨t, k', rfl, rfl⟩ := VR.text r
      obtain ⟨hj, hj'⟩ := at_some ha
      refine ⟨_, _, typeIs_str _ _ _, F.slot_str_getitem.lookup, P.getItem_str (c := c) ?_ ?_ ⟨.str ⟨#[c]⟩ _, Step.tok (by omega)⟩⟩
      · simp; constructor <;> omega
      · rw [at_seq, str_len, ha]; simpa using hcx
  · split at h
    · cases hx : asL x with
      | none => simp [hx] at h
      | some l =>
        simp [hx] at h
        unfold idxL at h
        split at h
        · cases h
        rename_i hlen
        · obtain ⟨j, ha, h⟩ := ob h
          obtain ⟨d, hd, h⟩ := ob h
          cases opure h
          obtain ⟨a, vs, n, rfl, hg, hs⟩ := RX.list r hx
          obtain ⟨w, hw, hr⟩ := hs.get hd
          have hl := isList_of hg
          obtain ⟨hj, hj'⟩ := at_some ha
          refine ⟨_, _, hl.typeIs, slot_list_getitem.lookup, ?_⟩
          rcases hj' with ⟨h0, rfl, _⟩ | ⟨h0, h1, rfl⟩
          · exact wpAny_getItem_list hl h0 (by omega) hw ⟨hr, .refl⟩
          · exact wpAny_getItem_list_neg hl h0 (by rw [hs.1]; exact h1) (by omega) (by rw [hs.1]; exact hw) ⟨hr, .refl⟩
    · cases h

theorem slice_ok {a : Addr} {t : Str} {k : Tok} {l r : Option (Int × Tok)} (hs : s.heap.IsSlice a l r none) (hx : t.length ≤ 4096) :
    ItemOn (M K) A NoE (.str t k) (.ref a) (Gv K sa O (.d (.str (Txt.slice t (l.map (·.1)) (r.map (·.1))).cps.toList)) s) s := by
  have hsz : ∀ i j, (Txt.slice t i j).length ≤ sizeLine := fun i j => Nat.le_trans (Txt.slice_le t _ _) (by show _ ≤ 2 ^ 24; omega)
  refine ⟨"str", _, F.slot_str_getitem.lookup, typeIs_str _ _ _, toks (wpAny_getItem_str_slice hs rfl ?_)⟩
  cases l <;> cases r <;> exact post_val_or_str ⟨hsz _ _, fun t' k' hk => ⟨VR.ofStr rfl, Step.tok hk⟩⟩

theorem tup_ok {d e : D} (hOt : ∀ a ∈ O, a < s.heap.objs.size) (r : VR sa (Vw O s.heap) v d) (q : VR sa (Vw O s.heap) u e) :
    wpAny (M K) A (newTuple [v, u]) (Gv K sa O (.d (.tup d e)) s) NoE s := by
  refine wpAny_newObj_type ⟨VR.tup (n := 0) ⟨fun hm => Nat.lt_irrefl _ (hOt _ hm), Heap.get?_push_size _ rfl⟩ ?_ ?_, Step.push _⟩
  · exact r.mono fun b o hv => ⟨hv.1, Heap.get?_push_of_some _ hv.2⟩
  · exact q.mono fun b o hv => ⟨hv.1, Heap.get?_push_of_some _ hv.2⟩
theorem list_ok {l : List Value} {ds : List D} (hOt : ∀ a ∈ O, a < s.heap.objs.size) (h : ds.length ≤ 4096) (r : VRs sa (Vw O s.heap) l.toArray ds) :
    wpAny (M K) A (newList l) (Gv K sa O (.d (.lst ds)) s) NoE s := by
  have := r.1
  rw [List.size_toArray] at this
  refine wpAny_newObj_type ⟨VR.ofVRs (n := 0) ⟨fun hm => Nat.lt_irrefl _ (hOt _ hm), Heap.get?_push_size _ rfl⟩ ?_, Step.push _⟩ ?_
  · exact r.mono fun b o hv => ⟨hv.1, Heap.get?_push_of_some _ hv.2⟩
  · show l.toArray.size ≤ 2 ^ 24
    rw [List.size_toArray]; omega

theorem len_ok (h : lenX x = some z) (r : RX sa K.tabs O s.heap v x) :
    wpAny (M K) A (call (.builtin "len") [v]) (Gv K sa O z s) NoE s := by
  unfold lenX at h
  split at h
  · obtain ⟨t, k, rfl, rfl⟩ := VR.text r
    obtain ⟨rfl, h1, h2⟩ := okI_some h
    refine PyProof.Rows.len_str (nat63 (by rw [str_len]; omega)) ⟨?_, Step.tok (by omega)⟩
    rw [str_len]; exact .int _ _
  · obtain ⟨l, hx, h⟩ := ob h
    obtain ⟨rfl, h1, h2⟩ := okI_some h
    obtain ⟨a, vs, n, rfl, ha, hs⟩ := RX.list r hx
    refine Calls.call_len_list (isList_of ha) (by rw [hs.1]; omega) ⟨?_, Step.tok (by omega)⟩
    rw [hs.1]; exact .int _ _


theorem any_ok (hh : A.handled = none) (h : anyX x = some z) (r : RX sa K.tabs O s.heap v x) :
    wpAny (M K) A (call (.builtin "any") [v]) (Gv K sa O z s) NoE s := by
  unfold anyX at h
  obtain ⟨l, hx, h⟩ := ob h
  obtain ⟨bs, hb, h⟩ := ob h
  cases opure h
  obtain ⟨a, vs, n, rfl, ha, hs⟩ := RX.list r hx
  rw [bools_get hb] at hs
  have hav : ∀ (i : Nat) v, vs[i]? = some v → ∃ c, bs[i]? = some c ∧ v = .bool c := fun i v hi => by
    have hl : i < (bs.map D.bool).length := by rw [← hs.1]; exact (Array.getElem?_eq_some_iff.mp hi).1
    rw [List.length_map] at hl
    have := hs.2 i v (.bool bs[i]) hi (by simp [hl])
    exact ⟨bs[i], by simp [hl], VR.boolean this⟩
  refine toks (call_any_walk (wpAny_pyIter_list (isList_of ha) ?_))
  refine ⟨s.heap.objs.size, _, _, _, _, _, fun i => bs.getD i false, rfl, Walks.list (A := A.in1) hh _ a (Nat.ne_of_lt (Heap.lt_size ha)) vs, ⟨⟨_, Heap.get?_push_size _ rfl, rfl, rfl⟩, (isList_of ha).push _⟩, ?_, ?_⟩
  · intro i v s' Q E hP hQ
    obtain ⟨c, hc, rfl⟩ := hav i v hP
    refine wpAny_truthy_bool ?_
    simpa [List.getD, hc] using hQ
  · intro h' tk hk htk
    refine ⟨?_, ?_⟩
    · have : (List.range vs.size).any (fun i => bs.getD i false) = bs.any id := by
        have hz : vs.size = bs.length := by rw [hs.1, List.length_map]
        rw [hz, Bool.eq_iff_iff, List.any_eq_true, List.any_eq_true]
        constructor
        · rintro ⟨i, hi, hp⟩
          rw [List.mem_range] at hi
          exact ⟨bs[i], List.getElem_mem hi, by simpa [List.getD, hi] using hp⟩
        · rintro ⟨c, hc, hp⟩
          obtain ⟨i, hi, rfl⟩ := List.getElem_of_mem hc
          exact ⟨i, List.mem_range.mpr hi, by simpa [List.getD, hi] using hp⟩
      rw [this]; exact .bool _
    · have hkk : ∀ b o, s.heap.get? b = some o → h'.get? b = some o := fun b o e => hk b o (by simp; exact Nat.ne_of_lt (Heap.lt_size e)) (Heap.get?_push_of_some _ e)
      exact Step.of hkk htk

theorem lrange_ok (hOt : ∀ a ∈ O, a < s.heap.objs.size) (hh : A.handled = none) (h : lrangeX x y = some z) (r : RX sa K.tabs O s.heap v x) (q : RX sa K.tabs O s.heap u y) :
    wpAny (M K) A (call (.type "range") [v, u]) (fun rv s' => wpAny (M K) A (call (.type "list") [rv]) (Gv K sa O z s) NoE s') NoE s := by
  unfold lrangeX at h
  obtain ⟨i, hx, g1⟩ := ob h
  obtain ⟨j, hy, g⟩ := ob g1
  clear h g1
  cases asI_some hx; cases asI_some hy
  obtain ⟨t, rfl⟩ := VR.num r; obtain ⟨k, rfl⟩ := VR.num q
  split at g
  rotate_left
  · cases g
  rename_i hb
  obtain ⟨rfl, hl⟩ := okL_some g
  simp only [List.length_map, List.length_range] at hl
  refine call_range_2 (toks ?_)
  refine call_list_range (n := (j - i).toNat) hh (Heap.get?_push_size _ rfl) (small_one (by omega) (by omega) (by omega) (by omega)) (by rw [rangeSize_one]; split <;> omega) (by omega) fun h' tk acc' c' hk hg hi htk => ⟨VR.ofVRs (n := c') ⟨fun hm => absurd (hOt _ hm) (by show ¬ ((s.heap.push _).objs.size < s.heap.objs.size); rw [Heap.size_push]; omega), hg⟩ ⟨by rw [hi.1]; simp, fun m w d hw hd => ?_⟩, Step.of (fun b o e => hk _ _ (Heap.get?_push_of_some _ e)) (Nat.le_trans (Nat.le_succ _) htk)⟩
  obtain ⟨t', rfl⟩ := hi.2 m w hw
  rw [List.getElem?_map] at hd
  have hm : m < (j - i).toNat := by
    rcases Nat.lt_or_ge m (j - i).toNat with q | q
    · exact q
    · rw [List.getElem?_eq_none (by simpa using q)] at hd; cases hd
  rw [List.getElem?_range hm] at hd
  cases hd
  rw [Int.mul_one]
  exact .int _ _

theorem strs_vals {P : Addr → Obj → Prop} : ∀ {vs : List Value} {l : List S}, VRs sa P vs.toArray (l.map .str) → ∃ m : List (Str × Tok), vs = strValues m ∧ (m.map (·.1)).map (·.cps.toList) = l
  | [], [], _ => ⟨[], rfl, rfl⟩
  | [], _ :: _, h => by have := h.1; simp at this
  | _ :: _, [], h => by have := h.1; simp at this
  | v :: vs, l :: ls, h => by
    obtain ⟨x, t, rfl, hx⟩ := VR.text (h.2 0 v (.str l) (by simp) (by simp))
    obtain ⟨m, rfl, hm⟩ := strs_vals (vs := vs) (l := ls) ⟨by have := h.1; simpa using this, fun i w d hw hd => h.2 (i + 1) w d (by simpa using hw) (by simpa using hd)⟩
    exact ⟨(x, t) :: m, rfl, by simp [hx, hm]⟩
theorem joinS_len (sep : S) : ∀ l : List S, (l.map fun x => x.length + sep.length).sum ≤ (joinS sep l).length + sep.length
  | [] => by simp [joinS]
  | [x] => by simp [joinS]
  | x :: y :: r => by
    have := joinS_len sep (y :: r)
    simp only [List.map_cons, List.sum_cons, joinS, List.length_append] at this ⊢
    omega
theorem foldl_len (sep : Str) (l : List Str) : ∀ n, l.foldl (· + ·.length + sep.length) n = n + (l.map fun x => x.length + sep.length).sum := by
  induction l with
  | nil => intro n; simp
  | cons x r ih => intro n; simp only [List.foldl_cons, ih, List.map_cons, List.sum_cons]; omega
theorem join_fit {sep : Str} {l : List Str} (hs : sep.length ≤ 16) (h : (joinS sep.cps.toList (l.map (·.cps.toList))).length ≤ 4096) : JoinOk sep l = true := by
  unfold JoinOk
  rw [List.foldl_toArray' _ _ _ rfl, foldl_len]
  have := joinS_len sep.cps.toList (l.map (·.cps.toList))
  rw [List.map_map] at this
  have e : (l.map ((fun x : S => x.length + sep.cps.toList.length) ∘ fun x => x.cps.toList)) = l.map fun x => x.length + sep.length := by
    apply List.map_congr_left; intro x _; simp [str_len]
  rw [e] at this
  rw [str_len] at hs
  have hs' : (2 : Nat) ^ 24 = 16777216 := by decide
  simp only [tooLong, sizeLine, Bool.not_eq_true', decide_eq_false_iff_not, hs']
  omega
theorem join_ok {sep : Str} {k : Tok} (h : joinX sep.cps.toList x = some z) (r : RX sa K.tabs O s.heap v x) :
    wpAny (M K) A (call (.builtin "str.join") [.str sep k, v]) (Gv K sa O z s) NoE s := by
  unfold joinX at h
  obtain ⟨l, hx, h⟩ := ob h
  split at h
  · rename_i hl
    obtain ⟨ss, hss, h⟩ := ob h
    obtain ⟨rfl, hz⟩ := okS_some h
    obtain ⟨a, vs, n, rfl, ha, hs⟩ := RX.list r hx
    rw [strs_get hss] at hs
    obtain ⟨m, hm, rfl⟩ := strs_vals (vs := vs.toList) (by simpa using hs)
    have hil : s.heap.IsList a (strValues m).toArray := by rw [← hm]; simpa using isList_of ha
    refine toks (SC.join hil rfl (join_fit (by rw [str_len]; exact hl.2) hz) fun t' k' hk => ⟨VR.ofStr (txt_join _ _), Step.tok hk⟩)
  · cases h

theorem repl_ok {p q : Str} {k k' : Tok} (h0 : k ≠ 0) (h1 : k' ≠ 0) (h2 : k ≠ k') (h : replX p.cps.toList q.cps.toList x = some z) (r : RX sa K.tabs O s.heap v x) :
    wpAny (M K) A (call (.builtin "str.replace") [v, .str p k, .str q k']) (Gv K sa O z s) NoE s := by
  unfold replX at h
  obtain ⟨l, hx, g⟩ := ob h
  clear h
  cases asS_some hx
  obtain ⟨t, kt, rfl, rfl⟩ := VR.text r
  split at g
  · cases g
  · rename_i hc
    simp only [Bool.or_eq_true, not_or, decide_eq_true_eq, Bool.not_eq_true] at hc
    obtain ⟨⟨⟨hp, hne⟩, hq⟩, hl⟩ := hc
    obtain ⟨rfl, hz⟩ := okS_some g
    have hp' : 0 < p.length := by rw [str_len]; cases hh : p.cps.toList <;> simp_all
    refine toks (SC.replace h0 h1 h2 ?_ ?_ fun t' k'' hk => ⟨VR.ofStr (replace_is _ _ _ hp'), Step.tok hk⟩)
    · rw [str_beq']; exact hne
    · rw [str_len, str_len]
      have : (t.cps.toList.length + 1) * q.cps.toList.length ≤ 4097 * 16 := Nat.mul_le_mul (by omega) (by omega)
      omega

theorem find_ok {p : Str} {k : Tok} {vi vj : Value} {i j : X} (h : findX p.cps.toList x i j = some z) (r : RX sa K.tabs O s.heap v x) (ri : RX sa K.tabs O s.heap vi i) (rj : RX sa K.tabs O s.heap vj j) :
    wpAny (M K) A (call (.builtin "str.find") [v, .str p k, vi, vj]) (Gv K sa O z s) NoE s := by
  unfold findX at h
  obtain ⟨l, hx, g1⟩ := ob h
  obtain ⟨i, hi, g2⟩ := ob g1
  obtain ⟨j, hj, g3⟩ := ob g2
  clear h g1 g2
  cases asS_some hx; cases asI_some hi; cases asI_some hj
  obtain ⟨t, kt, rfl, rfl⟩ := VR.text r
  obtain ⟨ti, rfl⟩ := VR.num ri
  obtain ⟨tj, rfl⟩ := VR.num rj
  split at g3
  · rename_i c hc
    split at g3
    · rename_i hh
      obtain ⟨rfl, h1, h2⟩ := okI_some g3
      have e : p = ⟨#[c]⟩ := Str.ext' (Array.ext' hc)
      rw [← str_len] at hh
      have g : Gives («str.find» ⟨[.str t kt, .str p k, .int i ti, .int j tj], []⟩) (.int (match occurrences t p i.toNat j.toNat 1 with | k :: _ => (k : Int) | [] => -1)) := by
        show Gives (match occurrences t p (max 0 (if i < 0 then i + (t.length : Int) else i)).toNat (min (max 0 (if j < 0 then j + (t.length : Int) else j)).toNat t.length) 1 with | k :: _ => retInt k | [] => (do rule "str.find.not-found"; retInt (-1))) _
        rw [show (max 0 (if i < 0 then i + (t.length : Int) else i)).toNat = i.toNat by rw [if_neg (by omega)]; omega, show (min (max 0 (if j < 0 then j + (t.length : Int) else j)).toNat t.length) = j.toNat by rw [if_neg (by omega)]; omega]
        cases occurrences t p i.toNat j.toNat 1 with
        | nil => exact .rule (.of_eq rfl)
        | cons k _ => exact .of_eq rfl
      refine call_gives F.slot_str_find (typeIs_str _ _ _) F.entry_str_find (F.args_str_find_4 _ _ _ _) g ⟨?_, Step.tok (by omega)⟩
      have e2 := find_one t c i.toNat j.toNat (by omega)
      rw [← e] at e2
      generalize occurrences t p i.toNat j.toNat 1 = oc at e2 ⊢
      rw [← e2]
      cases oc <;> exact .int _ _
    · cases g3
  · cases g3

theorem dropW {p : Nat → Bool} : ∀ {l : S} {n : Nat}, n ≤ l.length → (∀ k, k < n → p (l.getD k 0) = true) → (n = l.length ∨ p (l.getD n 0) = false) → l.dropWhile p = l.drop n
  | [], 0, _, _, _ => rfl
  | c :: l, 0, _, _, h => by
    rcases h with h | h
    · simp at h
    · simp only [List.getD_cons_zero] at h
      simp [List.dropWhile_cons, h]
  | c :: l, n + 1, hn, h1, h2 => by
    have hc : p c = true := by simpa using h1 0 (by omega)
    simp only [List.dropWhile_cons, hc, if_true, List.drop_succ_cons]
    exact dropW (by simpa using hn) (fun k hk => by simpa using h1 (k + 1) (by omega)) (by exact h2.elim (fun h => .inl (by simpa using h)) fun h => .inr (by simpa using h))
theorem isSp_ascii : ∀ c, c < 128 → Unicode.isSpace c = isSp c := by decide +kernel
theorem strip_is (t : Str) (h : ∀ c ∈ t.cps.toList, c < 128) : (Txt.strip t).cps.toList = stripS t.cps.toList := by
  have hg : ∀ k, k < t.length → Unicode.isSpace (t.cps.getD k 0) = isSp (t.cps.toList.getD k 0) := fun k hk => by
    rw [← getD_list]
    refine isSp_ascii _ (h _ ?_)
    rw [str_len] at hk
    have e : t.cps.toList.getD k 0 = t.cps.toList[k] := by simp only [List.getD, List.getElem?_eq_getElem hk, Option.getD_some]
    rw [e]
    exact List.getElem_mem hk
  show (Txt.stripBy Unicode.isSpace true true t).cps.toList = _
  rw [PyProof.Rows.stripBy_eq, strSub_toList]
  obtain ⟨l1, l2, l3⟩ := lo_facts Unicode.isSpace t
  generalize stripLo Unicode.isSpace true t = lo at *
  obtain ⟨h1, h2, h3, h4⟩ := hi_facts Unicode.isSpace t lo l1
  generalize stripHi Unicode.isSpace true t lo = hi at *
  have e1 : t.cps.toList.dropWhile isSp = t.cps.toList.drop lo := dropW (by rw [← str_len]; exact l1) (fun k hk => by rw [← hg k (by omega)]; exact l2 k hk) (by
    rcases Nat.lt_or_ge lo t.length with q | q
    · right
      rw [← hg lo q]
      exact l3.resolve_left (Nat.ne_of_lt q)
    · left; rw [← str_len]; omega)
  unfold stripS
  rw [e1]
  have hlen : (t.cps.toList.drop lo).length = t.length - lo := by rw [List.length_drop, str_len]
  have e2 : (t.cps.toList.drop lo).reverse.dropWhile isSp = (t.cps.toList.drop lo).reverse.drop (t.length - hi) := dropW (by rw [List.length_reverse, hlen]; omega) (fun k hk => by
      rw [rev_getD _ _ (by rw [hlen]; omega), hlen, drop_getD, ← hg _ (by omega)]
      exact h3 _ (by omega) (by omega)) (by
    rcases h4 with q | q
    · left; rw [List.length_reverse, hlen]; omega
    · by_cases hh : hi = lo
      · left; rw [List.length_reverse, hlen]; omega
      · right
        rw [rev_getD _ _ (by rw [hlen]; omega), hlen, drop_getD, ← hg _ (by omega)]
        rw [show lo + (t.length - lo - 1 - (t.length - hi)) = hi - 1 by omega]; exact q)
  rw [e2, List.drop_reverse, List.reverse_reverse, hlen, show t.length - lo - (t.length - hi) = hi - lo by omega]
theorem strip_ok (h : stripX x = some z) (r : RX sa K.tabs O s.heap v x) :
    wpAny (M K) A (call (.builtin "str.strip") [v]) (Gv K sa O z s) NoE s := by
  unfold stripX at h
  obtain ⟨l, hx, g⟩ := ob h
  clear h
  cases asS_some hx
  obtain ⟨t, kt, rfl, rfl⟩ := VR.text r
  split at g
  · rename_i hc
    rw [Bool.and_eq_true] at hc
    obtain ⟨rfl, hz⟩ := okS_some g
    refine toks (SC.strip (fun t' k hk => ⟨VR.ofStr (strip_is t (fun c hm => by simpa using List.all_eq_true.mp hc.1 c hm)), Step.tok hk⟩) ?_)
    rw [str_len]
    have := of_decide_eq_true hc.2
    show _ ≤ 2 ^ 24
    omega
  · cases g
end
end Mini
end

section
open PySem PySem.Spec PySem.Calls PyProof.Rows PySem.W PySem.Builtin PySem.Builtin.Str PySem.StrLaws
set_option maxRecDepth 100000
namespace Mini
theorem sub_key_lookup : isSubtype (.type "KeyError") (.type "LookupError") = pure true := by rw [isSubtype_type]; kernel_rfl
theorem lookup_miss {prog : Program} {w : World} {A : Around} {E : Value → Shared → Prop} {s : Shared} {d : Addr} {c : Nat} {f : Int → Option Value} {Q : Mapped → Shared → Prop} (hd : (d == sysModules) = false) (hh : A.handled = none) (hm : s.heap.MapOf (PySem.intKind prog w) d f) (hv : f c = none)
    (h : ∀ h' tk, (∀ b o, s.heap.get? b = some o → h'.get? b = some o) → Q .keep { s with heap := h', toks := tk }) : wpAny (model prog w) A (tableLookup (.ref d) c) Q E s := by
  unfold tableLookup
  refine wpAny_bind (wpAny_attempt (wpAny_bind (wpAny_mkInt ?_)))
  refine wpAny_getItem_missing_of (k := (c : Int)) (by simp [PySem.intKind, Value.isInt]) hd hh hm hv fun h' e hx => ?_
  obtain ⟨ob, tt, ho, hc, _⟩ := hx.there
  show wpAny _ _ (do if ← isInstance (.ref e) (.type "LookupError") then (do rule "str.translate.not-in-table"; pure Mapped.keep) else throw (.ref e)) _ _ _
  refine wpAny_bind (wpAny_isInstance ⟨ob, ho, hc⟩ sub_key_lookup ?_)
  exact wpAny_bind (wpAny_rule (wpAny_pure (h h' _ hx.keeps)))

theorem translate_keep {prog : Program} {w : World} {A : Around} {E : Value → Shared → Prop} {s : Shared} {d : Addr} {c : Nat} {t : Tok} {f : Int → Option Value} {P : PySem.Fin → Shared → Prop} (hd : (d == sysModules) = false) (hh : A.handled = none) (hm : s.heap.MapOf (PySem.intKind prog w) d f) (hv : f c = none) (hc : c < 128)
    (h : ∀ h' tk t', (∀ b o, s.heap.get? b = some o → h'.get? b = some o) → P (.done (.ret (.str ⟨#[c]⟩ t'))) { s with heap := h', toks := tk }) : wpAny (model prog w) A (Builtin.«str.translate» ⟨[.str ⟨#[c]⟩ t, .ref d], []⟩) P E s := by
  unfold Builtin.«str.translate»
  refine wpAny_bind (wpAny_of_eq (a := (Value.str ⟨#[c]⟩ t, (⟨#[c]⟩ : Str), Value.ref d)) rfl ?_)
  dsimp only
  refine KFB.if_not rfl ?_
  have hall : ((#[c] : Array Nat).all fun x => decide (x < 128)) = true := by simp [hc]
  rw [hall]
  rw [show (#[c] : Array Nat) = [c].toArray from rfl, List.forIn_toArray, List.forIn_cons]
  simp only [List.forIn_nil]
  refine wpAny_bind (wpAny_bind ?_)
  refine KFB.if_not (by decide) ?_
  simp only [if_true]
  dsimp only [List.lookup]
  refine wpAny_bind (lookup_miss hd hh hm hv fun h' tk hk => ?_)
  dsimp only
  refine wpAny_bind (wpAny_pure ?_)
  dsimp only
  refine wpAny_pure ?_
  refine wpAny_pure ?_
  refine KFB.if_not (show tooLong 1 = false by decide) ?_
  refine wpAny_bind (wpAny_mkStr ?_ ?_)
  · exact wpAny_pure (h h' _ _ hk)
  · show ([({ cps := #[c] } : Str)].reverse.foldl (fun acc p => acc ++ p.cps) #[]).size ≤ sizeLine
    simp [sizeLine]

end Mini
end

section
open PySem PySem.Spec PySem.Calls PyProof.Rows PySem.W PySem.Builtin PySem.Builtin.Str PySem.StrLaws
set_option maxRecDepth 100000
namespace Mini

structure Cx where
  nm : List Str
  vis : List Nat
  sc : Scope
  code : Value
noncomputable def Cx.gl (c : Cx) (n : Str) : Prop := c.sc.names.lookup n = some .globalImplicit

noncomputable def relab (sc out : Scope) : Scope :=
  { sc with names := sc.names.map fun (n, k) => if (k == .free && out.kind == .function && out.names.lookup n == some .cell) then (n, .cell) else (n, k) }
noncomputable def Cx.inner (c : Cx) (sc : Scope) (xs : List Nat) : Cx :=
  { nm := c.nm, vis := xs ++ c.vis.filter (fun y => !xs.contains y && (match c.nm[y]? with | some n => sc.names.lookup n == some .free | none => false)), sc := relab sc c.sc, code := c.code }
noncomputable def ScOk (c : Cx) (sc : Scope) : Bool :=
  sc.kind == .function && sc.names.all fun x => x.2 != .cell && (x.2 != .local || sc.names.lookup x.1 == some .local) && (x.2 != .free || c.sc.names.lookup x.1 == some .cell)

/-- a name's value as it stands in the heap -/
noncomputable def Loads (env : PySem.Env) (T : List Addr) (n : Str) (v : Value) (h : Heap) : Prop :=
  (env.kindOf n = some .local ∧ env.locals ∉ T ∧ ∃ m, h.Ns env.locals m ∧ m n = some v) ∨
  (env.kindOf n = some .cell ∧ ∃ a, env.cells.lookup n = some a ∧ a ∉ T ∧ h.IsCell a (some v))

theorem Loads.step {K : Wd} {env : PySem.Env} {n : Str} {v : Value} {s s' : Shared} (y : Step K s s') (l : Loads env K.tabs n v s.heap) : Loads env K.tabs n v s'.heap := by
  rcases l with ⟨hk, ht, m, hn, hv⟩ | ⟨hk, a, ha, ht, hc⟩
  · exact .inl ⟨hk, ht, m, hn.at' fun o e => y.keep _ o ht e, hv⟩
  · exact .inr ⟨hk, a, ha, ht, let ⟨o, ho, hd⟩ := hc; ⟨o, y.keep _ o ht ho, hd⟩⟩
theorem Loads.eval {K : Wd} {A : Around} {s : Shared} {env : PySem.Env} {n : Str} {v : Value} {p : Pos} {Q : Value → Shared → Prop} {E : Value → Shared → Prop} (hk : env.scope.kind = .function) (hd : (n == ("__debug__" : Str)) = false)
    (l : Loads env K.tabs n v s.heap) (h : Q v s) : wpAny (M K) A (PySem.eval (.Name n p) env) Q E s := by
  rcases l with ⟨hl, _, m, hn, hv⟩ | ⟨hl, a, ha, _, hc⟩
  · exact wpAny_Name (wpAny_loadName_local hk hl hn hv h) hd
  · exact wpAny_Name (wpAny_loadName_cell hk hl ha hc h) hd

/-- the frame that an expression is read in -/
structure Fm (K : Wd) (sa : Addr) (c : Cx) (env : PySem.Env) (O : List Addr) (ρ : Env) (s : Shared) : Prop where
  st : St K s
  sc : env.scope = c.sc
  fn : c.sc.kind = .function
  glob : env.globals = mainGlobals
  bi : env.builtins = builtinsNs
  code : env.code = c.code
  tabs : ∀ a ∈ K.tabs, a ∈ O
  live : ∀ a ∈ O, ∃ o, s.heap.get? a = some o
  cells : ∀ n, c.sc.names.lookup n = some .cell → ∃ a, env.cells.lookup n = some a
  vars : ∀ x ∈ c.vis, ∀ X, getV ρ x = some X → ∃ n v, c.nm[x]? = some n ∧ Loads env K.tabs n v s.heap ∧ RX sa K.tabs O s.heap v X

section
variable {K : Wd} {sa : Addr} {c : Cx} {env : PySem.Env} {O : List Addr} {ρ : Env} {s s' : Shared}
theorem St.step' (x : St K s) (y : Step K s s') (hb : ∀ P ∈ K.tabs, K.base.get? P = none) : St K s' := x.step hb y
theorem live_step (hi : K.tinv s'.heap) (y : Step K s s') (h : ∀ a ∈ O, ∃ o, s.heap.get? a = some o) : ∀ a ∈ O, ∃ o, s'.heap.get? a = some o := fun a ha => by
  by_cases ht : a ∈ K.tabs
  · exact K.live _ hi a ht
  · exact let ⟨o, ho⟩ := h a ha; ⟨o, y.keep a o ht ho⟩
theorem Fm.step (hb : ∀ P ∈ K.tabs, K.base.get? P = none) (f : Fm K sa c env O ρ s) (y : Step K s s') : Fm K sa c env O ρ s' :=
  ⟨f.st.step hb y, f.sc, f.fn, f.glob, f.bi, f.code, f.tabs, live_step (f.st.step hb y).tinv y f.live, f.cells, fun x hx X hX =>
    let ⟨n, v, hn, hl, hr⟩ := f.vars x hx X hX
    ⟨n, v, hn, hl.step y, hr.step f.tabs y⟩⟩
theorem Fm.lt (f : Fm K sa c env O ρ s) : ∀ a ∈ O, a < s.heap.objs.size := fun a ha => let ⟨_, ho⟩ := f.live a ha; Heap.lt_size ho
end

/-- the row's functions by number: their names, their places in the heap -/
noncomputable def fnName (i : Nat) : Str := (["_platform", "translate", "escape", "_translate", "_join_translated_parts", "_law_unit", "_law_tokens", "_law_fits", "_law_takes"] : List Str).getD i "?"
noncomputable def fnAddr (i : Nat) : Addr := [38, 50, 62, 69, 76, 83, 90, 95, 100].getD i 0

/-- the functions and the built-in names that the text reads -/
structure Gl (K : Wd) where
  mg : Str → Option Value
  mb : Str → Option Value
  hg : K.base.Ns mainGlobals mg
  hb : K.base.Ns builtinsNs mb
  base : ∀ P ∈ K.tabs, K.base.get? P = none
  fOk : ∀ f, f < 9 → mg (fnName f) = some (.ref (fnAddr f)) ∧ ∃ o fd, K.base.get? (fnAddr f) = some o ∧ o.data = .func fd
  len : mg "len" = none ∧ mb "len" = some (.builtin "len")
  any : mg "any" = none ∧ mb "any" = some (.builtin "any")
  list : mg "list" = none ∧ mb "list" = some (.type "list")
  range : mg "range" = none ∧ mb "range" = some (.type "range")
  isinst : mg "isinstance" = none ∧ mb "isinstance" = some (.builtin "isinstance")
  strT : mg "str" = none ∧ mb "str" = some (.type "str")
  map : mg "_special_chars_map" = some (.ref 52)
  mapOf : ∃ f, K.base.MapOf (PySem.intKind K.prog K.w) 52 f ∧ ∀ c : Nat, escOk c = true → f c = none
  twin : mg "_twin_re_1" = some (.ref 43)
  enum : mg "enumerate" = none ∧ mb "enumerate" = some (.type "enumerate")
  obj : mg "object" = none ∧ mb "object" = some (.type "object")
  filt : mg "filter" = none ∧ mb "filter" = some (.type "filter")

/-- what a call of a function is known to give -/
noncomputable def CallOk (K : Wd) (G : Gl K) (m : Nat) (f : Nat) (ds : List D) (r : D) : Prop :=
  ∀ sa A s O vals, Rm A m → St K s → (∀ a ∈ K.tabs, a ∈ O) → (∀ a ∈ O, ∃ o, s.heap.get? a = some o) → VRs sa (Vw O s.heap) vals.toArray ds →
    wpAny (M K) A (call (.ref (fnAddr f)) vals) (Gv K sa O (.d r) s) NoE s
noncomputable def PrimOk (K : Wd) (G : Gl K) (m : Nat) (prim : Nat → List D → Option D) : Prop := ∀ f ds r, prim f ds = some r → f < 9 ∧ CallOk K G m f ds r

section
variable (K : Wd) (G : Gl K) (m : Nat) (prim : Nat → List D → Option D)
noncomputable def EvOk (c : Cx) (e : E) (t : Expr) : Prop :=
  ∀ sa A env O ρ s x, Rm A m → Fm K sa c env O ρ s → evalE prim e ρ = some x → wpAny (M K) A (eval t env) (Gv K sa O x s) NoE s
noncomputable def TsOk (c : Cx) (e : E) (t : Expr) : Prop :=
  ∀ sa A env O ρ s x b, Rm A m → Fm K sa c env O ρ s → evalE prim e ρ = some x → truth x = some b → wpAny (M K) A (isTrue t env (eval t env)) (fun r s' => r = b ∧ Step K s s') NoE s

noncomputable def plainName (n : Str) : Bool := !(n == ("__debug__" : Str))

/-- the mini text and the tree that it stands for -/
inductive Tie : Cx → E → Expr → Prop
  | none {c k p} : Tie c .none (.Constant .none k p)
  | bool {c b k p} : Tie c (.bool b) (.Constant (.bool b) k p)
  | int {c i k p} : Tie c (.int i) (.Constant (.int i) k p)
  | str {c} {l : S} {x : Str} {k p} : x.cps.toList = l → Tie c (.str l) (.Constant (.str x) k p)
  | v {c x n p} : c.nm[x]? = some n → plainName n = true → x ∈ c.vis → Tie c (.v x) (.Name n p)
  | neg {c} {i : Nat} {j : Int} {k p p'} : j = (i : Int) → Tie c (.neg i) (.UnaryOp .USub (.Constant (.int j) k p) p')
  | not {c a t p} : Tie c a t → Tie c (.not a) (.UnaryOp .Not t p)
  | and {c a b t u p} : Tie c a t → Tie c b u → Tie c (.and a b) (.BoolOp .And [t, u] p)
  | or {c a b t u p} : Tie c a t → Tie c b u → Tie c (.or a b) (.BoolOp .Or [t, u] p)
  | cmp {c a b t u p} {o : Cmp} {o'} : o' = cmpOf o → Tie c a t → Tie c b u → Tie c (.cmp o a b) (.Compare t [o'] [u] p)
  | cmp2 {c a b d t u w p} {o₁ o₂ : Cmp} {o₁' o₂'} : o₁' = cmpOf o₁ → o₂' = cmpOf o₂ → Tie c a t → Tie c b u → Tie c d w → Tie c (.cmp2 o₁ o₂ a b d) (.Compare t [o₁', o₂'] [u, w] p)
  | add {c a b t u p} : Tie c a t → Tie c b u → Tie c (.add a b) (.BinOp t .Add u p)
  | sub {c a b t u p} : Tie c a t → Tie c b u → Tie c (.sub a b) (.BinOp t .Sub u p)
  | mod {c a b t u p} : Tie c a t → Tie c b u → Tie c (.mod a b) (.BinOp t .Mod u p)
  | ite {c d a b w t u p} : Tie c d w → Tie c a t → Tie c b u → Tie c (.ite d a b) (.IfExp w t u p)
  | idx {c a b t u p} : Tie c a t → Tie c b u → Tie c (.idx a b) (.Subscript t u p)
  | slcAB {c a lo hi t l u p p'} : Tie c a t → Tie c lo l → Tie c hi u → Tie c (.slcAB a lo hi) (.Subscript t (.Slice (some l) (some u) .none p) p')
  | slcA {c a lo t l p p'} : Tie c a t → Tie c lo l → Tie c (.slcA a lo) (.Subscript t (.Slice (some l) .none .none p) p')
  | slcB {c a hi t u p p'} : Tie c a t → Tie c hi u → Tie c (.slcB a hi) (.Subscript t (.Slice .none (some u) .none p) p')
  | tup {c a b t u k p} : Tie c a t → Tie c b u → Tie c (.tup a b) (.Tuple [t, u] k p)
  | lnil {c p} : Tie c .lnil (.List [] p)
  | lcons {c a r t ts p p'} : Tie c a t → Tie c r (.List ts p) → Tie c (.lcons a r) (.List (t :: ts) p')
  | len {c a t q p} : c.gl "len" → Tie c a t → Tie c (.len a) (.Call (.Name "len" q) [t] [] p)
  | any {c a t q p} : c.gl "any" → Tie c a t → Tie c (.any a) (.Call (.Name "any" q) [t] [] p)
  | lrange {c a b t u q p q' p'} : c.gl "list" → c.gl "range" → Tie c a t → Tie c b u →
      Tie c (.lrange a b) (.Call (.Name "list" q) [.Call (.Name "range" q') [t, u] [] p'] [] p)
  | strip {c a t q p} : (q.endLine == p.line) = true → Tie c a t → Tie c (.strip a) (.Call (.Attribute t "strip" q) [] [] p)
  | repl {c a t q p k1 p1 k2 p2} {x y : Str} {lx ly : S} : (q.endLine == p.line) = true → x.cps.toList = lx → y.cps.toList = ly → Tie c a t →
      Tie c (.repl a lx ly) (.Call (.Attribute t "replace" q) [.Constant (.str x) k1 p1, .Constant (.str y) k2 p2] [] p)
  | find {c a i j t u w q p k1 p1} {x : Str} {lx : S} : (q.endLine == p.line) = true → x.cps.toList = lx → Tie c a t → Tie c i u → Tie c j w →
      Tie c (.find a lx i j) (.Call (.Attribute t "find" q) [.Constant (.str x) k1 p1, u, w] [] p)
  | join {c a t q p k1 p1} {x : Str} {lx : S} : (q.endLine == p.line) = true → x.cps.toList = lx → Tie c a t →
      Tie c (.join lx a) (.Call (.Attribute (.Constant (.str x) k1 p1) "join" q) [t] [] p)
  | call1 {c f a t q p n} : n = fnName f → plainName n = true → c.gl n → Tie c a t → Tie c (.call1 f a) (.Call (.Name n q) [t] [] p)
  | call2 {c f a b t u q p n} : n = fnName f → plainName n = true → c.gl n → Tie c a t → Tie c b u → Tie c (.call2 f a b) (.Call (.Name n q) [t, u] [] p)
  | call3 {c f a b d t u w q p n} : n = fnName f → plainName n = true → c.gl n → Tie c a t → Tie c b u → Tie c d w → Tie c (.call3 f a b d) (.Call (.Name n q) [t, u, w] [] p)
  | fstr {c a t k1 p1 p2 k3 p3 p} {x y : Str} {lx ly : S} : x.cps.toList = lx → y.cps.toList = ly → Tie c a t →
      Tie c (.fstr lx a ly) (.JoinedStr [.Constant (.str x) k1 p1, .FormattedValue t (-1) .none p2, .Constant (.str y) k3 p3] p)
  | comp {c elt x src t u n sc px p} : ScOk c sc = true → c.nm[x]? = some n → sc.names.lookup n = some .local → Tie c src u → Tie (c.inner sc [x]) elt t →
      Tie c (.comp elt x src) (.ListComp t [⟨.Name n px, u, [], 0⟩] sc p)
  | compIf {c elt x src cond t u w n sc px p} : ScOk c sc = true → c.nm[x]? = some n → sc.names.lookup n = some .local → Tie c src u → Tie (c.inner sc [x]) cond w → Tie (c.inner sc [x]) elt t →
      Tie c (.compIf elt x src cond) (.ListComp t [⟨.Name n px, u, [w], 0⟩] sc p)
  | compT {c elt x y src t u n₁ n₂ sc px py tk tp p} : ScOk c sc = true → c.nm[x]? = some n₁ → c.nm[y]? = some n₂ → n₁ ≠ n₂ → sc.names.lookup n₁ = some .local → sc.names.lookup n₂ = some .local → Tie c src u → Tie (c.inner sc [x, y]) elt t →
      Tie c (.compT elt x y src) (.ListComp t [⟨.Tuple [.Name n₁ px, .Name n₂ py] tk tp, u, [], 0⟩] sc p)
  | lhead {c a t k p1 p p'} {n : Nat} {j : Int} : j = (n : Int) → Tie c a t → Tie c (.lhead a n) (.Subscript t (.Slice .none (some (.Constant (.int j) k p1)) .none p) p')
  | isStr {c a t q q' p} : c.gl "isinstance" → c.gl "str" → Tie c a t → Tie c (.isStr a) (.Call (.Name "isinstance" q) [t, .Name "str" q'] [] p)
  | mapT {c a t q q' p} : (q.endLine == p.line) = true → c.gl "_special_chars_map" → Tie c a t → Tie c (.mapT a) (.Call (.Attribute t "translate" q) [.Name "_special_chars_map" q'] [] p)
  | raw {c e o nme q ts ks p} : EvOk K m prim c e (.Call (.Attribute o nme q) ts ks p) → Tie c e (.Call (.Attribute o nme q) ts ks p)
end
end Mini
end

section
open PySem PySem.Spec PySem.Calls PyProof.Rows PySem.W PySem.Builtin PySem.Builtin.Str PySem.StrLaws
set_option maxRecDepth 100000
namespace Mini
section
variable {K : Wd} {G : Gl K} {m : Nat} {prim : Nat → List D → Option D} {c : Cx} {sa : Addr} {A : Around} {env : PySem.Env} {O : List Addr} {ρ : Env} {s : Shared}

theorem EvOk.go {e : E} {t : Expr} {x : X} {Q E : Value → Shared → Prop} (h : EvOk K m prim c e t) (r : Rm A m) (f : Fm K sa c env O ρ s) (hb : ∀ P ∈ K.tabs, K.base.get? P = none) (he : evalE prim e ρ = some x)
    (k : ∀ v s1, RX sa K.tabs O s1.heap v x → Step K s s1 → Fm K sa c env O ρ s1 → Q v s1) : wpAny (M K) A (eval t env) Q E s :=
  lift (h sa A env O ρ s x r f he) fun v s1 q => k v s1 q.1 q.2 (f.step hb q.2)
theorem TsOk.go {e : E} {t : Expr} {x : X} {b : Bool} {Q : Bool → Shared → Prop} {E : Value → Shared → Prop} (h : TsOk K m prim c e t) (r : Rm A m) (f : Fm K sa c env O ρ s) (hb : ∀ P ∈ K.tabs, K.base.get? P = none) (he : evalE prim e ρ = some x) (ht : truth x = some b)
    (k : ∀ s1, Step K s s1 → Fm K sa c env O ρ s1 → Q b s1) : wpAny (M K) A (isTrue t env (eval t env)) Q E s :=
  lift (h sa A env O ρ s x b r f he ht) fun v s1 q => by rw [q.1]; exact k s1 q.2 (f.step hb q.2)

theorem plain_ts {e : E} {t : Expr} (hb : ∀ P ∈ K.tabs, K.base.get? P = none) (h : EvOk K m prim c e t) (he : ∀ env, isTrue t env (eval t env) = (do let v ← eval t env; standAt t.pos; holding [v] (truthy v))) : TsOk K m prim c e t :=
  fun _sa _A env _O _ρ _s x b r f hx ht => isTrue_plain (h.go r f hb hx fun v s1 rv st f1 => lift (truth_ok ht rv) fun d s2 q => ⟨q.1, st.trans q.2⟩) (he env)

theorem gv_trans {x : X} {s s1 : Shared} {v : Value} {s2 : Shared} (st : Step K s s1) (q : Gv K sa O x s1 v s2) : Gv K sa O x s v s2 := ⟨q.1, st.trans q.2⟩

theorem ev_bin {a b : E} {t u : Expr} {p : Pos} {op : Operator} {z : X} {x y : X} (hb : ∀ P ∈ K.tabs, K.base.get? P = none) (ha : EvOk K m prim c a t) (hb' : EvOk K m prim c b u) (r : Rm A m) (f : Fm K sa c env O ρ s)
    (hx : evalE prim a ρ = some x) (hy : evalE prim b ρ = some y)
    (hop : ∀ s v u, (∀ a ∈ O, a < s.heap.objs.size) → RX sa K.tabs O s.heap v x → RX sa K.tabs O s.heap u y → wpAny (M K) A (binaryOp op v u) (Gv K sa O z s) NoE s) :
    wpAny (M K) A (eval (.BinOp t op u p) env) (Gv K sa O z s) NoE s :=
  wpAny_BinOp (ha.go r f hb hx fun v s1 rv st f1 => hb'.go r f1 hb hy fun u s2 ru st2 f2 => lift (hop s2 v u f2.lt (rv.step f.tabs st2) ru) fun _ _ q => gv_trans (st.trans st2) q)

variable (hb : ∀ P ∈ K.tabs, K.base.get? P = none)
include hb

theorem ev_add {a b t u p} (h1 : EvOk K m prim c a t) (h2 : EvOk K m prim c b u) : EvOk K m prim c (.add a b) (.BinOp t .Add u p) := fun sa A env O ρ s z r f h => by
  simp only [evalE] at h
  obtain ⟨x, hx, h⟩ := ob h
  obtain ⟨y, hy, h⟩ := ob h
  exact ev_bin hb h1 h2 r f hx hy fun s v u ho rv ru => add_ok ho h rv ru
theorem ev_sub {a b t u p} (h1 : EvOk K m prim c a t) (h2 : EvOk K m prim c b u) : EvOk K m prim c (.sub a b) (.BinOp t .Sub u p) := fun sa A env O ρ s z r f h => by
  simp only [evalE] at h
  obtain ⟨x, hx, h⟩ := ob h
  obtain ⟨y, hy, h⟩ := ob h
  exact ev_bin hb h1 h2 r f hx hy fun s v u ho rv ru => sub_ok h rv ru
theorem ev_mod {a b t u p} (h1 : EvOk K m prim c a t) (h2 : EvOk K m prim c b u) : EvOk K m prim c (.mod a b) (.BinOp t .Mod u p) := fun sa A env O ρ s z r f h => by
  simp only [evalE] at h
  obtain ⟨x, hx, h⟩ := ob h
  obtain ⟨y, hy, h⟩ := ob h
  exact ev_bin hb h1 h2 r f hx hy fun s v u ho rv ru => mod_ok h rv ru

omit hb in
theorem ev_none {k p} : EvOk K m prim c .none (.Constant .none k p) := fun sa A env O ρ s z r f h => by
  simp only [evalE] at h
  cases h
  exact Constant_none ⟨.none, .refl⟩
omit hb in
theorem ev_bool {b k p} : EvOk K m prim c (.bool b) (.Constant (.bool b) k p) := fun sa A env O ρ s z r f h => by
  simp only [evalE] at h
  cases h
  exact Constant_bool ⟨.bool b, .refl⟩
omit hb in
theorem ev_int {i k p} : EvOk K m prim c (.int i) (.Constant (.int i) k p) := fun sa A env O ρ s z r f h => by
  simp only [evalE] at h
  obtain ⟨rfl, _⟩ := okI_some h
  exact wpAny_Constant_int ⟨.int i _, Step.tok (Nat.le_succ _)⟩
omit hb in
theorem ev_str {l : S} {x : Str} {k p} (hx : x.cps.toList = l) : EvOk K m prim c (.str l) (.Constant (.str x) k p) := fun sa A env O ρ s z r f h => by
  simp only [evalE] at h
  obtain ⟨rfl, _⟩ := okS_some h
  exact Constant_str ⟨VR.ofStr hx, Step.tok (Nat.le_succ _)⟩
omit hb in
theorem name_of (n : Str) (h : plainName n = true) : (n == ("__debug__" : Str)) = false := by simpa [plainName] using h
omit hb in
theorem ev_v {x n p} (hn : c.nm[x]? = some n) (hp : plainName n = true) (hx : x ∈ c.vis) : EvOk K m prim c (.v x) (.Name n p) := fun sa A env O ρ s z r f h => by
  simp only [evalE] at h
  obtain ⟨n', v, hn', hl, hr⟩ := f.vars x hx z h
  rw [hn] at hn'; cases hn'
  exact Loads.eval (K := K) (by rw [f.sc]; exact f.fn) (name_of n hp) hl ⟨hr, .refl⟩
omit hb in
theorem ev_neg {i : Nat} {k p p'} : EvOk K m prim c (.neg i) (.UnaryOp .USub (.Constant (.int i) k p) p') := fun sa A env O ρ s z r f h => by
  simp only [evalE] at h
  exact UnaryOp_ (wpAny_Constant_int (lift (neg_ok h _) fun _ _ q => gv_trans (Step.tok (Nat.le_succ _)) q))
theorem ev_not {a t p} (h1 : EvOk K m prim c a t) : EvOk K m prim c (.not a) (.UnaryOp .Not t p) := fun sa A env O ρ s z r f h => by
  simp only [evalE] at h
  obtain ⟨x, hx, h⟩ := ob h
  obtain ⟨b, ht, h⟩ := ob h
  cases opure h
  exact UnaryOp_ (h1.go r f hb hx fun v s1 rv st f1 => not_of (lift (truth_ok ht rv) fun d s2 q => ⟨by rw [q.1]; exact .bool _, st.trans q.2⟩))
theorem ts_not {a t p} (h1 : TsOk K m prim c a t) : TsOk K m prim c (.not a) (.UnaryOp .Not t p) := fun sa A env O ρ s z b' r f h hz => by
  simp only [evalE] at h
  obtain ⟨x, hx, h⟩ := ob h
  obtain ⟨b, ht, h⟩ := ob h
  cases opure h
  cases hz
  exact isTrue_not (h1.go r f hb hx ht fun s1 st f1 => ⟨rfl, st⟩)
theorem ev_and {a b t u p} (h1 : EvOk K m prim c a t) (h2 : EvOk K m prim c b u) : EvOk K m prim c (.and a b) (.BoolOp .And [t, u] p) := fun sa A env O ρ s z r f h => by
  simp only [evalE] at h
  obtain ⟨x, hx, h⟩ := ob h
  obtain ⟨d, ht, h⟩ := ob h
  refine BoolOp_and (h1.go r f hb hx fun v s1 rv st f1 => lift (truth_ok ht rv) fun d' s2 q => ?_)
  obtain ⟨rfl, st2⟩ := q
  cases d' with
  | true =>
    simp only [if_true] at h ⊢
    exact BoolOp_one (h2.go r (f1.step hb st2) hb h fun u s3 ru st3 f3 => ⟨ru, (st.trans st2).trans st3⟩)
  | false =>
    simp only [Bool.false_eq_true, if_false] at h ⊢
    cases opure h
    exact ⟨rv.step f.tabs st2, st.trans st2⟩
theorem ts_and {a b t u p} (h1 : TsOk K m prim c a t) (h2 : TsOk K m prim c b u) : TsOk K m prim c (.and a b) (.BoolOp .And [t, u] p) := fun sa A env O ρ s z b' r f h hz => by
  simp only [evalE] at h
  obtain ⟨x, hx, h⟩ := ob h
  obtain ⟨d, ht, h⟩ := ob h
  refine isTrue_and (h1.go r f hb hx ht fun s1 st f1 => ?_)
  cases d with
  | true =>
    simp only [if_true] at h ⊢
    refine isTrue_and (h2.go r f1 hb h hz fun s2 st2 f2 => ?_)
    cases b' with
    | true => simp only [if_true]; exact isTrue_and_nil ⟨rfl, st.trans st2⟩
    | false => simp only [Bool.false_eq_true, if_false]; exact ⟨trivial, st.trans st2⟩
  | false =>
    simp only [Bool.false_eq_true, if_false] at h ⊢
    cases opure h
    rw [ht] at hz; cases hz
    exact ⟨rfl, st⟩
theorem ev_or {a b t u p} (h1 : EvOk K m prim c a t) (h2 : EvOk K m prim c b u) : EvOk K m prim c (.or a b) (.BoolOp .Or [t, u] p) := fun sa A env O ρ s z r f h => by
  simp only [evalE] at h
  obtain ⟨x, hx, h⟩ := ob h
  obtain ⟨d, ht, h⟩ := ob h
  refine BoolOp_or (h1.go r f hb hx fun v s1 rv st f1 => lift (truth_ok ht rv) fun d' s2 q => ?_)
  obtain ⟨rfl, st2⟩ := q
  cases d' with
  | false =>
    simp only [Bool.false_eq_true, if_false] at h ⊢
    exact BoolOp_one (h2.go r (f1.step hb st2) hb h fun u s3 ru st3 f3 => ⟨ru, (st.trans st2).trans st3⟩)
  | true =>
    simp only [if_true] at h ⊢
    cases opure h
    exact ⟨rv.step f.tabs st2, st.trans st2⟩
theorem ts_or {a b t u p} (h1 : TsOk K m prim c a t) (h2 : TsOk K m prim c b u) : TsOk K m prim c (.or a b) (.BoolOp .Or [t, u] p) := fun sa A env O ρ s z b' r f h hz => by
  simp only [evalE] at h
  obtain ⟨x, hx, h⟩ := ob h
  obtain ⟨d, ht, h⟩ := ob h
  refine isTrue_or (h1.go r f hb hx ht fun s1 st f1 => ?_)
  cases d with
  | false =>
    simp only [Bool.false_eq_true, if_false] at h ⊢
    refine isTrue_or (h2.go r f1 hb h hz fun s2 st2 f2 => ?_)
    cases b' with
    | false => simp only [Bool.false_eq_true, if_false]; exact isTrue_or_nil ⟨rfl, st.trans st2⟩
    | true => simp only [if_true]; exact ⟨trivial, st.trans st2⟩
  | true =>
    simp only [if_true] at h ⊢
    cases opure h
    rw [ht] at hz; cases hz
    exact ⟨rfl, st⟩
theorem ev_ite {d a b w t u p} (h0 : TsOk K m prim c d w) (h1 : EvOk K m prim c a t) (h2 : EvOk K m prim c b u) : EvOk K m prim c (.ite d a b) (.IfExp w t u p) := fun sa A env O ρ s z r f h => by
  simp only [evalE] at h
  obtain ⟨x, hx, h⟩ := ob h
  obtain ⟨d, ht, h⟩ := ob h
  refine IfExp_ (h0.go r f hb hx ht fun s1 st f1 => ?_)
  cases d with
  | true => simp only [if_true] at h ⊢; exact h1.go r f1 hb h fun u s3 ru st3 f3 => ⟨ru, st.trans st3⟩
  | false => simp only [Bool.false_eq_true, if_false] at h ⊢; exact h2.go r f1 hb h fun u s3 ru st3 f3 => ⟨ru, st.trans st3⟩
theorem ts_ite {d a b w t u p} (h0 : TsOk K m prim c d w) (h1 : TsOk K m prim c a t) (h2 : TsOk K m prim c b u) : TsOk K m prim c (.ite d a b) (.IfExp w t u p) := fun sa A env O ρ s z b' r f h hz => by
  simp only [evalE] at h
  obtain ⟨x, hx, h⟩ := ob h
  obtain ⟨d, ht, h⟩ := ob h
  refine isTrue_IfExp (h0.go r f hb hx ht fun s1 st f1 => ?_)
  cases d with
  | true => simp only [if_true] at h ⊢; exact h1.go r f1 hb h hz fun s3 st3 f3 => ⟨rfl, st.trans st3⟩
  | false => simp only [Bool.false_eq_true, if_false] at h ⊢; exact h2.go r f1 hb h hz fun s3 st3 f3 => ⟨rfl, st.trans st3⟩
end
end Mini
end

section
open PySem PySem.Spec PySem.Calls PyProof.Rows PySem.W PySem.Builtin PySem.Builtin.Str PySem.StrLaws
set_option maxRecDepth 100000
namespace Mini
section
variable {K : Wd} {G : Gl K} {m : Nat} {prim : Nat → List D → Option D} {c : Cx} {sa : Addr} {A : Around} {env : PySem.Env} {O : List Addr} {ρ : Env} {s : Shared}

/-- a tree that the readers of a list of trees take as it is -/
structure Plain (t : Expr) : Prop where
  star : ∀ (r : List Expr) (env : PySem.Env), starEach (t :: r) env = (false, eval t env) :: starEach r env
  base : ∀ (nme : Str) (env : PySem.Env), attributeBase t nme env (eval t env) = eval t env
  marks : ∀ op, behindInMarks op t = false
  subs : ∀ o i, subscripted t false o i = operate [o, i] (getItem o i)
  fold : ∀ env x, foldedSetIterable t env x = pure x

theorem Tie.plain {e : E} {t : Expr} (h : Tie K m prim c e t) : Plain t := by
  cases h <;> exact ⟨fun _ _ => rfl, fun _ _ => rfl, fun _ => rfl, fun _ _ => rfl, fun _ _ => rfl⟩

theorem slcAB_some {x i j z : X} (h : slcX x (some i) (some j) = some z) : ∃ s ii jj, x = .d (.str s) ∧ i = .d (.int ii) ∧ j = .d (.int jj) ∧ s.length ≤ 4096 ∧ z = .d (.str ((s.take (cut jj s.length)).drop (cut ii s.length))) := by
  simp only [slcX] at h
  obtain ⟨t', ht, g1⟩ := ob h
  split at g1
  · cases g1
  obtain ⟨jj, hjj, g2⟩ := ob g1
  obtain ⟨ii, hii, g3⟩ := ob g2
  exact ⟨t', ii, jj, asS_some ht, asI_some hii, asI_some hjj, by omega, (okS_some g3).1⟩
theorem slcA_some {x i z : X} (h : slcX x (some i) none = some z) : ∃ s ii, x = .d (.str s) ∧ i = .d (.int ii) ∧ s.length ≤ 4096 ∧ z = .d (.str (s.drop (cut ii s.length))) := by
  simp only [slcX] at h
  obtain ⟨t', ht, g1⟩ := ob h
  split at g1
  · cases g1
  obtain ⟨ii, hii, g3⟩ := ob g1
  exact ⟨t', ii, asS_some ht, asI_some hii, by omega, (okS_some g3).1⟩
theorem slcB_some {x j z : X} (h : slcX x none (some j) = some z) : ∃ s jj, x = .d (.str s) ∧ j = .d (.int jj) ∧ s.length ≤ 4096 ∧ z = .d (.str (s.take (cut jj s.length))) := by
  simp only [slcX] at h
  obtain ⟨t', ht, g1⟩ := ob h
  split at g1
  · cases g1
  obtain ⟨jj, hjj, g3⟩ := ob g1
  exact ⟨t', jj, asS_some ht, asI_some hjj, by omega, (okS_some g3).1⟩

theorem Rm.cl {A : Around} {m : Nat} (r : Rm A m) : A.units + 8 < cLine := by have := r.units; omega

variable (hb : ∀ P ∈ K.tabs, K.base.get? P = none)
include hb

theorem ev_cmp {a b t u p} {o : Cmp} (h1 : EvOk K m prim c a t) (h2 : EvOk K m prim c b u) (pu : Plain u) : EvOk K m prim c (.cmp o a b) (.Compare t [cmpOf o] [u] p) := fun sa A env O ρ s z r f h => by
  simp only [evalE] at h
  obtain ⟨x, hx, h⟩ := ob h
  obtain ⟨y, hy, h⟩ := ob h
  obtain ⟨b, hc, h⟩ := ob h
  cases opure h
  exact wpAny_Compare1 (h1.go r f hb hx fun v s1 rv st f1 => h2.go r f1 hb hy fun u s2 ru st2 f2 => lift (cmp_ok r.cl hc (rv.step f.tabs st2) ru) fun _ s3 q => ⟨by rw [q.1]; exact .bool _, (st.trans st2).trans q.2⟩) (pu.marks _)
theorem ts_cmp {a b t u p} {o : Cmp} (h1 : EvOk K m prim c a t) (h2 : EvOk K m prim c b u) (pu : Plain u) : TsOk K m prim c (.cmp o a b) (.Compare t [cmpOf o] [u] p) := fun sa A env O ρ s z b' r f h hz => by
  simp only [evalE] at h
  obtain ⟨x, hx, h⟩ := ob h
  obtain ⟨y, hy, h⟩ := ob h
  obtain ⟨b, hc, h⟩ := ob h
  cases opure h
  cases hz
  refine wpAny_isTrue_Compare1 (h1.go r f hb hx fun v s1 rv st f1 => h2.go r f1 hb hy fun u s2 ru st2 f2 => lift (cmp_ok r.cl hc (rv.step f.tabs st2) ru) fun _ s3 q => ?_) (pu.marks _)
  rw [q.1]
  exact wpAny_truthy_bool ⟨rfl, (st.trans st2).trans q.2⟩
theorem ev_cmp2 {a b d t u w p} {o₁ o₂ : Cmp} (h1 : EvOk K m prim c a t) (h2 : EvOk K m prim c b u) (h3 : EvOk K m prim c d w) (pw : Plain w) : EvOk K m prim c (.cmp2 o₁ o₂ a b d) (.Compare t [cmpOf o₁, cmpOf o₂] [u, w] p) := fun sa A env O ρ s z r f h => by
  simp only [evalE] at h
  obtain ⟨x, hx, h⟩ := ob h
  obtain ⟨y, hy, h⟩ := ob h
  obtain ⟨b, hc, h⟩ := ob h
  rw [arm_eval_Compare, markedEach_of_false _ _ _ (show lastMarks [cmpOf o₁, cmpOf o₂] [u, w] = false from pw.marks _)]
  refine wpAny_bind (h1.go r f hb hx fun v s1 rv st f1 => chain_link (h2.go r f1 hb hy fun u s2 ru st2 f2 => lift (cmp_ok r.cl hc (rv.step f.tabs st2) ru) fun _ s3 q => ?_))
  rw [q.1]
  refine wpAny_truthy_bool ?_
  have st3 := (st.trans st2).trans q.2
  have f3 := f2.step hb q.2
  cases b with
  | true =>
    simp only [if_true] at h ⊢
    obtain ⟨z', hz, h⟩ := ob h
    obtain ⟨b', hc', h⟩ := ob h
    cases opure h
    exact chain_last (h3.go r f3 hb hz fun w s4 rw st4 f4 => lift (cmp_ok r.cl hc' ((ru.step f.tabs q.2).step f.tabs st4) rw) fun _ s5 q' => ⟨by rw [q'.1]; exact .bool _, (st3.trans st4).trans q'.2⟩)
  | false =>
    simp only [Bool.false_eq_true, if_false] at h ⊢
    cases opure h
    exact ⟨.bool _, st3⟩
theorem ts_cmp2 {a b d t u w p} {o₁ o₂ : Cmp} (h1 : EvOk K m prim c a t) (h2 : EvOk K m prim c b u) (h3 : EvOk K m prim c d w) (pw : Plain w) : TsOk K m prim c (.cmp2 o₁ o₂ a b d) (.Compare t [cmpOf o₁, cmpOf o₂] [u, w] p) := fun sa A env O ρ s z bz r f h hz => by
  simp only [evalE] at h
  obtain ⟨x, hx, h⟩ := ob h
  obtain ⟨y, hy, h⟩ := ob h
  obtain ⟨b, hc, h⟩ := ob h
  refine isTrue_chain (rs := []) (h1.go r f hb hx fun v s1 rv st f1 => test_link (h2.go r f1 hb hy fun u s2 ru st2 f2 => lift (cmp_ok r.cl hc (rv.step f.tabs st2) ru) fun _ s3 q => ?_)) (pw.marks _)
  rw [q.1]
  refine wpAny_truthy_bool ?_
  have st3 := (st.trans st2).trans q.2
  have f3 := f2.step hb q.2
  cases b with
  | true =>
    simp only [if_true] at h ⊢
    obtain ⟨z', hz', h⟩ := ob h
    obtain ⟨b', hc', h⟩ := ob h
    cases opure h
    cases hz
    refine test_last (h3.go r f3 hb hz' fun w s4 rw st4 f4 => lift (cmp_ok r.cl hc' ((ru.step f.tabs q.2).step f.tabs st4) rw) fun _ s5 q' => ?_)
    rw [q'.1]
    exact wpAny_truthy_bool ⟨rfl, (st3.trans st4).trans q'.2⟩
  | false =>
    simp only [Bool.false_eq_true, if_false] at h ⊢
    cases opure h
    cases hz
    exact ⟨rfl, st3⟩

theorem ev_idx {a b t u p} (h1 : EvOk K m prim c a t) (h2 : EvOk K m prim c b u) (pu : Plain u) : EvOk K m prim c (.idx a b) (.Subscript t u p) := fun sa A env O ρ s z r f h => by
  simp only [evalE] at h
  obtain ⟨x, hx, h⟩ := ob h
  obtain ⟨y, hy, h⟩ := ob h
  refine Subscript_ (h1.go r f hb hx fun v s1 rv st f1 => h2.go r f1 hb hy fun u s2 ru st2 f2 => ?_)
  obtain ⟨T, id, hT, hl, hg⟩ := idx_ok (A := A) h (rv.step f.tabs st2) ru
  exact tail_any hT hl (lift hg fun _ _ q => gv_trans (st.trans st2) q) (pu.subs _ _)

omit hb in
theorem slc_tail {l u : Option Expr} {p : Pos} {t : Expr} {x : Str} {k : Tok} {lo hi : Option (Int × Tok)} {a : Addr} {s' : Shared} (hs : s.heap.IsSlice a lo hi none) (hx : x.length ≤ 4096) (st : Step K s' s) :
    wpAny (M K) A (subscriptTail t (.Slice l u .none p) (.str x k) (.ref a)) (Gv K sa O (.d (.str (Txt.slice x (lo.map (·.1)) (hi.map (·.1))).cps.toList)) s') NoE s := by
  obtain ⟨T, id, hl, hT, hg⟩ := slice_ok (K := K) (A := A) (sa := sa) (O := O) (k := k) hs hx
  exact tail_any hT hl (lift hg fun _ _ q => gv_trans st q) rfl

theorem ev_slcAB {a lo hi t l u p p'} (h1 : EvOk K m prim c a t) (h2 : EvOk K m prim c lo l) (h3 : EvOk K m prim c hi u) : EvOk K m prim c (.slcAB a lo hi) (.Subscript t (.Slice (some l) (some u) .none p) p') := fun sa A env O ρ s z r f h => by
  simp only [evalE] at h
  obtain ⟨x, hx, h⟩ := ob h
  obtain ⟨i, hi', h⟩ := ob h
  obtain ⟨j, hj', h⟩ := ob h
  obtain ⟨t', ii, jj, rfl, rfl, rfl, hle, rfl⟩ := slcAB_some h
  refine Subscript_ (h1.go r f hb hx fun v s1 rv st f1 => wpAny_Slice (evalPart_some_step (h2.go r f1 hb hi' fun vi s2 ri st2 f2 => evalPart_some_step (h3.go r f2 hb hj' fun vj s3 rj st3 f3 => evalPart_none_step ?_))))
  obtain ⟨xt, k, rfl, rfl⟩ := VR.text rv
  obtain ⟨ki, rfl⟩ := VR.num ri
  obtain ⟨kj, rfl⟩ := VR.num rj
  have := slc_tail (K := K) (A := A) (sa := sa) (O := O) (t := t) (l := some l) (u := some u) (p := p) (k := k) (x := xt) (lo := some (ii, ki)) (hi := some (jj, kj)) (a := s3.heap.objs.size)
    (s := { s3 with heap := s3.heap.push { cls := .type "slice", data := .fields #[.int ii ki, .int jj kj, .none] } }) (s' := s) ⟨_, Heap.get?_push_size _ rfl, rfl, rfl⟩ (by rw [str_len]; omega) (((st.trans st2).trans st3).trans (Step.push _))
  simp only [Option.map_none, Option.map_some, slice_ss, str_len] at this
  exact this
theorem ev_slcA {a lo t l p p'} (h1 : EvOk K m prim c a t) (h2 : EvOk K m prim c lo l) : EvOk K m prim c (.slcA a lo) (.Subscript t (.Slice (some l) .none .none p) p') := fun sa A env O ρ s z r f h => by
  simp only [evalE] at h
  obtain ⟨x, hx, h⟩ := ob h
  obtain ⟨i, hi', h⟩ := ob h
  obtain ⟨t', ii, rfl, rfl, hle, rfl⟩ := slcA_some h
  refine Subscript_ (h1.go r f hb hx fun v s1 rv st f1 => wpAny_Slice (evalPart_some_step (h2.go r f1 hb hi' fun vi s2 ri st2 f2 => evalPart_none_step (evalPart_none_step ?_))))
  obtain ⟨xt, k, rfl, rfl⟩ := VR.text rv
  obtain ⟨ki, rfl⟩ := VR.num ri
  have := slc_tail (K := K) (A := A) (sa := sa) (O := O) (t := t) (l := some l) (u := none) (p := p) (k := k) (x := xt) (lo := some (ii, ki)) (hi := none) (a := s2.heap.objs.size)
    (s := { s2 with heap := s2.heap.push { cls := .type "slice", data := .fields #[.int ii ki, .none, .none] } }) (s' := s) ⟨_, Heap.get?_push_size _ rfl, rfl, rfl⟩ (by rw [str_len]; omega) ((st.trans st2).trans (Step.push _))
  simp only [Option.map_none, Option.map_some, slice_sn, str_len] at this
  exact this
theorem ev_slcB {a hi t u p p'} (h1 : EvOk K m prim c a t) (h3 : EvOk K m prim c hi u) : EvOk K m prim c (.slcB a hi) (.Subscript t (.Slice .none (some u) .none p) p') := fun sa A env O ρ s z r f h => by
  simp only [evalE] at h
  obtain ⟨x, hx, h⟩ := ob h
  obtain ⟨j, hj', h⟩ := ob h
  obtain ⟨t', jj, rfl, rfl, hle, rfl⟩ := slcB_some h
  refine Subscript_ (h1.go r f hb hx fun v s1 rv st f1 => wpAny_Slice (evalPart_none_step (evalPart_some_step (h3.go r f1 hb hj' fun vj s2 rj st2 f2 => evalPart_none_step ?_))))
  obtain ⟨xt, k, rfl, rfl⟩ := VR.text rv
  obtain ⟨kj, rfl⟩ := VR.num rj
  have := slc_tail (K := K) (A := A) (sa := sa) (O := O) (t := t) (l := none) (u := some u) (p := p) (k := k) (x := xt) (lo := none) (hi := some (jj, kj)) (a := s2.heap.objs.size)
    (s := { s2 with heap := s2.heap.push { cls := .type "slice", data := .fields #[.none, .int jj kj, .none] } }) (s' := s) ⟨_, Heap.get?_push_size _ rfl, rfl, rfl⟩ (by rw [str_len]; omega) ((st.trans st2).trans (Step.push _))
  simp only [Option.map_none, Option.map_some, slice_ns, str_len] at this
  exact this

theorem ev_tup {a b t u k p} (h1 : EvOk K m prim c a t) (h2 : EvOk K m prim c b u) (pt : Plain t) (pu : Plain u) : EvOk K m prim c (.tup a b) (.Tuple [t, u] k p) := fun sa A env O ρ s z r f h => by
  simp only [evalE] at h
  obtain ⟨x, hx, h⟩ := ob h
  obtain ⟨y, hy, h⟩ := ob h
  simp only [tupX] at h
  obtain ⟨d, hd, h⟩ := ob h
  obtain ⟨e, he, h⟩ := ob h
  cases opure h
  cases asD_some hd; cases asD_some he
  refine Tuple_ ?_
  rw [pt.star, pu.star]
  exact spliced_cons (h1.go r f hb hx fun v s1 rv st f1 => spliced_cons (h2.go r f1 hb hy fun u s2 ru st2 f2 => spliced_nil (lift (tup_ok f2.lt (rv.step f.tabs st2) ru) fun _ _ q => gv_trans (st.trans st2) q)))

omit hb in
theorem pick_head (items : Array Value) (n : Nat) : slicePick items none (some (n : Int)) none = (items.toList.take n).toArray := by
  have e : slicePick items none (some (n : Int)) none = slicePick items (some ((0 : Nat) : Int)) (some ((min n items.size : Nat) : Int)) none := by
    unfold slicePick
    have : sliceBounds none (some (n : Int)) none items.size = sliceBounds (some ((0 : Nat) : Int)) (some ((min n items.size : Nat) : Int)) none items.size := by
      simp only [sliceBounds, Option.getD_none]
      have h1 : ¬ ((n : Int) < 0) := by omega
      have h2 : ¬ (((min n items.size : Nat) : Int) < 0) := by omega
      have h3 : ¬ (((0 : Nat) : Int) < 0) := by omega
      simp only [h1, h2, h3, if_false, show (1 : Int) > 0 by decide, if_true]
      refine Prod.ext ?_ (Prod.ext ?_ rfl) <;> simp only <;> omega
    rw [this]
  rw [e, slicePick_run items 0 (min n items.size) (Nat.min_le_right _ _) (Nat.zero_le _)]
  simp
theorem ev_lhead {a t k p1 p p'} {n : Nat} (h1 : EvOk K m prim c a t) : EvOk K m prim c (.lhead a n) (.Subscript t (.Slice .none (some (.Constant (.int (n : Int)) k p1)) .none p) p') := fun sa A env O ρ s z r f h => by
  simp only [evalE] at h
  obtain ⟨x, hx, h⟩ := ob h
  obtain ⟨l, hl, h⟩ := ob h
  split at h
  · cases h
  rename_i hle
  obtain ⟨rfl, _⟩ := okL_some h
  refine Subscript_ (h1.go r f hb hx fun v s1 rv st f1 => wpAny_Slice (evalPart_none_step (evalPart_some_step (wpAny_Constant_int (evalPart_none_step ?_)))))
  obtain ⟨ax, items, kk, rfl, hax, hv⟩ := RX.list rv hl
  have hil := isList_of hax
  have hsz := hv.1
  generalize hs2 : ({ s1 with heap := s1.heap.push { cls := .type "slice", data := .fields #[.none, .int (n : Int) s1.toks, .none] }, toks := s1.toks + 1 } : Shared) = s2
  have st2 : Step K s1 s2 := by rw [← hs2]; exact (Step.push _).trans (Step.tok (Nat.le_succ _))
  have f2 := f1.step hb st2
  have hil2 : s2.heap.IsList ax items := by rw [← hs2]; exact hil.push _
  have hsl : s2.heap.IsSliceOf s1.heap.objs.size .none (.int (n : Int) s1.toks) .none := by rw [← hs2]; exact Heap.IsSliceOf.new ..
  show wpAny _ _ _ _ _ s2
  refine tail_any hil2.typeIs slot_list_getitem.lookup (wpAny_getItem_list_slice hil2 hsl .none (.int _ _) .none (by simp) ?_ (by show _ ≤ 2 ^ 24; omega)) rfl
  have hv2 : VRs sa (Vw O s2.heap) items l := hv.step f.tabs st2
  refine ⟨VR.ofVRs (n := 0) ⟨fun hm => Nat.lt_irrefl _ (f2.lt _ hm), Heap.get?_push_size _ rfl⟩ ?_, (st.trans st2).trans (Step.push _)⟩
  rw [pick_head]
  refine VRs.mono (P := Vw O s2.heap) (fun b o q => ⟨q.1, Heap.get?_push_of_some _ q.2⟩) ⟨by simp [hsz], fun i u d hu hd => ?_⟩
  have hi : i < n := by
    rcases Nat.lt_or_ge i n with q | q
    · exact q
    · rw [List.getElem?_eq_none (by rw [List.length_take]; omega)] at hd; cases hd
  rw [List.getElem?_take_of_lt hi] at hd
  refine hv2.2 i u d ?_ hd
  simpa [hi] using hu

/-- a list's items, read one by one -/
noncomputable def LsOk (K : Wd) (m : Nat) (prim : Nat → List D → Option D) (c : Cx) (e : E) (ts : List Expr) : Prop :=
  ∀ sa A env O ρ s l, Rm A m → Fm K sa c env O ρ s → (evalE prim e ρ).bind asL = some l → ∀ (Q : List Value → Shared → Prop) (p : Pos), (∀ vs s1, VRs sa (Vw O s1.heap) vs.toArray l → Step K s s1 → Q vs s1) →
    wpAny (M K) A (spliced (backTo p (starEach ts env))) Q NoE s
omit hb in
theorem ls_nil : LsOk K m prim c .lnil [] := fun sa A env O ρ s l r f h Q p k => by
  cases h
  exact spliced_nil (k [] s VRs.nil .refl)
theorem ls_cons {a rr t ts} (h1 : EvOk K m prim c a t) (h2 : LsOk K m prim c rr ts) (pt : Plain t) : LsOk K m prim c (.lcons a rr) (t :: ts) := fun sa A env O ρ s l r f h Q p k => by
  obtain ⟨w, hw, h⟩ := ob h
  simp only [evalE] at hw
  obtain ⟨x', hx', hw⟩ := ob hw
  obtain ⟨x, hx, hw⟩ := ob hw
  obtain ⟨y', hy', hw⟩ := ob hw
  obtain ⟨l', hl', hw⟩ := ob hw
  obtain ⟨rfl, _⟩ := okL_some hw
  cases h
  cases asD_some hx
  rw [pt.star]
  refine spliced_cons (h1.go r f hb hx' fun v s1 rv st f1 => h2 sa A env O ρ s1 l' r f1 ?_ _ p fun vs s2 rvs st2 => k (v :: vs) s2 (VRs.ofList (VR.step f.tabs st2 rv) rvs) (st.trans st2))
  rw [hy']; exact hl'
theorem ev_list {e ts p} (h : LsOk K m prim c e ts) (hl : ∀ ρ x, evalE prim e ρ = some x → ∃ l, x = .d (.lst l) ∧ l.length ≤ 4096) : EvOk K m prim c e (.List ts p) := fun sa A env O ρ s z r f hz => by
  obtain ⟨l, rfl, hle⟩ := hl ρ z hz
  refine List_ (h sa A env O ρ s l r f (by rw [hz]; rfl) _ p fun vs s1 rv st => ?_)
  exact lift (list_ok (fun a ha => (f.step hb st).lt a ha) hle rv) fun _ _ q => gv_trans st q
end
end Mini
end

section
open PySem PySem.Spec PySem.Calls PyProof.Rows PySem.W PySem.Builtin PySem.Builtin.Str PySem.StrLaws
set_option maxRecDepth 100000
namespace Mini
section
variable {K : Wd} {G : Gl K} {m : Nat} {prim : Nat → List D → Option D} {c : Cx} {sa : Addr} {A : Around} {env : PySem.Env} {O : List Addr} {ρ : Env} {s : Shared}

theorem name_bi (G : Gl K) {E : Value → Shared → Prop} {Q : Value → Shared → Prop} {n : Str} {v : Value} {p : Pos} (f : Fm K sa c env O ρ s) (hl : c.gl n) (hv : G.mg n = none ∧ G.mb n = some v) (hd : (n == ("__debug__" : Str)) = false) (h : Q v s) :
    wpAny (M K) A (eval (.Name n p) env) Q E s :=
  Name_function_global (by rw [f.sc]; exact f.fn) (by show env.scope.names.lookup n = _; rw [f.sc]; exact hl)
    (loadGlobal_builtin (by rw [f.glob]; exact G.hg.keeps f.st.base) hv.1 (by rw [f.bi]; exact G.hb.keeps f.st.base) hv.2 h) hd
theorem name_gl (G : Gl K) {E : Value → Shared → Prop} {Q : Value → Shared → Prop} {n : Str} {v : Value} {p : Pos} (f : Fm K sa c env O ρ s) (hl : c.gl n) (hv : G.mg n = some v) (hd : (n == ("__debug__" : Str)) = false) (h : Q v s) :
    wpAny (M K) A (eval (.Name n p) env) Q E s :=
  Name_function_global (by rw [f.sc]; exact f.fn) (by show env.scope.names.lookup n = _; rw [f.sc]; exact hl)
    (loadGlobal_global (by rw [f.glob]; exact G.hg.keeps f.st.base) hv h) hd

theorem ev_len (G : Gl K) {a t q p} (hl : c.gl "len") (h1 : EvOk K m prim c a t) (pt : Plain t) : EvOk K m prim c (.len a) (.Call (.Name "len" q) [t] [] p) := fun sa A env O ρ s z r f h => by
  simp only [evalE] at h
  obtain ⟨x, hx, h⟩ := ob h
  refine wpAny_Call_Name_kw (name_bi G f hl G.len (by decide) ?_)
  rw [pt.star]
  exact callWith_builtin rfl (evalArgs_plain (spliced_cons (h1.go r f G.base hx fun v s1 rv st f1 => spliced_nil (lift (len_ok h rv) fun _ _ q => gv_trans st q))))
theorem ev_any (G : Gl K) {a t q p} (hl : c.gl "any") (h1 : EvOk K m prim c a t) (pt : Plain t) : EvOk K m prim c (.any a) (.Call (.Name "any" q) [t] [] p) := fun sa A env O ρ s z r f h => by
  simp only [evalE] at h
  obtain ⟨x, hx, h⟩ := ob h
  refine wpAny_Call_Name_kw (name_bi G f hl G.any (by decide) ?_)
  rw [pt.star]
  exact callWith_builtin rfl (evalArgs_plain (spliced_cons (h1.go r f G.base hx fun v s1 rv st f1 => spliced_nil (lift (any_ok r.handled h rv) fun _ _ q => gv_trans st q))))
theorem ev_lrange (G : Gl K) {a b t u q p q' p'} (hl : c.gl "list") (hr : c.gl "range") (h1 : EvOk K m prim c a t) (h2 : EvOk K m prim c b u) (pt : Plain t) (pu : Plain u) :
    EvOk K m prim c (.lrange a b) (.Call (.Name "list" q) [.Call (.Name "range" q') [t, u] [] p'] [] p) := fun sa A env O ρ s z r f h => by
  simp only [evalE] at h
  obtain ⟨x, hx, h⟩ := ob h
  obtain ⟨y, hy, h⟩ := ob h
  refine wpAny_Call_Name_kw (name_bi G f hl G.list (by decide) ?_)
  refine PySem.callWith_type rfl (evalArgs_plain (spliced_cons ?_))
  refine wpAny_Call_Name_kw (name_bi G f hr G.range (by decide) ?_)
  rw [pt.star, pu.star]
  refine PySem.callWith_type rfl (evalArgs_plain (spliced_cons (h1.go r f G.base hx fun v s1 rv st f1 => spliced_cons (h2.go r f1 G.base hy fun u s2 ru st2 f2 => spliced_nil ?_))))
  exact lift (lrange_ok f2.lt r.handled h (rv.step f.tabs st2) ru) fun rv' s3 q => spliced_nil (lift q fun _ _ q => gv_trans (st.trans st2) q)

theorem meth {a : E} {t : Expr} {q p : Pos} {ts : List Expr} {nme : Str} {id : String} {x : X} {l : S} {Q E : Value → Shared → Prop} (slot : Slot "str" nme id) (hty : typeOf (.builtin id) = pure (.type "method_descriptor"))
    (hq : (q.endLine == p.line) = true) (hts : ((backTo p (starEach ts env)).all (fun x => !x.1) && (backToKw p (keywordEach [] env)).all (fun x => x.1.isSome)
      && decide (ts.length + ([] : List Keyword).length + (if ([] : List Keyword).isEmpty then 0 else 1) < 30)) = true) (h1 : EvOk K m prim c a t) (pt : Plain t) (r : Rm A m) (f : Fm K sa c env O ρ s) (hx : evalE prim a ρ = some x) (hs : asS x = some l) (hb : ∀ P ∈ K.tabs, K.base.get? P = none)
    (h : ∀ v s1, RX sa K.tabs O s1.heap v x → Step K s s1 → Fm K sa c env O ρ s1 → wpAny (M K) A (callWith p (.builtin id) [v] (backTo p (starEach ts env)) []) Q E s1) :
    wpAny (M K) A (eval (.Call (.Attribute t nme q) ts [] p) env) Q E s := by
  refine wpAny_Call_method (pt.base _ _) hts hq F.plainAttrs_str slot hty (h1.go r f hb hx fun v s1 rv st f1 => ?_)
  cases asS_some hs
  have rv' := rv
  obtain ⟨t', k, rfl, _⟩ := VR.text rv'
  exact ⟨typeIs_str _ _ _, fun a e => (nomatch e), h _ s1 rv st f1⟩

theorem strip_is_str {x z : X} (h : stripX x = some z) : ∃ l, asS x = some l := by
  unfold stripX at h
  obtain ⟨l, hx, g⟩ := ob h
  exact ⟨l, hx⟩
theorem repl_is_str {p q : S} {x z : X} (h : replX p q x = some z) : ∃ l, asS x = some l := by
  unfold replX at h
  obtain ⟨l, hx, g⟩ := ob h
  exact ⟨l, hx⟩
theorem find_is_str {p : S} {x i j z : X} (h : findX p x i j = some z) : ∃ l, asS x = some l := by
  unfold findX at h
  obtain ⟨l, hx, g⟩ := ob h
  exact ⟨l, hx⟩

theorem ev_strip {a t q p} (hq : (q.endLine == p.line) = true) (hb : ∀ P ∈ K.tabs, K.base.get? P = none) (h1 : EvOk K m prim c a t) (pt : Plain t) : EvOk K m prim c (.strip a) (.Call (.Attribute t "strip" q) [] [] p) := fun sa A env O ρ s z r f h => by
  simp only [evalE] at h
  obtain ⟨x, hx, h⟩ := ob h
  obtain ⟨l, hl⟩ := strip_is_str h
  exact meth F.slot_str_strip F.type_str_strip hq rfl h1 pt r f hx hl hb fun v s1 rv st f1 => callWith_builtin rfl (PySem.evalArgs_none (lift (strip_ok h rv) fun _ _ q => gv_trans st q))
theorem ev_repl {a t q p k1 p1 k2 p2} {x y : Str} {lx ly : S} (hq : (q.endLine == p.line) = true) (ex : x.cps.toList = lx) (ey : y.cps.toList = ly) (hb : ∀ P ∈ K.tabs, K.base.get? P = none) (h1 : EvOk K m prim c a t) (pt : Plain t) :
    EvOk K m prim c (.repl a lx ly) (.Call (.Attribute t "replace" q) [.Constant (.str x) k1 p1, .Constant (.str y) k2 p2] [] p) := fun sa A env O ρ s z r f h => by
  subst ex ey
  simp only [evalE] at h
  obtain ⟨w, hx, h⟩ := ob h
  obtain ⟨l, hl⟩ := repl_is_str h
  refine meth F.slot_str_replace F.type_str_replace hq rfl h1 pt r f hx hl hb fun v s1 rv st f1 => ?_
  rw [show backTo p (starEach [.Constant (.str x) k1 p1, .Constant (.str y) k2 p2] env) = [(false, eval (.Constant (.str x) k1 p1) env), (false, eval (.Constant (.str y) k2 p2) env)] from rfl]
  refine callWith_builtin rfl (evalArgs_plain (spliced_cons (Constant_str (spliced_cons (Constant_str (spliced_nil ?_))))))
  have h0 := f1.st.toks
  refine lift (repl_ok (s := { s1 with toks := s1.toks + 1 + 1 }) (Nat.ne_of_gt h0) (Nat.succ_ne_zero _) (Nat.ne_of_lt (Nat.lt_succ_self _)) h rv) fun _ _ q => gv_trans (st.trans (Step.tok (by omega))) q
theorem ev_find {a i j t u w q p k1 p1} {x : Str} {lx : S} (hq : (q.endLine == p.line) = true) (ex : x.cps.toList = lx) (hb : ∀ P ∈ K.tabs, K.base.get? P = none) (h1 : EvOk K m prim c a t) (h2 : EvOk K m prim c i u) (h3 : EvOk K m prim c j w) (pt : Plain t) (pu : Plain u) (pw : Plain w) :
    EvOk K m prim c (.find a lx i j) (.Call (.Attribute t "find" q) [.Constant (.str x) k1 p1, u, w] [] p) := fun sa A env O ρ s z r f h => by
  subst ex
  simp only [evalE] at h
  obtain ⟨xx, hx, h⟩ := ob h
  obtain ⟨y, hy, h⟩ := ob h
  obtain ⟨y', hy', h⟩ := ob h
  obtain ⟨l, hl⟩ := find_is_str h
  refine meth F.slot_str_find F.type_str_find hq (by rw [show starEach [.Constant (.str x) k1 p1, u, w] env = (false, eval (.Constant (.str x) k1 p1) env) :: starEach [u, w] env from rfl, pu.star, pw.star]; rfl) h1 pt r f hx hl hb fun v s1 rv st f1 => ?_
  rw [show starEach [.Constant (.str x) k1 p1, u, w] env = (false, eval (.Constant (.str x) k1 p1) env) :: starEach [u, w] env from rfl, pu.star, pw.star, show backTo p ((false, eval (.Constant (.str x) k1 p1) env) :: (false, eval u env) :: (false, eval w env) :: starEach [] env) = [(false, eval (.Constant (.str x) k1 p1) env), (false, eval u env), (false, eval w env)] from rfl]
  refine callWith_builtin rfl (evalArgs_plain (spliced_cons (Constant_str (spliced_cons (h2.go r (f1.step hb (Step.tok (Nat.le_succ _))) hb hy fun vi s2 ri st2 f2 => spliced_cons (h3.go r f2 hb hy' fun vj s3 rj st3 f3 => spliced_nil ?_))))))
  have st1 : Step K s1 s2 := (Step.tok (Nat.le_succ _)).trans st2
  exact lift (find_ok h ((rv.step f.tabs st1).step f.tabs st3) (ri.step f.tabs st3) rj) fun _ _ q => gv_trans ((st.trans st1).trans st3) q
theorem ev_join {a t q p k1 p1} {x : Str} {lx : S} (hq : (q.endLine == p.line) = true) (ex : x.cps.toList = lx) (hb : ∀ P ∈ K.tabs, K.base.get? P = none) (h1 : EvOk K m prim c a t) (pt : Plain t) :
    EvOk K m prim c (.join lx a) (.Call (.Attribute (.Constant (.str x) k1 p1) "join" q) [t] [] p) := fun sa A env O ρ s z r f h => by
  subst ex
  simp only [evalE] at h
  obtain ⟨w, hx, h⟩ := ob h
  refine wpAny_Call_method rfl (by rw [pt.star]; rfl) hq F.plainAttrs_str F.slot_str_join F.type_str_join (Constant_str ⟨typeIs_str _ _ _, fun a e => (nomatch e), ?_⟩)
  rw [pt.star]
  exact callWith_builtin rfl (evalArgs_plain (spliced_cons (h1.go r (f.step hb (Step.tok (Nat.le_succ _))) hb hx fun v s1 rv st f1 => spliced_nil (lift (join_ok h rv) fun _ _ q => gv_trans ((Step.tok (Nat.le_succ _)).trans st) q))))

theorem ev_call1 {i : Nat} {a t q p} {n : Str} (hP : PrimOk K G m prim) (hn : n = fnName i) (hd : plainName n = true) (hl : c.gl n) (h1 : EvOk K m prim c a t) (pt : Plain t) : EvOk K m prim c (.call1 i a) (.Call (.Name n q) [t] [] p) := fun sa A env O ρ s z r f h => by
  subst hn
  simp only [evalE] at h
  obtain ⟨x', hx, h⟩ := ob h
  obtain ⟨x, hx', h⟩ := ob h
  obtain ⟨d, hd', h⟩ := ob h
  cases opure h
  cases asD_some hx'
  obtain ⟨hf, hc⟩ := hP _ _ _ hd'
  obtain ⟨hg, o, fd, ho, hfd⟩ := G.fOk i hf
  refine wpAny_Call_Name_kw (name_gl G f hl hg (name_of _ hd) ?_)
  rw [pt.star]
  refine callWith_function (o := o) (fd := fd) (evalArgs_plain (spliced_cons (h1.go r f G.base hx fun v s1 rv st f1 => spliced_nil ⟨⟨f1.st.base _ _ ho, hfd⟩, ?_⟩)))
  exact lift (hc sa A s1 O [v] r f1.st f1.tabs f1.live (VRs.ofList rv VRs.nil)) fun _ _ q => gv_trans st q
theorem ev_call2 {i : Nat} {a b t u q p} {n : Str} (hP : PrimOk K G m prim) (hn : n = fnName i) (hd : plainName n = true) (hl : c.gl n) (h1 : EvOk K m prim c a t) (h2 : EvOk K m prim c b u) (pt : Plain t) (pu : Plain u) :
    EvOk K m prim c (.call2 i a b) (.Call (.Name n q) [t, u] [] p) := fun sa A env O ρ s z r f h => by
  subst hn
  simp only [evalE] at h
  obtain ⟨x', hx, h⟩ := ob h
  obtain ⟨x, hx', h⟩ := ob h
  obtain ⟨y', hy, h⟩ := ob h
  obtain ⟨y, hy', h⟩ := ob h
  obtain ⟨d, hd', h⟩ := ob h
  cases opure h
  cases asD_some hx'; cases asD_some hy'
  obtain ⟨hf, hc⟩ := hP _ _ _ hd'
  obtain ⟨hg, o, fd, ho, hfd⟩ := G.fOk i hf
  refine wpAny_Call_Name_kw (name_gl G f hl hg (name_of _ hd) ?_)
  rw [pt.star, pu.star]
  refine callWith_function (o := o) (fd := fd) (evalArgs_plain (spliced_cons (h1.go r f G.base hx fun v s1 rv st f1 => spliced_cons (h2.go r f1 G.base hy fun u s2 ru st2 f2 => spliced_nil ⟨⟨f2.st.base _ _ ho, hfd⟩, ?_⟩))))
  exact lift (hc sa A s2 O [v, u] r f2.st f2.tabs f2.live (VRs.ofList (VR.step f.tabs st2 rv) (VRs.ofList ru VRs.nil))) fun _ _ q => gv_trans (st.trans st2) q
theorem ev_call3 {i : Nat} {a b d t u w q p} {n : Str} (hP : PrimOk K G m prim) (hn : n = fnName i) (hd : plainName n = true) (hl : c.gl n) (h1 : EvOk K m prim c a t) (h2 : EvOk K m prim c b u) (h3 : EvOk K m prim c d w) (pt : Plain t) (pu : Plain u) (pw : Plain w) :
    EvOk K m prim c (.call3 i a b d) (.Call (.Name n q) [t, u, w] [] p) := fun sa A env O ρ s z r f h => by
  subst hn
  simp only [evalE] at h
  obtain ⟨x', hx, h⟩ := ob h
  obtain ⟨x, hx', h⟩ := ob h
  obtain ⟨y', hy, h⟩ := ob h
  obtain ⟨y, hy', h⟩ := ob h
  obtain ⟨w', hw, h⟩ := ob h
  obtain ⟨ww, hw', h⟩ := ob h
  obtain ⟨d, hd', h⟩ := ob h
  cases opure h
  cases asD_some hx'; cases asD_some hy'; cases asD_some hw'
  obtain ⟨hf, hc⟩ := hP _ _ _ hd'
  obtain ⟨hg, o, fd, ho, hfd⟩ := G.fOk i hf
  refine wpAny_Call_Name_kw (name_gl G f hl hg (name_of _ hd) ?_)
  rw [pt.star, pu.star, pw.star]
  refine callWith_function (o := o) (fd := fd) (evalArgs_plain (spliced_cons (h1.go r f G.base hx fun v s1 rv st f1 => spliced_cons (h2.go r f1 G.base hy fun u s2 ru st2 f2 => spliced_cons (h3.go r f2 G.base hw fun vw s3 rw st3 f3 => spliced_nil ⟨⟨f3.st.base _ _ ho, hfd⟩, ?_⟩)))))
  exact lift (hc sa A s3 O [v, u, vw] r f3.st f3.tabs f3.live (VRs.ofList (VR.step f.tabs st3 (VR.step f.tabs st2 rv)) (VRs.ofList (VR.step f.tabs st3 ru) (VRs.ofList rw VRs.nil)))) fun _ _ q => gv_trans ((st.trans st2).trans st3) q

theorem ev_fstr {a t k1 p1 p2 k3 p3 p} {x y : Str} {lx ly : S} (ex : x.cps.toList = lx) (ey : y.cps.toList = ly) (hb : ∀ P ∈ K.tabs, K.base.get? P = none) (h1 : EvOk K m prim c a t) :
    EvOk K m prim c (.fstr lx a ly) (.JoinedStr [.Constant (.str x) k1 p1, .FormattedValue t (-1) .none p2, .Constant (.str y) k3 p3] p) := fun sa A env O ρ s z r f h => by
  subst ex ey
  simp only [evalE] at h
  obtain ⟨w, hx, h⟩ := ob h
  simp only [fstrX] at h
  obtain ⟨l, hl, h⟩ := ob h
  obtain ⟨rfl, hz⟩ := okS_some h
  cases asS_some hl
  have e24 : sizeLine = 16777216 := by decide
  refine wpAny_JoinedStr (Constant_str ⟨x, _, rfl, ?_, ?_⟩)
  · simp only [List.length_append] at hz
    rw [str_len, app_list, List.length_append, e24]
    show 0 + _ ≤ _
    omega
  · refine wpAny_FormattedValue_plain (h1.go r (f.step hb (Step.tok (Nat.le_succ _))) hb hx fun v s1 rv st f1 => ?_)
    obtain ⟨t', k, rfl, rfl⟩ := VR.text rv
    have fin : ∀ k' tk, s1.toks ≤ tk → ∃ y_1 t_1, Value.str t' k' = .str y_1 t_1 ∧ (Str.empty ++ x ++ y_1).length ≤ sizeLine ∧
        Joins (M K) A NoE (evalEach [.Constant (.str y) k3 p3] env) (Str.empty ++ x ++ y_1) (fun out s₁ => out.length ≤ sizeLine ∧ Gv K sa O (.d (.str (x.cps.toList ++ t'.cps.toList ++ y.cps.toList))) s (.str out s₁.toks) { s₁ with toks := s₁.toks + 1 }) { s1 with toks := tk } := fun k' tk htk => by
      simp only [List.length_append] at hz
      refine ⟨t', k', rfl, ?_, Constant_str ⟨y, _, rfl, ?_, ?_, ?_, ?_⟩⟩
      · rw [str_len, app_list, app_list, List.length_append, List.length_append, e24]
        show 0 + _ + _ ≤ _
        omega
      · rw [str_len, app_list, app_list, app_list, List.length_append, List.length_append, List.length_append, e24]
        show 0 + _ + _ + _ ≤ _
        omega
      · rw [str_len, app_list, app_list, app_list, List.length_append, List.length_append, List.length_append, e24]
        show 0 + _ + _ + _ ≤ _
        omega
      · refine VR.ofStr ?_
        rw [app_list, app_list, app_list]
        rfl
      · exact ((Step.tok (Nat.le_succ _)).trans st).trans (Step.tok (show s1.toks ≤ tk + 1 + 1 by omega))
    exact wpAny_formatField_str (fin k s1.toks (Nat.le_refl _)) (fin _ _ (Nat.le_succ _)) (by simp only [List.length_append] at hz; rw [str_len, e24]; omega)

theorem ev_isStr (G : Gl K) {a t q q' p} (hi : c.gl "isinstance") (hs : c.gl "str") (h1 : EvOk K m prim c a t) (pt : Plain t) : EvOk K m prim c (.isStr a) (.Call (.Name "isinstance" q) [t, .Name "str" q'] [] p) := fun sa A env O ρ s z r f h => by
  simp only [evalE] at h
  obtain ⟨x, hx, h⟩ := ob h
  obtain ⟨l, hl, h⟩ := ob h
  cases opure h
  cases asS_some hl
  refine wpAny_Call_Name_kw (name_bi G f hi G.isinst (by decide) ?_)
  rw [pt.star, show starEach [.Name "str" q'] env = [(false, eval (.Name "str" q') env)] from rfl]
  refine callWith_builtin rfl (evalArgs_plain (spliced_cons (h1.go r f G.base hx fun v s1 rv st f1 => spliced_cons (name_bi G f1 hs G.strT (by decide) (spliced_nil ?_)))))
  obtain ⟨x', k, rfl, rfl⟩ := VR.text rv
  exact call_isinstance (isinstance_true (Tx := "str") (by first | rfl | kernel_rfl) isSubtype_str_str) ⟨typeIs_str _ _ _, .bool true, st⟩

theorem ev_mapT (G : Gl K) {a t q q' p} (hq : (q.endLine == p.line) = true) (hm : c.gl "_special_chars_map") (h1 : EvOk K m prim c a t) (pt : Plain t) : EvOk K m prim c (.mapT a) (.Call (.Attribute t "translate" q) [.Name "_special_chars_map" q'] [] p) := fun sa A env O ρ s z r f h => by
  simp only [evalE] at h
  obtain ⟨x, hx, h⟩ := ob h
  have hc : ∃ cc, x = .d (.str [cc]) ∧ escOk cc = true ∧ z = .d (.str [cc]) := by
    unfold mapX at h
    split at h
    · split at h
      · cases h
        exact ⟨_, rfl, by assumption, rfl⟩
      · cases h
    · cases h
  obtain ⟨cc, rfl, hok, rfl⟩ := hc
  refine meth F.slot_str_translate F.type_str_translate hq rfl h1 pt r f hx rfl G.base fun v s1 rv st f1 => ?_
  rw [show backTo p (starEach [.Name "_special_chars_map" q'] env) = [(false, eval (.Name "_special_chars_map" q') env)] from rfl]
  refine callWith_builtin rfl (evalArgs_plain (spliced_cons (name_gl G f1 hm G.map (by decide) (spliced_nil ?_))))
  obtain ⟨x', k, rfl, hx'⟩ := VR.text rv
  have ex : x' = ⟨#[cc]⟩ := Str.ext' (Array.ext' hx')
  subst ex
  obtain ⟨fm, hfm, hno⟩ := G.mapOf
  have hfm1 : s1.heap.MapOf (PySem.intKind K.prog K.w) 52 fm := by
    obtain ⟨o, es, ep, ho, r1⟩ := hfm
    exact ⟨o, es, ep, f1.st.base _ _ ho, r1⟩
  have hlt : cc < 128 := by
    unfold escOk at hok
    simp at hok
    omega
  refine toks (wpAny_call_entry F.slot_str_translate (typeIs_str _ _ _) F.entry_str_translate (translate_keep (by decide) r.handled hfm1 (hno cc hok) hlt fun h' tk t' hk => ⟨_, rfl, fun htk => ?_⟩) (F.args_str_translate_2 _ _))
  exact ⟨.str ⟨#[cc]⟩ t', st.trans (Step.of hk htk)⟩
end
end Mini
end

section
open PySem PySem.Spec PySem.Calls PyProof.Rows PySem.W PySem.Builtin PySem.Builtin.Str PySem.StrLaws
set_option maxRecDepth 100000
namespace Mini

/-- a step that may also turn the objects of B -/
structure StepB (K : Wd) (B : List Addr) (s s' : Shared) : Prop where
  keep : ∀ b o, b ∉ K.tabs → b ∉ B → s.heap.get? b = some o → s'.heap.get? b = some o
  os : s'.os = s.os
  gens : AllBare s.gens → AllBare s'.gens
  tinv : K.tinv s.heap → K.tinv s'.heap
  toks : s.toks ≤ s'.toks
section
variable {K : Wd} {B : List Addr} {s s' s'' : Shared}
theorem Step.toB (y : Step K s s') : StepB K B s s' := ⟨fun b o h _ e => y.keep b o h e, y.os, y.gens, y.tinv, y.toks⟩
theorem StepB.trans (a : StepB K B s s') (b : StepB K B s' s'') : StepB K B s s'' :=
  ⟨fun x o h hB e => b.keep x o h hB (a.keep x o h hB e), b.os.trans a.os, fun g => b.gens (a.gens g), fun g => b.tinv (a.tinv g), Nat.le_trans a.toks b.toks⟩
theorem StepB.mono {B' : List Addr} (a : StepB K B s s') (h : ∀ b ∈ B, b ∈ B') : StepB K B' s s' := ⟨fun b o ht hB e => a.keep b o ht (fun q => hB (h b q)) e, a.os, a.gens, a.tinv, a.toks⟩
theorem StepB.fresh (a : StepB K B s s') (h : ∀ b ∈ B, s.heap.get? b = none) : Step K s s' :=
  ⟨fun b o ht e => a.keep b o ht (fun hB => by rw [h b hB] at e; cases e) e, a.os, a.gens, a.tinv, a.toks⟩
theorem StepB.after (x : Step K s s') (a : StepB K B s' s'') (h : ∀ b ∈ B, s.heap.get? b = none) : Step K s s'' := (x.toB.trans a).fresh h
theorem StepB.of {h' : Heap} {tk : Nat} (hB : ∀ b ∈ B, b ∉ K.tabs) (hk : ∀ b o, b ∉ B → s.heap.get? b = some o → h'.get? b = some o) (ht : s.toks ≤ tk) :
    StepB K B s { s with heap := h', toks := tk } :=
  ⟨fun b o _ hb e => hk b o hb e, rfl, id, fun i => K.tinv_keep _ _ i fun P hP o e => hk P o (fun q => hB P q hP) e, ht⟩
theorem Vw.stepB {O : List Addr} (hO : ∀ a ∈ K.tabs, a ∈ O) (hB : ∀ b ∈ B, b ∈ O) (y : StepB K B s s') {b : Addr} {o : Obj} (h : Vw O s.heap b o) : Vw O s'.heap b o :=
  ⟨h.1, y.keep b o (fun q => h.1 (hO b q)) (fun q => h.1 (hB b q)) h.2⟩
end

noncomputable def closeL (cells : List (Str × Addr)) : List (Str × NameKind) → List (Str × Addr) → List (Str × Addr)
  | [], acc => acc
  | (n, k) :: r, acc => if k == .free then closeL cells r ((n, (cells.lookup n).getD 0) :: acc) else closeL cells r acc

theorem closeL_is (cells : List (Str × Addr)) (f : Str × NameKind → List (Str × Addr) → Sem (ForInStep (List (Str × Addr)))) (env : PySem.Env) (he : env.cells = cells)
    (hf : ∀ n k acc, f (n, k) acc = if (k == .free) = true then (do let a ← cellOf env n; pure (.yield ((n, a) :: acc))) else pure (.yield acc)) :
    ∀ (names : List (Str × NameKind)) (acc : List (Str × Addr)), (∀ x ∈ names, x.2 = .free → ∃ a, cells.lookup x.1 = some a) → forIn names acc f = pure (closeL cells names acc)
  | [], acc, _ => by rw [List.forIn_nil]; rfl
  | (n, k) :: r, acc, h => by
    rw [List.forIn_cons, hf]
    unfold closeL
    have hr : ∀ x ∈ r, x.2 = .free → ∃ a, cells.lookup x.1 = some a := fun x hx => h x (List.mem_cons_of_mem _ hx)
    by_cases hk : (k == NameKind.free) = true
    · obtain ⟨a, ha⟩ := h (n, k) List.mem_cons_self (by simpa using hk)
      rw [if_pos hk, if_pos hk]
      have e : cellOf env n = pure a := by unfold cellOf; rw [he, ha]
      rw [e, ha]
      exact closeL_is cells f env he hf r _ hr
    · rw [if_neg hk, if_neg hk]
      exact closeL_is cells f env he hf r _ hr
theorem closure_is {sc : Scope} {env : PySem.Env} (h : ∀ x ∈ sc.names, x.2 = .free → ∃ a, env.cells.lookup x.1 = some a) : closureFor sc env = pure (closeL env.cells sc.names []) := by
  simp only [closureFor]
  rw [closeL_is env.cells _ env rfl (fun n k acc => by by_cases hk : (k == NameKind.free) = true <;> simp [hk]) sc.names [] h]
  rfl
theorem closeL_lookup {cells : List (Str × Addr)} {n : Str} {a : Addr} (ha : cells.lookup n = some a) : ∀ (names : List (Str × NameKind)) (acc : List (Str × Addr)),
    ((∃ k, (n, k) ∈ names ∧ k = .free) ∨ acc.lookup n = some a) → (closeL cells names acc).lookup n = some a
  | [], acc, h => by
    rcases h with ⟨k, hk, _⟩ | h
    · cases hk
    · exact h
  | (y, k) :: r, acc, h => by
    unfold closeL
    by_cases hk : (k == NameKind.free) = true
    · rw [if_pos hk]
      refine closeL_lookup ha r _ ?_
      by_cases hy : n = y
      · subst hy
        right
        rw [List.lookup_cons_self, ha]; rfl
      · rcases h with ⟨k', hm, hf⟩ | h
        · rcases List.mem_cons.mp hm with e | hm
          · cases e; exact absurd rfl hy
          · exact .inl ⟨k', hm, hf⟩
        · right
          rw [List.lookup_cons, beq_false_of_ne hy]; exact h
    · rw [if_neg hk]
      refine closeL_lookup ha r _ ?_
      rcases h with ⟨k', hm, hf⟩ | h
      · rcases List.mem_cons.mp hm with e | hm
        · cases e; subst hf; exact absurd rfl hk
        · exact .inl ⟨k', hm, hf⟩
      · exact .inr h
theorem lookup_mem {n : Str} {k : NameKind} : ∀ {names : List (Str × NameKind)}, names.lookup n = some k → (n, k) ∈ names := fun h => mem_of_lookup h
theorem lookup_relab_free {out : Scope} (ho : out.kind = .function) {x : Str} (hc : out.names.lookup x = some .cell) : ∀ {names : List (Str × NameKind)}, names.lookup x = some .free →
    (names.map fun (n, k) => if (k == NameKind.free && out.kind == .function && out.names.lookup n == some .cell) then (n, NameKind.cell) else (n, k)).lookup x = some .cell
  | [], h => by cases h
  | (n, k) :: r, h => by
    have ih := @lookup_relab_free out ho x hc r
    simp only [List.map_cons]
    rw [List.lookup_cons] at h
    cases hx : x == n with
    | true =>
      rw [hx] at h
      cases h
      have e : n = x := (beq_iff_eq.mp hx).symm
      subst e
      simp [ho, hc]
    | false =>
      rw [hx] at h
      by_cases hq : (k == NameKind.free && out.kind == .function && out.names.lookup n == some .cell) = true
      · rw [if_pos hq]; simp only [List.lookup_cons, hx]; exact ih h
      · rw [if_neg hq]; simp only [List.lookup_cons, hx]; exact ih h
theorem relab_cell_free {out : Scope} {x : Str} : ∀ {names : List (Str × NameKind)}, (∀ y ∈ names, y.2 ≠ .cell) → (names.map fun (n, k) => if (k == NameKind.free && out.kind == .function && out.names.lookup n == some .cell) then (n, NameKind.cell) else (n, k)).lookup x = some .cell →
    (x, NameKind.free) ∈ names
  | [], _, h => by cases h
  | (n, k) :: r, hn, h => by
    have ih := @relab_cell_free out x r fun y hy => hn y (List.mem_cons_of_mem _ hy)
    simp only [List.map_cons] at h
    by_cases hq : (k == NameKind.free && out.kind == .function && out.names.lookup n == some .cell) = true
    · rw [if_pos hq, List.lookup_cons] at h
      cases hx : x == n with
      | true =>
        simp only [Bool.and_eq_true] at hq
        have e : n = x := (beq_iff_eq.mp hx).symm
        have e2 : k = .free := by simpa using hq.1.1
        subst e e2
        exact List.mem_cons_self
      | false => rw [hx] at h; exact List.mem_cons_of_mem _ (ih h)
    · rw [if_neg hq, List.lookup_cons] at h
      cases hx : x == n with
      | true => rw [hx] at h; cases h; exact absurd rfl (hn _ List.mem_cons_self)
      | false => rw [hx] at h; exact List.mem_cons_of_mem _ (ih h)

structure ScP (c : Cx) (sc : Scope) : Prop where
  kind : sc.kind = .function
  nocell : ∀ y ∈ sc.names, y.2 ≠ .cell
  names : ∀ y ∈ sc.names, y.2 = .local → sc.names.lookup y.1 = some .local
  free : ∀ y ∈ sc.names, y.2 = .free → c.sc.names.lookup y.1 = some .cell
theorem ScOk.of {c : Cx} {sc : Scope} (h : ScOk c sc = true) : ScP c sc := by
  unfold ScOk at h
  rw [Bool.and_eq_true, List.all_eq_true] at h
  refine ⟨by simpa using h.1, fun y hy e => ?_, fun y hy e => ?_, fun y hy e => ?_⟩
  · have := h.2 y hy; simp [e] at this
  · have := h.2 y hy; simpa [e] using this
  · have := h.2 y hy; simpa [e] using this

section
variable {K : Wd} {sa : Addr} {A : Around} {O : List Addr}

/-- what a turn of a comprehension leaves: its value or nothing -/
noncomputable def Turned (K : Wd) (sa : Addr) (O : List Addr) (C : Addr) (s : Shared) (o : List D) (y : Value) (s' : Shared) : Prop :=
  (∃ d, o = [d] ∧ VR sa (Vw O s'.heap) y d) ∧ StepB K [C] s s' ∧ ∃ m, s'.heap.Ns C m
noncomputable def TurnOk (K : Wd) (sa : Addr) (A : Around) (O : List Addr) (env : PySem.Env) (elt target : Expr) (ifs : List Expr) (scope : Scope) (cl : List (Str × Addr)) (I : Addr) (ds : List D) (gi : D → Option (List D)) (P : Nat → Value → Prop) (St' : Nat → Heap → Prop) (s : Shared) : Prop :=
  ∀ C Dd i v d o s' m, s.heap.get? C = none → s.heap.get? Dd = none → (∃ x, s'.heap.get? Dd = some x) → (∃ x, s'.heap.get? I = some x) → P i v → ds[i]? = some d → gi d = some o → Step K s s' → s'.heap.Ns C m → St' (i + 1) s'.heap →
    wpAny (M K) A (letOwnedTupleGo target (.ref I) v) (fun _ s₀ => wpAny (M K) A (assign target (compEnvC scope cl C env) v) (fun _ s₂ =>
      wpAny (M K) A (forIn ifs true fun c r => if r = true then do let ok ← isTrue c (compEnvC scope cl C env) (eval c (compEnvC scope cl C env)); pure (ForInStep.yield ok) else pure (ForInStep.yield r)) (fun ok s₃ =>
        if ok = true then wpAny (M K) A (eval elt (compEnvC scope cl C env)) (Turned K sa (I :: Dd :: C :: O) C s' o) NoE s₃
        else o = [] ∧ StepB K [C] s' s₃ ∧ ∃ m, s₃.heap.Ns C m) NoE s₂) NoE s₀) NoE s'

theorem mapM_split {gi : D → Option (List D)} {d : D} {r : List D} {outs : List (List D)} (h : (d :: r).mapM gi = some outs) : ∃ o os, gi d = some o ∧ r.mapM gi = some os ∧ outs = o :: os := by
  rw [List.mapM_cons] at h
  obtain ⟨o, ho, h⟩ := ob h
  obtain ⟨os, hos, h⟩ := ob h
  cases opure h
  exact ⟨o, os, ho, hos, rfl⟩

/-- both loops' shape at once -/
noncomputable abbrev LoopRule (K : Wd) (A : Around) (elt target iter : Expr) (ifs : List Expr) (scope : Scope) (pos : Pos) : Prop :=
  ∀ {it acc : Value} {env : PySem.Env} {R : Result → Shared → Prop} {s : Shared} (I : Nat → Shared → Prop)
    (turn : ∀ n s, I n s → wpAny (M K) A (pyNext it) (fun r s₁ => match r with
      | none => R (.ok .next) s₁
      | some v => wpAny (M K) A (letOwnedTupleGo target it v) (fun _ s₀ => wpAny (M K) A (assign target env v) (fun _ s₂ =>
          wpAny (M K) A (forIn ifs true fun c r => if r = true then do let ok ← isTrue c env (eval c env); pure (ForInStep.yield ok) else pure (ForInStep.yield r)) (fun ok s₃ =>
            if ok = true then wpAny (M K) A (eval elt env) (fun x s₄ => wpAny (M K) A (call (.builtin "list.append") [acc, x]) (fun _ s₅ => ∃ m, m < n ∧ I m s₅) NoE s₄) NoE s₃
            else ∃ m, m < n ∧ I m s₃) NoE s₂) NoE s₀) NoE s₁) NoE s)
    (n : Nat) (h : I n s), codeAny (M K) A (.compLoop (.ListComp elt [⟨target, iter, ifs, 0⟩] scope pos) 0 it acc env) R s

theorem rule_name {elt iter : Expr} {x : Str} {px : Pos} {ifs : List Expr} {scope : Scope} {pos : Pos} : LoopRule K A elt (.Name x px) iter ifs scope pos := by
  intro it acc env R s I turn n h
  refine codeAny_compLoop_tests I (fun n s hI => lift (turn n s hI) fun r s₁ h₁ => ?_) n h
  cases r with
  | none => exact h₁
  | some v =>
    refine lift (P := fun _ s₂ => wpAny (M K) A (forIn ifs true fun c r => if r = true then do let ok ← isTrue c env (eval c env); pure (ForInStep.yield ok) else pure (ForInStep.yield r)) (fun ok s₃ =>
            if ok = true then wpAny (M K) A (eval elt env) (fun x s₄ => wpAny (M K) A (call (.builtin "list.append") [acc, x]) (fun _ s₅ => ∃ m, m < n ∧ I m s₅) NoE s₄) NoE s₃
            else ∃ m, m < n ∧ I m s₃) NoE s₂) ?_ fun _ s₂ h₂ => lift h₂ fun ok s₃ h₃ => ?_
    · exact fun Γ p hΓ => h₁ Γ p hΓ Γ p hΓ
    · cases ok with
      | true => exact lift h₃ fun x s₄ h₄ => lift h₄ fun _ _ h₅ => h₅
      | false => exact h₃
theorem rule_pair {elt iter : Expr} {elts : List Expr} {x1} {tp : Pos} {scope : Scope} {pos : Pos} : LoopRule K A elt (.Tuple elts x1 tp) iter [] scope pos := by
  intro it acc env R s I turn n h
  refine LCp.codeAny_compLoop_pair I (fun n s hI => lift (turn n s hI) fun r s₁ h₁ => ?_) n h
  cases r with
  | none => exact h₁
  | some v =>
    refine lift h₁ fun _ s₀ h₀ => lift h₀ fun _ s₂ h₂ => ?_
    have h₂' : wpAny (M K) A (eval elt env) (fun x s₄ => wpAny (M K) A (call (.builtin "list.append") [acc, x]) (fun _ s₅ => ∃ m, m < n ∧ I m s₅) NoE s₄) NoE s₂ := fun Γ p hΓ => h₂ Γ p hΓ Γ p hΓ
    exact lift h₂' fun x s₄ h₄ => lift h₄ fun _ _ h₅ => h₅

theorem comp_core {env : PySem.Env} {elt target iter : Expr} {ifs : List Expr} {scope : Scope} {pos : Pos} {cl : List (Str × Addr)} {s s₂ : Shared} {I : Addr} {fp : List Addr} {n : Nat} {P : Nat → Value → Prop} {St' : Nat → Heap → Prop}
    (LR : LoopRule K A elt target iter ifs scope pos) (W : Walks K.prog K.w A I fp [I] n P St') (hcell : ∀ y ∈ scope.names, y.2 ≠ .cell) (hkind : scope.kind = .function)
    (hst : St' 0 s₂.heap) (hfp : ∀ b ∈ fp, b < s₂.heap.objs.size ∧ b ∉ K.tabs) (hIl : ∀ i h, St' i h → ∃ x, h.get? I = some x) (hs : Step K s s₂) (hI : s.heap.get? I = none) (hti : K.tinv s.heap)
    {ds : List D} {outs : List (List D)} (hn : n = ds.length) (hle : n ≤ 4096) (gi : D → Option (List D)) (hgl : ∀ d o, gi d = some o → o.length ≤ 1) (hg : ds.mapM gi = some outs) (hO : ∀ a ∈ K.tabs, a ∈ O)
    (turn : TurnOk K sa A O env elt target ifs scope cl I ds gi P St' s) {RR : Value → Addr → Result → Shared → Prop}
    (hRR : ∀ Dd C s' ys nD m, Step K s s' → s'.heap.get? Dd = some (lstO ys nD) → VRs sa (Vw (I :: Dd :: C :: O) s'.heap) ys outs.flatten → s'.heap.Ns C m → s.heap.get? Dd = none → s.heap.get? C = none → C ≠ Dd →
      RR (.ref Dd) C (.ok .next) s') :
    wpAny (M K) A (newList []) (fun acc s₃ => wpAny (M K) A (newFunctionEnv scope env.globals cl [] env.qual none .none (some env)) (fun cenv s₄ =>
      codeAny (M K) A (.compStart (.ListComp elt [⟨target, iter, ifs, 0⟩] scope pos) 0 (.ref I) acc { cenv with scope := relabel scope env }) (RR acc cenv.locals) s₄) NoE s₃) NoE s₂ := by
  have hIx := hIl 0 _ hst
  refine wpAny_newObj_type (wpAny_newFunctionEnv hcell (by intro y hy; simp at hy) (fun h₁ hns₁ hsb₁ => ?_) hkind)
  dsimp only at hns₁ hsb₁ ⊢
  generalize hH2 : s₂.heap.push { cls := .type "list", dict := none, data := .seq ([] : List Value).toArray } = H2 at hns₁ hsb₁ ⊢
  have hC : H2.objs.size = s₂.heap.objs.size + 1 := by rw [← hH2, Heap.size_push]
  generalize hDd : s₂.heap.objs.size = Dd at hC ⊢
  generalize hCC : H2.objs.size = C at hC hns₁ hsb₁ ⊢
  have hCD : C ≠ Dd := by rw [hC]; exact Nat.succ_ne_self _
  have old : ∀ b o, s₂.heap.get? b = some o → h₁.get? b = some o := fun b o e => by
    have hb := Heap.lt_size e
    rw [hDd] at hb
    exact hsb₁.extBut b o (Nat.ne_of_lt (by rw [hC]; exact Nat.lt_succ_of_lt hb)) (Heap.get?_push_of_some _ (hH2 ▸ Heap.get?_push_of_some _ e))
  have hacc : h₁.get? Dd = some (lstO #[] 0) := hsb₁.extBut _ _ (Ne.symm hCD) (Heap.get?_push_of_some _ (hH2 ▸ hDd ▸ Heap.get?_push_size _ rfl))
  have s2C : s₂.heap.get? C = none := by
    cases e : s₂.heap.get? C with
    | none => rfl
    | some o => have h := Heap.lt_size e; rw [hDd, hC] at h; exact absurd h (Nat.not_lt.mpr (Nat.le_succ _))
  have s2D : s₂.heap.get? Dd = none := by
    cases e : s₂.heap.get? Dd with
    | none => rfl
    | some o => have h := Heap.lt_size e; rw [hDd] at h; exact absurd h (Nat.lt_irrefl _)
  have tabs_live : ∀ a ∈ K.tabs, ∃ o, s₂.heap.get? a = some o := K.live _ (hs.tinv hti)
  have hCt : C ∉ K.tabs := fun q => by obtain ⟨o, ho⟩ := tabs_live C q; rw [s2C] at ho; cases ho
  have hDt : Dd ∉ K.tabs := fun q => by obtain ⟨o, ho⟩ := tabs_live Dd q; rw [s2D] at ho; cases ho
  have hIt : I ∉ K.tabs := (hfp I (W.sub I List.mem_cons_self)).2
  have hIC : I ≠ C := fun q => by obtain ⟨o, ho⟩ := hIx; rw [q, s2C] at ho; cases ho
  have hID : I ≠ Dd := fun q => by obtain ⟨o, ho⟩ := hIx; rw [q, s2D] at ho; cases ho
  have none_of : ∀ b, s₂.heap.get? b = none → b ∉ K.tabs → s.heap.get? b = none := fun b e ht => by
    cases e' : s.heap.get? b with
    | none => rfl
    | some o => rw [hs.keep b o ht e'] at e; cases e
  have sC := none_of C s2C hCt
  have sD := none_of Dd s2D hDt
  have hst₁ : St' 0 h₁ := W.frame _ _ _ hst fun b _ o e => old b o e
  have hdf : ∀ b ∈ fp, b ≠ Dd ∧ b ≠ C := fun b hb => by
    have h := (hfp b hb).1
    rw [hDd] at h
    exact ⟨Nat.ne_of_lt h, Nat.ne_of_lt (by rw [hC]; exact Nat.lt_succ_of_lt h)⟩
  let s₃ : Shared := { s₂ with heap := h₁, toks := s₂.toks + ([] : List (Str × Value)).length }
  have step3 : Step K s s₃ := hs.trans (Step.of old (Nat.le_refl _))
  have loop : codeAny (M K) A (.compLoop (.ListComp elt [⟨target, iter, ifs, 0⟩] scope pos) 0 (.ref I) (.ref Dd) (compEnvC scope cl C env)) (RR (.ref Dd) C) s₃ := by
    refine LR (fun k s' => ∃ i ys nD m acc os, k = n + 1 - i ∧ i ≤ n ∧ Step K s s' ∧ St' i s'.heap ∧ (∃ x, s'.heap.get? I = some x) ∧ s'.heap.get? Dd = some (lstO ys nD) ∧ s'.heap.Ns C m ∧ VRs sa (Vw (I :: Dd :: C :: O) s'.heap) ys acc ∧ acc.length ≤ i ∧
      (ds.drop i).mapM gi = some os ∧ outs.flatten = acc ++ os.flatten) ?_ (n + 1)
      ⟨0, #[], 0, _, [], outs, rfl, Nat.zero_le _, step3, hst₁, let ⟨x, hx⟩ := hIx; ⟨x, old _ _ hx⟩, hacc, hns₁, VRs.nil, Nat.le_refl _, by simpa using hg, by simp⟩
    rintro k s' ⟨i, ys, nD, m, acc, os, rfl, hi, stp, hst', hIx', hD', hn', hv, hal, hos, hfl⟩
    by_cases hlt : i < n
    · refine toks (W.item i _ _ _ hlt hst' fun v h₂ tk₂ hPv hst₂ hk₂ => fun htk => ?_)
      have hlt' : i < ds.length := by omega
      rw [List.drop_eq_getElem_cons hlt'] at hos
      obtain ⟨o, os', ho, hos', rfl⟩ := mapM_split hos
      have stI : StepB K [I] s' { s' with heap := h₂, toks := tk₂ } := StepB.of (fun b hb => by rw [List.mem_singleton.mp hb]; exact hIt) hk₂ htk
      have stp2 : Step K s { s' with heap := h₂, toks := tk₂ } := StepB.after stp stI fun b hb => by rw [List.mem_singleton.mp hb]; exact hI
      have hO' : ∀ a ∈ K.tabs, a ∈ I :: Dd :: C :: O := fun a ha => by simp [hO a ha]
      have hv2 : VRs sa (Vw (I :: Dd :: C :: O) h₂) ys acc := hv.mono fun b o => Vw.stepB (s' := { s' with heap := h₂, toks := tk₂ }) hO' (fun b hb => by rw [List.mem_singleton.mp hb]; simp) stI
      have hD2 : h₂.get? Dd = some (lstO ys nD) := hk₂ _ _ (by simpa using Ne.symm hID) hD'
      have hn2 : h₂.Ns C m := hn'.at' fun o e => hk₂ _ o (by simpa using Ne.symm hIC) e
      have hI2 : ∃ x, h₂.get? I = some x := hIl _ _ hst₂
      refine lift (turn C Dd i v ds[i] o _ m sC sD ⟨_, hD2⟩ hI2 hPv (by simp [hlt']) ho stp2 hn2 hst₂) fun _ s₀ h₀ => lift h₀ fun _ s₅ h₅ => lift h₅ fun ok s₆ h₆ => ?_
      have up : ∀ {s₇ : Shared}, StepB K [C] { s' with heap := h₂, toks := tk₂ } s₇ → Step K s s₇ ∧ St' (i + 1) s₇.heap ∧ (∃ x, s₇.heap.get? I = some x) ∧ s₇.heap.get? Dd = some (lstO ys nD) ∧ VRs sa (Vw (I :: Dd :: C :: O) s₇.heap) ys acc := fun {s₇} y =>
        ⟨StepB.after stp2 y fun b hb => by rw [List.mem_singleton.mp hb]; exact sC,
          W.frame _ _ _ hst₂ fun b hb x e => y.keep b x (hfp b hb).2 (by simpa using (hdf b hb).2) e,
          let ⟨x, hx⟩ := hI2; ⟨x, y.keep _ _ hIt (by simpa using hIC) hx⟩,
          y.keep _ _ hDt (by simpa using Ne.symm hCD) hD2,
          hv2.mono fun b o => Vw.stepB (s := { s' with heap := h₂, toks := tk₂ }) hO' (fun b hb => by rw [List.mem_singleton.mp hb]; simp) y⟩
      cases ok with
      | false =>
        simp only [Bool.false_eq_true, if_false] at h₆ ⊢
        obtain ⟨rfl, y, m', hn6⟩ := h₆
        obtain ⟨u1, u2, u3, u4, u5⟩ := up y
        exact ⟨n + 1 - (i + 1), by omega, i + 1, ys, nD, m', acc, os', rfl, hlt, u1, u2, u3, u4, hn6, u5, by omega, hos', by rw [hfl]; simp⟩
      | true =>
        simp only [if_true] at h₆ ⊢
        refine lift h₆ fun y s₇ h₇ => ?_
        obtain ⟨⟨d', rfl, hvd⟩, y', m', hn7⟩ := h₇
        obtain ⟨u1, u2, u3, u4, u5⟩ := up y'
        refine append_at u4 (fun h₈ hs₈ hD₈ => ?_) ?_
        · have st8 : StepB K [Dd] s₇ { s₇ with heap := h₈ } := StepB.of (tk := s₇.toks) (fun b hb => by rw [List.mem_singleton.mp hb]; exact hDt) (fun b o hb e => hs₈.extBut b o (by simpa using hb) e) (Nat.le_refl _)
          have v8 : ∀ b o, Vw (I :: Dd :: C :: O) s₇.heap b o → Vw (I :: Dd :: C :: O) h₈ b o := fun b o => Vw.stepB (s' := { s₇ with heap := h₈ }) hO' (fun b hb => by rw [List.mem_singleton.mp hb]; simp) st8
          refine ⟨n + 1 - (i + 1), by omega, i + 1, ys.push y, nD + 1, m', acc ++ [d'], os', rfl, hlt, StepB.after u1 st8 fun b hb => by rw [List.mem_singleton.mp hb]; exact sD,
            W.frame _ _ _ u2 fun b hb x e => hs₈.extBut b x (hdf b hb).1 e, let ⟨x, hx⟩ := u3; ⟨x, hs₈.extBut _ _ hID hx⟩, hD₈, hn7.sameBut hs₈ hCD, (u5.mono v8).push (hvd.mono v8), ?_, hos', by rw [hfl]; simp⟩
          rw [List.length_append, List.length_singleton]; omega
        · have := u5.1
          show ys.size ≤ 2 ^ 24
          omega
    · obtain rfl : i = n := Nat.le_antisymm hi (Nat.not_lt.mp hlt)
      refine toks (W.done _ _ _ hst' fun h₂ tk₂ hk₂ htk => ?_)
      have stI : StepB K [I] s' { s' with heap := h₂, toks := tk₂ } := StepB.of (fun b hb => by rw [List.mem_singleton.mp hb]; exact hIt) hk₂ htk
      have hO' : ∀ a ∈ K.tabs, a ∈ I :: Dd :: C :: O := fun a ha => by simp [hO a ha]
      rw [List.drop_eq_nil_of_le (by omega)] at hos
      cases opure (show (pure [] : Option (List (List D))) = some os from hos)
      refine hRR _ _ _ ys nD m (StepB.after stp stI fun b hb => by rw [List.mem_singleton.mp hb]; exact hI) (hk₂ _ _ (by simpa using Ne.symm hID) hD') ?_ (hn'.at' fun o e => hk₂ _ o (by simpa using Ne.symm hIC) e) sD sC hCD
      rw [hfl, List.flatten_nil, List.append_nil]
      exact hv.mono fun b o => Vw.stepB (s' := { s' with heap := h₂, toks := tk₂ }) hO' (fun b hb => by rw [List.mem_singleton.mp hb]; simp) stI
  exact codeAny_compStart_list loop (lift (W.self 0 _ (fun it' s' => it' = .ref I ∧ s' = s₃) _ hst₁ ⟨rfl, rfl⟩) fun it' s' q => by rw [q.1, q.2]; exact loop)
end
end Mini
end

section
open PySem PySem.Spec PySem.Calls PyProof.Rows PySem.W PySem.Builtin PySem.Builtin.Str PySem.StrLaws
set_option maxRecDepth 100000
namespace Mini
section
variable {K : Wd} {G : Gl K} {m : Nat} {prim : Nat → List D → Option D} {c : Cx} {sa : Addr} {A : Around} {env : PySem.Env} {O : List Addr} {ρ : Env} {s : Shared}

theorem getV_setV {ρ : Env} {x : Nat} {v X : _} (h : getV (setV ρ x v) x = some X) : X = v := by
  unfold getV setV at h
  rw [List.getElem?_set_self'] at h
  cases hr : ρ[x]? with
  | none => rw [hr] at h; simp at h
  | some o => rw [hr] at h; simp at h; exact h.symm
theorem getV_ne {ρ : Env} {x y : Nat} {v : X} (h : y ≠ x) : getV (setV ρ x v) y = getV ρ y := by
  unfold getV setV
  rw [List.getElem?_set_ne (Ne.symm h)]

theorem new_tab {a : Addr} (hi : K.tinv s.heap) (h : s.heap.get? a = none) : a ∉ K.tabs := fun q => by
  obtain ⟨o, ho⟩ := K.live _ hi a q
  rw [h] at ho; cases ho

theorem inner_fm {sc : Scope} {C Dd I : Addr} {s₂ : Shared} {mm : Str → Option Value} {xs : List Nat} {ρ' : Env} (hb : ∀ P ∈ K.tabs, K.base.get? P = none) (f : Fm K sa c env O ρ s) (hsc : ScP c sc) (stp : Step K s s₂)
    (hC : s.heap.get? C = none) (hD : s.heap.get? Dd = none) (hI : s.heap.get? I = none) (hD2 : ∃ x, s₂.heap.get? Dd = some x) (hI2 : ∃ x, s₂.heap.get? I = some x) (hn : s₂.heap.Ns C mm)
    (hx : ∀ y ∈ xs, ∀ X, getV ρ' y = some X → ∃ n v, c.nm[y]? = some n ∧ sc.names.lookup n = some .local ∧ mm n = some v ∧ RX sa K.tabs (I :: Dd :: C :: O) s₂.heap v X)
    (hy : ∀ y, y ∉ xs → getV ρ' y = getV ρ y) :
    Fm K sa (c.inner sc xs) (compEnvC sc (closeL env.cells sc.names []) C env) (I :: Dd :: C :: O) ρ' s₂ := by
  have hCt := new_tab f.st.tinv hC
  refine ⟨f.st.step hb stp, ?_, hsc.kind, f.glob, f.bi, f.code, fun a ha => by simp [f.tabs a ha], fun a ha => ?_, fun n h => ?_, fun y hy' X hX => ?_⟩
  · show relabel sc env = relab sc c.sc
    unfold relabel relab Env.kindOf
    rw [f.sc]
  · rcases List.mem_cons.mp ha with rfl | ha
    · exact hI2
    rcases List.mem_cons.mp ha with rfl | ha
    · exact hD2
    rcases List.mem_cons.mp ha with rfl | ha
    · obtain ⟨o, _, _, ho, _⟩ := hn; exact ⟨o, ho⟩
    · exact live_step (f.st.step hb stp).tinv stp f.live a ha
  · have hm := relab_cell_free hsc.nocell h
    obtain ⟨a, ha⟩ := f.cells n (hsc.free _ hm rfl)
    exact ⟨a, closeL_lookup ha _ _ (.inl ⟨_, hm, rfl⟩)⟩
  · by_cases hxy : y ∈ xs
    · obtain ⟨n, v, h1, h2, h3, h4⟩ := hx y hxy X hX
      refine ⟨n, v, h1, .inl ⟨?_, hCt, mm, hn, h3⟩, h4⟩
      exact lookup_relabel_local h2
    · rw [hy y hxy] at hX
      have hmem : y ∈ c.vis ∧ (match c.nm[y]? with | some n => sc.names.lookup n == some .free | none => false) = true := by
        have h1 : y ∈ xs ++ c.vis.filter _ := hy'
        rcases List.mem_append.mp h1 with h | h
        · exact absurd h hxy
        · rw [List.mem_filter, Bool.and_eq_true] at h
          exact ⟨h.1, h.2.2⟩
      obtain ⟨n, v, h1, hl, hr⟩ := f.vars y hmem.1 X hX
      have hfr : sc.names.lookup n = some .free := by have := hmem.2; rw [h1] at this; simpa using this
      have hcell : c.sc.names.lookup n = some .cell := hsc.free _ (lookup_mem hfr) rfl
      have hk : env.kindOf n = some .cell := by show env.scope.names.lookup n = _; rw [f.sc]; exact hcell
      rcases hl.step stp with ⟨hk', _⟩ | ⟨_, a, ha, hat, hca⟩
      · rw [hk] at hk'; cases hk'
      · refine ⟨n, v, h1, .inr ⟨?_, a, closeL_lookup ha _ _ (.inl ⟨_, lookup_mem hfr, rfl⟩), hat, hca⟩, ?_⟩
        · show (relabel sc env).names.lookup n = some .cell
          unfold relabel Env.kindOf
          rw [f.sc]
          exact lookup_relab_free f.fn hcell hfr
        · exact hr.mono (fun b o hv => ⟨by
              simp only [List.mem_cons, not_or]
              refine ⟨?_, ?_, ?_, hv.1⟩ <;> (rintro rfl; have := hv.2; simp_all), stp.keep b o (fun q => hv.1 (f.tabs b q)) hv.2⟩) fun b o hbO hbT e => ⟨by simp [hbO], stp.keep b o hbT e⟩

theorem tests_one {env : PySem.Env} {e : Expr} {Q : Bool → Shared → Prop} {E : Value → Shared → Prop} (h : wpAny (M K) A (isTrue e env (eval e env)) Q E s) :
    wpAny (M K) A (forIn [e] true fun c r => if r = true then do let ok ← isTrue c env (eval c env); pure (ForInStep.yield ok) else pure (ForInStep.yield r)) Q E s := wpAny_tests_one h

/-- an iterator of a list or of a text -/
noncomputable def IterOk (K : Wd) (sa : Addr) (A : Around) (O : List Addr) (ds : List D) (s : Shared) (it : Value) (s₂ : Shared) : Prop :=
  ∃ I fp P St', it = .ref I ∧ Walks K.prog K.w A I fp [I] ds.length P St' ∧ St' 0 s₂.heap ∧ (∀ b ∈ fp, b < s₂.heap.objs.size ∧ b ∉ K.tabs) ∧ (∀ i h, St' i h → ∃ x, h.get? I = some x) ∧ Step K s s₂ ∧ s.heap.get? I = none ∧
    (∀ i v d, P i v → ds[i]? = some d → VR sa (Vw O s.heap) v d)
theorem new_none {h : Heap} : h.get? h.objs.size = none := by
  cases e : h.get? h.objs.size with
  | none => rfl
  | some o => exact absurd (Heap.lt_size e) (Nat.lt_irrefl _)

theorem RX.list' {T : List Addr} {h : Heap} {v : Value} {x : X} {l : List D} (hT : ∀ a ∈ T, a ∈ O) (r : RX sa T O h v x) (hl : asL x = some l) :
    ∃ a vs n, v = .ref a ∧ h.get? a = some (lstO vs n) ∧ a ∉ T ∧ VRs sa (Vw O h) vs l := by
  cases x with
  | d d =>
    cases d <;> simp [asL] at hl
    subst hl
    obtain ⟨a, vs, n, rfl, hp, hs⟩ := VR.list r
    exact ⟨a, vs, n, rfl, hp.2, fun q => hp.1 (hT a q), hs⟩
  | own m =>
    simp [asL] at hl
    subst hl
    obtain ⟨a, vs, n, rfl, ha, hs, _, h4⟩ := r
    exact ⟨a, vs, n, rfl, ha, h4, hs⟩
  | bnd _ => simp [asL] at hl

theorem iter_list {v : Value} {x : X} {l : List D} (hh : A.handled = none) (hT : ∀ a ∈ K.tabs, a ∈ O) (hti : K.tinv s.heap) (r : RX sa K.tabs O s.heap v x) (hl : asL x = some l) {Q : Value → Shared → Prop}
    (h : ∀ I ax items, ax ≠ I → I = s.heap.objs.size → s.heap.IsList ax items → VRs sa (Vw O s.heap) items l → ax ∉ K.tabs → Q (.ref I) { s with heap := s.heap.push { cls := .type "list_iterator", data := .fields #[.ref ax, .int 0 0] } }) :
    wpAny (M K) A (pyIter v) Q NoE s := by
  obtain ⟨a, vs, n, rfl, ha, hat, hs⟩ := RX.list' hT r hl
  exact wpAny_pyIter_list (isList_of ha) (h _ a vs (Nat.ne_of_lt (Heap.lt_size ha)) rfl (isList_of ha) hs hat)
theorem iter_ok {v : Value} {x : X} {l : List D} (hh : A.handled = none) (hT : ∀ a ∈ K.tabs, a ∈ O) (hti : K.tinv s.heap) (r : RX sa K.tabs O s.heap v x) (hl : asIt x = some l) :
    wpAny (M K) A (pyIter v) (IterOk K sa A O l s) NoE s := by
  by_cases hx : ∃ l', asL x = some l'
  · obtain ⟨l', hx⟩ := hx
    have e : l' = l := by
      cases x with
      | d d => cases d <;> simp [asL] at hx; subst hx; simp [asIt] at hl; exact hl
      | own m => simp [asL] at hx; subst hx; simp [asIt] at hl; exact hl
      | bnd _ => simp [asL] at hx
    subst e
    refine iter_list hh hT hti r hx fun I ax items hne hI hil hv hat => ⟨I, [I, ax], _, _, rfl, hv.1 ▸ Walks.list hh I ax hne items, ⟨⟨_, hI ▸ Heap.get?_push_size _ rfl, rfl, rfl⟩, hil.push _⟩, fun b hb => ?_, fun i h q => let ⟨o, ho, _⟩ := q.1; ⟨o, ho⟩, Step.push _, hI ▸ new_none, fun i v d hP hd => ?_⟩
    · show b < (s.heap.push _).objs.size ∧ _
      rw [Heap.size_push]
      simp only [List.mem_cons, List.mem_nil_iff, or_false] at hb
      rcases hb with rfl | rfl
      · rw [hI]
        exact ⟨Nat.lt_succ_self _, new_tab hti new_none⟩
      · exact ⟨Nat.lt_succ_of_lt (let ⟨_, ho, _⟩ := hil; Heap.lt_size ho), hat⟩
    · exact hv.2 i v d hP hd
  · cases x with
    | d d =>
      cases d with
      | str z =>
        simp [asIt] at hl
        subst hl
        obtain ⟨t, k, rfl, rfl⟩ := VR.text r
        have fin : ∀ (i : Nat) v d, SignAt t i v → (t.cps.toList.map fun c => D.str [c])[i]? = some d → VR sa (Vw O s.heap) v d := fun i v d hP hd => by
          obtain ⟨c, u, hc, rfl⟩ := hP
          rw [List.getElem?_map] at hd
          rw [show t.cps.toList[i]? = some c by simpa using hc] at hd
          cases hd
          exact .str ⟨#[c]⟩ u
        have hI := new_tab hti (new_none (h := s.heap))
        cases ha : t.cps.all (· < 128)
        · refine wpAny_pyIter_wide ha ⟨s.heap.objs.size, [s.heap.objs.size], SignAt t, (fun i h => h.IsStrIter s.heap.objs.size "str_iterator" t k i), rfl, (by simpa using Walks.strWide hh _ t k), ⟨_, Heap.get?_push_size _ rfl, rfl, rfl⟩, fun b hb => ?_, fun i h q => let ⟨o, ho, _⟩ := q; ⟨o, ho⟩, Step.push _, new_none, fin⟩
          rw [List.mem_singleton.mp hb]
          exact ⟨by show _ < (s.heap.push _).objs.size; rw [Heap.size_push]; exact Nat.lt_succ_self _, hI⟩
        · refine wpAny_pyIter_ascii ha ⟨s.heap.objs.size, [s.heap.objs.size], SignAt t, (fun i h => h.IsStrIter s.heap.objs.size "str_ascii_iterator" t k i), rfl, (by simpa using Walks.strAscii hh _ t k), ⟨_, Heap.get?_push_size _ rfl, rfl, rfl⟩, fun b hb => ?_, fun i h q => let ⟨o, ho, _⟩ := q; ⟨o, ho⟩, Step.push _, new_none, fin⟩
          rw [List.mem_singleton.mp hb]
          exact ⟨by show _ < (s.heap.push _).objs.size; rw [Heap.size_push]; exact Nat.lt_succ_self _, hI⟩
      | lst l' => exact absurd ⟨l', rfl⟩ hx
      | _ => simp [asIt] at hl
    | own m => exact absurd ⟨m, rfl⟩ hx
    | bnd _ => simp [asIt] at hl

/-- the assignment of a comprehension's one name -/
theorem assign_one {sc : Scope} {C : Addr} {cl : List (Str × Addr)} {n : Str} {px : Pos} {v : Value} {mm : Str → Option Value} {Q : Unit → Shared → Prop} {E : Value → Shared → Prop} (hk : sc.kind = .function) (hl : sc.names.lookup n = some .local) (hCt : C ∉ K.tabs) (hn : s.heap.Ns C mm)
    (h : ∀ s', StepB K [C] s s' → s'.heap.Ns C (fun y => if y = n then some v else mm y) → Q () s') :
    wpAny (M K) A (assign (.Name n px) (compEnvC sc cl C env) v) Q E s := by
  refine wpAny_assign_Name (wpAny_storeName_local (lookup_relabel_local hl) hn (fun h' hn' hs' => ?_) (by simp [compEnvC, relabel, hk]))
  exact h _ (StepB.of (fun b hb => by rw [List.mem_singleton.mp hb]; exact hCt) (fun b o hb e => hs'.extBut b o (show b ≠ C by simpa using hb) e) (by show s.toks ≤ _; omega)) hn'

theorem turn_name {t : Expr} {n : Str} {px : Pos} {sc : Scope} {ifs : List Expr} {x : Nat} {I : Addr} {ds : List D} {gi : D → Option (List D)} {P : Nat → Value → Prop} {St' : Nat → Heap → Prop}
    (r : Rm A m) (hb : ∀ P ∈ K.tabs, K.base.get? P = none) (f : Fm K sa c env O ρ s) (hsc : ScP c sc) (hnx : c.nm[x]? = some n) (hl : sc.names.lookup n = some .local) (hI : s.heap.get? I = none)
    (hP : ∀ i v d, P i v → ds[i]? = some d → VR sa (Vw O s.heap) v d)
    (body : ∀ d o env' O' ρ' s, gi d = some o → ρ' = setV ρ x (.d d) → Fm K sa (c.inner sc [x]) env' O' ρ' s →
      wpAny (M K) A (forIn ifs true fun c r => if r = true then do let ok ← isTrue c env' (eval c env'); pure (ForInStep.yield ok) else pure (ForInStep.yield r)) (fun ok s₃ =>
        if ok = true then wpAny (M K) A (eval t env') (fun y s' => (∃ d, o = [d] ∧ VR sa (Vw O' s'.heap) y d) ∧ Step K s s') NoE s₃ else o = [] ∧ Step K s s₃) NoE s) :
    TurnOk K sa A O env t (.Name n px) ifs sc (closeL env.cells sc.names []) I ds gi P St' s := by
  intro C Dd i v d o s' mm hC hD hD2 hI2 hPv hd ho stp hn hst
  have hCt := new_tab f.st.tinv hC
  refine wpAny_pure (assign_one hsc.kind hl hCt hn fun s₂ y hn2 => ?_)
  have hCf : ∀ b ∈ [C], s.heap.get? b = none := fun b hb => by rw [List.mem_singleton.mp hb]; exact hC
  have hIt := new_tab f.st.tinv hI
  have hDt := new_tab f.st.tinv hD
  have hIC : I ≠ C ∨ I = C := Classical.em _ |>.symm
  have live2 : ∀ {b}, (∃ x, s'.heap.get? b = some x) → b ∉ K.tabs → ∃ x, s₂.heap.get? b = some x := fun {b} h ht => by
    by_cases hbC : b = C
    · subst hbC; obtain ⟨o, _, _, ho, _⟩ := hn2; exact ⟨o, ho⟩
    · obtain ⟨x, hx⟩ := h; exact ⟨x, y.keep b x ht (by simpa using hbC) hx⟩
  have stp2 : Step K s s₂ := StepB.after stp y hCf
  have hv : VR sa (Vw (I :: Dd :: C :: O) s₂.heap) v d := by
    exact (hP i v d hPv hd).mono fun b x hv => ⟨by
      simp only [List.mem_cons, not_or]
      refine ⟨?_, ?_, ?_, hv.1⟩ <;> (rintro rfl; have := hv.2; simp_all), stp2.keep b x (fun q => hv.1 (f.tabs b q)) hv.2⟩
  have f2 := inner_fm (xs := [x]) (ρ' := setV ρ x (.d d)) hb f hsc stp2 hC hD hI (live2 hD2 hDt) (live2 hI2 hIt) hn2
    (fun y hy X hX => by
      rw [List.mem_singleton.mp hy] at hX ⊢
      rw [getV_setV hX]
      exact ⟨n, v, hnx, hl, by simp, hv⟩)
    (fun y hy => getV_ne (by simpa using hy))
  refine lift (body d o _ _ _ s₂ ho rfl f2) fun ok s₃ h₃ => ?_
  have nsOf : ∀ {s₄ : Shared}, Step K s₂ s₄ → s₄.heap.Ns C _ := fun {s₄} st => hn2.at' fun o e => st.keep C o hCt e
  cases ok with
  | true => exact lift h₃ fun _ s₄ h₄ => ⟨h₄.1, y.trans h₄.2.toB, _, nsOf h₄.2⟩
  | false => exact ⟨h₃.1, y.trans h₃.2.toB, _, nsOf h₃.2⟩

theorem comp_run {e : E} {t target u : Expr} {ifs : List Expr} {sc : Scope} {p pp : Pos} {x : X} {ds : List D} {outs : List (List D)} {gi : D → Option (List D)} {use : Option (Value → Sem Unit)} {Q : Value → Shared → Prop}
    (LR : LoopRule K A t target u ifs sc p) (r : Rm A m) (hb : ∀ P ∈ K.tabs, K.base.get? P = none) (f : Fm K sa c env O ρ s) (hsc : ScP c sc) (h1 : EvOk K m prim c e u) (pu : Plain u) (hx : evalE prim e ρ = some x) (hds : asIt x = some ds) (hle : ds.length ≤ 4096)
    (hgl : ∀ d o, gi d = some o → o.length ≤ 1) (hg : ds.mapM gi = some outs)
    (turn : ∀ s₁ (_ : Fm K sa c env O ρ s₁) I P (St' : Nat → Heap → Prop), (∀ i h, St' i h → asL x = some ds → ∃ l j, h.IsListIter I l j) → s₁.heap.get? I = none → (∀ i v d, P i v → ds[i]? = some d → VR sa (Vw O s₁.heap) v d) → TurnOk K sa A O env t target ifs sc (closeL env.cells sc.names []) I ds gi P St' s₁)
    (hfin : ∀ Dd C s' mm, Step K s s' → s'.heap.Ns C mm → VR sa (Vw (C :: O) s'.heap) (.ref Dd) (.lst outs.flatten) → s.heap.get? C = none → s.heap.get? Dd = none → C ∉ K.tabs → compPost (M K) A NoE use Q (.ref Dd) C (.ok .next) s') :
    wpAny (M K) A (comprehension (.ListComp t [⟨target, u, ifs, 0⟩] sc p) sc env pp (newList []) false (eval u env) use) Q NoE s := by
  have hcl : closureFor sc env = pure (closeL env.cells sc.names []) := closure_is fun y hy hf => f.cells _ (hsc.free y hy hf)
  refine wpAny_comprehension_free (g := ⟨target, u, ifs, 0⟩) (gs := []) rfl (fun x => pu.fold env x) hcl hsc.kind hsc.names (h1.go r f hb hx fun v s₁ rv st f1 => ?_)
  refine lift (P := fun it s₂ => ∃ I fp P St', it = .ref I ∧ Walks K.prog K.w A I fp [I] ds.length P St' ∧ St' 0 s₂.heap ∧ (∀ b ∈ fp, b < s₂.heap.objs.size ∧ b ∉ K.tabs) ∧ (∀ i h, St' i h → ∃ x, h.get? I = some x) ∧ Step K s₁ s₂ ∧ s₁.heap.get? I = none ∧
      (∀ i v d, P i v → ds[i]? = some d → VR sa (Vw O s₁.heap) v d) ∧ (∀ i h, St' i h → asL x = some ds → ∃ l j, h.IsListIter I l j)) ?_ fun it s₂ q => ?_
  rotate_left
  · obtain ⟨I, fp, P, St', rfl, W, hst, hfp, hIl, st2, hI, hP, hLI⟩ := q
    exact comp_core (RR := fun acc C => compPost (M K) A NoE use Q acc C) LR W hsc.nocell hsc.kind hst hfp hIl st2 hI f1.st.tinv rfl hle gi hgl hg f.tabs (turn s₁ f1 I P St' hLI hI hP) fun Dd C s' ys nD mm stp hD hv hn hDn hCn hCD => by
      have back : ∀ {b}, b ∉ K.tabs → s₁.heap.get? b = none → s.heap.get? b = none := fun {b} hbt e => by
        cases e' : s.heap.get? b with
        | none => rfl
        | some o => rw [st.keep b o hbt e'] at e; cases e
      have hCt := new_tab f1.st.tinv hCn
      refine hfin Dd C s' mm (st.trans stp) hn (VR.ofVRs (n := nD) ⟨?_, hD⟩ (hv.mono fun b o q => ⟨?_, q.2⟩)) (back hCt hCn) (back (new_tab f1.st.tinv hDn) hDn) hCt
      · rw [List.mem_cons, not_or]
        exact ⟨Ne.symm hCD, fun q => by obtain ⟨o, ho⟩ := f1.live _ q; rw [hDn] at ho; cases ho⟩
      · have := q.1
        simp only [List.mem_cons, not_or] at this ⊢
        exact ⟨this.2.2.1, this.2.2.2⟩
  by_cases hL : asL x = some ds
  · refine lift (iter_list (Q := fun it s₂ => ∃ I ax items, it = .ref I ∧ ax ≠ I ∧ I = s₁.heap.objs.size ∧ s₁.heap.IsList ax items ∧ VRs sa (Vw O s₁.heap) items ds ∧ ax ∉ K.tabs ∧ s₂ = { s₁ with heap := s₁.heap.push { cls := .type "list_iterator", data := .fields #[.ref ax, .int 0 0] } })
      r.handled f1.tabs f1.st.tinv rv hL fun I ax items hne hI hil hv hat => ⟨I, ax, items, rfl, hne, hI, hil, hv, hat, rfl⟩) fun it s₂ q => ?_
    obtain ⟨I, ax, items, rfl, hne, hI, hil, hv, hat, rfl⟩ := q
    refine ⟨I, [I, ax], fun i v => items[i]? = some v, fun i h => h.IsListIter I ax i ∧ h.IsList ax items, rfl, hv.1 ▸ Walks.list r.handled I ax hne items, ⟨⟨_, hI ▸ Heap.get?_push_size _ rfl, rfl, rfl⟩, hil.push _⟩, fun b hb => ?_, fun i h q => let ⟨o, ho, _⟩ := q.1; ⟨o, ho⟩, Step.push _, hI ▸ new_none, fun i v d hP hd => hv.2 i v d hP hd, fun i h q _ => ⟨_, _, q.1⟩⟩
    show b < (s₁.heap.push _).objs.size ∧ _
    rw [Heap.size_push]
    simp only [List.mem_cons, List.mem_nil_iff, or_false] at hb
    rcases hb with rfl | rfl
    · rw [hI]
      exact ⟨Nat.lt_succ_self _, new_tab f1.st.tinv new_none⟩
    · exact ⟨Nat.lt_succ_of_lt (let ⟨_, ho, _⟩ := hil; Heap.lt_size ho), hat⟩
  · refine lift (iter_ok r.handled f1.tabs f1.st.tinv rv hds) fun it s₂ q => ?_
    obtain ⟨I, fp, P, St', h1, h2, h3, h4, h5, h6, h7, h8⟩ := q
    exact ⟨I, fp, P, St', h1, h2, h3, h4, h5, h6, h7, h8, fun i h _ q => absurd q hL⟩

/-- the value of a comprehension that is read at once -/
theorem comp_read {Dd C : Addr} {s' : Shared} {mm : Str → Option Value} {l : List D} (stp : Step K s s') (hn : s'.heap.Ns C mm) (hv : VR sa (Vw (C :: O) s'.heap) (.ref Dd) (.lst l)) (hC : s.heap.get? C = none) (hCt : C ∉ K.tabs) :
    compPost (M K) A NoE none (Gv K sa O (.d (.lst l)) s) (.ref Dd) C (.ok .next) s' := by
  refine ⟨mm, hn, fun h' hs' => ⟨?_, ?_⟩⟩
  · exact VR.mono (fun b o q => by
      have h1 := q.1
      rw [List.mem_cons, not_or] at h1
      exact ⟨h1.2, hs'.extBut b o h1.1 q.2⟩) hv
  · exact StepB.after (s'' := { s' with heap := h' }) (B := [C]) stp (StepB.of (tk := s'.toks) (fun b hb => by rw [List.mem_singleton.mp hb]; exact hCt) (fun b o hb e => hs'.extBut b o (by simpa using hb) e) (Nat.le_refl _)) fun b hb => by rw [List.mem_singleton.mp hb]; exact hC

noncomputable def gComp (prim : Nat → List D → Option D) (elt : E) (x : Nat) (ρ : Env) (d : D) : Option (List D) := do return [← asD (← evalE prim elt (setV ρ x (.d d)))]
noncomputable def gCompIf (prim : Nat → List D → Option D) (elt cond : E) (x : Nat) (ρ : Env) (d : D) : Option (List D) := do
  if ← truth (← evalE prim cond (setV ρ x (.d d))) then do return [← asD (← evalE prim elt (setV ρ x (.d d)))] else return []
noncomputable def gCompT (prim : Nat → List D → Option D) (elt : E) (x y : Nat) (ρ : Env) : D → Option (List D)
  | .tup a b => do return [← asD (← evalE prim elt (setV (setV ρ x (.d a)) y (.d b)))]
  | _ => none
theorem gComp_le {elt : E} {x : Nat} : ∀ d o, gComp prim elt x ρ d = some o → o.length ≤ 1 := fun d o h => by
  unfold gComp at h
  obtain ⟨z, hz, h⟩ := ob h
  obtain ⟨w, hw, h⟩ := ob h
  cases opure h
  exact Nat.le_refl _
theorem gCompIf_le {elt cond : E} {x : Nat} : ∀ d o, gCompIf prim elt cond x ρ d = some o → o.length ≤ 1 := fun d o h => by
  unfold gCompIf at h
  obtain ⟨z, hz, h⟩ := ob h
  obtain ⟨b, hb, h⟩ := ob h
  cases b with
  | true =>
    simp only [if_true] at h
    obtain ⟨z, hz, h⟩ := ob h
    obtain ⟨w, hw, h⟩ := ob h
    cases opure h
    exact Nat.le_refl _
  | false =>
    simp only [Bool.false_eq_true, if_false] at h
    cases opure h
    exact Nat.zero_le _
theorem gCompT_le {elt : E} {x y : Nat} : ∀ d o, gCompT prim elt x y ρ d = some o → o.length ≤ 1 := fun d o h => by
  unfold gCompT at h
  split at h
  · obtain ⟨z, hz, h⟩ := ob h
    obtain ⟨w, hw, h⟩ := ob h
    cases opure h
    exact Nat.le_refl _
  · cases h

theorem comp_some {elt : E} {x : Nat} {src : E} {z : X} (h : evalE prim (.comp elt x src) ρ = some z) : ∃ y ds outs, evalE prim src ρ = some y ∧ asIt y = some ds ∧ ds.length ≤ 4096 ∧ ds.mapM (gComp prim elt x ρ) = some outs ∧ z = .d (.lst outs.flatten) := by
  simp only [evalE] at h
  obtain ⟨y, hy, h1⟩ := ob h
  obtain ⟨ds, hds, h2⟩ := ob h1
  split at h2
  · cases h2
  obtain ⟨outs, ho, h3⟩ := ob h2
  exact ⟨y, ds, outs, hy, hds, by omega, ho, (okL_some h3).1⟩
theorem compIf_some {elt cond : E} {x : Nat} {src : E} {z : X} (h : evalE prim (.compIf elt x src cond) ρ = some z) : ∃ y ds outs, evalE prim src ρ = some y ∧ asIt y = some ds ∧ ds.length ≤ 4096 ∧ ds.mapM (gCompIf prim elt cond x ρ) = some outs ∧ z = .d (.lst outs.flatten) := by
  simp only [evalE] at h
  obtain ⟨y, hy, h1⟩ := ob h
  obtain ⟨ds, hds, h2⟩ := ob h1
  split at h2
  · cases h2
  obtain ⟨outs, ho, h3⟩ := ob h2
  exact ⟨y, ds, outs, hy, hds, by omega, ho, (okL_some h3).1⟩
theorem compT_some {elt : E} {x y : Nat} {src : E} {z : X} (h : evalE prim (.compT elt x y src) ρ = some z) : ∃ w ds outs, evalE prim src ρ = some w ∧ asL w = some ds ∧ ds.length ≤ 4096 ∧ ds.mapM (gCompT prim elt x y ρ) = some outs ∧ z = .d (.lst outs.flatten) := by
  simp only [evalE] at h
  obtain ⟨w, hy, h1⟩ := ob h
  obtain ⟨ds, hds, h2⟩ := ob h1
  split at h2
  · cases h2
  obtain ⟨outs, ho, h3⟩ := ob h2
  exact ⟨w, ds, outs, hy, hds, by omega, ho, (okL_some h3).1⟩

theorem body_comp {elt : E} {t : Expr} {x : Nat} {sc : Scope} (r : Rm A m) (hb : ∀ P ∈ K.tabs, K.base.get? P = none) (h2 : EvOk K m prim (c.inner sc [x]) elt t) : ∀ d o env' O' ρ' s, gComp prim elt x ρ d = some o → ρ' = setV ρ x (.d d) → Fm K sa (c.inner sc [x]) env' O' ρ' s →
      wpAny (M K) A (forIn [] true fun c r => if r = true then do let ok ← isTrue c env' (eval c env'); pure (ForInStep.yield ok) else pure (ForInStep.yield r)) (fun ok s₃ =>
        if ok = true then wpAny (M K) A (eval t env') (fun y s' => (∃ d, o = [d] ∧ VR sa (Vw O' s'.heap) y d) ∧ Step K s s') NoE s₃ else o = [] ∧ Step K s s₃) NoE s := fun d o env' O' ρ' s ho hρ f => by
  subst hρ
  unfold gComp at ho
  obtain ⟨z, hz, ho⟩ := ob ho
  obtain ⟨w, hw, ho⟩ := ob ho
  cases opure ho
  cases asD_some hw
  refine wpAny_tests_nil ?_
  simp only [if_true]
  exact h2.go r f hb hz fun v s1 rv st f1 => ⟨⟨w, rfl, rv⟩, st⟩
theorem body_compIf {elt cond : E} {t w : Expr} {x : Nat} {sc : Scope} (r : Rm A m) (hb : ∀ P ∈ K.tabs, K.base.get? P = none) (h2 : EvOk K m prim (c.inner sc [x]) elt t) (h3 : TsOk K m prim (c.inner sc [x]) cond w) : ∀ d o env' O' ρ' s, gCompIf prim elt cond x ρ d = some o → ρ' = setV ρ x (.d d) → Fm K sa (c.inner sc [x]) env' O' ρ' s →
      wpAny (M K) A (forIn [w] true fun c r => if r = true then do let ok ← isTrue c env' (eval c env'); pure (ForInStep.yield ok) else pure (ForInStep.yield r)) (fun ok s₃ =>
        if ok = true then wpAny (M K) A (eval t env') (fun y s' => (∃ d, o = [d] ∧ VR sa (Vw O' s'.heap) y d) ∧ Step K s s') NoE s₃ else o = [] ∧ Step K s s₃) NoE s := fun d o env' O' ρ' s ho hρ f => by
  subst hρ
  unfold gCompIf at ho
  obtain ⟨z, hz, ho⟩ := ob ho
  obtain ⟨b, hbt, ho⟩ := ob ho
  refine wpAny_tests_one (h3.go r f hb hz hbt fun s1 st f1 => ?_)
  cases b with
  | true =>
    simp only [if_true] at ho ⊢
    obtain ⟨z, hz, ho⟩ := ob ho
    obtain ⟨w, hw, ho⟩ := ob ho
    cases opure ho
    cases asD_some hw
    exact h2.go r f1 hb hz fun v s2 rv st2 f2 => ⟨⟨w, rfl, rv⟩, st.trans st2⟩
  | false =>
    simp only [Bool.false_eq_true, if_false] at ho ⊢
    cases opure ho
    exact ⟨rfl, st⟩

theorem ev_comp {elt x src t u n sc px p} (hb : ∀ P ∈ K.tabs, K.base.get? P = none) (hsc : ScOk c sc = true) (hnx : c.nm[x]? = some n) (hl : sc.names.lookup n = some .local) (h1 : EvOk K m prim c src u) (pu : Plain u) (h2 : EvOk K m prim (c.inner sc [x]) elt t) :
    EvOk K m prim c (.comp elt x src) (.ListComp t [⟨.Name n px, u, [], 0⟩] sc p) := fun sa A env O ρ s z r f h => by
  obtain ⟨y, ds, outs, hy, hds, hle, hg, rfl⟩ := comp_some h
  rw [eval_ListComp]
  exact comp_run (use := none) rule_name r hb f (ScOk.of hsc) h1 pu hy hds hle gComp_le hg (fun s₁ f1 I P St' _ hI hP => turn_name r hb f1 (ScOk.of hsc) hnx hl hI hP (body_comp r hb h2)) fun Dd C s' mm stp hn hv hC hD hCt => comp_read stp hn hv hC hCt
theorem ev_compIf {elt x src cond t u w n sc px p} (hb : ∀ P ∈ K.tabs, K.base.get? P = none) (hsc : ScOk c sc = true) (hnx : c.nm[x]? = some n) (hl : sc.names.lookup n = some .local) (h1 : EvOk K m prim c src u) (pu : Plain u) (h3 : TsOk K m prim (c.inner sc [x]) cond w) (h2 : EvOk K m prim (c.inner sc [x]) elt t) :
    EvOk K m prim c (.compIf elt x src cond) (.ListComp t [⟨.Name n px, u, [w], 0⟩] sc p) := fun sa A env O ρ s z r f h => by
  obtain ⟨y, ds, outs, hy, hds, hle, hg, rfl⟩ := compIf_some h
  rw [eval_ListComp]
  exact comp_run (use := none) rule_name r hb f (ScOk.of hsc) h1 pu hy hds hle gCompIf_le hg (fun s₁ f1 I P St' _ hI hP => turn_name r hb f1 (ScOk.of hsc) hnx hl hI hP (body_compIf r hb h2 h3)) fun Dd C s' mm stp hn hv hC hD hCt => comp_read stp hn hv hC hCt

theorem turn_pair {t : Expr} {n₁ n₂ : Str} {px py tp : Pos} {tk : Nat} {sc : Scope} {x y : Nat} {I : Addr} {ds : List D} {elt : E} {P : Nat → Value → Prop} {St' : Nat → Heap → Prop}
    (r : Rm A m) (hb : ∀ P ∈ K.tabs, K.base.get? P = none) (f : Fm K sa c env O ρ s) (hsc : ScP c sc) (hnx : c.nm[x]? = some n₁) (hny : c.nm[y]? = some n₂) (hne : n₁ ≠ n₂) (hl : sc.names.lookup n₁ = some .local) (hl2 : sc.names.lookup n₂ = some .local) (hI : s.heap.get? I = none)
    (hLI : ∀ i h, St' i h → ∃ l j, h.IsListIter I l j) (hP : ∀ i v d, P i v → ds[i]? = some d → VR sa (Vw O s.heap) v d) (h2 : EvOk K m prim (c.inner sc [x, y]) elt t) :
    TurnOk K sa A O env t (.Tuple [.Name n₁ px, .Name n₂ py] tk tp) [] sc (closeL env.cells sc.names []) I ds (gCompT prim elt x y ρ) P St' s := by
  intro C Dd i v d o s' mm hC hD hD2 hI2 hPv hd ho stp hn hst
  have hCt := new_tab f.st.tinv hC
  have hIt := new_tab f.st.tinv hI
  have hDt := new_tab f.st.tinv hD
  have hv0 := hP i v d hPv hd
  cases d with
  | tup a b =>
    unfold gCompT at ho
    obtain ⟨z, hz, ho⟩ := ob ho
    obtain ⟨w, hw, ho⟩ := ob ho
    cases opure ho
    cases asD_some hw
    obtain ⟨T, u1, u2, nt, rfl, hT, r1, r2⟩ := VR.pair hv0
    obtain ⟨l, j, hit⟩ := hLI _ _ hst
    refine wpAny_letOwnedTupleGo_listiter hit ?_
    have hT' : s'.heap.get? T = some (tupO u1 u2 nt) := stp.keep T _ (fun q => hT.1 (f.tabs T q)) hT.2
    refine assign_Tuple_tuple r.handled ⟨_, hT', rfl, nt, rfl⟩ rfl rfl fun h5 he => ?_
    have he' : ∀ b o, s'.heap.get? b = some o → h5.get? b = some o := fun b o e => he b o (Nat.ne_of_lt (Heap.lt_size e)) e
    refine assignInOrder_cons (assign_one (s := { s' with heap := h5 }) hsc.kind hl hCt (hn.keeps he') fun s₁ y1 hn1 => ?_)
    refine assignInOrder_cons (assign_one hsc.kind hl2 hCt hn1 fun s₂ y2 hn2 => assignInOrder_nil ?_)
    have y0 : StepB K [C] s' { s' with heap := h5 } := (Step.of (tk := s'.toks) he' (Nat.le_refl _)).toB
    have yy : StepB K [C] s' s₂ := (y0.trans y1).trans y2
    have hCf : ∀ b ∈ [C], s.heap.get? b = none := fun b hb => by rw [List.mem_singleton.mp hb]; exact hC
    have live2 : ∀ {b}, (∃ x, s'.heap.get? b = some x) → b ∉ K.tabs → ∃ x, s₂.heap.get? b = some x := fun {b} h ht => by
      by_cases hbC : b = C
      · subst hbC; obtain ⟨o, _, _, ho, _⟩ := hn2; exact ⟨o, ho⟩
      · obtain ⟨x, hx⟩ := h; exact ⟨x, yy.keep b x ht (by simpa using hbC) hx⟩
    have stp2 : Step K s s₂ := StepB.after stp yy hCf
    have up : ∀ b x, Vw O s.heap b x → Vw (I :: Dd :: C :: O) s₂.heap b x := fun b x hv => ⟨by
      simp only [List.mem_cons, not_or]
      refine ⟨?_, ?_, ?_, hv.1⟩ <;> (rintro rfl; have := hv.2; simp_all), stp2.keep b x (fun q => hv.1 (f.tabs b q)) hv.2⟩
    have f2 := inner_fm (xs := [x, y]) (ρ' := setV (setV ρ x (.d a)) y (.d b)) hb f hsc stp2 hC hD hI (live2 hD2 hDt) (live2 hI2 hIt) hn2
      (fun k hk X hX => by
        by_cases hky : k = y
        · subst hky
          rw [getV_setV hX]
          exact ⟨n₂, u2, hny, hl2, by simp, r2.mono up⟩
        · rw [getV_ne hky] at hX
          have hkx : k = x := by simpa [hky] using hk
          subst hkx
          rw [getV_setV hX]
          exact ⟨n₁, u1, hnx, hl, by simp [hne], r1.mono up⟩)
      (fun k hk => by
        simp only [List.mem_cons, List.mem_nil_iff, or_false, not_or] at hk
        rw [getV_ne hk.2, getV_ne hk.1])
    refine wpAny_tests_nil ?_
    simp only [if_true]
    exact h2.go r f2 hb hz fun v s3 rv st f3 => ⟨⟨w, rfl, rv⟩, yy.trans st.toB, _, hn2.at' fun o e => st.keep C o hCt e⟩
  | _ => cases ho

theorem ev_compT {elt x y src t u n₁ n₂ sc px py tk tp p} (hb : ∀ P ∈ K.tabs, K.base.get? P = none) (hsc : ScOk c sc = true) (hnx : c.nm[x]? = some n₁) (hny : c.nm[y]? = some n₂) (hne : n₁ ≠ n₂) (hl : sc.names.lookup n₁ = some .local) (hl2 : sc.names.lookup n₂ = some .local)
    (h1 : EvOk K m prim c src u) (pu : Plain u) (h2 : EvOk K m prim (c.inner sc [x, y]) elt t) :
    EvOk K m prim c (.compT elt x y src) (.ListComp t [⟨.Tuple [.Name n₁ px, .Name n₂ py] tk tp, u, [], 0⟩] sc p) := fun sa A env O ρ s z r f h => by
  obtain ⟨w, ds, outs, hy, hds, hle, hg, rfl⟩ := compT_some h
  have hit : asIt w = some ds := by
    cases w with
    | d d => cases d <;> simp [asL] at hds; subst hds; rfl
    | own l => simpa [asL, asIt] using hds
    | bnd _ => simp [asL] at hds
  rw [eval_ListComp]
  exact comp_run (use := none) rule_pair r hb f (ScOk.of hsc) h1 pu hy hit hle gCompT_le hg (fun s₁ f1 I P St' hLI hI hP => turn_pair r hb f1 (ScOk.of hsc) hnx hny hne hl hl2 hI (fun i h q => hLI i h q hds) hP h2) fun Dd C s' mm stp hn hv hC hD hCt => comp_read stp hn hv hC hCt
end
end Mini
end

section
open PySem PySem.Spec PySem.Calls PyProof.Rows PySem.W PySem.Builtin PySem.Builtin.Str PySem.StrLaws
set_option maxRecDepth 100000
namespace Mini
section
variable {K : Wd} {G : Gl K} {m : Nat} {prim : Nat → List D → Option D}

/-- the items of a written list, where it is one -/
noncomputable def LsIf (K : Wd) (m : Nat) (prim : Nat → List D → Option D) (c : Cx) (e : E) : Expr → Prop
  | .List ts _ => LsOk K m prim c e ts
  | _ => True

theorem lnil_len {ρ : Env} {x : X} (h : evalE prim .lnil ρ = some x) : ∃ l, x = .d (.lst l) ∧ l.length ≤ 4096 := by
  simp only [evalE] at h
  cases h
  exact ⟨[], rfl, Nat.zero_le _⟩
theorem lcons_len {a r : E} {ρ : Env} {x : X} (h : evalE prim (.lcons a r) ρ = some x) : ∃ l, x = .d (.lst l) ∧ l.length ≤ 4096 := by
  simp only [evalE] at h
  obtain ⟨x', hx', h⟩ := ob h
  obtain ⟨x1, hx, h⟩ := ob h
  obtain ⟨y', hy', h⟩ := ob h
  obtain ⟨l', hl', h⟩ := ob h
  obtain ⟨rfl, hle⟩ := okL_some h
  exact ⟨_, rfl, hle⟩

theorem tie_all (hP : PrimOk K G m prim) {c : Cx} {e : E} {t : Expr} (h : Tie K m prim c e t) : EvOk K m prim c e t ∧ TsOk K m prim c e t ∧ LsIf K m prim c e t := by
  have hb := G.base
  induction h with
  | none => exact ⟨ev_none, plain_ts hb ev_none fun _ => rfl, trivial⟩
  | bool => exact ⟨ev_bool, plain_ts hb ev_bool fun _ => rfl, trivial⟩
  | int => exact ⟨ev_int, plain_ts hb ev_int fun _ => rfl, trivial⟩
  | str h => exact ⟨ev_str h, plain_ts hb (ev_str h) fun _ => rfl, trivial⟩
  | v h1 h2 h3 => exact ⟨ev_v h1 h2 h3, plain_ts hb (ev_v h1 h2 h3) fun _ => rfl, trivial⟩
  | @neg _ i j _ _ _ h =>
    subst h
    refine ⟨ev_neg, ?_, trivial⟩
    intro sa A env O ρ s x b r f hx ht
    simp only [evalE] at hx
    obtain ⟨rfl, _⟩ := okI_some hx
    cases ht
  | not t1 ih => exact ⟨ev_not hb ih.1, ts_not hb ih.2.1, trivial⟩
  | and _ _ i1 i2 => exact ⟨ev_and hb i1.1 i2.1, ts_and hb i1.2.1 i2.2.1, trivial⟩
  | or _ _ i1 i2 => exact ⟨ev_or hb i1.1 i2.1, ts_or hb i1.2.1 i2.2.1, trivial⟩
  | cmp ho t1 t2 i1 i2 => subst ho; exact ⟨ev_cmp hb i1.1 i2.1 t2.plain, ts_cmp hb i1.1 i2.1 t2.plain, trivial⟩
  | cmp2 ho ho' t1 t2 t3 i1 i2 i3 => subst ho ho'; exact ⟨ev_cmp2 hb i1.1 i2.1 i3.1 t3.plain, ts_cmp2 hb i1.1 i2.1 i3.1 t3.plain, trivial⟩
  | add _ _ i1 i2 => exact ⟨ev_add hb i1.1 i2.1, plain_ts hb (ev_add hb i1.1 i2.1) fun _ => rfl, trivial⟩
  | sub _ _ i1 i2 => exact ⟨ev_sub hb i1.1 i2.1, plain_ts hb (ev_sub hb i1.1 i2.1) fun _ => rfl, trivial⟩
  | mod _ _ i1 i2 => exact ⟨ev_mod hb i1.1 i2.1, plain_ts hb (ev_mod hb i1.1 i2.1) fun _ => rfl, trivial⟩
  | ite _ _ _ i0 i1 i2 => exact ⟨ev_ite hb i0.2.1 i1.1 i2.1, ts_ite hb i0.2.1 i1.2.1 i2.2.1, trivial⟩
  | idx t1 t2 i1 i2 => exact ⟨ev_idx hb i1.1 i2.1 t2.plain, plain_ts hb (ev_idx hb i1.1 i2.1 t2.plain) fun _ => rfl, trivial⟩
  | slcAB _ _ _ i1 i2 i3 => exact ⟨ev_slcAB hb i1.1 i2.1 i3.1, plain_ts hb (ev_slcAB hb i1.1 i2.1 i3.1) fun _ => rfl, trivial⟩
  | slcA _ _ i1 i2 => exact ⟨ev_slcA hb i1.1 i2.1, plain_ts hb (ev_slcA hb i1.1 i2.1) fun _ => rfl, trivial⟩
  | slcB _ _ i1 i2 => exact ⟨ev_slcB hb i1.1 i2.1, plain_ts hb (ev_slcB hb i1.1 i2.1) fun _ => rfl, trivial⟩
  | tup t1 t2 i1 i2 => exact ⟨ev_tup hb i1.1 i2.1 t1.plain t2.plain, plain_ts hb (ev_tup hb i1.1 i2.1 t1.plain t2.plain) fun _ => rfl, trivial⟩
  | lnil =>
    exact ⟨ev_list hb ls_nil fun _ _ h => lnil_len h, plain_ts hb (ev_list hb ls_nil fun _ _ h => lnil_len h) fun _ => rfl, ls_nil⟩
  | lcons t1 t2 i1 i2 =>
    have ls := ls_cons hb i1.1 i2.2.2 t1.plain
    exact ⟨ev_list hb ls fun _ _ h => lcons_len h, plain_ts hb (ev_list hb ls fun _ _ h => lcons_len h) fun _ => rfl, ls⟩
  | len hl t1 i1 => exact ⟨ev_len G hl i1.1 t1.plain, plain_ts hb (ev_len G hl i1.1 t1.plain) fun _ => rfl, trivial⟩
  | any hl t1 i1 => exact ⟨ev_any G hl i1.1 t1.plain, plain_ts hb (ev_any G hl i1.1 t1.plain) fun _ => rfl, trivial⟩
  | lrange hl hr t1 t2 i1 i2 => exact ⟨ev_lrange G hl hr i1.1 i2.1 t1.plain t2.plain, plain_ts hb (ev_lrange G hl hr i1.1 i2.1 t1.plain t2.plain) fun _ => rfl, trivial⟩
  | strip hq t1 i1 => exact ⟨ev_strip hq hb i1.1 t1.plain, plain_ts hb (ev_strip hq hb i1.1 t1.plain) fun _ => rfl, trivial⟩
  | repl hq ex ey t1 i1 => exact ⟨ev_repl hq ex ey hb i1.1 t1.plain, plain_ts hb (ev_repl hq ex ey hb i1.1 t1.plain) fun _ => rfl, trivial⟩
  | find hq ex t1 t2 t3 i1 i2 i3 => exact ⟨ev_find hq ex hb i1.1 i2.1 i3.1 t1.plain t2.plain t3.plain, plain_ts hb (ev_find hq ex hb i1.1 i2.1 i3.1 t1.plain t2.plain t3.plain) fun _ => rfl, trivial⟩
  | join hq ex t1 i1 => exact ⟨ev_join hq ex hb i1.1 t1.plain, plain_ts hb (ev_join hq ex hb i1.1 t1.plain) fun _ => rfl, trivial⟩
  | call1 hn hd hl t1 i1 => exact ⟨ev_call1 hP hn hd hl i1.1 t1.plain, plain_ts hb (ev_call1 hP hn hd hl i1.1 t1.plain) fun _ => rfl, trivial⟩
  | call2 hn hd hl t1 t2 i1 i2 => exact ⟨ev_call2 hP hn hd hl i1.1 i2.1 t1.plain t2.plain, plain_ts hb (ev_call2 hP hn hd hl i1.1 i2.1 t1.plain t2.plain) fun _ => rfl, trivial⟩
  | call3 hn hd hl t1 t2 t3 i1 i2 i3 => exact ⟨ev_call3 hP hn hd hl i1.1 i2.1 i3.1 t1.plain t2.plain t3.plain, plain_ts hb (ev_call3 hP hn hd hl i1.1 i2.1 i3.1 t1.plain t2.plain t3.plain) fun _ => rfl, trivial⟩
  | fstr ex ey t1 i1 => exact ⟨ev_fstr ex ey hb i1.1, plain_ts hb (ev_fstr ex ey hb i1.1) fun _ => rfl, trivial⟩
  | comp hsc hnx hl t1 t2 i1 i2 => exact ⟨ev_comp hb hsc hnx hl i1.1 t1.plain i2.1, plain_ts hb (ev_comp hb hsc hnx hl i1.1 t1.plain i2.1) fun _ => rfl, trivial⟩
  | compIf hsc hnx hl t1 t2 t3 i1 i2 i3 => exact ⟨ev_compIf hb hsc hnx hl i1.1 t1.plain i2.2.1 i3.1, plain_ts hb (ev_compIf hb hsc hnx hl i1.1 t1.plain i2.2.1 i3.1) fun _ => rfl, trivial⟩
  | compT hsc hnx hny hne hl hl2 t1 t2 i1 i2 => exact ⟨ev_compT hb hsc hnx hny hne hl hl2 i1.1 t1.plain i2.1, plain_ts hb (ev_compT hb hsc hnx hny hne hl hl2 i1.1 t1.plain i2.1) fun _ => rfl, trivial⟩
  | lhead hj t1 i1 => subst hj; exact ⟨ev_lhead hb i1.1, plain_ts hb (ev_lhead hb i1.1) fun _ => rfl, trivial⟩
  | isStr hi hs t1 i1 => exact ⟨ev_isStr G hi hs i1.1 t1.plain, plain_ts hb (ev_isStr G hi hs i1.1 t1.plain) fun _ => rfl, trivial⟩
  | mapT hq hm t1 i1 => exact ⟨ev_mapT G hq hm i1.1 t1.plain, plain_ts hb (ev_mapT G hq hm i1.1 t1.plain) fun _ => rfl, trivial⟩
  | raw h => exact ⟨h, plain_ts hb h fun _ => rfl, trivial⟩
end
end Mini
end

section
open PySem PySem.Spec PySem.Calls PyProof.Rows PySem.W PySem.Builtin PySem.Builtin.Str PySem.StrLaws
set_option maxRecDepth 100000
namespace Mini

noncomputable abbrev bndO (a : Addr) : Obj := { cls := .type "builtin_function_or_method", data := .fields #[.builtin "list.append", .ref a] }

theorem Ns_fun {h : Heap} {a : Addr} {m m' : Str → Option Value} (x : h.Ns a m) (y : h.Ns a m') : m = m' := by
  obtain ⟨o, es, ep, ho, hd, hk, hm⟩ := x
  obtain ⟨o', es', ep', ho', hd', hk', hm'⟩ := y
  rw [ho] at ho'; cases ho'
  rw [hd] at hd'; cases hd'
  funext n
  exact (hm n).symm.trans (hm' n)
theorem Ns_not_cell {h : Heap} {a : Addr} {m : Str → Option Value} {v : Option Value} (x : h.Ns a m) (y : h.IsCell a v) : False := by
  obtain ⟨o, es, ep, ho, hd, _⟩ := x
  obtain ⟨o', ho', hd'⟩ := y
  rw [ho] at ho'; cases ho'
  rw [hd] at hd'; cases hd'
theorem Ns_not_list {h : Heap} {a : Addr} {m : Str → Option Value} {vs : Array Value} {n : Nat} (x : h.Ns a m) (y : h.get? a = some (lstO vs n)) : False := by
  obtain ⟨o, es, ep, ho, hd, _⟩ := x
  rw [ho] at y; cases y
  cases hd
theorem cell_not_list {h : Heap} {a : Addr} {v : Option Value} {vs : Array Value} {n : Nat} (x : h.IsCell a v) (y : h.get? a = some (lstO vs n)) : False := by
  obtain ⟨o, ho, hd⟩ := x
  rw [ho] at y; cases y
  cases hd

/-- what stands fixed in one call -/
structure Ct (K : Wd) (c : Cx) (env : PySem.Env) (s₀ : Shared) (O₀ : List Addr) : Prop where
  base : ∀ P ∈ K.tabs, K.base.get? P = none
  st0 : St K s₀
  sc : env.scope = c.sc
  fn : c.sc.kind = .function
  glob : env.globals = mainGlobals
  bi : env.builtins = builtinsNs
  code : env.code = c.code
  tabs : ∀ a ∈ K.tabs, a ∈ O₀
  cells : ∀ n, c.sc.names.lookup n = some .cell → ∃ a, env.cells.lookup n = some a
  apart : ∀ n n' a, env.cells.lookup n = some a → env.cells.lookup n' = some a → n = n'
  inj : ∀ x ∈ c.vis, ∀ y ∈ c.vis, c.nm[x]? = c.nm[y]? → x = y
  kinds : ∀ x ∈ c.vis, ∃ n, c.nm[x]? = some n ∧ plainName n = true ∧ (c.sc.names.lookup n = some .local ∨ c.sc.names.lookup n = some .cell)
  Lnew : s₀.heap.get? env.locals = none
  cnew : ∀ n a, env.cells.lookup n = some a → s₀.heap.get? a = none
  LO0 : env.locals ∉ O₀
  cO0 : ∀ n a, env.cells.lookup n = some a → a ∉ O₀

/-- values stay values, and what is kept apart stays -/
structure Ext (K : Wd) (O₀ O : List Addr) (s : Shared) (O' : List Addr) (s' : Shared) : Prop where
  vw : ∀ b o, Vw O s.heap b o → Vw O' s'.heap b o
  old : ∀ b ∈ O₀, b ∉ K.tabs → ∀ o, s.heap.get? b = some o → s'.heap.get? b = some o
theorem Ext.trans {K : Wd} {O₀ O O' O'' : List Addr} {s s' s'' : Shared} (a : Ext K O₀ O s O' s') (b : Ext K O₀ O' s' O'' s'') : Ext K O₀ O s O'' s'' :=
  ⟨fun x o h => b.vw x o (a.vw x o h), fun x hx ht o e => b.old x hx ht o (a.old x hx ht o e)⟩
theorem Ext.of {K : Wd} {O₀ O : List Addr} {s s' : Shared} (hO : ∀ a ∈ K.tabs, a ∈ O) (y : Step K s s') : Ext K O₀ O s O s' := ⟨fun _ _ h => Vw.step hO y h, fun b _ ht o e => y.keep b o ht e⟩
theorem Ext.less {K : Wd} {O₀ O₁ O O' : List Addr} {s s' : Shared} (a : Ext K O₁ O s O' s') (h : ∀ b ∈ O₀, b ∈ O₁) : Ext K O₀ O s O' s' := ⟨a.vw, fun b hb => a.old b (h b hb)⟩

structure Sm (K : Wd) (sa : Addr) (c : Cx) (env : PySem.Env) (s₀ : Shared) (O₀ O : List Addr) (V : Nat → Value) (ρ : Env) (s : Shared) : Prop where
  step : Step K s₀ s
  sub : ∀ a ∈ O₀, a ∈ O
  live : ∀ a ∈ O, ∃ o, s.heap.get? a = some o
  LO : env.locals ∈ O
  nsL : ∃ m, s.heap.Ns env.locals m
  cell : ∀ n a, env.cells.lookup n = some a → (∃ v, s.heap.IsCell a v) ∧ a ∈ O
  vars : ∀ x ∈ c.vis, ∀ X, getV ρ x = some X → ∃ n, c.nm[x]? = some n ∧ Loads env K.tabs n (V x) s.heap ∧ RX sa K.tabs O s.heap (V x) X
  own : ∀ x ∈ c.vis, ∀ l, getV ρ x = some (.own l) → ∀ a, V x = .ref a → s₀.heap.get? a = none ∧ a ∉ O₀
  ownne : ∀ x ∈ c.vis, ∀ y ∈ c.vis, x ≠ y → ∀ l l', getV ρ x = some (.own l) → getV ρ y = some (.own l') → V x ≠ V y
  bnd : ∀ y ∈ c.vis, ∀ x, getV ρ y = some (.bnd x) → (∃ l, getV ρ x = some (.own l)) → x ∈ c.vis ∧ ∃ b a, V y = .ref b ∧ V x = .ref a ∧ b ∉ O ∧ s.heap.get? b = some (bndO a)

section
variable {K : Wd} {sa : Addr} {c : Cx} {env : PySem.Env} {s₀ s s' : Shared} {O₀ O : List Addr} {V : Nat → Value} {ρ : Env} {A : Around}

theorem Ct.Ltab (C : Ct K c env s₀ O₀) : env.locals ∉ K.tabs := new_tab C.st0.tinv C.Lnew
theorem Ct.ctab (C : Ct K c env s₀ O₀) {n : Str} {a : Addr} (h : env.cells.lookup n = some a) : a ∉ K.tabs := new_tab C.st0.tinv (C.cnew n a h)
theorem Sm.fm (C : Ct K c env s₀ O₀) (S : Sm K sa c env s₀ O₀ O V ρ s) : Fm K sa c env O ρ s :=
  ⟨C.st0.step C.base S.step, C.sc, C.fn, C.glob, C.bi, C.code, fun a ha => S.sub a (C.tabs a ha), S.live, C.cells, fun x hx X hX => let ⟨n, h1, h2, h3⟩ := S.vars x hx X hX; ⟨n, V x, h1, h2, h3⟩⟩
theorem Sm.next (C : Ct K c env s₀ O₀) (S : Sm K sa c env s₀ O₀ O V ρ s) (y : Step K s s') : Sm K sa c env s₀ O₀ O V ρ s' :=
  have f := (S.fm C).step C.base y
  have tO : ∀ a ∈ K.tabs, a ∈ O := fun a ha => S.sub a (C.tabs a ha)
  ⟨S.step.trans y, S.sub, f.live, S.LO, let ⟨m, hm⟩ := S.nsL; ⟨m, hm.at' fun o e => y.keep _ o C.Ltab e⟩,
    fun n a h => let ⟨⟨v, o, ho, hd⟩, h2⟩ := S.cell n a h; ⟨⟨v, o, y.keep a o (C.ctab h) ho, hd⟩, h2⟩,
    fun x hx X hX => let ⟨n, h1, h2, h3⟩ := S.vars x hx X hX; ⟨n, h1, h2.step y, h3.step tO y⟩,
    S.own, S.ownne, fun z hz x hX hl => let ⟨h1, b, a, h2, h3, h4, h5⟩ := S.bnd z hz x hX hl; ⟨h1, b, a, h2, h3, h4, y.keep b _ (fun q => h4 (tO b q)) h5⟩⟩

theorem RX.write {T : List Addr} {h h' : Heap} {v : Value} {X : X} {a : Addr} (ha : a ∈ O) (hk : ∀ b o, b ≠ a → b ∉ T → h.get? b = some o → h'.get? b = some o) (hT : ∀ b ∈ T, b ∈ O) (hne : (∃ l, X = .own l) → v ≠ .ref a) (r : RX sa T O h v X) : RX sa T O h' v X := by
  have vw : ∀ b o, Vw O h b o → Vw O h' b o := fun b o q => ⟨q.1, hk b o (fun e => q.1 (e ▸ ha)) (fun e => q.1 (hT b e)) q.2⟩
  cases X with
  | d d => exact VR.mono vw r
  | own l =>
    obtain ⟨b, vs, n, rfl, hb, hs, hm, hn⟩ := r
    exact ⟨b, vs, n, rfl, hk b _ (fun e => hne ⟨l, rfl⟩ (by rw [e])) hn hb, hs.mono vw, hm, hn⟩
  | bnd _ => trivial

/-- a write into one private object: what stays -/
theorem Sm.live_write {a : Addr} (C : Ct K c env s₀ O₀) (S : Sm K sa c env s₀ O₀ O V ρ s) (y : StepB K [a] s s') (hf : s₀.heap.get? a = none) (hl : ∃ o, s'.heap.get? a = some o) : Step K s₀ s' ∧ ∀ b ∈ O, ∃ o, s'.heap.get? b = some o := by
  have st := StepB.after S.step y fun b hb => by rw [List.mem_singleton.mp hb]; exact hf
  refine ⟨st, fun b hb => ?_⟩
  by_cases ht : b ∈ K.tabs
  · exact K.live _ (C.st0.step C.base st).tinv b ht
  · by_cases hba : b = a
    · rw [hba]; exact hl
    · obtain ⟨o, ho⟩ := S.live b hb
      exact ⟨o, y.keep b o ht (by simpa using hba) ho⟩

theorem and_h {α β : Type} {P R : α → β → Prop} {Q : β → Prop} (h : ∀ a b, P a b → R a b → Q b) {a : α} {b : β} (x : P a b ∧ R a b) : Q b := h a b x.1 x.2

theorem Sm.store (C : Ct K c env s₀ O₀) (S : Sm K sa c env s₀ O₀ O V ρ s) {x : Nat} {n : Str} {v : Value} {X : X} (hx : x ∈ c.vis) (hn : c.nm[x]? = some n)
    (hv : ∀ s' : Shared, (∀ b o, b ∉ O → b ∉ K.tabs → s.heap.get? b = some o → s'.heap.get? b = some o) → (∀ b vs n, b ∉ K.tabs → s.heap.get? b = some (lstO vs n) → s'.heap.get? b = some (lstO vs n)) → RX sa K.tabs O s'.heap v X)
    (ho : ∀ l, X = .own l → (∀ a, v = .ref a → s₀.heap.get? a = none ∧ a ∉ O₀) ∧ (∀ y ∈ c.vis, y ≠ x → ∀ l', getV ρ y = some (.own l') → V y ≠ v) ∧ ∀ y ∈ c.vis, y ≠ x → getV ρ y ≠ some (.bnd x))
    (hbd : ∀ z, X = .bnd z → (∃ l, getV ρ z = some (.own l)) → z ∈ c.vis ∧ z ≠ x ∧ ∃ b a, v = .ref b ∧ V z = .ref a ∧ b ∉ O ∧ s.heap.get? b = some (bndO a))
    {Q : Unit → Shared → Prop} {E : Value → Shared → Prop} (h : ∀ V' s', Sm K sa c env s₀ O₀ O V' (setV ρ x X) s' → Ext K O₀ O s O s' → Q () s') :
    wpAny (M K) A (storeName env n v) Q E s := by
  have hfn : env.scope.kind = .function := by rw [C.sc]; exact C.fn
  have tO : ∀ a ∈ K.tabs, a ∈ O := fun a ha => S.sub a (C.tabs a ha)
  obtain ⟨n', hn', hpl, hk⟩ := C.kinds x hx
  rw [hn] at hn'; cases hn'
  obtain ⟨mL, hmL⟩ := S.nsL
  -- what both ways share
  have fin : ∀ (a : Addr) (s' : Shared), a ∈ O → a ∉ O₀ → a ∉ K.tabs → s₀.heap.get? a = none → (∀ vs k, s.heap.get? a = some (lstO vs k) → False) → StepB K [a] s s' → (∃ o, s'.heap.get? a = some o) →
      (∃ m, s'.heap.Ns env.locals m) → (∀ n a, env.cells.lookup n = some a → ∃ v, s'.heap.IsCell a v) → Loads env K.tabs n v s'.heap →
      (∀ y ∈ c.vis, y ≠ x → ∀ ny, c.nm[y]? = some ny → Loads env K.tabs ny (V y) s.heap → Loads env K.tabs ny (V y) s'.heap) →
      Sm K sa c env s₀ O₀ O (fun y => if y = x then v else V y) (setV ρ x X) s' ∧ Ext K O₀ O s O s' := fun a s' haO haO0 haT haf hal y hlive hns hcl hlx hly => by
    obtain ⟨st, lv⟩ := S.live_write C y haf hlive
    have keepO : ∀ b o, b ∉ O → b ∉ K.tabs → s.heap.get? b = some o → s'.heap.get? b = some o := fun b o hb hT e => y.keep b o hT (by simp only [List.mem_singleton]; rintro rfl; exact hb haO) e
    have keepL : ∀ b vs n, b ∉ K.tabs → s.heap.get? b = some (lstO vs n) → s'.heap.get? b = some (lstO vs n) := fun b vs n hT e => y.keep b _ hT (by simp only [List.mem_singleton]; rintro rfl; exact hal _ _ e) e
    refine ⟨?_, ⟨fun b o q => ⟨q.1, keepO b o q.1 (fun e => q.1 (tO b e)) q.2⟩, fun b hb ht o e => y.keep b o ht (by simp only [List.mem_singleton]; rintro rfl; exact haO0 hb) e⟩⟩
    refine ⟨st, S.sub, lv, S.LO, hns, fun n a e => ⟨hcl n a e, (S.cell n a e).2⟩, fun z hz Z hZ => ?_, fun z hz l hZ b hb => ?_, fun z hz w hw hne l l' hZ hW => ?_, fun z hz w hZ hl => ?_⟩
    · by_cases hzx : z = x
      · subst hzx
        rw [getV_setV hZ]
        exact ⟨n, hn, by simpa using hlx, by simpa using hv s' keepO keepL⟩
      · rw [getV_ne hzx] at hZ
        obtain ⟨nz, h1, h2, h3⟩ := S.vars z hz Z hZ
        simp only [if_neg hzx]
        refine ⟨nz, h1, hly z hz hzx nz h1 h2, RX.write haO (fun b o hb hT e => y.keep b o hT (by simpa using hb) e) tO (fun hown e => ?_) h3⟩
        obtain ⟨l, rfl⟩ := hown
        obtain ⟨b, vs, k, hb, hg, _⟩ := h3
        rw [hb] at e; cases e
        exact hal _ _ hg
    · by_cases hzx : z = x
      · subst hzx
        have := getV_setV hZ
        simp only [if_pos] at hb
        exact (ho l this.symm).1 b hb
      · rw [getV_ne hzx] at hZ
        simp only [if_neg hzx] at hb
        exact S.own z hz l hZ b hb
    · by_cases hzx : z = x
      · subst hzx
        have hX := getV_setV hZ
        have hwz : w ≠ z := Ne.symm hne
        rw [getV_ne hwz] at hW
        simp only [if_pos, if_neg hwz]
        exact Ne.symm ((ho l hX.symm).2.1 w hw hwz l' hW)
      · rw [getV_ne hzx] at hZ
        by_cases hwx : w = x
        · subst hwx
          have hX := getV_setV hW
          simp only [if_pos, if_neg hzx]
          exact (ho l' hX.symm).2.1 z hz hzx l hZ
        · rw [getV_ne hwx] at hW
          simp only [if_neg hzx, if_neg hwx]
          exact S.ownne z hz w hw hne l l' hZ hW
    · by_cases hzx : z = x
      · subst hzx
        have hX := getV_setV hZ
        by_cases hwz : w = z
        · subst hwz
          obtain ⟨l, hl⟩ := hl
          rw [← hX] at hl
          have := getV_setV hl
          cases this
        · rw [getV_ne hwz] at hl
          obtain ⟨h1, h2, b, a', h3, h4, h5, h6⟩ := hbd w hX.symm hl
          simp only [if_pos, if_neg hwz]
          exact ⟨h1, b, a', h3, h4, h5, keepO b _ h5 (fun q => h5 (tO b q)) h6⟩
      · rw [getV_ne hzx] at hZ
        by_cases hwx : w = x
        · subst hwx
          obtain ⟨l, hl⟩ := hl
          have hX := getV_setV hl
          exact absurd hZ ((ho l hX.symm).2.2 z hz hzx)
        · rw [getV_ne hwx] at hl
          obtain ⟨h1, b, a', h2, h3, h4, h5⟩ := S.bnd z hz w hZ hl
          simp only [if_neg hzx, if_neg hwx]
          exact ⟨h1, b, a', h2, h3, h4, keepO b _ h4 (fun q => h4 (tO b q)) h5⟩
  have nneq : ∀ y ∈ c.vis, y ≠ x → ∀ ny, c.nm[y]? = some ny → ny ≠ n := fun y hy hne ny hny e => hne (C.inj y hy x hx (by rw [hny, hn, e]))
  rcases hk with hk | hk
  · have hl : env.kindOf n = some .local := by show env.scope.names.lookup n = _; rw [C.sc]; exact hk
    refine wpAny_storeName_local hl hmL (fun h' hn' hs' => and_h h (fin env.locals _ S.LO C.LO0 C.Ltab C.Lnew (fun vs k e => Ns_not_list hmL e)
      (StepB.of (fun b hb => by rw [List.mem_singleton.mp hb]; exact C.Ltab) (fun b o hb e => hs'.extBut b o (by simpa using hb) e) (by show s.toks ≤ _; omega)) ?_ ⟨_, hn'⟩ (fun n a e => ?_) (.inl ⟨hl, C.Ltab, _, hn', by simp⟩) fun y hy hne ny hny ld => ?_)) (by rw [hfn]; rfl)
    · obtain ⟨o, _, _, ho, _⟩ := hn'; exact ⟨o, ho⟩
    · obtain ⟨⟨v, hcv⟩, _⟩ := S.cell n a e
      exact ⟨v, hcv.sameBut hs' fun q => Ns_not_cell hmL (q ▸ hcv)⟩
    · rcases ld with ⟨h1, h2, m', hm', hv'⟩ | ⟨h1, a, ha, h2, hcv⟩
      · cases Ns_fun hmL hm'
        exact .inl ⟨h1, h2, _, hn', by simp [nneq y hy hne ny hny, hv']⟩
      · exact .inr ⟨h1, a, ha, h2, hcv.sameBut hs' fun q => Ns_not_cell hmL (q ▸ hcv)⟩
  · have hl : env.kindOf n = some .cell := by show env.scope.names.lookup n = _; rw [C.sc]; exact hk
    obtain ⟨a, ha⟩ := C.cells n hk
    obtain ⟨⟨v₀, hcv⟩, haO⟩ := S.cell n a ha
    have hLa : env.locals ≠ a := fun q => Ns_not_cell (q ▸ hmL) hcv
    refine wpAny_storeName_cell hfn hl ha hcv (fun h' hc' hs' => and_h h (fin a _ haO (C.cO0 n a ha) (C.ctab ha) (C.cnew n a ha) (fun vs k e => cell_not_list hcv e)
      (StepB.of (tk := s.toks) (fun b hb => by rw [List.mem_singleton.mp hb]; exact C.ctab ha) (fun b o hb e => hs'.extBut b o (by simpa using hb) e) (Nat.le_refl _)) ?_ ⟨_, hmL.sameBut hs' hLa⟩ (fun n' a' e => ?_) (.inr ⟨hl, a, ha, C.ctab ha, hc'⟩) fun y hy hne ny hny ld => ?_))
    · obtain ⟨o, ho, _⟩ := hc'; exact ⟨o, ho⟩
    · by_cases hq : a' = a
      · rw [hq]; exact ⟨_, hc'⟩
      · obtain ⟨⟨v, hcv'⟩, _⟩ := S.cell n' a' e
        exact ⟨v, hcv'.sameBut hs' hq⟩
    · rcases ld with ⟨h1, h2, m', hm', hv'⟩ | ⟨h1, b, hb, h2, hcv'⟩
      · exact .inl ⟨h1, h2, m', hm'.sameBut hs' hLa, hv'⟩
      · exact .inr ⟨h1, b, hb, h2, hcv'.sameBut hs' fun q => nneq y hy hne ny hny (C.apart ny n a (q ▸ hb) ha)⟩
end
end Mini
end

section
open PySem PySem.Spec PySem.Calls PyProof.Rows PySem.W PySem.Builtin PySem.Builtin.Str PySem.StrLaws
set_option maxRecDepth 100000
namespace Mini

inductive Ss where
  | one (s : Stmt) | many (l : List Stmt)
noncomputable def Ss.run : Ss → PySem.Env → Sem Flow
  | .one s, env => exec s env
  | .many l, env => execs l env

/-- what a statement leaves -/
noncomputable def Out (K : Wd) (sa : Addr) (c : Cx) (env : PySem.Env) (s₀ : Shared) (O₀ O : List Addr) (s : Shared) (fl : Fl) (ρ' : Env) (f : Flow) (s' : Shared) : Prop :=
  match fl with
  | .next => f = .next ∧ ∃ O' V', Sm K sa c env s₀ O₀ O' V' ρ' s' ∧ Ext K O₀ O s O' s'
  | .brk => f = .brk ∧ ∃ O' V', Sm K sa c env s₀ O₀ O' V' ρ' s' ∧ Ext K O₀ O s O' s'
  | .ret d => ∃ v, f = .ret v ∧ Step K s₀ s' ∧ VR sa (Vw O₀ s'.heap) v d

noncomputable def ExOk (K : Wd) (m : Nat) (prim : Nat → List D → Option D) (c : Cx) (t : T) (u : Ss) : Prop :=
  ∀ sa A env s₀ O₀ O V ρ s fuel fl ρ', Rm A m → Ct K c env s₀ O₀ → Sm K sa c env s₀ O₀ O V ρ s → evalS prim fuel t ρ = some (fl, ρ') → wpAny (M K) A (u.run env) (Out K sa c env s₀ O₀ O s fl ρ') NoE s

section
variable {K : Wd} {G : Gl K} {m : Nat} {prim : Nat → List D → Option D} {c : Cx} {sa : Addr} {A : Around} {env : PySem.Env} {s₀ s s' : Shared} {O₀ O : List Addr} {V : Nat → Value} {ρ ρ' : Env} {fl : Fl}

theorem Sm.tO (C : Ct K c env s₀ O₀) (S : Sm K sa c env s₀ O₀ O V ρ s) : ∀ a ∈ K.tabs, a ∈ O := fun a ha => S.sub a (C.tabs a ha)
/-- an expression's value in a call's frame -/
theorem EvOk.at (C : Ct K c env s₀ O₀) (S : Sm K sa c env s₀ O₀ O V ρ s) {e : E} {t : Expr} {x : X} {Q : Value → Shared → Prop} {E : Value → Shared → Prop} (h : EvOk K m prim c e t) (r : Rm A m) (he : evalE prim e ρ = some x)
    (k : ∀ v s1, RX sa K.tabs O s1.heap v x → Sm K sa c env s₀ O₀ O V ρ s1 → Ext K O₀ O s O s1 → Step K s s1 → Q v s1) : wpAny (M K) A (eval t env) Q E s :=
  h.go r (S.fm C) C.base he fun v s1 rv st _ => k v s1 rv (S.next C st) (Ext.of (S.tO C) st) st
theorem TsOk.at (C : Ct K c env s₀ O₀) (S : Sm K sa c env s₀ O₀ O V ρ s) {e : E} {t : Expr} {x : X} {b : Bool} {Q : Bool → Shared → Prop} {E : Value → Shared → Prop} (h : TsOk K m prim c e t) (r : Rm A m) (he : evalE prim e ρ = some x) (ht : truth x = some b)
    (k : ∀ s1, Sm K sa c env s₀ O₀ O V ρ s1 → Ext K O₀ O s O s1 → Q b s1) : wpAny (M K) A (isTrue t env (eval t env)) Q E s :=
  h.go r (S.fm C) C.base he ht fun s1 st _ => k s1 (S.next C st) (Ext.of (S.tO C) st)
theorem Ext.refl : Ext K O₀ O s O s := ⟨fun _ _ h => h, fun _ _ _ _ h => h⟩
theorem Out.after {O1 : List Addr} {s1 : Shared} {f : Flow} (x : Ext K O₀ O s O1 s1) (h : Out K sa c env s₀ O₀ O1 s1 fl ρ' f s') : Out K sa c env s₀ O₀ O s fl ρ' f s' := by
  cases fl with
  | next => exact ⟨h.1, let ⟨O', V', a, b⟩ := h.2; ⟨O', V', a, x.trans b⟩⟩
  | brk => exact ⟨h.1, let ⟨O', V', a, b⟩ := h.2; ⟨O', V', a, x.trans b⟩⟩
  | ret d => exact h

theorem ex_skip : ExOk K m prim c .skip (.many []) := fun sa A env s₀ O₀ O V ρ s fuel fl ρ' r C S h => by
  simp only [evalS] at h
  cases h
  exact wpAny_execs_nil (env := env) ⟨rfl, O, V, S, .refl⟩
theorem ex_no {st : Stmt} : ExOk K m prim c .no (.one st) := fun sa A env s₀ O₀ O V ρ s fuel fl ρ' r C S h => by
  simp only [evalS] at h
  cases h
theorem ex_seq {a b : T} {st : Stmt} {rest : List Stmt} (h1 : ExOk K m prim c a (.one st)) (h2 : ExOk K m prim c b (.many rest)) : ExOk K m prim c (.seq a b) (.many (st :: rest)) := fun sa A env s₀ O₀ O V ρ s fuel fl ρ' r C S h => by
  simp only [evalS] at h
  obtain ⟨⟨f1, ρ1⟩, hf, h⟩ := ob h
  refine wpAny_execs_cons (lift (h1 sa A env s₀ O₀ O V ρ s fuel f1 ρ1 r C S hf) fun f s1 q => ?_)
  cases f1 with
  | next =>
    obtain ⟨rfl, O1, V1, S1, x1⟩ := q
    exact lift (h2 sa A env s₀ O₀ O1 V1 ρ1 s1 fuel fl ρ' r C S1 h) fun f s2 q => q.after x1
  | brk =>
    cases opure h
    obtain ⟨rfl, q⟩ := q
    exact ⟨rfl, q⟩
  | ret d =>
    cases opure h
    obtain ⟨v, rfl, q⟩ := q
    exact ⟨v, rfl, q⟩
theorem ex_brk {p : Pos} : ExOk K m prim c .brk (.one (.Break p)) := fun sa A env s₀ O₀ O V ρ s fuel fl ρ' r C S h => by
  simp only [evalS] at h
  cases h
  exact wpAny_Break (env := env) ⟨rfl, O, V, S, .refl⟩
theorem ex_ret {e : E} {t : Expr} {p : Pos} (h1 : EvOk K m prim c e t) : ExOk K m prim c (.ret e) (.one (.Return (some t) p)) := fun sa A env s₀ O₀ O V ρ s fuel fl ρ' r C S h => by
  simp only [evalS] at h
  obtain ⟨x, hx, h⟩ := ob h
  obtain ⟨d, hd, h⟩ := ob h
  cases opure h
  cases asD_some hd
  exact wpAny_Return_some (h1.at C S r hx fun v s1 rv S1 x1 st => ⟨v, rfl, S1.step, VR.mono (fun b o q => ⟨fun e => q.1 (S.sub b e), q.2⟩) rv⟩)
theorem ex_assert {e : E} {t : Expr} {p : Pos} (h1 : TsOk K m prim c e t) : ExOk K m prim c (.assert e) (.one (.Assert t none p)) := fun sa A env s₀ O₀ O V ρ s fuel fl ρ' r C S h => by
  simp only [evalS] at h
  obtain ⟨x, hx, h⟩ := ob h
  obtain ⟨b, hb, h⟩ := ob h
  cases b with
  | false => simp at h
  | true =>
    simp only [if_true] at h
    cases opure h
    exact wpAny_Assert r.handled (h1.at C S r hx hb fun s1 S1 x1 => by simp only [if_true]; exact ⟨rfl, O, V, S1, x1⟩)
theorem ex_ifs {e : E} {t : Expr} {a b : T} {ss us : List Stmt} {p : Pos} (h1 : TsOk K m prim c e t) (h2 : ExOk K m prim c a (.many ss)) (h3 : ExOk K m prim c b (.many us)) : ExOk K m prim c (.ifs e a b) (.one (.If t ss us p)) := fun sa A env s₀ O₀ O V ρ s fuel fl ρ' r C S h => by
  simp only [evalS] at h
  obtain ⟨x, hx, h⟩ := ob h
  obtain ⟨b, hb, h⟩ := ob h
  refine wpAny_If (h1.at C S r hx hb fun s1 S1 x1 => ?_)
  cases b with
  | true => simp only [if_true] at h ⊢; exact lift (h2 sa A env s₀ O₀ O V ρ s1 fuel fl ρ' r C S1 h) fun f s2 q => q.after x1
  | false => simp only [Bool.false_eq_true, if_false] at h ⊢; exact lift (h3 sa A env s₀ O₀ O V ρ s1 fuel fl ρ' r C S1 h) fun f s2 q => q.after x1

/-- the store of a value that stays as it is -/
theorem Sm.put (C : Ct K c env s₀ O₀) (S : Sm K sa c env s₀ O₀ O V ρ s) {x : Nat} {n : Str} {v : Value} {d : D} (hx : x ∈ c.vis) (hn : c.nm[x]? = some n) (hv : VR sa (Vw O s.heap) v d)
    {Q : Unit → Shared → Prop} {E : Value → Shared → Prop} (h : ∀ V' s', Sm K sa c env s₀ O₀ O V' (setV ρ x (.d d)) s' → Ext K O₀ O s O s' → Q () s') : wpAny (M K) A (storeName env n v) Q E s :=
  S.store (X := .d d) C hx hn (fun s' k _ => VR.mono (P := Vw O s.heap) (fun b o q => ⟨q.1, k b o q.1 (fun e => q.1 (S.tO C b e)) q.2⟩) hv) (fun _ e => by cases e) (fun _ e => by cases e) h

theorem ex_asg {x : Nat} {n : Str} {e : E} {t : Expr} {p p' : Pos} (hx : x ∈ c.vis) (hn : c.nm[x]? = some n) (hs : ∀ tg l env, swapsWith t tg l env = pure false) (h1 : EvOk K m prim c e t) : ExOk K m prim c (.asg x e) (.one (.Assign [.Name n p] t p')) := fun sa A env s₀ O₀ O V ρ s fuel fl ρ' r C S h => by
  simp only [evalS] at h
  obtain ⟨y, hy, h⟩ := ob h
  obtain ⟨d, hd, h⟩ := ob h
  cases opure h
  cases asD_some hd
  exact wpAny_Assign_Name (h1.at C S r hy fun v s1 rv S1 x1 st => S1.put C hx hn rv fun V' s2 S2 x2 => ⟨rfl, O, V', S2, x1.trans x2⟩) (hs _ _ _)

theorem ex_aug {x : Nat} {n : Str} {e : E} {t : Expr} {p p' : Pos} (hx : x ∈ c.vis) (hn : c.nm[x]? = some n) (h1 : EvOk K m prim c e t) : ExOk K m prim c (.aug x e) (.one (.AugAssign (.Name n p) .Add t p')) := fun sa A env s₀ O₀ O V ρ s fuel fl ρ' r C S h => by
  simp only [evalS] at h
  obtain ⟨xo, hxo, h⟩ := ob h
  obtain ⟨i, hi, h⟩ := ob h
  obtain ⟨y, hy, h⟩ := ob h
  obtain ⟨j, hj, h⟩ := ob h
  obtain ⟨z, hz, h⟩ := ob h
  cases opure h
  cases asI_some hi; cases asI_some hj
  obtain ⟨rfl, h1z, h2z⟩ := okI_some hz
  obtain ⟨n', hn', hl, hr⟩ := S.vars x hx _ hxo
  rw [hn] at hn'; cases hn'
  obtain ⟨ti, hti⟩ := VR.num hr
  have hfn : env.scope.kind = .function := by rw [C.sc]; exact C.fn
  have ld : ∀ {Q : Value → Shared → Prop} {E : Value → Shared → Prop}, Q (V x) s → wpAny (M K) A (loadName env n) Q E s := fun {Q E} hq => by
    rcases hl with ⟨hk, _, m', hm, hv⟩ | ⟨hk, a, ha, _, hcv⟩
    · exact wpAny_loadName_local hfn hk hm hv hq
    · exact wpAny_loadName_cell hfn hk ha hcv hq
  refine wpAny_AugAssign_Name (ld (h1.at C S r hy fun v s1 rv S1 x1 st => ?_))
  obtain ⟨tj, rfl⟩ := VR.num rv
  rw [hti]
  refine P.iadd_int (S1.next C (Step.tok (Nat.le_succ _)) |>.put C hx hn (.int _ _) fun V' s2 S2 x2 => ⟨rfl, O, V', S2, (x1.trans (Ext.of (S.tO C) (Step.tok (Nat.le_succ _)))).trans x2⟩)
end
end Mini
end

section
open PySem PySem.Spec PySem.Calls PyProof.Rows PySem.W PySem.Builtin PySem.Builtin.Str PySem.StrLaws
set_option maxRecDepth 100000
namespace Mini
section
variable {K : Wd} {G : Gl K} {m : Nat} {prim : Nat → List D → Option D} {c : Cx} {sa : Addr} {A : Around} {env : PySem.Env} {s₀ s s' : Shared} {O₀ O : List Addr} {V : Nat → Value} {ρ ρ' : Env} {fl : Fl}

theorem live_ne {h : Heap} {a b : Addr} (ha : h.get? a = none) (hb : ∃ o, h.get? b = some o) : b ≠ a := fun q => by obtain ⟨o, ho⟩ := hb; rw [q, ha] at ho; cases ho

/-- a new object becomes a private one -/
theorem Sm.add (C : Ct K c env s₀ O₀) (S : Sm K sa c env s₀ O₀ O V ρ s) {a : Addr} (ha : s.heap.get? a = none) (y : Step K s s') (hl : ∃ o, s'.heap.get? a = some o) : Sm K sa c env s₀ O₀ (a :: O) V ρ s' ∧ Ext K O₀ O s (a :: O) s' := by
  have S' := S.next C y
  have vw : ∀ b o, Vw O s.heap b o → Vw (a :: O) s'.heap b o := fun b o q => ⟨by rw [List.mem_cons, not_or]; exact ⟨live_ne ha ⟨o, q.2⟩, q.1⟩, y.keep b o (fun e => q.1 (S.tO C b e)) q.2⟩
  refine ⟨⟨S'.step, fun b hb => List.mem_cons_of_mem _ (S.sub b hb), fun b hb => ?_, List.mem_cons_of_mem _ S.LO, S'.nsL, fun n b h => ⟨(S'.cell n b h).1, List.mem_cons_of_mem _ (S.cell n b h).2⟩, fun x hx X hX => ?_, S.own, S.ownne, fun z hz x hX h => ?_⟩,
    vw, fun b hb ht o e => y.keep b o ht e⟩
  · rcases List.mem_cons.mp hb with rfl | hb
    · exact hl
    · exact S'.live b hb
  · obtain ⟨n, h1, h2, h3⟩ := S.vars x hx X hX
    exact ⟨n, h1, h2.step y, h3.mono vw fun b o hb ht e => ⟨List.mem_cons_of_mem _ hb, y.keep b o ht e⟩⟩
  · obtain ⟨h1, b, d, h2, h3, h4, h5⟩ := S.bnd z hz x hX h
    exact ⟨h1, b, d, h2, h3, (vw b _ ⟨h4, h5⟩).1, (vw b _ ⟨h4, h5⟩).2⟩

theorem S0_none (S : Sm K sa c env s₀ O₀ O V ρ s) (C : Ct K c env s₀ O₀) {a : Addr} (ha : s.heap.get? a = none) : s₀.heap.get? a = none ∧ a ∉ O₀ ∧ a ∉ K.tabs := by
  have ht := new_tab (C.st0.step C.base S.step).tinv ha
  refine ⟨?_, fun q => live_ne ha (S.live a (S.sub a q)) rfl, ht⟩
  cases e : s₀.heap.get? a with
  | none => rfl
  | some o => rw [S.step.keep a o ht e] at ha; cases ha

theorem any_bnd {ρ : Env} {x y : Nat} (h : ρ.any (fun o => match o with | some (.bnd y) => y == x | _ => false) = false) : getV ρ y ≠ some (.bnd x) := fun q => by
  unfold getV at q
  rw [List.any_eq_false] at h
  cases e : ρ[y]? with
  | none => rw [e] at q; cases q
  | some o =>
    rw [e] at q
    have hm := h o (List.mem_of_getElem? e)
    have q' : o = some (.bnd x) := q
    rw [q'] at hm
    simp at hm

theorem ex_own {x : Nat} {n : Str} {p p' pl : Pos} (hx : x ∈ c.vis) (hn : c.nm[x]? = some n) : ExOk K m prim c (.own x .lnil) (.one (.Assign [.Name n p] (.List [] pl) p')) := fun sa A env s₀ O₀ O V ρ s fuel fl ρ' r C S h => by
  simp only [evalS, evalE] at h
  obtain ⟨y, hy, h⟩ := ob h
  obtain ⟨l, hl, h⟩ := ob h
  cases hy
  cases hl
  simp only [List.length_nil, Nat.not_lt_zero, if_false] at h
  split at h
  · cases h
  rename_i hb
  cases opure h
  simp only [Bool.not_eq_true] at hb
  refine wpAny_Assign_Name (List_ (spliced_nil (wpAny_newObj_type ?_))) rfl
  obtain ⟨S1, x1⟩ := S.add C (s' := { s with heap := s.heap.push (lstO #[] 0) }) new_none (Step.push _) ⟨_, Heap.get?_push_size _ rfl⟩
  obtain ⟨h0, h1, ht⟩ := S0_none S C (new_none (h := s.heap))
  refine S1.store (X := .own []) C hx hn (fun s' _ kl => ⟨_, #[], 0, rfl, kl _ _ _ ht (Heap.get?_push_size _ rfl), VRs.nil, List.mem_cons_self, ht⟩) (fun l _ => ⟨fun a e => by cases e; exact ⟨h0, h1⟩, fun y hy hne l' hl' e => ?_, fun y _ _ => any_bnd hb⟩) (fun _ e => by cases e) fun V' s' S2 x2 => ⟨rfl, _, V', S2, x1.trans x2⟩
  obtain ⟨n', _, _, a, vs, k, hV, hg, _⟩ := S.vars y hy _ hl'
  rw [hV] at e
  cases e
  exact live_ne new_none ⟨_, hg⟩ rfl

theorem ex_ownL {x : Nat} {n : Str} {e : E} {ts : List Expr} {p p' pl : Pos} (hx : x ∈ c.vis) (hn : c.nm[x]? = some n) (hl : LsOk K m prim c e ts) : ExOk K m prim c (.own x e) (.one (.Assign [.Name n p] (.List ts pl) p')) := fun sa A env s₀ O₀ O V ρ s fuel fl ρ' r C S h => by
  simp only [evalS] at h
  obtain ⟨y, hy, h⟩ := ob h
  obtain ⟨l, hll, h⟩ := ob h
  split at h
  · cases h
  rename_i hle
  split at h
  · cases h
  rename_i hb
  cases opure h
  simp only [Bool.not_eq_true] at hb
  refine wpAny_Assign_Name (List_ (hl sa A env O ρ s l r (S.fm C) (by rw [hy]; exact hll) _ _ fun vs s1 rvs st => ?_)) rfl
  have S0 := S.next C st
  have x0 : Ext K O₀ O s O s1 := Ext.of (S.tO C) st
  have hsz := rvs.1
  rw [List.size_toArray] at hsz
  refine wpAny_newObj_type ?_ ?_
  rotate_left
  · show vs.toArray.size ≤ 2 ^ 24
    rw [List.size_toArray]
    omega
  obtain ⟨S1, x1⟩ := S0.add C (s' := { s1 with heap := s1.heap.push (lstO vs.toArray 0) }) new_none (Step.push _) ⟨_, Heap.get?_push_size _ rfl⟩
  obtain ⟨h0, h1, ht⟩ := S0_none S0 C (new_none (h := s1.heap))
  refine S1.store (X := .own l) C hx hn (fun s' kv kl => ⟨_, vs.toArray, 0, rfl, kl _ _ _ ht (Heap.get?_push_size _ rfl), (rvs.mono x1.vw).mono (fun b o q => ⟨q.1, kv b o q.1 (fun e => q.1 (S1.tO C b e)) q.2⟩), List.mem_cons_self, ht⟩) (fun l _ => ⟨fun a e => by cases e; exact ⟨h0, h1⟩, fun y hy hne l' hl' e => ?_, fun y _ _ => any_bnd hb⟩) (fun _ e => by cases e) fun V' s' S2 x2 => ⟨rfl, _, V', S2, (x0.trans x1).trans x2⟩
  obtain ⟨n', _, _, a, vs, k, hV, hg, _⟩ := S0.vars y hy _ hl'
  rw [hV] at e
  cases e
  exact live_ne new_none ⟨_, hg⟩ rfl

/-- an own list turns -/
theorem Sm.turnOwn (C : Ct K c env s₀ O₀) (S : Sm K sa c env s₀ O₀ O V ρ s) {x : Nat} {l l' : List D} {a : Addr} {h' : Heap} {vs' : Array Value} {n' : Nat} (hx : x ∈ c.vis) (hX : getV ρ x = some (.own l)) (hV : V x = .ref a) (hs : Heap.SameBut a s.heap h') (hg : h'.get? a = some (lstO vs' n')) (hv : VRs sa (Vw O s.heap) vs' l') :
    Sm K sa c env s₀ O₀ O V (setV ρ x (.own l')) { s with heap := h' } ∧ Ext K O₀ O s O { s with heap := h' } := by
  obtain ⟨n, hn, hld, a', vs, k, hV', hga, hvs, haO, haT⟩ := S.vars x hx _ hX
  rw [hV] at hV'; cases hV'
  obtain ⟨h0, h0'⟩ := S.own x hx l hX a hV
  have y : StepB K [a] s { s with heap := h' } := StepB.of (tk := s.toks) (fun b hb => by rw [List.mem_singleton.mp hb]; exact haT) (fun b o hb e => hs.extBut b o (by simpa using hb) e) (Nat.le_refl _)
  obtain ⟨st, lv⟩ := S.live_write C y h0 ⟨_, hg⟩
  have tO := S.tO C
  have vw : ∀ b o, Vw O s.heap b o → Vw O h' b o := fun b o q => ⟨q.1, hs.extBut b o (fun e => q.1 (e ▸ haO)) q.2⟩
  obtain ⟨mL, hmL⟩ := S.nsL
  have hLa : env.locals ≠ a := fun q => Ns_not_list (q ▸ hmL) hga
  refine ⟨⟨st, S.sub, lv, S.LO, ⟨mL, hmL.sameBut hs hLa⟩, fun n b e => ?_, fun z hz Z hZ => ?_, fun z hz lz hZ b hb => ?_, fun z hz w hw hne lz lw hZ hW => ?_, fun z hz w hZ hl => ?_⟩, vw, fun b hb ht o e => hs.extBut b o (fun q => h0' (q ▸ hb)) e⟩
  · obtain ⟨⟨v, hc⟩, hO⟩ := S.cell n b e
    exact ⟨⟨v, hc.sameBut hs fun q => cell_not_list (q ▸ hc) hga⟩, hO⟩
  · have ldk : ∀ {nz vz}, Loads env K.tabs nz vz s.heap → Loads env K.tabs nz vz h' := fun {nz vz} ld => by
      rcases ld with ⟨h1, h2, m', hm', hv'⟩ | ⟨h1, b, hb, h2, hc⟩
      · exact .inl ⟨h1, h2, m', hm'.sameBut hs hLa, hv'⟩
      · exact .inr ⟨h1, b, hb, h2, hc.sameBut hs fun q => cell_not_list (q ▸ hc) hga⟩
    by_cases hzx : z = x
    · subst hzx
      rw [getV_setV hZ]
      exact ⟨n, hn, ldk hld, a, vs', n', hV, hg, hv.mono vw, haO, haT⟩
    · rw [getV_ne hzx] at hZ
      obtain ⟨nz, h1, h2, h3⟩ := S.vars z hz Z hZ
      refine ⟨nz, h1, ldk h2, RX.write haO (fun b o hb _ e => hs.extBut b o hb e) tO (fun hown e => ?_) h3⟩
      obtain ⟨lz, rfl⟩ := hown
      exact S.ownne z hz x hx hzx lz l hZ hX (e.trans hV.symm)
  · by_cases hzx : z = x
    · subst hzx; exact S.own z hz l hX b hb
    · rw [getV_ne hzx] at hZ; exact S.own z hz lz hZ b hb
  · have get : ∀ {q lq}, getV (setV ρ x (.own l')) q = some (.own lq) → ∃ lq', getV ρ q = some (.own lq') := fun {q lq} e => by
      by_cases hqx : q = x
      · subst hqx; exact ⟨l, hX⟩
      · rw [getV_ne hqx] at e; exact ⟨lq, e⟩
    obtain ⟨l1, h1⟩ := get hZ
    obtain ⟨l2, h2⟩ := get hW
    exact S.ownne z hz w hw hne l1 l2 h1 h2
  · have hzx : z ≠ x := fun q => by subst q; have := getV_setV hZ; cases this
    rw [getV_ne hzx] at hZ
    have hl' : ∃ lw, getV ρ w = some (.own lw) := by
      by_cases hwx : w = x
      · subst hwx; exact ⟨l, hX⟩
      · rw [getV_ne hwx] at hl; exact hl
    obtain ⟨h1, b, d, h2, h3, h4, h5⟩ := S.bnd z hz w hZ hl'
    exact ⟨h1, b, d, h2, h3, h4, (vw b _ ⟨h4, h5⟩).2⟩

theorem ex_frz {x : Nat} {b : T} {rest : List Stmt} (hx : x ∈ c.vis) (h2 : ExOk K m prim c b (.many rest)) : ExOk K m prim c (.seq (.freeze x) b) (.many rest) := fun sa A env s₀ O₀ O V ρ s fuel fl ρ' r C S h => by
  simp only [evalS] at h
  obtain ⟨⟨f1, ρ1⟩, hf, h⟩ := ob h
  obtain ⟨X, hX, hf⟩ := ob hf
  cases X with
  | own l =>
    cases opure hf
    obtain ⟨n, hn, hld, a, vs, k, hV, hga, hvs, haO, haT⟩ := S.vars x hx _ hX
    obtain ⟨h0, h0'⟩ := S.own x hx l hX a hV
    have tO := S.tO C
    obtain ⟨mL, hmL⟩ := S.nsL
    have hLa : env.locals ≠ a := fun q => Ns_not_list (q ▸ hmL) hga
    let O1 := O.filter (· != a)
    have inO : ∀ {b}, b ∈ O → b ≠ a → b ∈ O1 := fun {b} hb hne => List.mem_filter.mpr ⟨hb, by simpa using hne⟩
    have outO : ∀ {b}, b ∉ O → b ∉ O1 := fun {b} hb q => hb (List.mem_filter.mp q).1
    have aO1 : a ∉ O1 := fun q => by have := (List.mem_filter.mp q).2; simp at this
    have vw : ∀ b o, Vw O s.heap b o → Vw O1 s.heap b o := fun b o q => ⟨outO q.1, q.2⟩
    have S1 : Sm K sa c env s₀ O₀ O1 V (setV ρ x (.d (.lst l))) s := by
      refine ⟨S.step, fun b hb => inO (S.sub b hb) (fun q => h0' (q ▸ hb)), fun b hb => S.live b (List.mem_filter.mp hb).1, inO S.LO hLa, S.nsL, fun n b e => ?_, fun z hz Z hZ => ?_, fun z hz lz hZ b hb => ?_, fun z hz w hw hne lz lw hZ hW => ?_, fun z hz w hZ hl => ?_⟩
      · obtain ⟨⟨v, hc⟩, hO⟩ := S.cell n b e
        exact ⟨⟨v, hc⟩, inO hO fun q => cell_not_list (q ▸ hc) hga⟩
      · by_cases hzx : z = x
        · subst hzx
          rw [getV_setV hZ]
          refine ⟨n, hn, hld, ?_⟩
          rw [hV]
          exact VR.ofVRs (n := k) ⟨aO1, hga⟩ (hvs.mono vw)
        · rw [getV_ne hzx] at hZ
          obtain ⟨nz, h1, h2, h3⟩ := S.vars z hz Z hZ
          refine ⟨nz, h1, h2, ?_⟩
          cases Z with
          | d d => exact VR.mono vw h3
          | own lz =>
            obtain ⟨b, vz, kz, hb, hg, hvz, hbO, hbT⟩ := h3
            exact ⟨b, vz, kz, hb, hg, hvz.mono vw, inO hbO (fun q => S.ownne z hz x hx hzx lz l hZ hX (by rw [hb, hV, q])), hbT⟩
          | bnd _ => trivial
      · have hzx : z ≠ x := fun q => by subst q; have := getV_setV hZ; cases this
        rw [getV_ne hzx] at hZ
        exact S.own z hz lz hZ b hb
      · have hzx : z ≠ x := fun q => by subst q; have := getV_setV hZ; cases this
        have hwx : w ≠ x := fun q => by subst q; have := getV_setV hW; cases this
        rw [getV_ne hzx] at hZ
        rw [getV_ne hwx] at hW
        exact S.ownne z hz w hw hne lz lw hZ hW
      · have hzx : z ≠ x := fun q => by subst q; have := getV_setV hZ; cases this
        have hwx : w ≠ x := fun q => by subst q; obtain ⟨lw, hlw⟩ := hl; have := getV_setV hlw; cases this
        rw [getV_ne hzx] at hZ
        rw [getV_ne hwx] at hl
        obtain ⟨h1, b, d, h2, h3, h4, h5⟩ := S.bnd z hz w hZ hl
        exact ⟨h1, b, d, h2, h3, outO h4, h5⟩
    exact lift (h2 sa A env s₀ O₀ O1 V _ s fuel fl ρ' r C S1 h) fun f s2 q => q.after ⟨vw, fun _ _ _ _ e => e⟩
  | d d => cases hf
  | bnd y => cases hf

theorem notInteractive (C : Ct K c env s₀ O₀) : interactive env = false := by
  unfold interactive
  rw [C.sc, C.fn]
  rfl

theorem ex_app {x : Nat} {n : Str} {e : E} {t : Expr} {p q cp p' : Pos} (hx : x ∈ c.vis) (hn : c.nm[x]? = some n) (hq : (q.endLine == cp.line) = true) (h1 : EvOk K m prim c e t) (pt : Plain t) :
    ExOk K m prim c (.app x e) (.one (.Expr (.Call (.Attribute (.Name n p) "append" q) [t] [] cp) p')) := fun sa A env s₀ O₀ O V ρ s fuel fl ρ' r C S h => by
  simp only [evalS] at h
  obtain ⟨X, hX, h⟩ := ob h
  cases X with
  | own l =>
    obtain ⟨y, hy, h⟩ := ob h
    obtain ⟨d, hd, h⟩ := ob h
    split at h
    rotate_left
    · cases h
    rename_i hlen
    cases opure h
    cases asD_some hd
    obtain ⟨n', hn', hld, a, vs, k, hV, hga, hvs, haO, haT⟩ := S.vars x hx _ hX
    rw [hn] at hn'; cases hn'
    obtain ⟨nk, hnk, hpl, _⟩ := C.kinds x hx
    rw [hn] at hnk; cases hnk
    have hfn : env.scope.kind = .function := by rw [C.sc]; exact C.fn
    refine wpAny_Expr ?_ (notInteractive C) rfl
    refine wpAny_Call_method rfl (by rw [pt.star]; rfl) hq F.plainAttrs_list F.slot_list_append F.type_list_append (Loads.eval hfn (name_of _ hpl) hld ?_)
    rw [hV]
    refine ⟨⟨_, hga, rfl⟩, fun b e => by cases e; exact ⟨_, hga, rfl⟩, ?_⟩
    rw [pt.star]
    refine callWith_builtin rfl (evalArgs_plain (spliced_cons (h1.at C S r hy fun v s1 rv S1 x1 st => spliced_nil ?_)))
    obtain ⟨_, _, _, a', vs1, k1, hV', hg1, hvs1, _, _⟩ := S1.vars x hx _ hX
    rw [hV] at hV'; cases hV'
    refine append_at hg1 (fun h' hs hg' => ?_) ?_
    · obtain ⟨S2, x2⟩ := S1.turnOwn C (l' := l ++ [d]) hx hX hV hs hg' (hvs1.push rv)
      exact ⟨rfl, O, V, S2, x1.trans x2⟩
    · have := hvs1.1
      show vs1.size ≤ 2 ^ 24
      omega
  | d d => cases h
  | bnd y => cases h
end
end Mini
end

section
open PySem PySem.Spec PySem.Calls PyProof.Rows PySem.W PySem.Builtin PySem.Builtin.Str PySem.StrLaws
set_option maxRecDepth 100000
namespace Mini
section
variable {K : Wd} {G : Gl K} {m : Nat} {prim : Nat → List D → Option D} {c : Cx} {sa : Addr} {A : Around} {env : PySem.Env} {s₀ s s' : Shared} {O₀ O : List Addr} {V : Nat → Value} {ρ ρ' : Env} {fl : Fl}

/-- how a loop's end is told to the statement behind -/
noncomputable def flowOf (R : Result → Shared → Prop) (f : Flow) (s : Shared) : Prop := R (.ok f) s

theorem ex_while {e : E} {t : Expr} {b : T} {body : List Stmt} {p : Pos} (h1 : TsOk K m prim c e t) (h2 : ExOk K m prim c b (.many body)) : ExOk K m prim c (.while e b) (.one (.While t body [] p)) := fun sa A env s₀ O₀ O V ρ s fuel fl ρ' r C S h => by
  simp only [evalS] at h
  refine wpAny_While (codeAny_whileLoop (fun k s' => ∃ O1 V1 ρ1, Sm K sa c env s₀ O₀ O1 V1 ρ1 s' ∧ Ext K O₀ O s O1 s' ∧ whileN (fun ρ => do truth (← evalE prim e ρ)) (evalS prim fuel b) k ρ1 = some (fl, ρ')) ?_ fuel ⟨O, V, ρ, S, .refl, h⟩)
  rintro k s' ⟨O1, V1, ρ1, S1, x1, hw⟩
  cases k with
  | zero => cases hw
  | succ k =>
    simp only [whileN] at hw
    obtain ⟨bb, hb, hw⟩ := ob hw
    obtain ⟨y, hy, hb⟩ := ob hb
    refine h1.at C S1 r hy hb fun s2 S2 x2 => ?_
    cases bb with
    | false =>
      simp only [Bool.false_eq_true, if_false] at hw ⊢
      cases opure hw
      exact wpAny_execs_nil (env := env) ⟨rfl, O1, V1, S2, x1.trans x2⟩
    | true =>
      simp only [if_true] at hw ⊢
      obtain ⟨⟨f1, ρ2⟩, hf, hw⟩ := ob hw
      refine lift (h2 sa A env s₀ O₀ O1 V1 ρ1 s2 fuel f1 ρ2 r C S2 hf) fun f s3 q => ?_
      cases f1 with
      | next =>
        obtain ⟨rfl, O3, V3, S3, x3⟩ := q
        exact ⟨k, Nat.lt_succ_self _, O3, V3, ρ2, S3, (x1.trans x2).trans x3, hw⟩
      | brk =>
        cases opure hw
        obtain ⟨rfl, O3, V3, S3, x3⟩ := q
        exact ⟨rfl, O3, V3, S3, (x1.trans x2).trans x3⟩
      | ret d =>
        cases opure hw
        obtain ⟨v, rfl, q⟩ := q
        exact ⟨v, rfl, q⟩

/-- the frame of a loop's body: the iterator is kept apart -/
theorem Ct.more (C : Ct K c env s₀ O₀) {I : Addr} (hL : env.locals ≠ I) (hc : ∀ n a, env.cells.lookup n = some a → a ≠ I) : Ct K c env s₀ (I :: O₀) :=
  ⟨C.base, C.st0, C.sc, C.fn, C.glob, C.bi, C.code, fun a ha => List.mem_cons_of_mem _ (C.tabs a ha), C.cells, C.apart, C.inj, C.kinds, C.Lnew, C.cnew, by rw [List.mem_cons, not_or]; exact ⟨hL, C.LO0⟩, fun n a h => by rw [List.mem_cons, not_or]; exact ⟨hc n a h, C.cO0 n a h⟩⟩
theorem Sm.more (S : Sm K sa c env s₀ O₀ O V ρ s) {I : Addr} (hI : I ∈ O) (hne : ∀ x ∈ c.vis, ∀ l, getV ρ x = some (.own l) → V x ≠ .ref I) : Sm K sa c env s₀ (I :: O₀) O V ρ s :=
  ⟨S.step, fun a ha => by rcases List.mem_cons.mp ha with rfl | ha; exact hI; exact S.sub a ha, S.live, S.LO, S.nsL, S.cell, S.vars, fun x hx l hl a ha => ⟨(S.own x hx l hl a ha).1, by rw [List.mem_cons, not_or]; exact ⟨fun q => hne x hx l hl (q ▸ ha), (S.own x hx l hl a ha).2⟩⟩, S.ownne, S.bnd⟩
theorem Sm.fewer (S : Sm K sa c env s₀ (I :: O₀) O V ρ s) : Sm K sa c env s₀ O₀ O V ρ s :=
  ⟨S.step, fun a ha => S.sub a (List.mem_cons_of_mem _ ha), S.live, S.LO, S.nsL, S.cell, S.vars, fun x hx l hl a ha => ⟨(S.own x hx l hl a ha).1, fun q => (S.own x hx l hl a ha).2 (List.mem_cons_of_mem _ q)⟩, S.ownne, S.bnd⟩

/-- a write into an object that is kept apart (an iterator) -/
theorem Sm.side (C : Ct K c env s₀ O₀) (S : Sm K sa c env s₀ O₀ O V ρ s) {I : Addr} (hI : I ∈ O) (hI0 : s₀.heap.get? I = none) (hL : env.locals ≠ I) (hc : ∀ n a, env.cells.lookup n = some a → a ≠ I) (hne : ∀ x ∈ c.vis, ∀ l, getV ρ x = some (.own l) → V x ≠ .ref I)
    (y : StepB K [I] s s') (hl : ∃ o, s'.heap.get? I = some o) : Sm K sa c env s₀ O₀ O V ρ s' ∧ ∀ b o, Vw O s.heap b o → Vw O s'.heap b o := by
  obtain ⟨st, lv⟩ := S.live_write C y hI0 hl
  have tO := S.tO C
  have k1 : ∀ b o, b ≠ I → b ∉ K.tabs → s.heap.get? b = some o → s'.heap.get? b = some o := fun b o hb ht e => y.keep b o ht (by simpa using hb) e
  have vw : ∀ b o, Vw O s.heap b o → Vw O s'.heap b o := fun b o q => ⟨q.1, k1 b o (fun e => q.1 (e ▸ hI)) (fun e => q.1 (tO b e)) q.2⟩
  refine ⟨⟨st, S.sub, lv, S.LO, let ⟨mL, hm⟩ := S.nsL; ⟨mL, hm.at' fun o e => k1 _ o hL C.Ltab e⟩, fun n a e => ?_, fun x hx X hX => ?_, S.own, S.ownne, fun z hz x hX h => ?_⟩, vw⟩
  · obtain ⟨⟨v, o, ho, hd⟩, hO⟩ := S.cell n a e
    exact ⟨⟨v, o, k1 a o (hc n a e) (C.ctab e) ho, hd⟩, hO⟩
  · obtain ⟨n, h1, h2, h3⟩ := S.vars x hx X hX
    refine ⟨n, h1, ?_, RX.write hI k1 tO (fun hown => let ⟨l, hl⟩ := hown; hne x hx l (hl ▸ hX)) h3⟩
    rcases h2 with ⟨h1, h2, m', hm', hv'⟩ | ⟨h1, b, hb, h2, o, ho, hd⟩
    · exact .inl ⟨h1, h2, m', hm'.at' fun o e => k1 _ o hL h2 e, hv'⟩
    · exact .inr ⟨h1, b, hb, h2, o, k1 b o (hc _ b hb) h2 ho, hd⟩
  · obtain ⟨h1, b, d, h2, h3, h4, h5⟩ := S.bnd z hz x hX h
    exact ⟨h1, b, d, h2, h3, h4, (vw b _ ⟨h4, h5⟩).2⟩

/-- the same, and the object is let go -/
theorem Sm.sideDrop (C : Ct K c env s₀ O₀) (S : Sm K sa c env s₀ O₀ O V ρ s) {I : Addr} (hI : I ∈ O) (hI0 : s₀.heap.get? I = none) (hI00 : I ∉ O₀) (hL : env.locals ≠ I) (hc : ∀ n a, env.cells.lookup n = some a → a ≠ I) (hne : ∀ x ∈ c.vis, ∀ l, getV ρ x = some (.own l) → V x ≠ .ref I)
    (y : StepB K [I] s s') : ∃ O', Sm K sa c env s₀ O₀ O' V ρ s' ∧ ∀ b o, Vw O s.heap b o → Vw O' s'.heap b o := by
  have st := StepB.after S.step y fun b hb => by rw [List.mem_singleton.mp hb]; exact hI0
  have tO := S.tO C
  have k1 : ∀ b o, b ≠ I → b ∉ K.tabs → s.heap.get? b = some o → s'.heap.get? b = some o := fun b o hb ht e => y.keep b o ht (by simpa using hb) e
  have inO : ∀ {b}, b ∈ O → b ≠ I → b ∈ O.filter (· != I) := fun {b} hb hne => List.mem_filter.mpr ⟨hb, by simpa using hne⟩
  have outO : ∀ {b}, b ∉ O → b ∉ O.filter (· != I) := fun {b} hb q => hb (List.mem_filter.mp q).1
  have neI : ∀ {b}, b ∈ O.filter (· != I) → b ≠ I := fun {b} hb => by simpa using (List.mem_filter.mp hb).2
  have vw : ∀ b o, Vw O s.heap b o → Vw (O.filter (· != I)) s'.heap b o := fun b o q => ⟨outO q.1, k1 b o (fun e => q.1 (e ▸ hI)) (fun e => q.1 (tO b e)) q.2⟩
  refine ⟨O.filter (· != I), ⟨st, fun b hb => inO (S.sub b hb) (fun q => hI00 (q ▸ hb)), fun b hb => ?_, inO S.LO hL, let ⟨mL, hm⟩ := S.nsL; ⟨mL, hm.at' fun o e => k1 _ o hL C.Ltab e⟩, fun n a e => ?_, fun x hx X hX => ?_, S.own, S.ownne, fun z hz x hX h => ?_⟩, vw⟩
  · by_cases ht : b ∈ K.tabs
    · exact K.live _ (C.st0.step C.base st).tinv b ht
    · obtain ⟨o, ho⟩ := S.live b (List.mem_filter.mp hb).1
      exact ⟨o, k1 b o (neI hb) ht ho⟩
  · obtain ⟨⟨v, o, ho, hd⟩, hO⟩ := S.cell n a e
    exact ⟨⟨v, o, k1 a o (hc n a e) (C.ctab e) ho, hd⟩, inO hO (hc n a e)⟩
  · obtain ⟨n, h1, h2, h3⟩ := S.vars x hx X hX
    refine ⟨n, h1, ?_, ?_⟩
    · rcases h2 with ⟨h1, h2, m', hm', hv'⟩ | ⟨h1, b, hb, h2, o, ho, hd⟩
      · exact .inl ⟨h1, h2, m', hm'.at' fun o e => k1 _ o hL h2 e, hv'⟩
      · exact .inr ⟨h1, b, hb, h2, o, k1 b o (hc _ b hb) h2 ho, hd⟩
    · cases X with
      | d d => exact VR.mono vw h3
      | own lz =>
        obtain ⟨b, vz, kz, hb, hg, hvz, hbO, hbT⟩ := h3
        have hbI : b ≠ I := fun q => hne x hx lz hX (by rw [hb, q])
        exact ⟨b, vz, kz, hb, k1 b _ hbI hbT hg, hvz.mono vw, inO hbO hbI, hbT⟩
      | bnd _ => trivial
  · obtain ⟨h1, b, d, h2, h3, h4, h5⟩ := S.bnd z hz x hX h
    exact ⟨h1, b, d, h2, h3, outO h4, (vw b _ ⟨h4, h5⟩).2⟩

theorem asF_some {x : X} {l : List D} (h : asF x = some l) : x = .d (.lst l) := by
  unfold asF at h
  split at h <;> simp_all

/-- a walk over the items of a list that turns no more; gd: the assignment of a turn's item, as the mini text does it -/
theorem for_core {target : Expr} {body : List Stmt} {b : T} {gd : D → Env → Option Env} {l : List D} {n : Nat} {I : Addr} {fp : List Addr} {P : Nat → Value → Prop} {St' : Nat → Heap → Prop} {fuel : Nat}
    (r : Rm A m) (C : Ct K c env s₀ O₀) (S : Sm K sa c env s₀ O₀ O V ρ s) (W : Walks K.prog K.w A I fp [I] n P St') (hn : n = l.length) (hst : St' 0 s.heap) (hI : I ∈ O) (hI0 : s₀.heap.get? I = none) (hI00 : I ∉ O₀) (hL : env.locals ≠ I) (hc : ∀ n a, env.cells.lookup n = some a → a ≠ I)
    (hne : ∀ x ∈ c.vis, ∀ l, getV ρ x = some (.own l) → V x ≠ .ref I) (hIl : ∀ i h, St' i h → ∃ x, h.get? I = some x) (hfp : ∀ b ∈ fp, b = I ∨ ∃ o, Vw O s.heap b o)
    (hP : ∀ i v d, P i v → l[i]? = some d → VR sa (Vw O s.heap) v d)
    (h2 : ExOk K m prim c b (.many body))
    (asn : ∀ (O₁ : List Addr) (s₁ : Shared) (V₁ : Nat → Value) (ρ₁ ρ₂ : Env) (O₀' : List Addr) i v d, Ct K c env s₀ O₀' → Sm K sa c env s₀ O₀' O₁ V₁ ρ₁ s₁ → St' (i + 1) s₁.heap → VR sa (Vw O₁ s₁.heap) v d → gd d ρ₁ = some ρ₂ →
      wpAny (M K) A (letOwnedTupleGo target (.ref I) v) (fun _ s₁' => wpAny (M K) A (assign target env v) (fun _ s₂ => ∃ V₂, Sm K sa c env s₀ O₀' O₁ V₂ ρ₂ s₂ ∧ Ext K O₀' O₁ s₁ O₁ s₂) NoE s₁') NoE s₁)
    (h : forN (fun d ρ => do evalS prim fuel b (← gd d ρ)) l ρ = some (fl, ρ')) {R : Result → Shared → Prop} (hR : ∀ f s', Out K sa c env s₀ O₀ O s fl ρ' f s' → R (.ok f) s') :
    codeAny (M K) A (.forLoop target (.ref I) body [] env) R s := by
  have C' := C.more hL hc
  refine codeAny_forLoop_any (fun k s' => ∃ i O1 V1 ρ1, k = n + 1 - i ∧ i ≤ n ∧ Sm K sa c env s₀ (I :: O₀) O1 V1 ρ1 s' ∧ Ext K O₀ O s O1 s' ∧ St' i s'.heap ∧ forN (fun d ρ => do evalS prim fuel b (← gd d ρ)) (l.drop i) ρ1 = some (fl, ρ')) ?_ (n + 1)
    ⟨0, O, V, ρ, rfl, Nat.zero_le _, S.more hI hne, .refl, hst, by simpa using h⟩
  rintro k s' ⟨i, O1, V1, ρ1, rfl, hi, S1, x1, hst1, hf⟩
  have hI1 : I ∈ O1 := S1.sub I List.mem_cons_self
  have hne1 : ∀ x ∈ c.vis, ∀ l, getV ρ1 x = some (.own l) → V1 x ≠ .ref I := fun x hx l hl e => (S1.own x hx l hl I e).2 List.mem_cons_self
  have hIt : I ∉ K.tabs := new_tab C.st0.tinv hI0
  have less : ∀ b ∈ O₀, b ∈ I :: O₀ := fun b hb => List.mem_cons_of_mem _ hb
  by_cases hlt : i < n
  · refine toks (W.item i _ _ _ hlt hst1 fun v h₂ tk₂ hPv hst₂ hk₂ => fun htk => ?_)
    have stI : StepB K [I] s' { s' with heap := h₂, toks := tk₂ } := StepB.of (fun b hb => by rw [List.mem_singleton.mp hb]; exact hIt) hk₂ htk
    obtain ⟨S2, vw2⟩ := S1.side C' hI1 hI0 hL hc hne1 stI (hIl _ _ hst₂)
    have x2 : Ext K O₀ O1 s' O1 { s' with heap := h₂, toks := tk₂ } := ⟨vw2, fun b hb ht o e => stI.keep b o ht (by rw [List.mem_singleton]; rintro rfl; exact hI00 hb) e⟩
    have hlt' : i < l.length := by omega
    rw [List.drop_eq_getElem_cons hlt'] at hf
    simp only [forN] at hf
    obtain ⟨⟨f1, ρ3⟩, hf1, hf⟩ := ob hf
    obtain ⟨ρ2, hg, hf1⟩ := ob hf1
    have hv : VR sa (Vw O1 h₂) v l[i] := (hP i v l[i] hPv (by simp [hlt'])).mono fun b o q => vw2 b o (x1.vw b o q)
    refine lift (asn O1 _ V1 ρ1 ρ2 (I :: O₀) i v l[i] C' S2 hst₂ hv hg) fun _ s3 q => lift q fun _ s4 q => ?_
    obtain ⟨V2, S4, x4⟩ := q
    refine lift (h2 sa A env s₀ (I :: O₀) O1 V2 ρ2 s4 fuel f1 ρ3 r C' S4 hf1) fun f s5 q => ?_
    cases f1 with
    | next =>
      obtain ⟨rfl, O5, V5, S5, x5⟩ := q
      have xx : Ext K (I :: O₀) O1 { s' with heap := h₂, toks := tk₂ } O5 s5 := x4.trans x5
      refine ⟨n + 1 - (i + 1), by omega, i + 1, O5, V5, ρ3, rfl, hlt, S5, (x1.trans x2).trans (xx.less less), ?_, hf⟩
      refine W.frame _ _ _ hst₂ fun b hb o e => ?_
      rcases hfp b hb with rfl | ⟨obj, hob⟩
      · exact xx.old b List.mem_cons_self hIt o e
      · have h6 := vw2 b obj (x1.vw b obj hob)
        have e' : h₂.get? b = some o := e
        rw [h6.2] at e'; cases e'
        exact (xx.vw b o h6).2
    | brk =>
      cases opure hf
      obtain ⟨rfl, O5, V5, S5, x5⟩ := q
      exact hR _ _ ⟨rfl, O5, V5, S5.fewer, (x1.trans x2).trans ((x4.trans x5).less less)⟩
    | ret d =>
      cases opure hf
      obtain ⟨v', rfl, st, hv'⟩ := q
      exact hR _ _ ⟨v', rfl, st, VR.mono (fun b o q => ⟨fun e => q.1 (List.mem_cons_of_mem _ e), q.2⟩) hv'⟩
  · obtain rfl : i = n := Nat.le_antisymm hi (Nat.not_lt.mp hlt)
    refine toks (W.done _ _ _ hst1 fun h₂ tk₂ hk₂ => fun htk => ?_)
    have stI : StepB K [I] s' { s' with heap := h₂, toks := tk₂ } := StepB.of (fun b hb => by rw [List.mem_singleton.mp hb]; exact hIt) hk₂ htk
    obtain ⟨O', S2, vw2⟩ := S1.fewer.sideDrop C hI1 hI0 hI00 hL hc hne1 stI
    rw [List.drop_eq_nil_of_le (by omega)] at hf
    cases hf
    exact wpAny_execs_nil (env := env) (hR _ _ ⟨rfl, O', V1, S2, x1.trans ⟨vw2, fun b hb ht o e => stI.keep b o ht (by rw [List.mem_singleton]; rintro rfl; exact hI00 hb) e⟩⟩)

/-- the assignment to one name of the call's -/
theorem put_name (C : Ct K c env s₀ O₀) (S : Sm K sa c env s₀ O₀ O V ρ s) {x : Nat} {n : Str} {p : Pos} {v : Value} {d : D} (hx : x ∈ c.vis) (hn : c.nm[x]? = some n) (hv : VR sa (Vw O s.heap) v d)
    {Q : Unit → Shared → Prop} {E : Value → Shared → Prop} (h : ∀ V' s', Sm K sa c env s₀ O₀ O V' (setV ρ x (.d d)) s' → Ext K O₀ O s O s' → Q () s') : wpAny (M K) A (assign (.Name n p) env v) Q E s :=
  wpAny_assign_Name (S.put C hx hn hv h)

/-- what a walk over a frozen list starts with -/
theorem for_list {target : Expr} {body : List Stmt} {b : T} {gd : D → Env → Option Env} {l : List D} {fuel : Nat} {v : Value} (r : Rm A m) (C : Ct K c env s₀ O₀) (S : Sm K sa c env s₀ O₀ O V ρ s) (rv : VR sa (Vw O s.heap) v (.lst l))
    (h2 : ExOk K m prim c b (.many body))
    (asn : ∀ (O₁ : List Addr) (s₁ : Shared) (V₁ : Nat → Value) (ρ₁ ρ₂ : Env) (O₀' : List Addr) I v d, Ct K c env s₀ O₀' → Sm K sa c env s₀ O₀' O₁ V₁ ρ₁ s₁ → (∃ l i, s₁.heap.IsListIter I l i) → VR sa (Vw O₁ s₁.heap) v d → gd d ρ₁ = some ρ₂ →
      wpAny (M K) A (letOwnedTupleGo target (.ref I) v) (fun _ s₁' => wpAny (M K) A (assign target env v) (fun _ s₂ => ∃ V₂, Sm K sa c env s₀ O₀' O₁ V₂ ρ₂ s₂ ∧ Ext K O₀' O₁ s₁ O₁ s₂) NoE s₁') NoE s₁)
    (h : forN (fun d ρ => do evalS prim fuel b (← gd d ρ)) l ρ = some (fl, ρ')) {R : Result → Shared → Prop} (hR : ∀ f s', Out K sa c env s₀ O₀ O s fl ρ' f s' → R (.ok f) s') :
    wpAny (M K) A (pyIter v) (fun it s₂ => codeAny (M K) A (.forLoop target it body [] env) R s₂) NoE s := by
  obtain ⟨ax, items, k, rfl, hax, hit⟩ := VR.list rv
  refine wpAny_pyIter_list (isList_of hax.2) ?_
  obtain ⟨S1, x1⟩ := S.add C (s' := { s with heap := s.heap.push { cls := .type "list_iterator", data := .fields #[.ref ax, .int 0 0] } }) new_none (Step.push _) ⟨_, Heap.get?_push_size _ rfl⟩
  obtain ⟨h0, h1, ht⟩ := S0_none S C (new_none (h := s.heap))
  refine for_core (fp := [s.heap.objs.size, ax]) (P := fun i v => items[i]? = some v) (St' := fun i h => h.IsListIter s.heap.objs.size ax i ∧ h.IsList ax items) r C S1 (Walks.list r.handled _ ax (Nat.ne_of_lt (Heap.lt_size hax.2)) items) hit.1
    ⟨⟨_, Heap.get?_push_size _ rfl, rfl, rfl⟩, (isList_of hax.2).push _⟩ List.mem_cons_self h0 h1 (live_ne new_none (let ⟨m, o, _, _, ho, _⟩ := S.nsL; ⟨o, ho⟩)) (fun n a e => live_ne new_none (let ⟨⟨v, o, ho, _⟩, _⟩ := S.cell n a e; ⟨o, ho⟩))
    (fun x hx l' hl' e => ?_) (fun i h q => let ⟨o, ho, _⟩ := q.1; ⟨o, ho⟩) (fun b hb => ?_) (fun i v d hP hd => (hit.2 i v d hP hd).mono x1.vw) h2
    (fun O₁ s₁ V₁ ρ₁ ρ₂ O₀' i v d C' S' hst hv hg => asn O₁ s₁ V₁ ρ₁ ρ₂ O₀' _ v d C' S' ⟨_, _, hst.1⟩ hv hg) h (fun f s' q => hR f s' (q.after x1))
  · obtain ⟨_, _, _, a, vs, k', hV, hg, _⟩ := S.vars x hx _ hl'
    rw [hV] at e; cases e
    exact live_ne new_none ⟨_, hg⟩ rfl
  · simp only [List.mem_cons, List.mem_nil_iff, or_false] at hb
    rcases hb with rfl | rfl
    · exact .inl rfl
    · exact .inr ⟨_, x1.vw _ _ hax⟩

theorem ex_for1 {x : Nat} {n : Str} {e : E} {t : Expr} {b : T} {body : List Stmt} {p p' : Pos} (hx : x ∈ c.vis) (hn : c.nm[x]? = some n) (h1 : EvOk K m prim c e t) (pt : Plain t) (h2 : ExOk K m prim c b (.many body)) :
    ExOk K m prim c (.for1 x e b) (.one (.For (.Name n p) t body [] p')) := fun sa A env s₀ O₀ O V ρ s fuel fl ρ' r C S h => by
  simp only [evalS] at h
  obtain ⟨y, hy, h⟩ := ob h
  obtain ⟨l, hl, h⟩ := ob h
  cases asF_some hl
  refine wpAny_For (h1.at C S r hy fun v s1 rv S1 x1 st => ?_) (fun x => pt.fold env x)
  refine lift (for_list (gd := fun d ρ => some (setV ρ x (.d d))) (R := fun rr s' => match rr with | .ok f => Out K sa c env s₀ O₀ O s fl ρ' f s' | .error _ => False) (target := .Name n p) r C S1 rv h2 (fun O₁ s₁ V₁ ρ₁ ρ₂ O₀' I v d C' S' _ hv hg => ?_) h fun f s' q => q.after x1) fun it s2 q => codeAny_mono q fun rr s' q => ?_
  · cases hg
    exact wpAny_pure (put_name C' S' hx hn hv fun V' s' S2 x2 => ⟨V', S2, x2⟩)
  · cases rr with
    | ok f => exact q
    | error _ => exact q.elim
theorem put_pair (r : Rm A m) (C : Ct K c env s₀ O₀) (S : Sm K sa c env s₀ O₀ O V ρ s) {x y : Nat} {n₁ n₂ : Str} {px py tp : Pos} {tk : Nat} {v : Value} {a b : D} (hx : x ∈ c.vis) (hn : c.nm[x]? = some n₁) (hy : y ∈ c.vis) (hn' : c.nm[y]? = some n₂) (hv : VR sa (Vw O s.heap) v (.tup a b)) :
    wpAny (M K) A (assign (.Tuple [.Name n₁ px, .Name n₂ py] tk tp) env v) (fun _ s₂ => ∃ V₂, Sm K sa c env s₀ O₀ O V₂ (setV (setV ρ x (.d a)) y (.d b)) s₂ ∧ Ext K O₀ O s O s₂) NoE s := by
  obtain ⟨T, u1, u2, nt, rfl, hT, r1, r2⟩ := VR.pair hv
  refine assign_Tuple_tuple r.handled ⟨_, hT.2, rfl, nt, rfl⟩ rfl rfl fun h5 he => ?_
  have he' : ∀ b o, s.heap.get? b = some o → h5.get? b = some o := fun b o e => he b o (Nat.ne_of_lt (Heap.lt_size e)) e
  have st : Step K s { s with heap := h5 } := Step.of (tk := s.toks) he' (Nat.le_refl _)
  refine assignInOrder_cons (put_name C (S.next C st) hx hn (VR.step (S.tO C) st r1) fun V1 s1 S1 x1 => ?_)
  refine assignInOrder_cons (put_name C S1 hy hn' (VR.mono x1.vw (VR.step (S.tO C) st r2)) fun V2 s2 S2 x2 => assignInOrder_nil ⟨V2, S2, ((Ext.of (S.tO C) st).trans x1).trans x2⟩)
noncomputable def gd2 (x y : Nat) (d : D) (ρ : Env) : Option Env := match d with
  | .tup u v => some (setV (setV ρ x (.d u)) y (.d v))
  | _ => none
theorem ex_for2 {x y : Nat} {n₁ n₂ : Str} {e : E} {t : Expr} {b : T} {body : List Stmt} {px py tp p' : Pos} {tk : Nat} (hx : x ∈ c.vis) (hn : c.nm[x]? = some n₁) (hy : y ∈ c.vis) (hn' : c.nm[y]? = some n₂) (h1 : EvOk K m prim c e t) (pt : Plain t) (h2 : ExOk K m prim c b (.many body)) :
    ExOk K m prim c (.for2 x y e b) (.one (.For (.Tuple [.Name n₁ px, .Name n₂ py] tk tp) t body [] p')) := fun sa A env s₀ O₀ O V ρ s fuel fl ρ' r C S h => by
  simp only [evalS] at h
  obtain ⟨z, hz, h⟩ := ob h
  obtain ⟨l, hl, h⟩ := ob h
  cases asF_some hl
  have h' : forN (fun d ρ => do evalS prim fuel b (← gd2 x y d ρ)) l ρ = some (fl, ρ') := by
    rw [← h]
    congr 1
    funext d ρ
    cases d <;> rfl
  refine wpAny_For (h1.at C S r hz fun v s1 rv S1 x1 st => ?_) (fun x => pt.fold env x)
  refine lift (for_list (gd := gd2 x y) (R := fun rr s' => match rr with | .ok f => Out K sa c env s₀ O₀ O s fl ρ' f s' | .error _ => False) (target := .Tuple [.Name n₁ px, .Name n₂ py] tk tp) r C S1 rv h2 (fun O₁ s₁ V₁ ρ₁ ρ₂ O₀' I v d C' S' hI hv hg => ?_) h' fun f s' q => q.after x1) fun it s2 q => codeAny_mono q fun rr s' q => ?_
  · cases d with
    | tup u w =>
      cases hg
      obtain ⟨T, u1, u2, nt, rfl, _⟩ := VR.pair hv
      obtain ⟨ll, ii, hit⟩ := hI
      exact wpAny_letOwnedTupleGo_listiter hit (put_pair r C' S' hx hn hy hn' hv)
    | _ => cases hg
  · cases rr with
    | ok f => exact q
    | error _ => exact q.elim
theorem ex_unp {x y : Nat} {n₁ n₂ : Str} {e : E} {t : Expr} {px py tp p' : Pos} {tk : Nat} (hx : x ∈ c.vis) (hn : c.nm[x]? = some n₁) (hy : y ∈ c.vis) (hn' : c.nm[y]? = some n₂) (h1 : EvOk K m prim c e t)
    (hs : ∀ tg l env, swapsWithSole [tg] t l env = pure false) (hw : ∀ env tg, swappedStores [.Tuple tg tk tp] t env = pure none) :
    ExOk K m prim c (.unp x y e) (.one (.Assign [.Tuple [.Name n₁ px, .Name n₂ py] tk tp] t p')) := fun sa A env s₀ O₀ O V ρ s fuel fl ρ' r C S h => by
  simp only [evalS] at h
  obtain ⟨z, hz, h⟩ := ob h
  obtain ⟨d, hd, h⟩ := ob h
  cases asD_some hd
  cases d with
  | tup u v =>
    cases opure h
    exact Assign_Tuple (h1.at C S r hz fun v s1 rv S1 x1 st => lift (put_pair r C S1 hx hn hy hn' rv) fun _ s2 q => let ⟨V2, S2, x2⟩ := q; ⟨rfl, O, V2, S2, x1.trans x2⟩) (hs _ _ _) (hw _ _)
  | _ => cases h
end
end Mini
end

section
open PySem PySem.Spec PySem.Calls PyProof.Rows PySem.W PySem.Builtin PySem.Builtin.Str PySem.StrLaws
set_option maxRecDepth 100000
namespace Mini
section
variable {K : Wd} {G : Gl K} {m : Nat} {prim : Nat → List D → Option D} {c : Cx} {sa : Addr} {A : Around} {env : PySem.Env} {s₀ s s' : Shared} {O₀ O : List Addr} {V : Nat → Value} {ρ ρ' : Env} {fl : Fl}

/-- two iterators are kept apart -/
structure Apart (K : Wd) (c : Cx) (env : PySem.Env) (s₀ : Shared) (O₀ O : List Addr) (V : Nat → Value) (ρ : Env) (I : Addr) : Prop where
  mem : I ∈ O
  new : s₀.heap.get? I = none
  out : I ∉ O₀
  loc : env.locals ≠ I
  cell : ∀ n a, env.cells.lookup n = some a → a ≠ I
  own : ∀ x ∈ c.vis, ∀ l, getV ρ x = some (.own l) → V x ≠ .ref I

theorem Sm.apart (C : Ct K c env s₀ O₀) (S : Sm K sa c env s₀ O₀ O V ρ s) {a : Addr} (ha : s.heap.get? a = none) {O' : List Addr} (hm : a ∈ O') : Apart K c env s₀ O₀ O' V ρ a := by
  obtain ⟨h0, h1, ht⟩ := S0_none S C ha
  refine ⟨hm, h0, h1, live_ne ha (let ⟨m, o, _, _, ho, _⟩ := S.nsL; ⟨o, ho⟩), fun n b e => live_ne ha (let ⟨⟨v, o, ho, _⟩, _⟩ := S.cell n b e; ⟨o, ho⟩), fun x hx l' hl' e => ?_⟩
  obtain ⟨_, _, _, a, vs, k', hV, hg, _⟩ := S.vars x hx _ hl'
  rw [hV] at e; cases e
  exact live_ne ha ⟨_, hg⟩ rfl

theorem Sm.addL (C : Ct K c env s₀ O₀) (S : Sm K sa c env s₀ O₀ O V ρ s) {as : List Addr} (ha : ∀ a ∈ as, s.heap.get? a = none) (y : Step K s s') (hl : ∀ a ∈ as, ∃ o, s'.heap.get? a = some o) : Sm K sa c env s₀ O₀ (as ++ O) V ρ s' ∧ Ext K O₀ O s (as ++ O) s' := by
  have S' := S.next C y
  have vw : ∀ b o, Vw O s.heap b o → Vw (as ++ O) s'.heap b o := fun b o q => ⟨by rw [List.mem_append, not_or]; exact ⟨fun h => live_ne (ha b h) ⟨o, q.2⟩ rfl, q.1⟩, y.keep b o (fun e => q.1 (S.tO C b e)) q.2⟩
  have inr : ∀ {b}, b ∈ O → b ∈ as ++ O := fun h => List.mem_append.mpr (.inr h)
  refine ⟨⟨S'.step, fun b hb => inr (S.sub b hb), fun b hb => ?_, inr S.LO, S'.nsL, fun n b h => ⟨(S'.cell n b h).1, inr (S.cell n b h).2⟩, fun x hx X hX => ?_, S.own, S.ownne, fun z hz x hX h => ?_⟩,
    vw, fun b hb ht o e => y.keep b o ht e⟩
  · rcases List.mem_append.mp hb with hb | hb
    · exact hl b hb
    · exact S'.live b hb
  · obtain ⟨n, h1, h2, h3⟩ := S.vars x hx X hX
    exact ⟨n, h1, h2.step y, h3.mono vw fun b o hb ht e => ⟨inr hb, y.keep b o ht e⟩⟩
  · obtain ⟨h1, b, d, h2, h3, h4, h5⟩ := S.bnd z hz x hX h
    exact ⟨h1, b, d, h2, h3, (vw b _ ⟨h4, h5⟩).1, (vw b _ ⟨h4, h5⟩).2⟩

theorem Sm.sideB (C : Ct K c env s₀ O₀) (S : Sm K sa c env s₀ O₀ O V ρ s) {B : List Addr} (hB : ∀ I ∈ B, I ∈ O ∧ s₀.heap.get? I = none ∧ env.locals ≠ I ∧ (∀ n a, env.cells.lookup n = some a → a ≠ I) ∧ ∀ x ∈ c.vis, ∀ l, getV ρ x = some (.own l) → V x ≠ .ref I)
    (y : StepB K B s s') (hl : ∀ I ∈ B, ∃ o, s'.heap.get? I = some o) : Sm K sa c env s₀ O₀ O V ρ s' ∧ ∀ b o, Vw O s.heap b o → Vw O s'.heap b o := by
  have st := StepB.after S.step y fun b hb => (hB b hb).2.1
  have tO := S.tO C
  have vw : ∀ b o, Vw O s.heap b o → Vw O s'.heap b o := fun b o q => ⟨q.1, y.keep b o (fun e => q.1 (tO b e)) (fun e => q.1 (hB b e).1) q.2⟩
  have hL : env.locals ∉ B := fun q => (hB _ q).2.2.1 rfl
  have hc : ∀ n a, env.cells.lookup n = some a → a ∉ B := fun n a e q => (hB a q).2.2.2.1 n a e rfl
  refine ⟨⟨st, S.sub, fun b hb => ?_, S.LO, let ⟨mL, hm⟩ := S.nsL; ⟨mL, hm.at' fun o e => y.keep _ o C.Ltab hL e⟩, fun n a e => ?_, fun x hx X hX => ?_, S.own, S.ownne, fun z hz x hX h => ?_⟩, vw⟩
  · by_cases ht : b ∈ K.tabs
    · exact K.live _ (C.st0.step C.base st).tinv b ht
    · by_cases hbB : b ∈ B
      · exact hl b hbB
      · obtain ⟨o, ho⟩ := S.live b hb
        exact ⟨o, y.keep b o ht hbB ho⟩
  · obtain ⟨⟨v, o, ho, hd⟩, hO⟩ := S.cell n a e
    exact ⟨⟨v, o, y.keep a o (C.ctab e) (hc n a e) ho, hd⟩, hO⟩
  · obtain ⟨n, h1, h2, h3⟩ := S.vars x hx X hX
    refine ⟨n, h1, ?_, ?_⟩
    · rcases h2 with ⟨h1, h2, m', hm', hv'⟩ | ⟨h1, b, hb, h2, o, ho, hd⟩
      · exact .inl ⟨h1, h2, m', hm'.at' fun o e => y.keep _ o h2 hL e, hv'⟩
      · exact .inr ⟨h1, b, hb, h2, o, y.keep b o h2 (hc _ b hb) ho, hd⟩
    · cases X with
      | d d => exact VR.mono vw h3
      | own lz =>
        obtain ⟨b, vz, kz, hb, hg, hvz, hbO, hbT⟩ := h3
        exact ⟨b, vz, kz, hb, y.keep b _ hbT (fun q => (hB b q).2.2.2.2 x hx lz hX hb) hg, hvz.mono vw, hbO, hbT⟩
      | bnd _ => trivial
  · obtain ⟨h1, b, d, h2, h3, h4, h5⟩ := S.bnd z hz x hX h
    exact ⟨h1, b, d, h2, h3, h4, (vw b _ ⟨h4, h5⟩).2⟩

/-- a walk over an enumerate -/
theorem for_enum {target : Expr} {body : List Stmt} {b : T} {gd : Nat → D → Env → Option Env} {l : List D} {e it ax : Addr} {items : Array Value} {k fuel : Nat}
    (r : Rm A m) (C : Ct K c env s₀ O₀) (S : Sm K sa c env s₀ O₀ O V ρ s) (ae : Apart K c env s₀ O₀ O V ρ e) (ai : Apart K c env s₀ O₀ O V ρ it) (hei : e ≠ it) (hax : Vw O s.heap ax (lstO items k)) (hv : VRs sa (Vw O s.heap) items l)
    (he : IsEnum s.heap e it 0 .none) (hit : s.heap.IsListIter it ax 0)
    (h2 : ExOk K m prim c b (.many body)) {tk : Nat} {tp : Pos} {elts : List Expr} (htg : target = .Tuple elts tk tp)
    (asn : ∀ (O₁ : List Addr) (s₁ : Shared) (V₁ : Nat → Value) (ρ₁ ρ₂ : Env) (O₀' : List Addr) (i : Nat) t v d T, Ct K c env s₀ O₀' → Sm K sa c env s₀ O₀' O₁ V₁ ρ₁ s₁ → s₁.heap.IsTuple T #[.int i t, v] → VR sa (Vw O₁ s₁.heap) v d → gd i d ρ₁ = some ρ₂ →
      wpAny (M K) A (assign target env (.ref T)) (fun _ s₂ => ∃ V₂, Sm K sa c env s₀ O₀' O₁ V₂ ρ₂ s₂ ∧ Ext K O₀' O₁ s₁ O₁ s₂) NoE s₁)
    {bd : D → Env → Option (Fl × Env)} (hbd : ∀ (i : Nat) d ρ, bd (.tup (.int i) d) ρ = (do evalS prim fuel b (← gd i d ρ)))
    (h : forN bd (enum 0 l) ρ = some (fl, ρ')) {R : Result → Shared → Prop} (hR : ∀ f s', Out K sa c env s₀ O₀ O s fl ρ' f s' → R (.ok f) s') :
    codeAny (M K) A (.forLoop target (.ref e) body [] env) R s := by
  subst htg
  have hae : ax ≠ e := fun q => hax.1 (q ▸ ae.mem)
  have hai : ax ≠ it := fun q => hax.1 (q ▸ ai.mem)
  have W := WalksT.enumerate (prog := K.prog) (w := K.w) r.handled e it ax hei hae hai items
  have C1 := C.more ai.loc ai.cell
  have C2 := C1.more ae.loc ae.cell
  have S1 := S.more ai.mem ai.own
  have S2 := S1.more ae.mem ae.own
  have het : e ∉ K.tabs := new_tab C.st0.tinv ae.new
  have hitt : it ∉ K.tabs := new_tab C.st0.tinv ai.new
  have less : ∀ b ∈ O₀, b ∈ e :: it :: O₀ := fun b hb => List.mem_cons_of_mem _ (List.mem_cons_of_mem _ hb)
  have hn : items.size = l.length := hv.1
  refine codeAny_forLoop_any (fun k' s' => ∃ i O1 V1 ρ1, k' = l.length + 1 - i ∧ i ≤ l.length ∧ Sm K sa c env s₀ (e :: it :: O₀) O1 V1 ρ1 s' ∧ Ext K O₀ O s O1 s' ∧ ((∃ old, IsEnum s'.heap e it (i : Nat) old) ∧ s'.heap.IsListIter it ax i ∧ s'.heap.IsList ax items) ∧ forN bd (enum i (l.drop i)) ρ1 = some (fl, ρ')) ?_ (l.length + 1)
    ⟨0, O, V, ρ, rfl, Nat.zero_le _, S2, .refl, ⟨⟨_, he⟩, hit, isList_of hax.2⟩, by simpa using h⟩
  rintro k' s' ⟨i, O1, V1, ρ1, rfl, hi, S3, x1, hst1, hf⟩
  have he1 : e ∈ O1 := S3.sub e List.mem_cons_self
  have hi1 : it ∈ O1 := S3.sub it (List.mem_cons_of_mem _ List.mem_cons_self)
  have hB : ∀ I ∈ [e, it], I ∈ O1 ∧ s₀.heap.get? I = none ∧ env.locals ≠ I ∧ (∀ n a, env.cells.lookup n = some a → a ≠ I) ∧ ∀ x ∈ c.vis, ∀ l, getV ρ1 x = some (.own l) → V1 x ≠ .ref I := fun I hI => by
    simp only [List.mem_cons, List.mem_nil_iff, or_false] at hI
    rcases hI with rfl | rfl
    · exact ⟨he1, ae.new, ae.loc, ae.cell, fun x hx l hl q => (S3.own x hx l hl _ q).2 List.mem_cons_self⟩
    · exact ⟨hi1, ai.new, ai.loc, ai.cell, fun x hx l hl q => (S3.own x hx l hl _ q).2 (List.mem_cons_of_mem _ List.mem_cons_self)⟩
  have hBt : ∀ I ∈ [e, it], I ∉ K.tabs := fun I hI => new_tab C.st0.tinv (hB I hI).2.1
  by_cases hlt : i < l.length
  · refine toks (W.item i _ _ _ (by rw [hn]; exact hlt) hst1 fun T vals h₂ tk₂ hPv hsz hT hmid hk₂ => fun htk => ?_)
    obtain ⟨tt, xv, hxv, rfl⟩ := hPv
    have hTne : T ≠ e ∧ T ≠ it := ⟨hmid.2.2.2.1, hmid.2.2.2.2⟩
    refine W.go elts tk tp i T _ _ _ hmid fun h₃ hst₃ hk₃ => ?_
    have hk : ∀ b o, b ∉ [e, it] → s'.heap.get? b = some o → h₃.get? b = some o := fun b o hb q => hk₃ b o hb (hk₂ b o hb q)
    have y : StepB K [e, it] s' { s' with heap := h₃, toks := tk₂ } := StepB.of hBt hk htk
    obtain ⟨S4, vw4⟩ := S3.sideB C2 hB y fun I hI => by
      simp only [List.mem_cons, List.mem_nil_iff, or_false] at hI
      rcases hI with rfl | rfl
      · obtain ⟨old, ho⟩ := hst₃.1; exact ⟨_, ho⟩
      · obtain ⟨o, ho, _⟩ := hst₃.2.1; exact ⟨o, ho⟩
    have hT3 : h₃.IsTuple T #[.int i tt, xv] := by
      obtain ⟨o, ho, r1⟩ := hT
      exact ⟨o, hk₃ T o (by simpa using hTne) ho, r1⟩
    have x4 : Ext K O₀ O1 s' O1 { s' with heap := h₃, toks := tk₂ } := ⟨vw4, fun b hb ht o q => y.keep b o ht (by
      simp only [List.mem_cons, List.mem_nil_iff, or_false, not_or]
      exact ⟨fun q => ae.out (q ▸ hb), fun q => ai.out (q ▸ hb)⟩) q⟩
    rw [List.drop_eq_getElem_cons hlt] at hf
    simp only [Mini.enum, forN] at hf
    obtain ⟨⟨f1, ρ3⟩, hf1, hf⟩ := ob hf
    rw [hbd] at hf1
    obtain ⟨ρ2, hg, hf1⟩ := ob hf1
    have hvd : VR sa (Vw O1 h₃) xv l[i] := (hv.2 i xv l[i] hxv (by simp [hlt])).mono fun b o q => vw4 b o (x1.vw b o q)
    refine lift (asn O1 _ V1 ρ1 ρ2 (e :: it :: O₀) i tt xv l[i] T C2 S4 hT3 hvd hg) fun _ s5 q => ?_
    obtain ⟨V2, S5, x5⟩ := q
    refine lift (h2 sa A env s₀ (e :: it :: O₀) O1 V2 ρ2 s5 fuel f1 ρ3 r C2 S5 hf1) fun f s6 q => ?_
    cases f1 with
    | next =>
      obtain ⟨rfl, O6, V6, S6, x6⟩ := q
      have xx : Ext K (e :: it :: O₀) O1 { s' with heap := h₃, toks := tk₂ } O6 s6 := x5.trans x6
      refine ⟨l.length + 1 - (i + 1), by omega, i + 1, O6, V6, ρ3, rfl, hlt, S6, (x1.trans x4).trans (xx.less less), ?_, hf⟩
      refine W.frame _ _ _ hst₃ fun b hb o q => ?_
      simp only [List.mem_cons, List.mem_nil_iff, or_false] at hb
      rcases hb with rfl | rfl | rfl
      · exact xx.old _ List.mem_cons_self het o q
      · exact xx.old _ (List.mem_cons_of_mem _ List.mem_cons_self) hitt o q
      · have h6 := vw4 _ _ (x1.vw _ _ hax)
        have q' : h₃.get? _ = some o := q
        rw [h6.2] at q'; cases q'
        exact (xx.vw _ _ h6).2
    | brk =>
      cases opure hf
      obtain ⟨rfl, O6, V6, S6, x6⟩ := q
      exact hR _ _ ⟨rfl, O6, V6, S6.fewer.fewer, (x1.trans x4).trans ((x5.trans x6).less less)⟩
    | ret d =>
      cases opure hf
      obtain ⟨v', rfl, st, hv'⟩ := q
      exact hR _ _ ⟨v', rfl, st, VR.mono (fun b o q => ⟨fun e => q.1 (less b e), q.2⟩) hv'⟩
  · obtain rfl : i = l.length := Nat.le_antisymm hi (Nat.not_lt.mp hlt)
    rw [← hn] at hst1
    refine toks (wpAny_pyNext_enum_end r.handled (Classical.choose_spec hst1.1) hst1.2.1 hst1.2.2 (Array.getElem?_eq_none (Nat.le_refl _)) fun h₂ hx => fun htk => ?_)
    have y : StepB K [it] s' { s' with heap := h₂ } := StepB.of (tk := s'.toks) (fun b hb => by rw [List.mem_singleton.mp hb]; exact hitt) (fun b o hb q => hx b o (by simpa using hb) q) (Nat.le_refl _)
    obtain ⟨O', S6, vw6⟩ := S3.fewer.fewer.sideDrop C hi1 ai.new ai.out ai.loc ai.cell (hB it (by simp)).2.2.2.2 y
    rw [List.drop_eq_nil_of_le (Nat.le_refl _)] at hf
    cases hf
    exact wpAny_execs_nil (env := env) (hR _ _ ⟨rfl, O', V1, S6, x1.trans ⟨vw6, fun b hb ht o q => y.keep b o ht (by rw [List.mem_singleton]; rintro rfl; exact ai.out hb) q⟩⟩)

noncomputable def gdE (k x y : Nat) (i : Nat) (d : D) (ρ : Env) : Option Env := match d with
  | .tup u v => some (setV (setV (setV ρ k (.d (.int i))) x (.d u)) y (.d v))
  | _ => none
theorem ex_forEn {k x y : Nat} {nk n₁ n₂ : Str} {e : E} {t : Expr} {b : T} {body : List Stmt} {pk px py tp tp' p' q pc : Pos} {tk tk' : Nat} (G : Gl K) (he : c.gl "enumerate") (hk : k ∈ c.vis) (hnk : c.nm[k]? = some nk) (hx : x ∈ c.vis) (hn : c.nm[x]? = some n₁) (hy : y ∈ c.vis) (hn' : c.nm[y]? = some n₂) (h1 : EvOk K m prim c e t) (pt : Plain t) (h2 : ExOk K m prim c b (.many body)) :
    ExOk K m prim c (.forEn k x y e b) (.one (.For (.Tuple [.Name nk pk, .Tuple [.Name n₁ px, .Name n₂ py] tk' tp'] tk tp) (.Call (.Name "enumerate" q) [t] [] pc) body [] p')) := fun sa A env s₀ O₀ O V ρ s fuel fl ρ' r C S h => by
  simp only [evalS] at h
  obtain ⟨z, hz, h⟩ := ob h
  obtain ⟨l, hl, h⟩ := ob h
  cases asF_some hl
  refine wpAny_For (wpAny_Call_Name_kw (name_bi G (S.fm C) he G.enum (by decide) ?_)) (fun _ => rfl)
  rw [pt.star]
  refine PySem.callWith_type rfl (evalArgs_plain (spliced_cons (h1.at C S r hz fun v s1 rv S1 x1 st => spliced_nil ?_)))
  obtain ⟨ax, items, kk, rfl, hax, hv⟩ := VR.list rv
  refine call_enumerate_list (isList_of hax.2) fun h' hE hI hsz hkp => ?_
  have st2 : Step K s1 { s1 with heap := h' } := Step.of (tk := s1.toks) hkp (Nat.le_refl _)
  have nn : ∀ j, s1.heap.get? (s1.heap.objs.size + j) = none := fun j => by
    cases e : s1.heap.get? (s1.heap.objs.size + j) with
    | none => rfl
    | some o => have := Heap.lt_size e; exact absurd this (Nat.not_lt.mpr (Nat.le_add_right _ _))
  have hne1 : s1.heap.objs.size + 1 ≠ s1.heap.objs.size := Nat.succ_ne_self _
  obtain ⟨S4, x4⟩ := S1.addL C (as := [s1.heap.objs.size + 1, s1.heap.objs.size]) (fun a ha => by
      simp only [List.mem_cons, List.mem_nil_iff, or_false] at ha
      rcases ha with rfl | rfl
      · exact nn 1
      · exact nn 0) st2 (fun a ha => by
      simp only [List.mem_cons, List.mem_nil_iff, or_false] at ha
      rcases ha with rfl | rfl
      · exact ⟨_, hE⟩
      · obtain ⟨o, ho, _⟩ := hI; exact ⟨o, ho⟩)
  refine wpAny_pyIter_enum hE ?_
  refine codeAny_mono (for_enum (gd := gdE k x y) (fuel := fuel) (R := fun rr s' => match rr with | .ok f => Out K sa c env s₀ O₀ O s fl ρ' f s' | .error _ => False) r C S4 (S1.apart C (nn 1) (by simp)) (S1.apart C (nn 0) (by simp)) hne1 (x4.vw _ _ hax) (hv.mono x4.vw) hE hI h2 rfl (fun O₁ s₁ V₁ ρ₁ ρ₂ O₀' i tt v d T C' S' hT hv hg => ?_) (fun i d ρ => ?_) h fun f s' q => (q.after x4).after x1) fun rr s' q => ?_
  · cases d with
    | tup u w =>
      cases hg
      refine assign_Tuple_tuple r.handled hT rfl rfl fun h5 he => ?_
      have he' : ∀ b o, s₁.heap.get? b = some o → h5.get? b = some o := fun b o e => he b o (Nat.ne_of_lt (Heap.lt_size e)) e
      have st : Step K s₁ { s₁ with heap := h5 } := Step.of (tk := s₁.toks) he' (Nat.le_refl _)
      refine assignInOrder_cons (put_name C' (S'.next C' st) hk hnk (.int _ _) fun V1 s2 S2 x2 => ?_)
      refine assignInOrder_cons (lift (put_pair (tk := tk') (tp := tp') (px := px) (py := py) r C' S2 hx hn hy hn' (VR.mono x2.vw (VR.step (S'.tO C') st hv))) fun _ s3 q => assignInOrder_nil ?_)
      obtain ⟨V3, S3, x3⟩ := q
      exact ⟨V3, S3, ((Ext.of (S'.tO C') st).trans x2).trans x3⟩
    | _ => cases hg
  · cases d <;> rfl
  · cases rr with
    | ok f => exact q
    | error _ => exact q.elim
end
end Mini
end

section
open PySem PySem.Spec PySem.Calls PyProof.Rows PySem.W PySem.Builtin PySem.Builtin.Str PySem.StrLaws
set_option maxRecDepth 100000
namespace Mini
section
variable {K : Wd} {G : Gl K} {m : Nat} {prim : Nat → List D → Option D} {c : Cx} {sa : Addr} {A : Around} {env : PySem.Env} {s₀ s s' : Shared} {O₀ O : List Addr} {V : Nat → Value} {ρ ρ' : Env} {fl : Fl}

theorem size_down (i : Int) : Builtin.Range.rangeSize i 0 (-1) = (i.toNat : Int) := by
  unfold Builtin.Range.rangeSize
  rw [if_neg (by omega)]
  split
  · rw [show -(-1 : Int) = 1 by omega, Int.ediv_one]; omega
  · omega
theorem small_down {i : Int} (h1 : -1048576 ≤ i) (h2 : i ≤ 1048576) : Builtin.Range.small i 0 (-1) = true := by
  unfold Builtin.Range.small
  rw [size_down]
  simp only [Builtin.Range.rangeFitsLong, Bool.and_eq_true, Bool.or_eq_true, decide_eq_true_eq, beq_iff_eq, show ¬ (-1 : Int) > 0 by decide, if_false]
  omega

theorem ex_forDn {x : Nat} {n : Str} {e : E} {t : Expr} {b : T} {body : List Stmt} {p p' q pc p0 p1 p2 : Pos} {k0 k1 : Nat} (G : Gl K) (hr : c.gl "range") (hx : x ∈ c.vis) (hn : c.nm[x]? = some n) (h1 : EvOk K m prim c e t) (pt : Plain t) (h2 : ExOk K m prim c b (.many body)) :
    ExOk K m prim c (.forDn x e b) (.one (.For (.Name n p) (.Call (.Name "range" q) [t, .Constant (.int 0) k0 p0, .UnaryOp .USub (.Constant (.int 1) k1 p1) p2] [] pc) body [] p')) := fun sa A env s₀ O₀ O V ρ s fuel fl ρ' r C S h => by
  simp only [evalS] at h
  obtain ⟨y, hy, h⟩ := ob h
  obtain ⟨i, hi, g⟩ := ob h
  clear h
  split at g
  · cases g
  rename_i hb
  cases asI_some hi
  refine wpAny_For (wpAny_Call_Name_kw (name_bi G (S.fm C) hr G.range (by decide) ?_)) (fun _ => rfl)
  rw [pt.star, show starEach [.Constant (.int 0) k0 p0, .UnaryOp .USub (.Constant (.int 1) k1 p1) p2] env = [(false, eval (.Constant (.int 0) k0 p0) env), (false, eval (.UnaryOp .USub (.Constant (.int 1) k1 p1) p2) env)] from rfl,
    show backTo pc ((false, eval t env) :: [(false, eval (.Constant (.int 0) k0 p0) env), (false, eval (.UnaryOp .USub (.Constant (.int 1) k1 p1) p2) env)]) = [(false, eval t env), (false, eval (.Constant (.int 0) k0 p0) env), (false, eval (.UnaryOp .USub (.Constant (.int 1) k1 p1) p2) env)] from rfl]
  refine PySem.callWith_type rfl (evalArgs_plain (spliced_cons (h1.at C S r hy fun v s1 rv S1 x1 st => spliced_cons (wpAny_Constant_int (spliced_cons (UnaryOp_ (wpAny_Constant_int (P.neg_int (spliced_nil ?_)))))))))
  obtain ⟨ti, rfl⟩ := VR.num rv
  refine call_range_3 (by decide) ?_ (Or.inl (PyProof.noPylong_small (by omega)))
  have st2 : Step K s1 { s1 with heap := s1.heap.push { cls := .type "range", data := .fields #[.int i ti, .int 0 s1.toks, .int (-1) (s1.toks + 1 + 1)] }, toks := s1.toks + 1 + 1 + 1 } := Step.of (fun b o e => Heap.get?_push_of_some _ e) (by omega)
  have S2 := S1.next C st2
  have x2 : Ext K O₀ O s1 O _ := Ext.of (S1.tO C) st2
  refine wpAny_pyIter_range (Heap.get?_push_size _ rfl) (small_down (by omega) (by omega)) ?_
  generalize hs2 : ({ s1 with heap := s1.heap.push { cls := .type "range", data := .fields #[.int i ti, .int 0 s1.toks, .int (-1) (s1.toks + 1 + 1)] }, toks := s1.toks + 1 + 1 + 1 } : Shared) = s2 at S2 x2 st2
  have e2 : s1.heap.push { cls := .type "range", data := .fields #[.int i ti, .int 0 s1.toks, .int (-1) (s1.toks + 1 + 1)] } = s2.heap := by rw [← hs2]
  show codeAny _ _ _ _ _
  obtain ⟨S3, x3⟩ := S2.add C (s' := { s2 with heap := s2.heap.push { cls := .type "range_iterator", data := .fields #[rawInt i, rawInt (Builtin.Range.rangeSize i 0 (-1)), rawInt (-1)] } }) new_none (Step.push _) ⟨_, Heap.get?_push_size _ rfl⟩
  have ap := S2.apart C (O' := s2.heap.objs.size :: O) new_none List.mem_cons_self
  have fin := for_core (gd := fun d ρ => some (setV ρ x (.d d))) (n := i.toNat) (fuel := fuel) (R := fun rr s' => match rr with | .ok f => Out K sa c env s₀ O₀ O s fl ρ' f s' | .error _ => False) (target := .Name n p) r C S3 (Walks.range r.handled s2.heap.objs.size i (-1) i.toNat) (l := (List.range i.toNat).map fun (j : Nat) => D.int (i - (j : Int))) (by simp)
    (by show IsRangeIter _ _ _ _ _; have : IsRangeIter (s2.heap.push { cls := .type "range_iterator", data := .fields #[rawInt i, rawInt (Builtin.Range.rangeSize i 0 (-1)), rawInt (-1)] }) s2.heap.objs.size i (Builtin.Range.rangeSize i 0 (-1)) (-1) := Heap.get?_push_size _ rfl
        rw [size_down] at this; rw [size_down]; simpa using this)
    ap.mem ap.new ap.out ap.loc ap.cell ap.own (fun _ _ q => ⟨_, q⟩) (fun b hb => .inl (List.mem_singleton.mp hb))
    (fun j v d hP hd => by
      obtain ⟨tt, rfl⟩ := hP
      rw [List.getElem?_map] at hd
      have hj : j < i.toNat := by
        rcases Nat.lt_or_ge j i.toNat with q | q
        · exact q
        · rw [List.getElem?_eq_none (by simpa using q)] at hd; cases hd
      rw [List.getElem?_range hj] at hd
      cases hd
      rw [show i + (j : Int) * -1 = i - (j : Int) by omega]
      exact .int _ _) h2
    (fun O₁ s₁ V₁ ρ₁ ρ₂ O₀' i v d C' S' _ hv hg => by
      cases hg
      exact wpAny_pure (put_name C' S' hx hn hv fun V' s' S2 x2 => ⟨V', S2, x2⟩)) g (fun f s' q => ((q.after x3).after x2).after x1)
  subst hs2
  exact codeAny_mono fin fun rr s' q => by
    cases rr with
    | ok f => exact q
    | error _ => exact q.elim

theorem ex_asg2 {x y : Nat} {n₁ n₂ : Str} {a b : E} {t u : Expr} {px py tp tp' p' : Pos} {tk tk' : Nat} (hx : x ∈ c.vis) (hn : c.nm[x]? = some n₁) (hy : y ∈ c.vis) (hn' : c.nm[y]? = some n₂) (h1 : EvOk K m prim c a t) (h2 : EvOk K m prim c b u) (pt : Plain t) (pu : Plain u)
    (hw : ∀ env : PySem.Env, env.scope = c.sc → swappedStores [.Tuple [.Name n₁ px, .Name n₂ py] tk tp] (.Tuple [t, u] tk' tp') env = pure (some [n₁, n₂])) :
    ExOk K m prim c (.asg2 x y a b) (.one (.Assign [.Tuple [.Name n₁ px, .Name n₂ py] tk tp] (.Tuple [t, u] tk' tp') p')) := fun sa A env s₀ O₀ O V ρ s fuel fl ρ' r C S h => by
  simp only [evalS] at h
  obtain ⟨x', hx', h⟩ := ob h
  obtain ⟨d, hd, h⟩ := ob h
  obtain ⟨y', hy', h⟩ := ob h
  obtain ⟨e, he, h⟩ := ob h
  cases opure h
  cases asD_some hd; cases asD_some he
  have hev : evalE prim (.tup a b) ρ = some (.d (.tup d e)) := by
    simp only [evalE, hx', hy']; rfl
  show wpAny _ _ (exec _ env) _ _ _
  rw [arm_exec_Assign]
  refine wpAny_bind (wpAny_standAt (wpAny_bind (wpAny_of_eq (a := false) rfl ?_)))
  simp only [Bool.false_eq_true, if_false]
  refine wpAny_bind ((ev_tup C.base h1 h2 pt pu).at C S r hev fun v s1 rv S1 x1 st => wpAny_bind (wpAny_of_eq (hw env C.sc) ?_))
  obtain ⟨T, u1, u2, nt, rfl, hT, r1, r2⟩ := VR.pair rv
  show wpAny _ _ (do rule "assign.swapped-stores"; let items ← unpackItems (.ref T) 2 none; assignInOrder (([n₁, n₂] : List Str).reverse.map fun n => bindName env n) items.reverse; pure Flow.next) _ _ _
  refine wpAny_bind (wpAny_rule (wpAny_bind (unpackItems_tuple (items := #[u1, u2]) r.handled ⟨_, hT.2, rfl, nt, rfl⟩ fun h5 he5 => ?_)))
  have he' : ∀ b o, s1.heap.get? b = some o → h5.get? b = some o := fun b o e => he5 b o (Nat.ne_of_lt (Heap.lt_size e)) e
  have st2 : Step K s1 { s1 with heap := h5 } := Step.of (tk := s1.toks) he' (Nat.le_refl _)
  refine wpAny_bind ?_
  show wpAny _ _ (assignInOrder [fun v => bindName env n₂ v, fun v => bindName env n₁ v] [u2, u1]) _ _ _
  refine assignInOrder_cons (wpAny_bindName ((S1.next C st2).put C hy hn' (VR.step (S1.tO C) st2 r2) fun V2 s2 S2 x2 => assignInOrder_cons (wpAny_bindName (S2.put C hx hn (VR.mono x2.vw (VR.step (S1.tO C) st2 r1)) fun V3 s3 S3 x3 => assignInOrder_nil (wpAny_pure ⟨rfl, O, V3, S3, ((x1.trans (Ext.of (S1.tO C) st2)).trans x2).trans x3⟩)))))

theorem ex_asgC {x : Nat} {n : Str} {e : E} {t u target : Expr} {ifs : List Expr} {sc : Scope} {p p' pl : Pos} {src : E} {gi : Env → D → Option (List D)} (hx : x ∈ c.vis) (hn : c.nm[x]? = some n) (hsc : ScOk c sc = true) (h1 : EvOk K m prim c src u) (pu : Plain u)
    (hsw : ∀ env : PySem.Env, env.scope = c.sc → swapsWith (.ListComp t [⟨target, u, ifs, 0⟩] sc pl) (some (.Name n p)) p'.line env = pure true)
    (hev : ∀ ρ z, evalE prim e ρ = some z → ∃ y ds outs, evalE prim src ρ = some y ∧ asIt y = some ds ∧ ds.length ≤ 4096 ∧ ds.mapM (gi ρ) = some outs ∧ z = .d (.lst outs.flatten)) (hgl : ∀ ρ d o, gi ρ d = some o → o.length ≤ 1)
    (LR : ∀ A, LoopRule K A t target u ifs sc pl)
    (turn : ∀ sa A env O ρ s₁, Rm A m → Fm K sa c env O ρ s₁ → ∀ I ds P (St' : Nat → Heap → Prop), s₁.heap.get? I = none → (∀ i v d, P i v → ds[i]? = some d → VR sa (Vw O s₁.heap) v d) → TurnOk K sa A O env t target ifs sc (closeL env.cells sc.names []) I ds (gi ρ) P St' s₁) :
    ExOk K m prim c (.asgC x e) (.one (.Assign [.Name n p] (.ListComp t [⟨target, u, ifs, 0⟩] sc pl) p')) := fun sa A env s₀ O₀ O V ρ s fuel fl ρ' r C S h => by
  simp only [evalS] at h
  obtain ⟨z, hz, h⟩ := ob h
  obtain ⟨d, hd, h⟩ := ob h
  cases opure h
  obtain ⟨y, ds, outs, hy, hds, hle, hg, rfl⟩ := hev ρ z hz
  cases hd
  show wpAny _ _ (exec _ env) _ _ _
  rw [exec_Assign_Name_used _ _ _ _ (hsw env C.sc)]
  refine wpAny_bind (wpAny_standAt (wpAny_bind ?_))
  show wpAny _ A (do let _ ← comprehension (.ListComp t [⟨target, u, ifs, 0⟩] sc pl) sc env _ (newList []) false (eval u env) (some (assign (.Name n p) env))) _ _ s
  refine wpAny_bind (lift (comp_run (use := some (assign (.Name n p) env)) (Q := fun _ s' => ∃ O' V', Sm K sa c env s₀ O₀ O' V' (setV ρ x (.d (.lst outs.flatten))) s' ∧ Ext K O₀ O s O' s') (LR A) r C.base (S.fm C) (ScOk.of hsc) h1 pu hy hds hle (hgl ρ) hg
    (fun s₁ f1 I P St' _ hI hP => turn sa A env O ρ s₁ r f1 I ds P St' hI hP) (fun Dd Cc s' mm stp hns hv hC hD hCt => ?_)) fun _ s' q => wpAny_pure (wpAny_pure ⟨rfl, q⟩))
  obtain ⟨S1, x1⟩ := S.add C hC stp (let ⟨o, _, _, ho, _⟩ := hns; ⟨o, ho⟩)
  have ap := S.apart C (O' := Cc :: O) hC List.mem_cons_self
  have C' := C.more ap.loc ap.cell
  have S1' := S1.more ap.mem ap.own
  show wpAny _ _ (assign (.Name n p) env (.ref Dd)) _ _ _
  refine put_name C' S1' hx hn hv fun V' s'' S2 x2 => ⟨mm, hns.at' fun o e => x2.old Cc List.mem_cons_self hCt o e, fun h'' hs'' => ?_⟩
  have y2 : StepB K [Cc] s'' { s'' with heap := h'' } := StepB.of (tk := s''.toks) (fun b hb => by rw [List.mem_singleton.mp hb]; exact hCt) (fun b o hb e => hs''.extBut b o (by simpa using hb) e) (Nat.le_refl _)
  obtain ⟨O', S3, vw3⟩ := S2.fewer.sideDrop C ap.mem ap.new ap.out ap.loc ap.cell (fun z hz l hl e => (S2.own z hz l hl _ e).2 List.mem_cons_self) y2
  exact ⟨O', V', S3, ⟨fun b o q => vw3 b o (x2.vw b o (x1.vw b o q)), fun b hb ht o e => y2.keep b o ht (by rw [List.mem_singleton]; rintro rfl; exact ap.out hb) (x2.old b (List.mem_cons_of_mem _ hb) ht o (x1.old b hb ht o e))⟩⟩
end
end Mini
end

section
open PySem PySem.Spec PySem.Calls PyProof.Rows PySem.W PySem.Builtin PySem.Builtin.Str PySem.StrLaws
set_option maxRecDepth 100000
namespace Mini
theorem entry_mdget : entryFor table "method_descriptor.__get__" = some Builtin.«method_descriptor.__get__» := entryFor_of_tree (by kernel_rfl)
theorem slot_mdget : Slot "method_descriptor" "__get__" "method_descriptor.__get__" :=
  .of (owner := "method_descriptor") (n := "__get__") (by rw [typeLookup_type, builtinLookup_eq_fast]; kernel_rfl) (by decide +kernel) (by decide +kernel) (by decide +kernel)
    (by first | exact .inl (by decide +kernel) | exact .inr (by decide +kernel)) (by rw [isSubtype_type]; kernel_rfl)
theorem args_mdget (a b c : Value) : argsOk "method_descriptor.__get__" ⟨[a, b, c], []⟩ := by unfold argsOk; kernel_rfl
theorem type_append : typeOf (.builtin "list.append") = pure (.type "method_descriptor") := by show builtinType _ = _; rw [builtinType_eq_fast]; kernel_rfl
theorem told : Manifest.toldItsClass.contains "list.append" = false := by decide +kernel
theorem owner_ap : (kfb_private% "ownerAndName") "list.append" = ("list", "append") := by first | decide +kernel | kernel_rfl
theorem name_ap : (kfb_private% "nameAndClass") (.builtin "list.append") = pure (Str.ofString "append", Value.type "list") := by
  show pure (match (kfb_private% "ownerAndName") "list.append" with | (owner, name) => (Str.ofString name, Value.type owner)) = _
  rw [owner_ap]
theorem run_mdget {M : Model} {A : Around} {s : Shared} {a : Addr} {xs : Array Value} {k : Nat} {P : Fin → Shared → Prop} {E : Value → Shared → Prop} (hx : s.heap.get? a = some { cls := .type "list", dict := none, data := .seq xs k, slots := #[] }) (h : P (.done (.ret (.ref s.heap.objs.size))) { s with heap := s.heap.push (bndO a) }) :
    wpAny M A (Builtin.«method_descriptor.__get__» ⟨[.builtin "list.append", .ref a, .type "list"], []⟩) P E s := by
  unfold Builtin.«method_descriptor.__get__»
  refine wpAny_bind (wpAny_of_eq (a := (Value.builtin "list.append", some (Value.ref a), some (Value.type "list"))) (by first | rfl | kernel_rfl) ?_)
  dsimp only
  refine KFB.if_not told ?_
  refine wpAny_bind (m := (kfb_private% "checkInstance") (.builtin "list.append") (.ref a)) ?_
  refine wpAny_bind (m := (kfb_private% "nameAndClass") (.builtin "list.append")) (wpAny_of_eq name_ap ?_)
  dsimp only
  refine wpAny_bind (wpAny_isInstance ⟨_, hx, rfl⟩ F.sub_list_list ?_)
  refine KFB.if_not rfl (wpAny_pure ?_)
  exact wpAny_bind (wpAny_newObj_type (wpAny_pure h))
theorem no_set : typeLookup (.type "method_descriptor") "__set__" = pure none := by rw [typeLookup_type, builtinLookup_eq_fast]; kernel_rfl
theorem no_del : typeLookup (.type "method_descriptor") "__delete__" = pure none := by rw [typeLookup_type, builtinLookup_eq_fast]; kernel_rfl
theorem takes_append : ObjectAttr.takesStores (.builtin "list.append") = pure false := by
  unfold ObjectAttr.takesStores specialOf
  rw [type_append]
  show (do if (← typeLookup (.type "method_descriptor") "__set__").isSome then pure true else (do return (← typeLookup (.type "method_descriptor") "__delete__").isSome)) = _
  rw [no_set, no_del]
  rfl
theorem ga_append (a : Addr) (xs : Array Value) (k : Nat) (u : Tok) :
    Meets (Builtin.«object.__getattribute__» ⟨[.ref a, .str (Str.ofString "append") u], []⟩) (fun A R s => s.heap.get? a = some { cls := .type "list", dict := none, data := .seq xs k, slots := #[] } ∧ R (.ok (.ret (.ref s.heap.objs.size))) { s with heap := s.heap.push (bndO a) }) :=
  Meets.of_wp fun prog w A R s hs => by
    obtain ⟨hp, g, d, tk, os⟩ := s
    obtain ⟨hx, hs⟩ := hs
    have hT : (⟨hp, g, d, tk, os⟩ : Shared).TypeIs (.ref a) "list" := ⟨_, hx, rfl⟩
    have hl := F.slot_list_append.lookup
    unfold Builtin.«object.__getattribute__»
    repeat (any_goals (first | assumption | wp_step))
    rw [show builtinKind "list.append" = some Manifest.AttrKind.method by decide +kernel]
    refine wpAny_of_eq (a := some (.builtin "method_descriptor.__get__")) slot_mdget.lookup ?_
    refine wpAny_bind ?_
    show wpAny _ _ (do if ← ObjectAttr.takesStores (.builtin "list.append") then pure (some (Value.builtin "method_descriptor.__get__", Value.builtin "list.append")) else pure none) _ _ _
    refine wpAny_bind (wpAny_of_eq (a := false) takes_append ?_)
    simp only [Bool.false_eq_true, if_false]
    refine wpAny_pure ?_
    show wpAny _ _ (ObjectAttr.ownThenClass (Value.ref a) (Str.ofString "append") (some (Value.builtin "list.append")) (some (.builtin "method_descriptor.__get__"))) _ _ _
    unfold ObjectAttr.ownThenClass
    repeat (any_goals (first | assumption | wp_step))
    refine codeAny_call_builtin slot_mdget.plain entry_mdget (slot_mdget.check _ _ _ _ _ _ _ _ type_append (args_mdget _ _ _) ?_)
    exact run_mdget (xs := xs) (k := k) hx (wpAny_pure ⟨_, rfl, hs⟩)

theorem getAttr_append {prog : Program} {w : World} {A : Around} {E : Value → Shared → Prop} {s : Shared} {a : Addr} {xs : Array Value} {k : Nat} {Q : Value → Shared → Prop}
    (hx : s.heap.get? a = some { cls := .type "list", dict := none, data := .seq xs k, slots := #[] }) (h : Q (.ref s.heap.objs.size) { s with heap := s.heap.push (bndO a), toks := s.toks + 1 }) :
    wpAny (model prog w) A (getAttr (.ref a) (Str.ofString "append") true) Q E s := by
  obtain ⟨hp, g, d, tk, os⟩ := s
  have hT : ∀ tk', (⟨hp, g, d, tk', os⟩ : Shared).TypeIs (.ref a) "list" := fun _ => ⟨_, hx, rfl⟩
  have f3 := F.slot_list_getattribute.lookup
  have f4 := F.slot_list_getattribute.bind (.ref a)
  unfold getAttr getAttrBy
  repeat (any_goals (first | assumption | exact hT _ | ((with_reducible show wpAny _ _ (call (Value.builtin "list.__getattribute__") _ _) _ _ _); refine call_meets F.slot_list_getattribute (hT _) am_entry_list_getattribute (F.args_list_getattribute_2 _ _) (ga_append a xs k _) ⟨hx, ?_⟩) | wp_step))
  exact wpAny_pure h

theorem quiet_ap {as : Args} : (Code.builtin "list.append" as).quiet = true := Code.quiet_builtin _ (by decide +kernel)
theorem sig_is : (Manifest.signature? "list.append").isSome = true := by decide +kernel
theorem sig_ap : Manifest.signature? "list.append" = some ((Manifest.signature? "list.append").get sig_is) := (Option.some_get sig_is).symm
theorem args_ap {a : Addr} {v : Value} : Bind.checkArgs "list.append" { (Manifest.signature? "list.append").get sig_is with full := s!"{Bind.lastOf "list"}.{Bind.lastOf "list.append"}" } ⟨[.ref a, v], []⟩ = pure () := by first | kernel_rfl | rfl
theorem kind_ap : builtinKind "list.append" = some Manifest.AttrKind.method := by decide +kernel
theorem vara_ap : Manifest.varargsMethods.contains "list.append" = false := by decide +kernel
theorem sub_list_module : isSubtype (.type "list") (.type "module") = pure false := by rw [isSubtype_type]; kernel_rfl
theorem sub_list_type : isSubtype (.type "list") (.type "type") = pure false := by rw [isSubtype_type]; kernel_rfl
theorem check_ap {M : Model} {A : Around} {E : Value → Shared → Prop} {s : Shared} {a : Addr} {v : Value} {its : Array Value} {n : Nat} {Q : Unit → Shared → Prop} (ho : s.heap.get? a = some (lstO its n)) (h : Q () s) : wpAny M A (checkBoundCall "list.append" ⟨[.ref a, v], []⟩) Q E s := by
  have hT : s.TypeIs (.ref a) "list" := ⟨_, ho, rfl⟩
  unfold checkBoundCall
  rw [sig_ap]
  dsimp only
  rw [kind_ap]
  dsimp only
  refine KFB.if_not (by decide) ?_
  refine wpAny_bind (wpAny_isInstance hT sub_list_module ?_)
  refine KFB.if_not (by rw [vara_ap]; rfl) ?_
  obtain ⟨hp, g, d, tk, os⟩ := s
  refine wpAny_bind (m := isType (.ref a)) (ks_wpAny_isType_inst ho (fun c e => nomatch e) ?_)
  refine KFB.if_not rfl ?_
  refine wpAny_bind (wpAny_typeOf hT ?_)
  exact wpAny_of_eq args_ap h
theorem call_bnd {prog : Program} {w : World} {A : Around} {E : Value → Shared → Prop} {s : Shared} {b a : Addr} {its : Array Value} {n : Nat} {v : Value} {Q : Value → Shared → Prop} (hb : s.heap.get? b = some (bndO a)) (ho : s.heap.get? a = some (lstO its n))
    (h : ∀ h', Heap.SameBut a s.heap h' → h'.get? a = some (lstO (its.push v) (n + 1)) → Q .none { s with heap := h' }) (hsz : its.size ≤ sizeLine) : wpAny (model prog w) A (call (.ref b) [v]) Q E s := by
  refine wpAny_call (codeAny_of_tree ?_)
  show wpAny _ A.in1 (callAny (.ref b) ⟨[v], []⟩) _ _ s
  simp only [callAny]
  refine wpAny_bind (wpAny_load hb ?_)
  simp only [show (Value.type "builtin_function_or_method" == Value.type "method" || Value.type "builtin_function_or_method" == Value.type "builtin_function_or_method" || Value.type "builtin_function_or_method" == Value.type "method-wrapper") = true by decide, if_true]
  refine KFB.if_so (by decide) ?_
  refine wpAny_bind (check_ap ho ?_)
  refine wpAny_bind (wpAny_pure (wpAny_pure ?_))
  refine ⟨quiet_ap, codeAny_builtin entry_list_append ?_⟩
  show wpAny _ _ (updateSeq a (·.push v) >>= fun _ => ret .none) _ _ s
  refine wpAny_bind ?_
  refine wpAny_updateSeq ho rfl (wpAny_pure (h _ (Heap.SameBut.update ..) ?_))
  rw [Heap.get?_update_self _ ho (by rw [mapSeq_push]; rfl), mapSeq_push]
theorem callWith_bnd {M : Model} {A : Around} {E : Value → Shared → Prop} {s : Shared} {pos : Pos} {u a : Addr} {args : List (Bool × Sem Value)} {Q : Value → Shared → Prop} (hplain : args.any (·.1) = false)
    (h : wpAny M A (evalArgs (.ref u) true args []) (fun x s₁ => s₁.heap.get? u = some (bndO a) ∧ wpAny M A (call (.ref u) ([] ++ x.pos) x.kw) Q E s₁) E s) : wpAny M A (callWith pos (.ref u) [] args []) Q E s := by
  unfold callWith
  refine wpAny_bind (wpAny_holding (wpAny_mono h (fun x s₁ h₁ => wpAny_bind (wpAny_standAt ?_)) fun _ _ x => x))
  obtain ⟨ho, hcall⟩ := h₁
  simp only [hplain, List.any_nil, Bool.or_false]
  refine wpAny_bind (m := keeperOf (.ref u)) ?_
  unfold keeperOf
  refine wpAny_bind (wpAny_load ho ?_)
  simp only [show (Value.type "builtin_function_or_method" != Value.type "method") = true by decide, show (Value.type "builtin_function_or_method" == Value.type "builtin_function_or_method" || Value.type "builtin_function_or_method" == Value.type "method-wrapper") = true by decide, if_true]
  refine wpAny_pure ?_
  exact wpAny_bind (wpAny_mono hcall (fun r s₂ hr => wpAny_bind (wpAny_holding (wpAny_point (wpAny_pure hr)))) fun _ _ x => x)

section
variable {K : Wd} {G : Gl K} {m : Nat} {prim : Nat → List D → Option D} {c : Cx} {sa : Addr} {A : Around} {env : PySem.Env} {s₀ s s' : Shared} {O₀ O : List Addr} {V : Nat → Value} {ρ ρ' : Env} {fl : Fl}

theorem ex_bind {x y : Nat} {n ny : Str} {p p' q q' : Pos} (hx : x ∈ c.vis) (hn : c.nm[x]? = some n) (hy : y ∈ c.vis) (hny : c.nm[y]? = some ny) (hyx : y ≠ x) :
    ExOk K m prim c (.bind y x) (.one (.Assign [.Name ny p] (.Attribute (.Name n q) (Str.ofString "append") q') p')) := fun sa A env s₀ O₀ O V ρ s fuel fl ρ' r C S h => by
  simp only [evalS] at h
  obtain ⟨X, hX, h⟩ := ob h
  cases X with
  | own l =>
    cases opure h
    obtain ⟨n', hn', hld, a, vs, k, hV, hga, hvs, haO, haT⟩ := S.vars x hx _ hX
    rw [hn] at hn'; cases hn'
    obtain ⟨nk, hnk, hpl, _⟩ := C.kinds x hx
    rw [hn] at hnk; cases hnk
    have hfn : env.scope.kind = .function := by rw [C.sc]; exact C.fn
    refine wpAny_Assign_Name (Attribute_name (Loads.eval hfn (name_of _ hpl) hld ?_)) rfl
    rw [hV]
    refine getAttr_append hga ?_
    have st : Step K s { s with heap := s.heap.push (bndO a), toks := s.toks + 1 } := (Step.push (bndO a)).trans (Step.tok (Nat.le_succ _))
    have S1 := S.next C st
    exact S1.store (X := .bnd x) C hy hny (fun _ _ _ => trivial) (fun _ e => by cases e) (fun z e hz => by
      cases e
      exact ⟨hx, Ne.symm hyx, _, a, rfl, hV, fun q => live_ne new_none (S.live _ q) rfl, Heap.get?_push_size _ rfl⟩) fun V' s2 S2 x2 => ⟨rfl, O, V', S2, (Ext.of (S.tO C) st).trans x2⟩
  | d d => cases h
  | bnd y => cases h

theorem ex_appB {y : Nat} {ny : Str} {e : E} {t : Expr} {p cp p' : Pos} (hy : y ∈ c.vis) (hny : c.nm[y]? = some ny) (h1 : EvOk K m prim c e t) (pt : Plain t) :
    ExOk K m prim c (.appB y e) (.one (.Expr (.Call (.Name ny p) [t] [] cp) p')) := fun sa A env s₀ O₀ O V ρ s fuel fl ρ' r C S h => by
  simp only [evalS] at h
  obtain ⟨Y, hY, h⟩ := ob h
  cases Y with
  | bnd x =>
    obtain ⟨X, hX, h⟩ := ob h
    cases X with
    | own l =>
      obtain ⟨z, hz, h⟩ := ob h
      obtain ⟨d, hd, h⟩ := ob h
      split at h
      rotate_left
      · cases h
      rename_i hlen
      cases opure h
      cases asD_some hd
      obtain ⟨hx, b, a, hVy, hVx, hbO, hgb⟩ := S.bnd y hy x hY ⟨l, hX⟩
      obtain ⟨n', hn', hld, _⟩ := S.vars y hy _ hY
      rw [hny] at hn'; cases hn'
      obtain ⟨nk, hnk, hpl, _⟩ := C.kinds y hy
      rw [hny] at hnk; cases hnk
      have hfn : env.scope.kind = .function := by rw [C.sc]; exact C.fn
      refine wpAny_Expr ?_ (notInteractive C) rfl
      refine wpAny_Call_Name_kw (Loads.eval hfn (name_of _ hpl) hld ?_)
      rw [hVy, pt.star]
      refine callWith_bnd (a := a) rfl (evalArgs_plain (spliced_cons (h1.at C S r hz fun v s1 rv S1 x1 st => spliced_nil ?_)))
      obtain ⟨_, b', a', hVy', hVx', _, hgb'⟩ := S1.bnd y hy x hY ⟨l, hX⟩
      rw [hVy] at hVy'; cases hVy'
      rw [hVx] at hVx'; cases hVx'
      refine ⟨hgb', ?_⟩
      obtain ⟨_, _, _, a', vs1, k1, hV', hg1, hvs1, _, _⟩ := S1.vars x hx _ hX
      rw [hVx] at hV'; cases hV'
      refine call_bnd hgb' hg1 (fun h' hs hg' => ?_) ?_
      · obtain ⟨S2, x2⟩ := S1.turnOwn C (l' := l ++ [d]) hx hX hVx hs hg' (hvs1.push rv)
        exact ⟨rfl, O, V, S2, x1.trans x2⟩
      · have := hvs1.1
        show vs1.size ≤ 2 ^ 24
        omega
    | d d => cases h
    | bnd y => cases h
  | own l => cases h
  | d d => cases h
end
end Mini
end

section
open PySem PySem.Spec PySem.Calls PyProof.Rows PySem.W PySem.Builtin PySem.Builtin.Str PySem.StrLaws
set_option maxRecDepth 100000
namespace Mini
theorem setLast {prog : Program} {w : World} {A : Around} {E : Value → Shared → Prop} {s : Shared} {l : Addr} {items : Array Value} {n : Nat} {t : Tok} {v : Value} {Q : Unit → Shared → Prop} (ho : s.heap.get? l = some (lstO items n)) (hn : 0 < items.size)
    (hQ : Q () { s with heap := s.heap.update l (Obj.mapSeq (·.setIfInBounds (items.size - 1) v)) }) : wpAny (model prog w) A (setItem (.ref l) (.int (-1) t) v) Q E s := by
  have hl : s.heap.IsList l items := isList_of ho
  have hidx : seqIndex? (-1) items.size = some (items.size - 1) := by
    rw [PySem.seqIndex_neg (by omega) (by omega)]
    congr 1
    omega
  unfold setItem
  try with_reducible refine wpAny_holding ?_
  first | refine wpAny_bind (wpAny_pure ?_) | skip
  refine wpAny_bind (wpAny_sequenceKey hl.typeIs (by decide) ?_)
  refine wpAny_bind (wpAny_callSpecial?_slot (name := Str.ofString "__setitem__") hl.typeIs slot_list_setitem
    (wpAny_call_entry slot_list_setitem hl.typeIs entry_list_setitem ?_ (args_list_setitem _ _ _)))
  show wpAny _ _ (Builtin.List.listSubscript? (.int (-1) t) >>= _) _ _ s
  refine wpAny_bind (wpAny_listSubscript_int (fitsIndex_neg (by omega) (by omega)) ?_)
  show wpAny _ _ ((Builtin.List.listItems (.ref l) >>= fun xs => pure ((seqIndex? (Int.negSucc 0) xs.size).bind fun i => xs[i]?.map (i, ·))) >>= _) _ _ s
  refine wpAny_bind (wpAny_bind ?_)
  show wpAny _ _ (seqItems? (.ref l) >>= _) _ _ s
  refine wpAny_bind (wpAny_seqItems ho rfl (wpAny_pure (wpAny_pure ?_)))
  have hx' : items[items.size - 1]? = some items[items.size - 1] := Array.getElem?_eq_getElem (by omega)
  rw [show Int.negSucc 0 = -1 from rfl, hidx]
  simp only [Option.bind_some, hx', Option.map_some]
  show wpAny _ _ (setSeqItemAt l (items.size - 1) v >>= _) _ _ s
  refine wpAny_bind (wpAny_setSeqItemAt ho rfl ?_)
  first
    | exact wpAny_bind (wpAny_pure (wpAny_pure ⟨.none, rfl, wpAny_pure hQ⟩))
    | exact wpAny_pure ⟨.none, rfl, wpAny_pure hQ⟩

theorem vrs_last {sa : Addr} {P : Addr → Obj → Prop} {vs : Array Value} {l : List D} {v : Value} {d : D} (h : VRs sa P vs l) (hl : 0 < l.length) (hv : VR sa P v d) : VRs sa P (vs.setIfInBounds (vs.size - 1) v) (l.dropLast ++ [d]) := by
  have hs := h.1
  refine ⟨by rw [Array.size_setIfInBounds, List.length_append, List.length_dropLast, List.length_singleton]; omega, fun i u e hu he => ?_⟩
  rw [Array.getElem?_setIfInBounds] at hu
  by_cases hi : vs.size - 1 = i
  · subst hi
    rw [if_pos rfl, if_pos (by omega)] at hu
    cases hu
    rw [hs, List.getElem?_append_right (by rw [List.length_dropLast]; omega)] at he
    rw [List.length_dropLast, Nat.sub_self] at he
    simp at he
    subst he
    exact hv
  · rw [if_neg hi] at hu
    have hlt : i < vs.size := (Array.getElem?_eq_some_iff.mp hu).1
    rw [List.getElem?_append_left (by rw [List.length_dropLast]; omega), List.getElem?_dropLast] at he
    rw [if_pos (by omega)] at he
    exact h.2 i u e hu he

section
variable {K : Wd} {G : Gl K} {m : Nat} {prim : Nat → List D → Option D} {c : Cx} {sa : Addr} {A : Around} {env : PySem.Env} {s₀ s s' : Shared} {O₀ O : List Addr} {V : Nat → Value} {ρ ρ' : Env} {fl : Fl}
theorem ex_augLast {x : Nat} {n : Str} {y : Str} {ly : S} {p p1 p2 p3 p4 p5 : Pos} {k1 k2 : Nat} (hx : x ∈ c.vis) (hn : c.nm[x]? = some n) (ey : y.cps.toList = ly) :
    ExOk K m prim c (.augLast x ly) (.one (.AugAssign (.Subscript (.Name n p) (.UnaryOp .USub (.Constant (.int 1) k1 p1) p2) p3) .Add (.Constant (.str y) k2 p4) p5)) := fun sa A env s₀ O₀ O V ρ s fuel fl ρ' r C S h => by
  subst ey
  simp only [evalS] at h
  obtain ⟨X, hX, h⟩ := ob h
  cases X with
  | d d => cases h
  | bnd y => cases h
  | own l =>
    simp only at h
    cases hlast : l.getLast? with
    | none => rw [hlast] at h; cases h
    | some dl =>
      rw [hlast] at h
      cases dl with
      | str z =>
        simp only at h
        obtain ⟨R, hR, h⟩ := ob h
        obtain ⟨rfl, hz⟩ := okS_some hR
        cases opure h
        obtain ⟨n', hn', hld, a, vs, k, hV, hga, hvs, haO, haT⟩ := S.vars x hx _ hX
        rw [hn] at hn'; cases hn'
        obtain ⟨nk, hnk, hpl, _⟩ := C.kinds x hx
        rw [hn] at hnk; cases hnk
        have hfn : env.scope.kind = .function := by rw [C.sc]; exact C.fn
        have hne : 0 < l.length := by cases l with | nil => cases hlast | cons a r => simp
        have hvl : l[l.length - 1]? = some (.str z) := by rw [← List.getLast?_eq_getElem?]; exact hlast
        obtain ⟨v, hvv, hvr⟩ := hvs.get hvl
        obtain ⟨t, kt, rfl, rfl⟩ := VR.text hvr
        have hsz := hvs.1
        refine wpAny_AugAssign_Subscript_any (Loads.eval hfn (name_of _ hpl) hld ?_)
        rw [hV]
        refine UnaryOp_ (wpAny_Constant_int (P.neg_int ?_))
        refine wpAny_getItem_list_neg (isList_of hga) (by omega) (by omega) (by omega) (x := .str t kt) (by rw [show (-1 + (vs.size : Int)).toNat = l.length - 1 by omega]; exact hvv) ?_
        refine Constant_str (toks (PyProof.Rows.iadd_str (fun t' tk htk => ?_) ?_))
        · have st : Step K s { s with toks := tk } := Step.tok (by have : s.toks + 1 + 1 + 1 ≤ tk := htk; omega)
          have S1 := S.next C st
          have x1 : Ext K O₀ O s O { s with toks := tk } := Ext.of (S.tO C) st
          refine setLast (s := { s with toks := tk }) hga (by omega) ?_
          obtain ⟨n', hg'⟩ : ∃ n', (s.heap.update a (Obj.mapSeq (·.setIfInBounds (vs.size - 1) (.str (t ++ y) t')))).get? a = some (lstO (vs.setIfInBounds (vs.size - 1) (.str (t ++ y) t')) n') := ⟨_, Heap.get?_update_self _ hga rfl⟩
          obtain ⟨S2, x2⟩ := S1.turnOwn C (h' := s.heap.update a (Obj.mapSeq (·.setIfInBounds (vs.size - 1) (.str (t ++ y) t')))) (l' := l.dropLast ++ [.str (t.cps.toList ++ y.cps.toList)]) hx hX hV (Heap.SameBut.update ..) hg' (vrs_last hvs hne (VR.ofStr (app_list _ _)))
          exact ⟨rfl, O, V, S2, x1.trans x2⟩
        · have := str_len t; have := str_len y
          rw [List.length_append] at hz
          show _ ≤ 2 ^ 24
          omega
      | _ => cases h
end
end Mini
end

section
open PySem PySem.Spec PySem.Calls PyProof.Rows PySem.W PySem.Builtin PySem.Builtin.Str PySem.StrLaws
set_option maxRecDepth 100000
namespace Mini
section
variable (K : Wd) (G : Gl K) (m : Nat) (prim : Nat → List D → Option D)

/-- a name that the call's frame holds -/
noncomputable def Cx.has (c : Cx) (x : Nat) (n : Str) : Prop := x ∈ c.vis ∧ c.nm[x]? = some n

inductive TieS (c : Cx) : T → Ss → Prop
  | skip : TieS c .skip (.many [])
  | no {st} : TieS c .no (.one st)
  | seq {a b st r} : TieS c a (.one st) → TieS c b (.many r) → TieS c (.seq a b) (.many (st :: r))
  | frz {x b r} : x ∈ c.vis → TieS c b (.many r) → TieS c (.seq (.freeze x) b) (.many r)
  | brk {p} : TieS c .brk (.one (.Break p))
  | ret {e t p} : Tie K m prim c e t → TieS c (.ret e) (.one (.Return (some t) p))
  | assert {e t p} : Tie K m prim c e t → TieS c (.assert e) (.one (.Assert t none p))
  | ifs {e t a b ss us p} : Tie K m prim c e t → TieS c a (.many ss) → TieS c b (.many us) → TieS c (.ifs e a b) (.one (.If t ss us p))
  | while {e t b ss p} : Tie K m prim c e t → TieS c b (.many ss) → TieS c (.while e b) (.one (.While t ss [] p))
  | asg {x n e t p p'} : c.has x n → (∀ tg l env, swapsWith t tg l env = pure false) → Tie K m prim c e t → TieS c (.asg x e) (.one (.Assign [.Name n p] t p'))
  | aug {x n e t p p'} : c.has x n → Tie K m prim c e t → TieS c (.aug x e) (.one (.AugAssign (.Name n p) .Add t p'))
  | own {x n p p' pl} : c.has x n → TieS c (.own x .lnil) (.one (.Assign [.Name n p] (.List [] pl) p'))
  | ownL {x n a r ts p p' pl} : c.has x n → Tie K m prim c (.lcons a r) (.List ts pl) → TieS c (.own x (.lcons a r)) (.one (.Assign [.Name n p] (.List ts pl) p'))
  | app {x n e t p q cp p'} : c.has x n → (q.endLine == cp.line) = true → Tie K m prim c e t → TieS c (.app x e) (.one (.Expr (.Call (.Attribute (.Name n p) (Str.ofString "append") q) [t] [] cp) p'))
  | bind {x y n ny p p' q q'} : c.has x n → c.has y ny → y ≠ x → TieS c (.bind y x) (.one (.Assign [.Name ny p] (.Attribute (.Name n q) (Str.ofString "append") q') p'))
  | appB {y ny e t p cp p'} : c.has y ny → Tie K m prim c e t → TieS c (.appB y e) (.one (.Expr (.Call (.Name ny p) [t] [] cp) p'))
  | augLast {x n y ly p p1 p2 p3 p4 p5 k1 k2} : c.has x n → y.cps.toList = ly → TieS c (.augLast x ly) (.one (.AugAssign (.Subscript (.Name n p) (.UnaryOp .USub (.Constant (.int 1) k1 p1) p2) p3) .Add (.Constant (.str y) k2 p4) p5))
  | asg2 {x y n₁ n₂ a b t u px py tp tp' p' tk tk'} : c.has x n₁ → c.has y n₂ → Tie K m prim c a t → Tie K m prim c b u →
      (∀ env : PySem.Env, env.scope = c.sc → swappedStores [.Tuple [.Name n₁ px, .Name n₂ py] tk tp] (.Tuple [t, u] tk' tp') env = pure (some [n₁, n₂])) →
      TieS c (.asg2 x y a b) (.one (.Assign [.Tuple [.Name n₁ px, .Name n₂ py] tk tp] (.Tuple [t, u] tk' tp') p'))
  | unp {x y n₁ n₂ e t px py tp p' tk} : c.has x n₁ → c.has y n₂ → Tie K m prim c e t → (∀ tg l env, swapsWithSole [tg] t l env = pure false) → (∀ env tg, swappedStores [.Tuple tg tk tp] t env = pure none) →
      TieS c (.unp x y e) (.one (.Assign [.Tuple [.Name n₁ px, .Name n₂ py] tk tp] t p'))
  | for1 {x n e t b body p p'} : c.has x n → Tie K m prim c e t → TieS c b (.many body) → TieS c (.for1 x e b) (.one (.For (.Name n p) t body [] p'))
  | for2 {x y n₁ n₂ e t b body px py tp p' tk} : c.has x n₁ → c.has y n₂ → Tie K m prim c e t → TieS c b (.many body) → TieS c (.for2 x y e b) (.one (.For (.Tuple [.Name n₁ px, .Name n₂ py] tk tp) t body [] p'))
  | forEn {k x y nk n₁ n₂ e t b body pk px py tp tp' p' q pc tk tk'} : c.gl "enumerate" → c.has k nk → c.has x n₁ → c.has y n₂ → Tie K m prim c e t → TieS c b (.many body) →
      TieS c (.forEn k x y e b) (.one (.For (.Tuple [.Name nk pk, .Tuple [.Name n₁ px, .Name n₂ py] tk' tp'] tk tp) (.Call (.Name "enumerate" q) [t] [] pc) body [] p'))
  | forDn {x n e t b body p p' q pc p0 p1 p2 k0 k1} : c.gl "range" → c.has x n → Tie K m prim c e t → TieS c b (.many body) →
      TieS c (.forDn x e b) (.one (.For (.Name n p) (.Call (.Name "range" q) [t, .Constant (.int 0) k0 p0, .UnaryOp .USub (.Constant (.int 1) k1 p1) p2] [] pc) body [] p'))
  | asgC {x n y src elt t u ny sc px p p' pl} : c.has x n → ScOk c sc = true → c.nm[y]? = some ny → sc.names.lookup ny = some .local → Tie K m prim c src u → Tie K m prim (c.inner sc [y]) elt t →
      (∀ env : PySem.Env, env.scope = c.sc → swapsWith (.ListComp t [⟨.Name ny px, u, [], 0⟩] sc pl) (some (.Name n p)) p'.line env = pure true) →
      TieS c (.asgC x (.comp elt y src)) (.one (.Assign [.Name n p] (.ListComp t [⟨.Name ny px, u, [], 0⟩] sc pl) p'))
  | asgCI {x n y src cond elt t u w ny sc px p p' pl} : c.has x n → ScOk c sc = true → c.nm[y]? = some ny → sc.names.lookup ny = some .local → Tie K m prim c src u → Tie K m prim (c.inner sc [y]) cond w → Tie K m prim (c.inner sc [y]) elt t →
      (∀ env : PySem.Env, env.scope = c.sc → swapsWith (.ListComp t [⟨.Name ny px, u, [w], 0⟩] sc pl) (some (.Name n p)) p'.line env = pure true) →
      TieS c (.asgC x (.compIf elt y src cond)) (.one (.Assign [.Name n p] (.ListComp t [⟨.Name ny px, u, [w], 0⟩] sc pl) p'))

variable {K G m prim}
theorem tieS_ok (hP : PrimOk K G m prim) {c : Cx} {t : T} {u : Ss} (h : TieS K m prim c t u) : ExOk K m prim c t u := by
  have hb := G.base
  have ev : ∀ {c e t}, Tie K m prim c e t → EvOk K m prim c e t := fun h => (tie_all hP h).1
  have ts : ∀ {c e t}, Tie K m prim c e t → TsOk K m prim c e t := fun h => (tie_all hP h).2.1
  induction h with
  | skip => exact ex_skip
  | no => exact ex_no
  | seq _ _ i1 i2 => exact ex_seq i1 i2
  | frz hx _ i => exact ex_frz hx i
  | brk => exact ex_brk
  | ret h1 => exact ex_ret (ev h1)
  | assert h1 => exact ex_assert (ts h1)
  | ifs h1 _ _ i2 i3 => exact ex_ifs (ts h1) i2 i3
  | «while» h1 _ i => exact ex_while (ts h1) i
  | asg hx hs h1 => exact ex_asg hx.1 hx.2 hs (ev h1)
  | aug hx h1 => exact ex_aug hx.1 hx.2 (ev h1)
  | own hx => exact ex_own hx.1 hx.2
  | ownL hx h1 => exact ex_ownL hx.1 hx.2 (tie_all hP h1).2.2
  | app hx hq h1 => exact ex_app hx.1 hx.2 hq (ev h1) h1.plain
  | bind hx hy hne => exact ex_bind hx.1 hx.2 hy.1 hy.2 hne
  | appB hy h1 => exact ex_appB hy.1 hy.2 (ev h1) h1.plain
  | augLast hx ey => exact ex_augLast hx.1 hx.2 ey
  | asg2 hx hy h1 h2 hw => exact ex_asg2 hx.1 hx.2 hy.1 hy.2 (ev h1) (ev h2) h1.plain h2.plain hw
  | unp hx hy h1 hs hw => exact ex_unp hx.1 hx.2 hy.1 hy.2 (ev h1) hs hw
  | for1 hx h1 _ i => exact ex_for1 hx.1 hx.2 (ev h1) h1.plain i
  | for2 hx hy h1 _ i => exact ex_for2 hx.1 hx.2 hy.1 hy.2 (ev h1) h1.plain i
  | forEn he hk hx hy h1 _ i => exact ex_forEn G he hk.1 hk.2 hx.1 hx.2 hy.1 hy.2 (ev h1) h1.plain i
  | forDn hr hx h1 _ i => exact ex_forDn G hr hx.1 hx.2 (ev h1) h1.plain i
  | @asgC x n y src elt t u ny sc px p p' pl hx hsc hny hl h1 h2 hsw =>
    exact ex_asgC (gi := fun ρ => gComp prim elt y ρ) hx.1 hx.2 hsc (ev h1) h1.plain hsw (fun ρ z hz => comp_some hz) (fun ρ => gComp_le) (fun A => rule_name) fun sa A env O ρ s₁ r f1 I ds P St' hI hP' => turn_name r hb f1 (ScOk.of hsc) hny hl hI hP' (body_comp r hb (ev h2))
  | @asgCI x n y src cond elt t u w ny sc px p p' pl hx hsc hny hl h1 h3 h2 hsw =>
    exact ex_asgC (gi := fun ρ => gCompIf prim elt cond y ρ) hx.1 hx.2 hsc (ev h1) h1.plain hsw (fun ρ z hz => compIf_some hz) (fun ρ => gCompIf_le) (fun A => rule_name) fun sa A env O ρ s₁ r f1 I ds P St' hI hP' => turn_name r hb f1 (ScOk.of hsc) hny hl hI hP' (body_compIf r hb (ev h2) (ts h3))
end
end Mini
end

section
open PySem PySem.Spec PySem.Calls PyProof.Rows PySem.W PySem.Builtin PySem.Builtin.Str PySem.StrLaws
set_option maxRecDepth 100000
namespace Mini

theorem bindL_no (kd : Str → Option NameKind) : ∀ (ps : List Str) (vals : List Value) (m : Str → Option Value) (n : Str), n ∉ ps → bindL kd (ps.zip vals) m n = m n
  | [], _, _, _, _ => by simp [bindL]
  | _ :: _, [], _, _, _ => by simp [bindL]
  | p :: ps, v :: vals, m, n, h => by
    rw [List.mem_cons, not_or] at h
    simp only [List.zip_cons_cons, bindL]
    rw [bindL_no kd ps vals _ n h.2]
    split
    · simp [h.1]
    · rfl
theorem bindC_no (kd : Str → Option NameKind) : ∀ (ps : List Str) (vals : List Value) (m : Str → Option Value) (n : Str), n ∉ ps → bindC kd (ps.zip vals) m n = m n
  | [], _, _, _, _ => by simp [bindC]
  | _ :: _, [], _, _, _ => by simp [bindC]
  | p :: ps, v :: vals, m, n, h => by
    rw [List.mem_cons, not_or] at h
    simp only [List.zip_cons_cons, bindC]
    rw [bindC_no kd ps vals _ n h.2]
    split
    · rfl
    · simp [h.1]
theorem bindL_zip (kd : Str → Option NameKind) : ∀ (ps : List Str) (vals : List Value) (m : Str → Option Value) (n : Str) (v : Value) (j : Nat), ps.Nodup → ps[j]? = some n → vals[j]? = some v → kd n = some .local → bindL kd (ps.zip vals) m n = some v
  | [], _, _, _, _, _, _, h, _, _ => by simp at h
  | _ :: _, [], _, _, _, _, _, _, h, _ => by simp at h
  | p :: ps, u :: vals, m, n, v, 0, hd, h1, h2, hk => by
    simp at h1 h2
    subst h1; subst h2
    simp only [List.zip_cons_cons, bindL]
    rw [bindL_no kd ps vals _ p (List.nodup_cons.mp hd).1, if_pos hk]
    simp
  | p :: ps, u :: vals, m, n, v, j + 1, hd, h1, h2, hk => by
    simp only [List.zip_cons_cons, bindL]
    exact bindL_zip kd ps vals _ n v j (List.nodup_cons.mp hd).2 (by simpa using h1) (by simpa using h2) hk
theorem bindC_zip (kd : Str → Option NameKind) : ∀ (ps : List Str) (vals : List Value) (m : Str → Option Value) (n : Str) (v : Value) (j : Nat), ps.Nodup → ps[j]? = some n → vals[j]? = some v → kd n ≠ some .local → bindC kd (ps.zip vals) m n = some v
  | [], _, _, _, _, _, _, h, _, _ => by simp at h
  | _ :: _, [], _, _, _, _, _, _, h, _ => by simp at h
  | p :: ps, u :: vals, m, n, v, 0, hd, h1, h2, hk => by
    simp at h1 h2
    subst h1; subst h2
    simp only [List.zip_cons_cons, bindC]
    rw [bindC_no kd ps vals _ p (List.nodup_cons.mp hd).1, if_neg hk]
    simp
  | p :: ps, u :: vals, m, n, v, j + 1, hd, h1, h2, hk => by
    simp only [List.zip_cons_cons, bindC]
    exact bindC_zip kd ps vals _ n v j (List.nodup_cons.mp hd).2 (by simpa using h1) (by simpa using h2) hk
theorem cells_some {n : Str} : ∀ (names : List (Str × NameKind)) (k : Nat) (acc : List (Str × Addr)), ((n, NameKind.cell) ∈ names ∨ (acc.lookup n).isSome = true) → ((cellsFrom k names acc).lookup n).isSome = true
  | [], k, acc, h => by
    rcases h with h | h
    · cases h
    · exact h
  | (y, kd) :: r, k, acc, h => by
    unfold cellsFrom
    split
    · refine cells_some r _ _ ?_
      by_cases hy : n = y
      · subst hy; right; simp [List.lookup_cons_self]
      · rcases h with h | h
        · rcases List.mem_cons.mp h with e | h
          · cases e; exact absurd rfl hy
          · exact .inl h
        · right; rw [List.lookup_cons, beq_false_of_ne hy]; exact h
    · rename_i hk
      refine cells_some r _ _ ?_
      rcases h with h | h
      · rcases List.mem_cons.mp h with e | h
        · cases e; exact absurd rfl hk
        · exact .inl h
      · exact .inr h

theorem getV_args {ds : List D} {n x : Nat} {Z : X} (h : getV (ds.map (fun d => some (X.d d)) ++ List.replicate n none) x = some Z) : ∃ d, ds[x]? = some d ∧ Z = .d d := by
  unfold getV at h
  rcases Nat.lt_or_ge x ds.length with q | q
  · rw [List.getElem?_append_left (by simpa using q), List.getElem?_map] at h
    refine ⟨ds[x], by simp [q], ?_⟩
    rw [List.getElem?_eq_getElem q] at h
    cases h
    rfl
  · rw [List.getElem?_append_right (by simpa using q), List.getElem?_replicate] at h
    split at h <;> cases h

/-- what is asked of a function's names, once and for all -/
structure CxOk (c : Cx) (ps : List Str) : Prop where
  fn : c.sc.kind = .function
  inj : ∀ x ∈ c.vis, ∀ y ∈ c.vis, c.nm[x]? = c.nm[y]? → x = y
  kinds : ∀ x ∈ c.vis, ∃ n, c.nm[x]? = some n ∧ plainName n = true ∧ (c.sc.names.lookup n = some .local ∨ c.sc.names.lookup n = some .cell)
  nodup : ps.Nodup
  args : ∀ (j : Nat) (n : Str), ps[j]? = some n → c.nm[j]? = some n
  kind : ∀ n ∈ ps, c.sc.names.lookup n = some .local ∨ c.sc.names.lookup n = some .cell

theorem call_frame {K : Wd} {G : Gl K} {fa : Addr} {o : Obj} {fd : FuncData} {ps : List Str} {body : List Stmt} {c : Cx}
    (ho : K.base.get? fa = some o) (hd : o.data = .func fd) (hlim : K.base.NoLimit) (hcd : K.base.CodeRec fd.code fd.qualname) (hbody : fd.body = .stmts body) (hclo : fd.closure = []) (hgl : fd.globals = mainGlobals) (hbi : fd.builtins = builtinsNs)
    (hco : fd.scope.isCoroutine = false) (hgen : fd.scope.isGenerator = false) (hc : c.sc = fd.scope) (hcc : c.code = fd.code) (Xk : CxOk c ps)
    {A : Around} {s : Shared} {O : List Addr} {vals : List Value} {Q : Value → Shared → Prop} (dep : A.depth < recursionLimit) (st : St K s) (htabs : ∀ a ∈ K.tabs, a ∈ O) (hlive : ∀ a ∈ O, ∃ o, s.heap.get? a = some o)
    (B : List Value → Shared → Prop) (hB : ∀ v s', B v s' → v.length = ps.length ∧ Step K s s')
    (hbind : ∀ (Q : List (Str × Value) → Shared → Prop) (E : Value → Shared → Prop), (∀ v s', B v s' → Q (ps.zip v) s') → wpAny (M K) A.in1 (bindArgs fd ⟨vals, []⟩) Q E s)
    (k : ∀ v s₀, B v s₀ → ∀ env O₁ s₁, Ct K c env s₀ O → (∀ (j : Nat) (n : Str) (u : Value), ps[j]? = some n → v[j]? = some u → Loads env K.tabs n u s₁.heap) → (∀ (sa : Addr) (ds : List D) (n : Nat), ds.length = ps.length → (∀ x ∈ c.vis, ∀ u d, v[x]? = some u → ds[x]? = some d → VR sa (Vw O s₀.heap) u d) → Sm K sa c env s₀ O O₁ (fun j => v.getD j .none) (ds.map (fun d => some (X.d d)) ++ List.replicate n none) s₁) →
      wpAny (M K) (A.deeper env) (execs body env) (fun fw s' => ∃ v, fw = .ret v ∧ Q v s') NoE s₁) : wpAny (M K) A (call (.ref fa) vals) Q NoE s := by
  have hk : fd.scope.kind = .function := by rw [← hc]; exact Xk.fn
  have hkd : ∀ n ∈ ps, fd.scope.names.lookup n = some .local ∨ fd.scope.names.lookup n = some .cell := by rw [← hc]; exact Xk.kind
  refine wpAny_call (codeAny_call_function dep (st.base _ _ ho) hd hco hgen hbody (hcd.keeps st.base) ?_)
  refine hbind _ _ fun vals s' hb => ?_
  obtain ⟨hvl, stb⟩ := hB _ _ hb
  have st := st.step G.base stb
  have hlive := live_step st.tinv stb hlive
  rw [hclo]
  refine toks (wpAny_newFunctionEnv_cells hk (fun x hx => ?_) fun env he s₁ Xc => ?_)
  · have hx1 : x.1 ∈ ps := (List.of_mem_zip hx).1
    rcases hkd _ hx1 with h | h
    · exact .inl h
    · exact .inr ⟨h, cells_some _ _ _ (.inl (mem_of_lookup h))⟩
  intro htk
  subst he
  generalize hE : newEnv fd.scope s'.heap.objs.size fd.globals (cellsFrom (s'.heap.objs.size + 1) fd.scope.names []) (fd.qualname ++ ".<locals>.") (some fa) fd.code none fd.builtins = env at Xc ⊢
  have eL : env.locals = s'.heap.objs.size := by rw [← hE]; rfl
  have eS : env.scope = c.sc := by rw [← hE, hc]; rfl
  have eG : env.globals = mainGlobals := by rw [← hE]; exact hgl
  have eB : env.builtins = builtinsNs := by rw [← hE]; exact hbi
  have eC : env.cells = cellsFrom (s'.heap.objs.size + 1) fd.scope.names [] := by rw [← hE]; rfl
  obtain ⟨h₁, tk, rfl, hkp⟩ := Xc.done
  have stp : Step K s' { s' with heap := h₁, toks := tk } := Step.of hkp htk
  have nocell : ∀ n a, env.cells.lookup n = some a → s'.heap.get? a = none := fun n a e => by
    have h1 := Xc.above n a (mem_of_lookup e)
    cases e' : s'.heap.get? a with
    | none => rfl
    | some o =>
      have h2 := Heap.lt_size e'
      rw [eL] at h1
      exact absurd h2 (Nat.not_lt.mpr (Nat.le_of_lt h1))
  have C : Ct K c env s' O := by
    refine ⟨G.base, st, eS, Xk.fn, eG, eB, by rw [← hE, hcc]; rfl, htabs, fun n e => ?_, fun n n' a e e' => name_of_addr Xc.apart (mem_of_lookup e) (mem_of_lookup e'), Xk.inj, Xk.kinds, by rw [eL]; exact new_none, nocell, fun q => ?_, fun n a e q => live_ne (nocell n a e) (hlive a q) rfl⟩
    · rw [eC]
      have : c.sc.names.lookup n = some .cell := e
      rw [hc] at this
      exact Option.isSome_iff_exists.mp (cells_some _ _ _ (.inl (mem_of_lookup this)))
    · rw [eL] at q
      exact live_ne new_none (hlive _ q) rfl
  have kofe : ∀ n, env.kindOf n = c.sc.names.lookup n := fun n => by show env.scope.names.lookup n = _; rw [eS]
  have hld : ∀ (x : Nat) (n : Str) (u : Value), ps[x]? = some n → vals[x]? = some u → Loads env K.tabs n u h₁ := fun x n u hpx hvx => by
    rcases Xk.kind n (List.mem_of_getElem? hpx) with hkl | hkc
    · exact .inl ⟨by rw [kofe]; exact hkl, C.Ltab, _, Xc.toInCall.ns, bindL_zip _ ps vals _ _ _ x Xk.nodup hpx hvx (by rw [kofe]; exact hkl)⟩
    · obtain ⟨a, ha⟩ := C.cells _ hkc
      have hcl := Xc.cell _ a ha
      rw [bindC_zip _ ps vals _ _ _ x Xk.nodup hpx hvx (by rw [kofe, hkc]; decide)] at hcl
      exact .inr ⟨by rw [kofe]; exact hkc, a, ha, C.ctab ha, hcl⟩
  refine ⟨(hlim.keeps st.base).keeps hkp, codeAny_func (wpAny_mono (k vals s' hb env (env.locals :: (env.cells.filterMap (fun p => env.cells.lookup p.1) ++ O)) _ C (fun x n u hpx hvx => ?_) fun sa ds n hdl hv => ?_) (fun fw s'' q => ?_) fun _ _ e => e.elim)⟩
  · exact hld x n u hpx hvx
  · have vw : ∀ b o, Vw O s'.heap b o → Vw (env.locals :: (env.cells.filterMap (fun p => env.cells.lookup p.1) ++ O)) h₁ b o := fun b o q => ⟨by
      rw [List.mem_cons, List.mem_append, not_or, not_or]
      refine ⟨fun e => ?_, fun e => ?_, q.1⟩
      · rw [eL] at e
        exact live_ne new_none ⟨o, q.2⟩ e
      · obtain ⟨⟨n, a⟩, hm, hl⟩ := List.mem_filterMap.mp e
        exact live_ne (nocell n b hl) ⟨o, q.2⟩ rfl, hkp b o q.2⟩
    have cellmem : ∀ n a, env.cells.lookup n = some a → a ∈ env.cells.filterMap (fun p => env.cells.lookup p.1) := fun n a e => List.mem_filterMap.mpr ⟨(n, a), mem_of_lookup e, e⟩
    refine ⟨stp, fun a ha => by rw [List.mem_cons, List.mem_append]; exact .inr (.inr ha), fun a ha => ?_, List.mem_cons_self, ⟨_, Xc.toInCall.ns⟩, fun n a e => ⟨⟨_, Xc.cell n a e⟩, by rw [List.mem_cons, List.mem_append]; exact .inr (.inl (cellmem n a e))⟩, fun x hx Z hZ => ?_, fun x hx l hl => ?_, fun x hx y hy hne l l' hl => ?_, fun y hy x hX => ?_⟩
    · rw [List.mem_cons, List.mem_append] at ha
      rcases ha with rfl | ha | ha
      · obtain ⟨o, _, _, ho, _⟩ := Xc.toInCall.ns; exact ⟨o, ho⟩
      · obtain ⟨⟨n, a'⟩, hm, hl⟩ := List.mem_filterMap.mp ha
        obtain ⟨o, ho, _⟩ := Xc.cell n a hl
        exact ⟨o, ho⟩
      · obtain ⟨o, ho⟩ := hlive a ha
        exact ⟨o, hkp a o ho⟩
    · obtain ⟨d, hd', rfl⟩ := getV_args hZ
      have hxl : x < ps.length := by have := (List.getElem?_eq_some_iff.mp hd').1; omega
      have hpx : ps[x]? = some ps[x] := by simp [hxl]
      have hvx : vals[x]? = some (vals.getD x .none) := by
        have : x < vals.length := by omega
        simp [List.getD, this]
      exact ⟨ps[x], Xk.args x _ hpx, hld x _ _ hpx hvx, (hv x hx _ d hvx hd').mono vw⟩
    · obtain ⟨d, _, e⟩ := getV_args hl; cases e
    · obtain ⟨d, _, e⟩ := getV_args hl; cases e
    · obtain ⟨d, _, e⟩ := getV_args hX; cases e
  · obtain ⟨v, rfl, q⟩ := q
    exact q

/-- a run of the mini text is a call of the function at an address -/
theorem call_at {K : Wd} {G : Gl K} {m : Nat} {prim : Nat → List D → Option D} {fa : Addr} {o : Obj} {fd : FuncData} {ps : List Str} {body : List Stmt} {f : Fn} {c : Cx} {fuel : Nat} {ds : List D} {r : D}
    (ho : K.base.get? fa = some o) (hd : o.data = .func fd) (hlim : K.base.NoLimit) (hcd : K.base.CodeRec fd.code fd.qualname) (hbody : fd.body = .stmts body) (hclo : fd.closure = []) (hgl : fd.globals = mainGlobals) (hbi : fd.builtins = builtinsNs)
    (hco : fd.scope.isCoroutine = false) (hgen : fd.scope.isGenerator = false) (hbind : ∀ vals : List Value, vals.length = ps.length → bindArgs fd ⟨vals, []⟩ = pure (ps.zip vals))
    (hc : c.sc = fd.scope) (hcc : c.code = fd.code) (Xk : CxOk c ps) (tie : TieS K m prim c f.body (.many body)) (hP : PrimOk K G m prim) (hr : f.run prim fuel ds = some r) (hlen : ds.length = ps.length)
    {sa : Addr} {A : Around} {s : Shared} {O : List Addr} {vals : List Value} (rm : Rm A (m + 1)) (st : St K s) (htabs : ∀ a ∈ K.tabs, a ∈ O) (hlive : ∀ a ∈ O, ∃ o, s.heap.get? a = some o) (hv : VRs sa (Vw O s.heap) vals.toArray ds) :
    wpAny (M K) A (call (.ref fa) vals) (Gv K sa O (.d r) s) NoE s := by
  have hvl : vals.length = ps.length := by have := hv.1; rw [List.size_toArray] at this; omega
  obtain ⟨⟨fl, ρ'⟩, hev, hr⟩ := ob hr
  cases fl with
  | next => cases hr
  | brk => cases hr
  | ret d =>
  cases opure hr
  refine call_frame (G := G) ho hd hlim hcd hbody hclo hgl hbi hco hgen hc hcc Xk (by have := rm.depth; omega) st htabs hlive (fun v s' => v = vals ∧ s' = s) (fun v s' q => by obtain ⟨rfl, rfl⟩ := q; exact ⟨hvl, .refl⟩)
    (fun Q E h => by rw [hbind vals hvl]; exact wpAny_pure (h _ _ ⟨rfl, rfl⟩)) fun v s₀ q env O₁ s₁ C _ S => ?_
  obtain ⟨rfl, rfl⟩ := q
  refine wpAny_mono (tieS_ok hP tie sa (A.deeper env) env _ O _ _ _ _ fuel _ _ rm.deeper C (S sa ds _ hlen fun x _ u d hu hd => hv.2 x u d (by simpa using hu) hd) hev) (fun fw s' q => ?_) fun _ _ e => e.elim
  obtain ⟨v, rfl, st2, hv2⟩ := q
  exact ⟨v, rfl, hv2, st2⟩

theorem call_mini {K : Wd} {G : Gl K} {m : Nat} {prim : Nat → List D → Option D} {i : Nat} {o : Obj} {fd : FuncData} {ps : List Str} {body : List Stmt} {f : Fn} {c : Cx} {fuel : Nat} {ds : List D} {r : D}
    (ho : K.base.get? (fnAddr i) = some o) (hd : o.data = .func fd) (hlim : K.base.NoLimit) (hcd : K.base.CodeRec fd.code fd.qualname) (hbody : fd.body = .stmts body) (hclo : fd.closure = []) (hgl : fd.globals = mainGlobals) (hbi : fd.builtins = builtinsNs)
    (hco : fd.scope.isCoroutine = false) (hgen : fd.scope.isGenerator = false) (hbind : ∀ vals : List Value, vals.length = ps.length → bindArgs fd ⟨vals, []⟩ = pure (ps.zip vals))
    (hc : c.sc = fd.scope) (hcc : c.code = fd.code) (Xk : CxOk c ps) (tie : TieS K m prim c f.body (.many body)) (hP : PrimOk K G m prim) (hr : f.run prim fuel ds = some r) (hlen : ds.length = ps.length) : CallOk K G (m + 1) i ds r :=
  fun _ _ _ _ _ rm st htabs hlive hv => call_at ho hd hlim hcd hbody hclo hgl hbi hco hgen hbind hc hcc Xk tie hP hr hlen rm st htabs hlive hv
end Mini
end

section
open PySem PySem.Spec PySem.Calls PyProof.Rows PySem.W PySem.Builtin PySem.Builtin.Str PySem.StrLaws
set_option maxRecDepth 100000
namespace Mini

theorem lookup_object_new : typeLookup (.type "object") "__new__" = pure (some (.builtin "object.__new__")) := by rw [typeLookup_type, builtinLookup_eq_fast]; kernel_rfl
theorem madeBy_object : Bind.madeBy (.type "object") = pure (some "object.__new__") := madeBy_type PySem.F.mro_object lookup_object_new (by decide +kernel)
theorem called_object : TypeCalled "object" "object.__new__" "object.__init__" :=
  ⟨by decide +kernel, by decide +kernel, ⟨_, _, PySem.F.mro_object⟩, madeBy_object, by decide +kernel, by rw [isSubtype_type]; kernel_rfl, PySem.F.slot_object_init⟩
theorem typeCall_object_0 : checkTypeCall "object" ⟨[], []⟩ = pure () := by kernel_rfl
theorem newCall_object_0 : checkBuiltinCall "object.__new__" ⟨[.type "object"], []⟩ = pure () := by kernel_rfl
theorem isType_object : isType (.type "object") = pure true := by kernel_rfl
theorem staticBase_object : Bind.staticBase (.type "object") = pure (.type "object") := by kernel_rfl
noncomputable abbrev starO : Obj := { cls := .type "object", data := .plain }
theorem madeHere_object : Bind.madeHere "object.__new__" (.type "object") = pure () := by
  unfold Bind.madeHere
  rw [staticBase_object, pure_bind, madeBy_object, pure_bind]
  rfl
theorem object_new_meets : Meets («object.__new__» ⟨[.type "object"], []⟩) (fun _ R s => R (.ok (.ret (.ref s.heap.objs.size))) { s with heap := s.heap.push starO }) := by
  refine Meets.of_wp fun prog w A R s hs => ?_
  unfold «object.__new__»
  have h1 : ((Manifest.find? "object").elim false (·.mro.any fun t => (Manifest.find? t).elim false (·.noNew))) = false := by decide +kernel
  have h2 : typeHasDict (.type "object") = false := by decide +kernel
  have h3 : diesByItsTypesDel "object" = false := by decide +kernel
  dsimp only
  simp only [isType_object, pure_bind, h1, madeHere_object, h2, h3, Bool.not_true, Bool.false_eq_true, if_false, List.isEmpty_nil, Bool.not_true, Bool.or_self]
  refine wpAny_bind (wpAny_newObj_type ?_)
  exact wpAny_pure ⟨_, rfl, hs⟩

section
variable {prog : Program} {w : World} {A : Around} {s : Shared}
theorem object_init_1 (obj : Value) : Meets («object.__init__» ⟨[obj], []⟩) (fun _ R s => R (.ok (.ret .none)) s) := by
  refine Meets.of_wp fun prog w A R s hs => ?_
  exact wpAny_pure ⟨_, rfl, hs⟩
theorem call_object {Q : Value → Shared → Prop} {E : Value → Shared → Prop} (h : Q (.ref s.heap.objs.size) { s with heap := s.heap.push starO }) : wpAny (model prog w) A (call (.type "object") []) Q E s :=
  callType_meets (Q₁ := fun obj s₁ => s₁.TypeIs obj "object" ∧ Q obj s₁) called_object typeCall_object_0 newCall_object_0 PySem.F.entry_object_new PySem.F.entry_object_init object_new_meets
    ⟨⟨_, Heap.get?_push_at rfl rfl, rfl⟩, h⟩
    fun obj s₁ hq => ⟨hq.1, PySem.F.args_object_init_1 obj, _, object_init_1 obj, rfl, hq.2⟩
end
end Mini
end

section
open PySem PySem.Spec PySem.Calls PyProof.Rows PySem.W PySem.Builtin PySem.Builtin.Str PySem.StrLaws
set_option maxRecDepth 100000
namespace Mini

noncomputable def f_tr2 : T := .seq (.asg 2 (.call3 3 (.v 0) (.v 1) (.str [46]))) (.seq (.ret (.call2 4 (.v 2) (.v 1))) .skip)

theorem translate_ok {K : Wd} {G : Gl K} {m : Nat} {prim : Nat → List D → Option D} {o : Obj} {fd : FuncData} {body : List Stmt} {c : Cx} {p q : S} {d : D} {n : Str} {p1 p2 p3 p4 : Pos}
    (ho : K.base.get? (fnAddr 1) = some o) (hd : o.data = .func fd) (hlim : K.base.NoLimit) (hcd : K.base.CodeRec fd.code fd.qualname) (hbody : fd.body = .stmts (.Assign [.Name n p1] (.Call (.Name "object" p2) [] [] p3) p4 :: body)) (hclo : fd.closure = []) (hgl : fd.globals = mainGlobals) (hbi : fd.builtins = builtinsNs)
    (hco : fd.scope.isCoroutine = false) (hgen : fd.scope.isGenerator = false) (hbind : ∀ vals : List Value, vals.length = 1 → bindArgs fd ⟨vals, []⟩ = pure ((["pat"] : List Str).zip vals))
    (hc : c.sc = fd.scope) (hcc : c.code = fd.code) (Xk : CxOk c ["pat"]) (hx : 1 ∈ c.vis) (hn : c.nm[1]? = some n) (hg : c.gl "object") (tie : TieS K m prim c f_tr2 (.many body)) (hP : PrimOk K G m prim)
    (h1 : prim 3 [.str p, .star, .str [46]] = some d) (h2 : prim 4 [d, .star] = some (.str q)) : CallOk K G (m + 1) 1 [.str p] (.str q) := by
  intro sa A s O vals rm st htabs hlive hv
  have hvl : vals.length = 1 := by have := hv.1; rw [List.size_toArray] at this; exact this
  have hv' : ∀ sa', VRs sa' (Vw O s.heap) vals.toArray [.str p] := fun sa' => by
    match vals, hvl with
    | [v], _ =>
      obtain ⟨x, t, rfl, rfl⟩ := VR.text (hv.2 0 v (.str p) rfl rfl)
      exact VRs.ofList (.str x t) VRs.nil
  refine call_frame (G := G) ho hd hlim hcd hbody hclo hgl hbi hco hgen hc hcc Xk (by have := rm.depth; omega) st htabs hlive (fun v s' => v = vals ∧ s' = s) (fun v s' q => by obtain ⟨rfl, rfl⟩ := q; exact ⟨hvl, .refl⟩)
    (fun Q E h => by rw [hbind vals hvl]; exact wpAny_pure (h _ _ ⟨rfl, rfl⟩)) fun v s₀ q env O₁ s₁ C _ S => ?_
  obtain ⟨rfl, rfl⟩ := q
  have S1 := S s₁.heap.objs.size [.str p] 2 rfl fun x _ u d hu hd => (hv' _).2 x u d (by simpa using hu) hd
  refine wpAny_execs_cons (wpAny_Assign_Name (wpAny_Call_Name_kw (name_bi G (S1.fm C) hg G.obj (name_of _ (by decide)) (PySem.callWith_type rfl (PySem.evalArgs_none (call_object ?_))))) rfl)
  refine (S1.next C (Step.push starO)).store (X := .d .star) C hx hn (fun s' _ _ => .star) (fun l e => by cases e) (fun _ e => by cases e) fun V' s2 S2 x2 => ?_
  have hev : evalS prim 1 f_tr2 (setV [some (.d (.str p)), none, none] 1 (.d .star)) = some (.ret (.str q), [some (.d (.str p)), some (.d .star), some (.d d)]) := by
    have h0 : okS [46] = some (.d (.str [46])) := by rfl
    simp [f_tr2, evalS, evalE, setV, getV, asD, h0, h1, h2]
  refine wpAny_mono (tieS_ok hP tie _ (A.deeper env) env _ O _ _ _ _ 1 _ _ rm.deeper C S2 hev) (fun fw s' q => ?_) fun _ _ e => e.elim
  obtain ⟨v, rfl, st2, hv2⟩ := q
  obtain ⟨x, t, rfl, rfl⟩ := VR.text hv2
  exact ⟨_, rfl, .str x t, st2⟩
end Mini
end

section
open PySem PySem.Spec PySem.Calls PyProof.Rows PySem.W PySem.Builtin PySem.Builtin.Str PySem.StrLaws
open PySem.Builtin.Re
set_option maxRecDepth 100000
namespace Mini

noncomputable def reNats : List Nat := [14, 14, 4, 1, 1, 9, 0, 64, 0, 1342177280, 0, 0, 0, 0, 0, 17, 0, 13, 11, 9, 0, 64, 0, 1342177280, 0, 0, 0, 0, 0, 17, 1, 1]
noncomputable def reVals : Array Value := (reNats.map fun n => Value.int (Int.ofNat n) 0).toArray
noncomputable abbrev patO (x : Str) (t : Tok) : Obj := { cls := .type "re.Pattern", data := .fields #[.str x t, .int 32 331, .int 1 0, .none, .none, .ref 42, .int 0 0] }
noncomputable abbrev codO : Obj := { cls := .type "tuple", data := .seq reVals 0 }

section
variable {prog : Program} {w : World} {A : Around} {E : Value → Shared → Prop} {s : Shared}

theorem rules_loop (p : Nat → Bool) (g : Nat → String) {Q : PUnit → Shared → Prop} : ∀ (l : List Nat), Q PUnit.unit s → wpAny (model prog w) A (forIn l PUnit.unit fun i _ => (if p i = true then do rule (g i); pure (ForInStep.yield PUnit.unit) else pure (ForInStep.yield PUnit.unit) : Sem (ForInStep PUnit))) Q E s
  | [], h => wpAny_pure h
  | i :: l, h => by
    have ih := rules_loop p g (Q := Q) l h
    rw [List.forIn_cons]
    cases hp : p i with
    | true =>
      simp only [if_true]
      exact wpAny_bind (wpAny_bind (wpAny_rule (wpAny_pure ih)))
    | false =>
      simp only [Bool.false_eq_true, if_false]
      exact wpAny_bind (wpAny_pure ih)
noncomputable def failsAtOnce (l : S) : Bool := match ((Sre.forSearch reNats.toArray l.toArray 1 0 l.length false).runFor reTurnSteps).outcome with
  | some .failed => true
  | _ => false
theorem fails_all : (reTexts.all failsAtOnce) = true := by decide +kernel
theorem next_none {l : S} {t : ReTarget} (hl : l ∈ reTexts) (h1 : t.code = reNats.toArray) (h2 : t.text = l.toArray) (h3 : t.groups = 1) (h4 : t.lim = l.length) {Q : Option Sre.M → Shared → Prop} (h : Q none s) :
    wpAny (model prog w) A (reNextFound t 0 false) Q E s := by
  have hf := List.all_eq_true.mp fails_all l hl
  unfold reNextFound
  rw [h1, h2, h3, h4]
  unfold failsAtOnce at hf
  generalize hm : (Sre.forSearch reNats.toArray l.toArray 1 0 l.length false) = m0 at hf ⊢
  generalize hm1 : m0.runFor reTurnSteps = m1 at hf
  have ho : m1.outcome = some .failed := by
    split at hf
    · assumption
    · cases hf
  unfold reRunToEnd
  refine wpAny_bind ?_
  show wpAny _ _ (reDrive (18446744073709551615 + 1) m0) _ _ _
  unfold reDrive
  dsimp only
  rw [hm1, ho]
  refine wpAny_pure (wpAny_bind (rules_loop _ _ _ ?_))
  rw [ho]
  exact wpAny_pure h

theorem whole_target {x y : Str} {t u : Tok} {Q : ReTarget → Shared → Prop} (h43 : s.heap.get? 43 = some (patO y u)) (h42 : s.heap.get? 42 = some codO)
    (h : Q { pattern := .ref 43, string := .str x t, code := reNats.toArray, text := x.cps, kind := 0, groups := 1, pos := 0, lim := x.cps.size } s) : wpAny (model prog w) A (reWholeTarget (.ref 43) (.str x t)) Q E s := by
  unfold reWholeTarget
  refine wpAny_bind (wpAny_fieldsOf h43 rfl (wpAny_bind (m := reTextOf (.str x t)) ?_))
  unfold reTextOf
  refine wpAny_bind (m := asStr? (.str x t)) (wpAny_pure (wpAny_pure ?_))
  dsimp only
  have e6 : reRawNat ((#[Value.str y u, .int 32 331, .int 1 0, .none, .none, .ref 42, .int 0 0] : Array Value).getD 6 .none) = 0 := rfl
  have e2 : reRawNat ((#[Value.str y u, .int 32 331, .int 1 0, .none, .none, .ref 42, .int 0 0] : Array Value).getD 2 .none) = 1 := rfl
  have e5 : ((#[Value.str y u, .int 32 331, .int 1 0, .none, .none, .ref 42, .int 0 0] : Array Value).getD 5 .none) = .ref 42 := rfl
  rw [e6, e2, e5]
  refine wpAny_bind (wpAny_pure ?_)
  refine wpAny_bind (m := reRawItems (.ref 42)) ?_
  unfold reRawItems
  refine wpAny_bind (m := seqItems? (.ref 42)) ?_
  unfold seqItems?
  refine wpAny_bind (wpAny_load h42 (wpAny_pure (wpAny_pure (wpAny_pure ?_))))
  rw [show Array.map (fun x => x.toNat) (Array.map reRawOf ((some reVals).getD #[])) = reNats.toArray by decide +kernel]
  exact h

theorem sub_loop {x y : Str} {t u : Tok} {rp : Value} {L : Addr} {Q : Fin → Shared → Prop} (hx : x.cps.toList ∈ reTexts) (h43 : s.heap.get? 43 = some (patO y u)) (h42 : s.heap.get? 42 = some codO) (hl : s.heap.get? L = some (lstO #[] 0))
    (h : ∀ t' h' k, (∀ b o, b ≠ L → s.heap.get? b = some o → h'.get? b = some o) → Q (.done (.ret (.str x t'))) { s with heap := h', toks := k }) :
    wpAny (model prog w) A («re.Pattern.sub.loop» ⟨[.ref 43, .str x t, rp, rawInt 1, rawInt 0, rawInt 0, rawInt 0, rawInt 0, .bool false, .ref L, .bool false], []⟩) Q E s := by
  unfold «re.Pattern.sub.loop»
  dsimp only
  refine wpAny_bind (whole_target h43 h42 ?_)
  have hne : x.cps.size ≠ 0 := by
    intro e
    have : x.cps = #[] := Array.eq_empty_of_size_eq_zero e
    rw [this] at hx
    revert hx
    decide
  have hsz : x.cps.size ≤ 12 := by
    rw [← Array.length_toList]
    generalize x.cps.toList = l at hx
    revert hx
    revert l
    decide
  rw [if_neg (by decide)]
  dsimp only
  refine wpAny_bind ?_
  rw [if_neg (by decide)]
  refine next_none (l := x.cps.toList) hx rfl (by simp) rfl (by simp) ?_
  dsimp only
  rw [if_pos (show (0 : Int).toNat < x.cps.size from Nat.pos_of_ne_zero hne)]
  refine wpAny_bind ?_
  unfold reSlice
  rw [if_pos (by decide)]
  have hex : (⟨x.cps.extract (0 : Int).toNat x.cps.size⟩ : Str) = x := by
    show (⟨x.cps.extract 0 x.cps.size⟩ : Str) = x
    rw [Array.extract_size]
  rw [hex]
  have hln : x.length ≤ sizeLine := by
    show x.cps.size ≤ _
    exact Nat.le_trans hsz (by decide)
  refine wpAny_mkStr ?_ hln
  refine wpAny_bind (wpAny_updateSeq hl rfl ?_)
  refine wpAny_bind ?_
  refine wpAny_mkStr ?_ (by show (x.cps.extract 0 0).size ≤ _; rw [Array.size_extract, Nat.zero_min]; exact Nat.zero_le _)
  have hl2 := Heap.get?_update_self (h := s.heap) (Obj.mapSeq (·.push (Value.str x s.toks))) hl rfl
  refine wpAny_bind (m := seqItems? (.ref L)) ?_
  unfold seqItems?
  refine wpAny_bind (wpAny_load hl2 (wpAny_pure ?_))
  rw [if_neg (by simp)]
  rw [if_pos (by decide)]
  refine wpAny_bind ?_
  refine SC.join (l := [(x, s.toks)]) ⟨_, hl2, rfl, _, rfl⟩ rfl ?_ fun t' k => ?_
  · unfold JoinOk
    rw [Bool.not_eq_true']
    show tooLong (0 + x.cps.size + (x.cps.extract 0 0).size) = false
    rw [Array.size_extract]
    exact decide_eq_false (by rw [Nat.not_lt]; exact Nat.le_trans (show 0 + x.cps.size + (Min.min 0 x.cps.size - 0) ≤ 12 by rw [Nat.zero_min]; omega) (by decide))
  · rw [if_neg (by decide)]
    refine wpAny_pure ?_
    exact h _ _ _ fun b o hb e => (Heap.SameBut.update ..).extBut b o hb e

theorem slot_pat_sub : Slot "re.Pattern" "sub" "re.Pattern.sub" :=
  .of (owner := "re.Pattern") (n := "sub") (by rw [typeLookup_type, builtinLookup_eq_fast]; kernel_rfl) (by decide +kernel) (by decide +kernel) (by decide +kernel)
    (by first | exact .inl (by decide +kernel) | exact .inr (by decide +kernel)) (by rw [isSubtype_type]; kernel_rfl)
theorem entry_pat_sub : entryFor table "re.Pattern.sub" = some «re.Pattern.sub» := entryFor_of_tree (by kernel_rfl)
theorem entry_pat_loop : entryFor table "re.Pattern.sub.loop" = some «re.Pattern.sub.loop» := entryFor_of_tree (by kernel_rfl)
theorem type_pat_sub : typeOf (.builtin "re.Pattern.sub") = pure (.type "method_descriptor") := by show builtinType _ = _; rw [builtinType_eq_fast]; kernel_rfl
theorem args_pat_sub (a b c : Value) : argsOk "re.Pattern.sub" ⟨[a, b, c], []⟩ := by
  kernel_rfl
theorem lookup_fn_call : ∃ v, typeLookup (.type "function") "__call__" = pure (some v) := ⟨.builtin "function.__call__", by rw [typeLookup_type, builtinLookup_eq_fast]; kernel_rfl⟩
theorem str_not_bytearray : isSubtype (.type "str") (.type "bytearray") = pure false := by rw [isSubtype_type]; kernel_rfl
theorem named_ok (a b : Value) : reNamed "re.Pattern.sub" "sub" ["repl", "string", "count"] 2 [a, b] [] = pure [some a, some b, none] := by rfl

theorem plain_pat_loop : plainId "re.Pattern.sub.loop" = true := by decide +kernel
theorem call_sub {x y : Str} {t u : Tok} {lam : Addr} {Q : Value → Shared → Prop} (hx : x.cps.toList ∈ reTexts) (h43 : s.heap.get? 43 = some (patO y u)) (h42 : s.heap.get? 42 = some codO) (hlam : s.TypeIs (.ref lam) "function")
    (h : ∀ t' h' k, (∀ b o, s.heap.get? b = some o → h'.get? b = some o) → Q (.str x t') { s with heap := h', toks := k }) :
    wpAny (model prog w) A (call (.builtin "re.Pattern.sub") [.ref 43, .ref lam, .str x t]) Q E s := by
  refine wpAny_call (codeAny_call_builtin slot_pat_sub.plain entry_pat_sub (slot_pat_sub.check _ _ _ _ _ _ _ _ ⟨_, h43, rfl⟩ (args_pat_sub _ _ _) ?_))
  unfold «re.Pattern.sub» reSubstitute
  dsimp only
  rw [named_ok]
  refine wpAny_bind (wpAny_pure ?_)
  dsimp only
  refine wpAny_bind (wpAny_pure ?_)
  obtain ⟨cv, hcv⟩ := lookup_fn_call
  refine wpAny_bind (wpAny_specialOf hlam hcv ?_)
  dsimp only [Option.isSome_some]
  rw [if_pos rfl]
  refine wpAny_bind (wpAny_pure ?_)
  rw [if_pos rfl]
  refine wpAny_bind (wpAny_pure ?_)
  dsimp only
  refine wpAny_bind (wpAny_holding (whole_target h43 h42 ?_))
  rw [if_pos (by decide)]
  refine wpAny_bind (m := reNotHeld _ _) ?_
  unfold reNotHeld
  refine wpAny_bind (wpAny_isInstance (typeIs_str _ _ _) str_not_bytearray ?_)
  rw [if_neg (by decide)]
  refine wpAny_pure ?_
  refine wpAny_bind (m := newList []) ?_
  unfold newList
  refine wpAny_newObj_type ?_
  refine wpAny_pure ⟨plainId_quiet plain_pat_loop _, codeAny_builtin entry_pat_loop ?_⟩
  rw [Around.under_plainId plain_pat_loop _]
  have hk : ∀ b o, s.heap.get? b = some o → (s.heap.push (lstO #[] 0)).get? b = some o := fun b o e => Heap.get?_push_of_some _ e
  refine sub_loop (s := { s with heap := s.heap.push (lstO #[] 0) }) hx (hk _ _ h43) (hk _ _ h42) (Heap.get?_push_size _ rfl) fun t' h' k hk' => ?_
  exact h t' h' k fun b o e => hk' b o (Nat.ne_of_lt (Heap.lt_size e)) (hk b o e)
end
end Mini
end

section
open PySem PySem.Spec PySem.Calls PyProof.Rows PySem.W PySem.Builtin PySem.Builtin.Str PySem.StrLaws
set_option maxRecDepth 100000
namespace Mini

structure Gx (K : Wd) (G : Gl K) : Prop where
  tinvE : ∀ h, K.tinv h ↔ ∀ P ∈ K.tabs, ∃ ps, h.get? P = some (tabObj ps) ∧ TriplesOk ps.toList
  tabsE : K.tabs = [33, 64]
  hd1 : CodeHd K.base 37 33
  hd2 : CodeHd K.base 68 64
  bmain : ∃ bm ob, G.mg "__builtins__" = some (.ref bm) ∧ bm ≠ builtinsNs ∧ bm ≠ mainGlobals ∧ K.base.get? bm = some ob ∧ ob.cls = .type "module" ∧ ob.dict = some builtinsNs ∧ ob.data = .plain
  nolim : K.base.NoLimit
  pat : ∃ x t, K.base.get? 43 = some (patO x t)
  cod : K.base.get? 42 = some codO

section
variable {K : Wd} {G : Gl K} {m : Nat} {prim : Nat → List D → Option D} {c : Cx} {sa : Addr} {A : Around} {env : PySem.Env} {O : List Addr} {ρ : Env} {s : Shared}

theorem Gx.tab (X : Gx K G) {s : Shared} (st : St K s) {P : Addr} (hP : P ∈ K.tabs) : ∃ ps, s.heap.get? P = some (tabObj ps) ∧ TriplesOk ps.toList := (X.tinvE _).mp st.tinv P hP
theorem Gx.bmod (X : Gx K G) {s : Shared} (st : St K s) {P : Addr} (hP : P ∈ K.tabs) : s.heap.BuiltinsAt G.mg P :=
  let ⟨bm, ob, h1, h2, h3, h4, h5⟩ := X.bmain
  ⟨bm, ob, h1, h2, h3, (fun e => by rw [e, G.base P hP] at h4; cases h4), st.base _ _ h4, h5⟩
theorem nsG_ne (h : s.heap.Ns mainGlobals m') {P : Addr} {ps : Array Value} (e : s.heap.get? P = some (tabObj ps)) : mainGlobals ≠ P := fun q => by
  obtain ⟨o, es, ep, ho, hd, _⟩ := h
  rw [q, e] at ho; cases ho; cases hd

/-- one code object more in a table -/
theorem Gx.grown (X : Gx K G) {s : Shared} {P : Addr} {ps' : Array Value} {h' : Heap} {tk : Nat} (hP : P ∈ K.tabs) (hx : Heap.ExtBut P s.heap h') (hn : h'.get? P = some (tabObj ps')) (ht : TriplesOk ps'.toList) (hk : s.toks ≤ tk) :
    Step K s { s with heap := h', toks := tk } :=
  ⟨fun b o hb e => hx b o (fun q => hb (q ▸ hP)) e, rfl, id, fun hi => (X.tinvE _).mpr fun P' hP' => by
    by_cases e : P' = P
    · exact ⟨ps', e ▸ hn, ht⟩
    · obtain ⟨ps, h1, h2⟩ := (X.tinvE _).mp hi P' hP'
      exact ⟨ps, hx _ _ e h1, h2⟩, hk⟩

theorem noFree_clos {scope : Scope} (h : scope.names.all (fun x => x.2 != .free) = true) : closureFor scope env = pure [] := by
  simp only [closureFor]
  rw [forIn_yield_id [] (fun x hx c => by
    obtain ⟨n, kind⟩ := x
    have : (kind == NameKind.free) = false := by have := List.all_eq_true.mp h _ hx; simpa using this
    simp only [this, Bool.false_eq_true, if_false])]
  rfl

theorem ev_lambda (X : Gx K G) {Q : Value → Shared → Prop} {E : Value → Shared → Prop} {params : Arguments} {body : Expr} {scope : Scope} {pos : Pos} (st : St K s) (hg : env.globals = mainGlobals) (hcode : env.code = .ref 68) (hdf : ∀ env, defaultsOf params env = ([], []))
    (hfree : scope.names.all (fun x => x.2 != .free) = true) (h : ∀ lam s', Step K s s' → s'.TypeIs (.ref lam) "function" → Q (.ref lam) s') :
    wpAny (M K) A (eval (.Lambda params body scope pos) env) Q E s := by
  rw [arm_eval_Lambda, hdf]
  dsimp only
  refine toks ?_
  refine wpAny_bind (m := evalAll []) (wpAny_pure (wpAny_bind (wpAny_holding (m := evalAllOpt []) (wpAny_pure ?_))))
  have hP : 64 ∈ K.tabs := by rw [X.tabsE]; simp
  obtain ⟨ps, hps, htr⟩ := X.tab st hP
  have hng := G.hg.keeps st.base
  have C := X.hd2.keeps st.base
  cases hf : codeAmong pos ps.toList with
  | some cv => 
    refine kla_makeFunctionHit (noFree_clos hfree) hg hng hcode C hps htr hf (X.bmod st hP) fun ctv h' tk hk hsz htk => ?_
    exact h _ _ ((Step.of (s := s) (h' := h'.push _) (fun b o e => Heap.get?_push_of_some _ (hk b o e)) htk)) ⟨_, Heap.get?_push_size _ rfl, rfl⟩
  | none =>
    refine kla_makeFunction (noFree_clos hfree) hg hng hcode C hps htr hf (nsG_ne hng hps) (X.bmod st hP) fun c' ctv h' tk hx hge hlt hrec hn htk => ?_
    exact h _ _ (X.grown hP (fun b o hb e => Heap.get?_push_of_some _ (hx b o hb e)) (Heap.get?_push_of_some _ hn) (by rw [Array.toList_append]; exact TriplesOk_snoc _ _ _ _ htr) htk) ⟨_, Heap.get?_push_size _ rfl, rfl⟩

theorem plainAttrs_pat : PlainAttrs "re.Pattern" :=
  ⟨⟨"object.__getattribute__", by rw [typeLookup_type, builtinLookup_eq_fast]; kernel_rfl, by decide +kernel⟩, by rw [typeLookup_type, builtinLookup_eq_fast]; kernel_rfl⟩

theorem ev_reSub (X : Gx K G) {x : Nat} {nT : Str} {n : Str} {params : Arguments} {body : Expr} {scope : Scope} {q0 q p pl pn : Pos} (hc : c.code = .ref 68) (hT : nT = "_twin_re_1") (hq : (q.endLine == p.line) = true) (hg : c.gl "_twin_re_1")
    (hdf : ∀ env, defaultsOf params env = ([], [])) (hfree : scope.names.all (fun x => x.2 != .free) = true) (hn : c.nm[x]? = some n) (hp : plainName n = true) (hx : x ∈ c.vis) :
    EvOk K m prim c (.reSub (.v x)) (.Call (.Attribute (.Name nT q0) (Str.ofString "sub") q) [.Lambda params body scope pl, .Name n pn] [] p) := fun sa A env O ρ s z r f h => by
  subst hT
  simp only [evalE] at h
  obtain ⟨y, hy, h⟩ := ob h
  have hy' : evalE prim (.v x) ρ = some y := by simpa only [evalE] using hy
  unfold reSubX at h
  obtain ⟨l, hl, h⟩ := ob h
  split at h
  case isFalse => cases h
  rename_i hm
  obtain ⟨rfl, _⟩ := okS_some h
  cases asS_some hl
  obtain ⟨px, pt, hpat⟩ := X.pat
  refine wpAny_Call_method rfl (by rfl) hq plainAttrs_pat slot_pat_sub type_pat_sub (name_gl G f hg G.twin (name_of _ (by decide)) ⟨⟨_, f.st.base _ _ hpat, rfl⟩, fun a e => by cases e; exact ⟨_, f.st.base _ _ hpat, rfl⟩, ?_⟩)
  rw [show backTo p (starEach [.Lambda params body scope pl, .Name n pn] env) = [(false, eval (.Lambda params body scope pl) env), (false, eval (.Name n pn) env)] from rfl]
  refine callWith_builtin rfl (evalArgs_plain (spliced_cons (ev_lambda X f.st f.glob (f.code.trans hc) hdf hfree fun lam s1 st1 hty => spliced_cons ((ev_v hn hp hx).go r (f.step G.base st1) G.base hy' fun v s2 rv st2 f2 => spliced_nil ?_))))
  obtain ⟨t, k, rfl, rfl⟩ := VR.text rv
  refine toks (call_sub (by simpa using hm) (f2.st.base _ _ hpat) (f2.st.base _ _ X.cod) ?_ fun t' h' tk hk htk => ?_)
  · obtain ⟨o, ho, hcl⟩ := hty
    refine ⟨o, st2.keep _ _ (fun ht => ?_) ho, hcl⟩
    obtain ⟨ps, hps, _⟩ := X.tab (f.st.step G.base st1) ht
    rw [hps] at ho
    cases ho
    cases hcl
  · exact ⟨.str t t', (st1.trans st2).trans (Step.of hk htk)⟩
end
end Mini
end

section
open PySem PySem.Spec PySem.Calls PyProof.Rows PySem.W PySem.Builtin PySem.Builtin.Str PySem.StrLaws
set_option maxRecDepth 100000
namespace Mini

section
variable {prog : Program} {w : World} {A : Around} {elt iter : Expr} {x : Str} {px : Pos} {scope : Scope} {pos : Pos} {I : Addr} {fp wr : List Addr} {n₀ : Nat} {P : Nat → Value → Prop} {St₀ : Nat → Heap → Prop} {cenv : PySem.Env}

noncomputable abbrev allOf : Nat → Bool := fun _ => true
theorem passing_all {n i : Nat} : (passing allOf n i).length = n - i := by
  unfold passing
  rw [List.filter_eq_self.mpr (fun _ _ => rfl)]
  simp
/-- the item's text, whenever a token has been given out -/
noncomputable def EltOk (prog : Program) (w : World) (cenv : PySem.Env) (x : Str) (elt : Expr) (P F : Nat → Value → Prop) : Prop :=
  ∀ (A' : Around) E' i v (s₂ : Shared) m₂, A'.handled = none → P i v → 0 < s₂.toks → s₂.heap.Ns cenv.locals m₂ → m₂ x = some v → wpAny (model prog w) A' (eval elt cenv) (fun y s₃ => F i y ∧ Keeps s₂ s₃) E' s₂

theorem seg_items (hh : A.handled = none) (W₀ : ∀ A' : Around, A'.handled = none → Walks prog w A' I fp wr n₀ P St₀) (F : Nat → Value → Prop)
    (hx : cenv.kindOf x = some .local) (hp : (cenv.scope.kind == .class || (cenv.scope.kind == .module && cenv.locals != cenv.globals)) = false) (hco : cenv.scope.isCoroutine = false) (hCf : cenv.locals ∉ fp) (hel : EltOk prog w cenv x elt P F) :
    ∀ (k i : Nat) (s₀ s : Shared) (m : Str → Option Value), n₀ - i = k → i ≤ n₀ → St₀ i s.heap → s.heap.Ns cenv.locals m → GenSince cenv.locals wr s₀ s →
      Seg (model prog w) A (fun n s₀ r s₁ => r = .ok .next ∧ (n = 0 ∧ GenSince cenv.locals wr s₀ s₁)) (genProto cenv.locals fp wr allOf n₀ F) k s₀
        (.compLoop (.GeneratorExp elt [⟨.Name x px, iter, [], 0⟩] scope pos) 0 (.ref I) .none cenv)
        ((model prog w).den (.compLoop (.GeneratorExp elt [⟨.Name x px, iter, [], 0⟩] scope pos) 0 (.ref I) .none cenv)) [] s := by
  have hh' : (A.over (.compLoop (.GeneratorExp elt [⟨.Name x px, iter, [], 0⟩] scope pos) 0 (.ref I) .none cenv) []).handled = none := hh
  have hCw : cenv.locals ∉ wr := fun h => hCf ((W₀ A hh).sub _ h)
  intro k
  induction k with
  | zero =>
    intro i s₀ s m hk hi hst hn hs
    obtain rfl : i = n₀ := by omega
    show Seg _ A _ _ _ s₀ _ ((compTurn (.GeneratorExp elt [⟨.Name x px, iter, [], 0⟩] scope pos) 0 (.ref I) .none cenv).onRaise (leaving cenv)) [] s
    rw [compTurn_gen, Sem.onRaise_eq_wrap]
    refine seg_bind_wrap (wpAny_standAt (seg_bind_wrap ((W₀ _ hh').done s _ _ hst fun h' tk hk' => ?_)))
    exact seg_end (.ok .next) ⟨rfl, rfl, hs.step fun b o _ hw e => hk' b o hw e⟩
  | succ k ih =>
    intro i s₀ s m hk hi hst hn hs
    have hlt : i < n₀ := by omega
    show Seg _ A _ _ _ s₀ _ ((compTurn (.GeneratorExp elt [⟨.Name x px, iter, [], 0⟩] scope pos) 0 (.ref I) .none cenv).onRaise (leaving cenv)) [] s
    rw [compTurn_gen, Sem.onRaise_eq_wrap]
    refine seg_bind_wrap (wpAny_standAt (seg_bind_wrap ((W₀ _ hh').item i s _ _ hlt hst fun v h₁ tk₁ hPv hst₁ hk₁ => ?_)))
    refine seg_bind_wrap (wpAny_of_eq (rfl : letOwnedTupleGo (.Name x px) (.ref I) v = pure ()) ?_)
    refine seg_bind_wrap (wpAny_assign_Name (wpAny_storeName_local hx (hn.at' fun o e => hk₁ _ o hCw e) (fun h₂ hn₂ hs₂ => ?_) hp))
    have up : ∀ b o, b ≠ cenv.locals → b ∉ wr → s.heap.get? b = some o → h₂.get? b = some o := fun b o hbC hbw e => hs₂.extBut b o hbC (hk₁ b o hbw e)
    have hst₂ : St₀ (i + 1) h₂ := (W₀ A hh).frame _ _ _ hst₁ fun b hb o e => hs₂.extBut b o (fun h => hCf (h ▸ hb)) e
    refine seg_bind_wrap (wpAny_pure ?_)
    simp only [if_true]
    have hy : ∀ v, yieldOut cenv v = yieldValue v := fun v => by simp only [yieldOut, hco, Bool.false_eq_true, if_false]
    simp only [hy]
    rw [Sem.bind_eq_wrap', Sem.bind_eq_wrap', Sem.wrap_wrap, Sem.wrap_wrap]
    refine seg_wrap (wpAny_mono (hel _ _ i v _ _ hh' hPv (Nat.succ_pos _) hn₂ (by simp)) (fun y s₄ q => ?_) fun _ _ e => e)
    obtain ⟨hFy, h₄, tk₄, rfl, hk₄⟩ := q
    have hat : (passing allOf n₀ 0)[(passing allOf n₀ 0).length - 1 - k]? = some i := by
      have := passing_here (pz := allOf) hlt rfl
      rw [passing_all (i := i + 1), show n₀ - (i + 1) = k by omega] at this
      exact this
    refine seg_at (seg_yield rfl rfl rfl ⟨⟨i, hat, hFy⟩, hs.step fun b o hb hw e => hk₄ b o (up b o hb hw e), fun s'' hal => ?_⟩)
    exact seg_again rfl (ih (i + 1) s'' s'' _ (by omega) hlt ((W₀ A hh).frame _ _ _ hst₂ fun b hb o e => hal b (List.mem_cons_of_mem _ hb) o (hk₄ b o e))
      ((hn₂.keeps hk₄).at' fun o e => hal _ (List.mem_cons_self ..) o e) (GenSince.refl _ _ _))

theorem seg_first (hh : A.handled = none) (W₀ : ∀ A' : Around, A'.handled = none → Walks prog w A' I fp wr n₀ P St₀) (F : Nat → Value → Prop)
    (hx : cenv.kindOf x = some .local) (hp : (cenv.scope.kind == .class || (cenv.scope.kind == .module && cenv.locals != cenv.globals)) = false) (hco : cenv.scope.isCoroutine = false) (hCf : cenv.locals ∉ fp) (hel : EltOk prog w cenv x elt P F)
    (s₀ s : Shared) (m : Str → Option Value) (hst : St₀ 0 s.heap) (hn : s.heap.Ns cenv.locals m) (hs : GenSince cenv.locals wr s₀ s) :
    Seg (model prog w) A (fun n s₀ r s₁ => r = .ok .next ∧ (n = 0 ∧ GenSince cenv.locals wr s₀ s₁)) (genProto cenv.locals fp wr allOf n₀ F) n₀ s₀
      (.compStart (.GeneratorExp elt [⟨.Name x px, iter, [], 0⟩] scope pos) 0 (.ref I) .none cenv)
      ((model prog w).den (.compStart (.GeneratorExp elt [⟨.Name x px, iter, [], 0⟩] scope pos) 0 (.ref I) .none cenv)) [] s := by
  have hh' : (A.over (.compStart (.GeneratorExp elt [⟨.Name x px, iter, [], 0⟩] scope pos) 0 (.ref I) .none cenv) []).handled = none := hh
  have loop := seg_items (iter := iter) (px := px) (scope := scope) (pos := pos) hh W₀ F hx hp hco hCf hel n₀ 0 s₀ s m (Nat.sub_zero _) (Nat.zero_le _) hst hn hs
  show Seg _ A _ _ _ s₀ _ ((compStart (.GeneratorExp elt [⟨.Name x px, iter, [], 0⟩] scope pos) 0 (.ref I) .none cenv).onRaise (leaving cenv)) [] s
  unfold compStart
  rw [Sem.onRaise_eq_wrap]
  show Seg _ A _ _ _ s₀ _ ((ask >>= _).wrap _ _ _ _) [] s
  refine seg_bind_wrap (wpAny_askSetting ?_)
  split
  · exact seg_again rfl loop
  · refine seg_bind_wrap (wpAny_rule ?_)
    show Seg _ A _ _ _ s₀ _ ((standAt iter.pos >>= _).wrap _ _ _ _) [] s
    exact seg_bind_wrap (wpAny_standAt (seg_bind_wrap ((W₀ _ hh').self 0 s _ _ hst (seg_again rfl loop))))
end
end Mini
end

section
open PySem PySem.Spec PySem.Calls PyProof.Rows PySem.W PySem.Builtin PySem.Builtin.Str PySem.StrLaws
set_option maxRecDepth 100000
namespace Mini
section
variable {K : Wd} {G : Gl K} {m : Nat} {prim : Nat → List D → Option D} {c : Cx} {sa : Addr} {A : Around} {env : PySem.Env} {O : List Addr} {ρ : Env} {s : Shared}

theorem genCode_ok (X : Gx K G) {cd P : Addr} {scope : Scope} {pos : Pos} {qual : Str} {Q : Value → Shared → Prop} {E : Value → Shared → Prop} (hc : env.code = .ref cd) (C : CodeHd K.base cd P) (hP : P ∈ K.tabs) (st : St K s)
    (h : ∀ code h' tk, Heap.ExtBut P s.heap h' → s.heap.objs.size ≤ h'.objs.size → Step K s { s with heap := h', toks := tk } → Q code { s with heap := h', toks := tk }) : wpAny (M K) A (genexprCode env pos qual scope) Q E s := by
  obtain ⟨ps, hps, htr⟩ := X.tab st hP
  have C' := C.keeps st.base
  cases hf : codeAmong pos ps.toList with
  | some cv => exact wpAny_genexprCode_hit hc (C'.code hps htr) hf (h cv s.heap s.toks (Heap.ExtBut.refl _ _) (Nat.le_refl _) (Step.tok (Nat.le_refl _)))
  | none =>
    refine wpAny_with_toks (Nat.le_refl s.toks) (wpAny_genexprCodeX hc (C'.code hps htr) (C'.tab hps) hf fun c' h' tk hx hge hlt hic hrec htb _ htk => ?_)
    exact h _ h' tk hx (Nat.le_trans hge (Nat.le_of_lt hlt)) (X.grown hP hx htb.2 (by rw [Array.toList_append]; exact TriplesOk_snoc _ _ _ _ htr) htk)

/-- a generator expression's object and what it will give -/
noncomputable def GenOk (K : Wd) (A : Around) (n : Nat) (F : Nat → Value → Prop) (s : Shared) (v : Value) (s₅ : Shared) : Prop :=
  ∃ a fp wr g St, v = .ref a ∧ WalksS K.prog K.w A.in4 a fp wr (GenOnlyQ g) (passing allOf n 0).length (fun j y => ∃ i, (passing allOf n 0)[j]? = some i ∧ F i y) St ∧ (∀ i s, St i s → s.TypeIs (.ref a) "generator") ∧ St 0 s₅ ∧
    (∀ b ∈ fp, b < s₅.heap.objs.size) ∧ a ∈ fp ∧ Step K s s₅ ∧ (∀ b ∈ wr, s.heap.get? b = none)

theorem gen_ok (X : Gx K G) {cd P : Addr} {elt iter : Expr} {x : Str} {px : Pos} {scope : Scope} {pos : Pos} {n : Nat} {F : Nat → Value → Prop} (hc : env.code = .ref cd) (C : CodeHd K.base cd P) (hP : P ∈ K.tabs) (st : St K s) (hg : env.globals = mainGlobals)
    (hh : A.handled = none) (hroom : A.depth < recursionLimit) (hco : scope.isCoroutine = false) (hfree : scope.names.all (fun x => x.2 != .free) = true) (hcell : ∀ y ∈ scope.names, y.2 ≠ .cell) (h0 : scope.names.lookup (".0" : Str) = some NameKind.local)
    (hx : scope.names.lookup x = some .local) (hkind : scope.kind = .function) (hs : ∀ x, genFold iter env x = pure x)
    (h : wpAny (M K) A (eval iter env) (fun xv s₁ => wpAny (M K) A (pyIter xv) (fun it s₂ => Step K s s₂ ∧ ∃ I fp wr Pt St₀, it = .ref I ∧ (∀ A' : Around, A'.handled = none → Walks K.prog K.w A' I fp wr n Pt St₀) ∧ St₀ 0 s₂.heap ∧
      (∀ b ∈ fp, b < s₂.heap.objs.size ∧ b ∉ K.tabs) ∧ (∀ b ∈ wr, s.heap.get? b = none) ∧ (∀ C code, EltOk K.prog K.w (genEnv scope [] C code builtinsNs env) x elt Pt F)) NoE s₁) NoE s) :
    wpAny (M K) A (eval (.GeneratorExp elt [⟨.Name x px, iter, [], 0⟩] scope pos) env) (GenOk K A n F s) NoE s := by
  refine wpAny_with_toks (Nat.le_refl s.toks) ?_
  refine wpAny_GeneratorExp_make hco (noFree_clos hfree) hcell h0 hkind hroom (wpAny_mono h (fun xv s₁ h₁ => wpAny_mono h₁ (fun it s₂ h₂ => ?_) fun _ _ e => e.elim) fun _ _ e => e.elim) hs
  obtain ⟨st2, I, fp, wr, Pt, St₀, rfl, W₀, hst, hfp, hwr, hel⟩ := h₂
  have f2 := st.step G.base st2
  refine ⟨X.nolim.keeps f2.base, genCode_ok X hc C hP f2 fun code h₃ tk₃ hx₃ hsz₃ st3 => ?_⟩
  have f3 := f2.step G.base st3
  obtain ⟨bm, ob, b1, b2, b3, b4, b5, b6, b7⟩ := X.bmain
  refine wpAny_builtinsFor (by rw [hg]; exact G.hg.keeps f3.base) b1 b2 (f3.base _ _ b4) b5 b6 b7 ?_
  have hst3 : St₀ 0 h₃ := (W₀ A hh).frame _ _ _ hst fun b hb o e => hx₃ b o (fun q => (hfp b hb).2 (q ▸ hP)) e
  have hfp3 : ∀ b ∈ fp, b < h₃.objs.size := fun b hb => Nat.lt_of_lt_of_le (hfp b hb).1 hsz₃
  have hl3 : h₃.NoLimit := X.nolim.keeps f3.base
  have hclt : cStatics < h₃.objs.size := let ⟨_, hn, _⟩ := hl3; hn.lt
  have hcw : cStatics ∉ wr := fun hm => by
    have h1 := hwr _ hm
    obtain ⟨_, ⟨o, _, _, ho, _⟩, _⟩ := X.nolim.keeps st.base
    rw [ho] at h1; cases h1
  dsimp only
  intro h' hn' hs' htk
  have hsz : h'.objs.size = h₃.objs.size + 1 := by rw [hs'.1, Heap.size_push]
  have keep' : ∀ b o, h₃.get? b = some o → h'.get? b = some o := fun b o e => hs'.extBut b o (Nat.ne_of_lt (Heap.lt_size e)) (Heap.get?_push_of_some _ e)
  have haC : h'.objs.size ≠ h₃.objs.size := by rw [hsz]; exact Nat.succ_ne_self _
  have haf : h'.objs.size ∉ List.range h₃.objs.size := fun hm => by have := List.mem_range.mp hm; omega
  have hsub : ∀ b ∈ wr, b ∈ List.range h₃.objs.size := fun b hb => List.mem_range.mpr (hfp3 b ((W₀ A hh).sub b hb))
  have hCf : h₃.objs.size ∉ fp := fun hm => Nat.lt_irrefl _ (hfp3 _ hm)
  generalize hgO : ({ cls := .type "generator", data := .fields #[.int s₂.gens.size 0, .str "<genexpr>" (tk₃ + 1), .str (env.qual ++ "<genexpr>") (tk₃ + 1 + 1)] } : Obj) = gO
  have keep₅ : ∀ b o, h₃.get? b = some o → (h'.push gO).get? b = some o := fun b o e => Heap.get?_push_of_some _ (keep' b o e)
  refine ⟨h'.objs.size, h'.objs.size :: h₃.objs.size :: List.range h₃.objs.size, h₃.objs.size :: wr, s₂.gens.size, _, rfl,
    WalksS.genexpQ (A := A.in4) hh _ s₂.gens.size h₃.objs.size (List.range h₃.objs.size) wr allOf n F haC haf hsub hroom (List.mem_range.mpr hclt) (Nat.ne_of_lt hclt) hcw, fun i s q => q.1.typeIs,
    ⟨⟨gO, _, _, Heap.get?_push_size _ (by rw [← hgO]; rfl), by rw [← hgO], by rw [← hgO], by rw [← hgO]⟩, hl3.keeps keep₅, _, Array.getElem?_push_size .., fun s'' hal => ⟨rfl, ?_⟩⟩, fun b hb => ?_, List.mem_cons_self, ?_, fun b hb => ?_⟩
  · rw [passing_all, Nat.sub_zero, Nat.sub_zero]
    exact seg_first (A := A.in4.in1) (cenv := genEnv scope [] h₃.objs.size code builtinsNs env) (m := fun y => if y = ".0" then some (.ref I) else none) hh (fun A' hA => (W₀ A' hA).mono_fp fun b hb => List.mem_range.mpr (hfp3 b hb)) F hx (by simp [genEnv, hkind]) hco (fun hm => Nat.lt_irrefl _ (List.mem_range.mp hm)) (hel _ _) s'' s''
      ((W₀ A hh).frame _ _ _ hst3 fun b hb o e => hal b (List.mem_cons_of_mem _ (List.mem_range.mpr (hfp3 b hb))) o (keep₅ b o e))
      ((hn'.push _).at' fun o e => hal _ (List.mem_cons_self ..) o e) (GenSince.refl _ _ _)
  · show b < (h'.push gO).objs.size
    rw [Heap.size_push]
    rcases List.mem_cons.mp hb with e | hb
    · rw [e]; exact Nat.lt_succ_self _
    · rw [hsz]
      rcases List.mem_cons.mp hb with e | hb
      · rw [e]; exact Nat.lt_succ_of_lt (Nat.lt_succ_self _)
      · exact Nat.lt_succ_of_lt (Nat.lt_succ_of_lt (List.mem_range.mp hb))
  · refine (st2.trans st3).trans ⟨fun b o _ e => keep₅ b o e, rfl, fun q => q.push rfl, fun q => K.tinv_keep _ _ q fun _ _ o e => keep₅ _ o e, ?_⟩
    show tk₃ ≤ tk₃ + 1 + 1 + 1
    omega
  · rcases List.mem_cons.mp hb with rfl | hb
    · cases e : s.heap.get? h₃.objs.size with
      | none => rfl
      | some o => 
        exfalso
        by_cases ht : h₃.objs.size ∈ K.tabs
        · obtain ⟨ps, hps, _⟩ := X.tab f3 ht
          exact Nat.lt_irrefl _ (Heap.lt_size hps)
        · exact Nat.lt_irrefl _ (Heap.lt_size ((st2.trans st3).keep _ o ht e))
    · exact hwr b hb
end
end Mini
end

section
open PySem PySem.Spec PySem.Calls PyProof.Rows PySem.W PySem.Builtin PySem.Builtin.Str PySem.StrLaws
set_option maxRecDepth 100000
namespace Mini
section
variable {K : Wd} {G : Gl K} {A : Around} {s s₅ : Shared}
theorem passing_at {n j : Nat} (h : j < n) : (passing allOf n 0)[j]? = some j := by
  unfold passing
  rw [List.filter_eq_self.mpr (fun _ _ => rfl)]
  simp [h]

theorem gen_join (X : Gx K G) (st : St K s) {n : Nat} {F : Nat → Value → Prop} {v : Value} {sep : Str} {t : Tok} {ys : List S} (g : GenOk K A n F s v s₅) (hn : ys.length = n) (hF : ∀ i v, F i v → ∃ (y : Str) (t : Tok), v = .str y t ∧ ys[i]? = some y.cps.toList)
    (hsep : sep.length ≤ 16) (hok : (joinS sep.cps.toList ys).length ≤ 4096) (hz : n ≤ 4096) :
    wpAny (M K) A (call (.builtin "str.join") [.str sep t, v]) (fun r s' => ∃ (y : Str) (t' : Tok), r = .str y t' ∧ y.cps.toList = joinS sep.cps.toList ys ∧ Step K s s') NoE s₅ := by
  obtain ⟨a, fp, wr, gg, S, rfl, W, hT, hst, hfp, ha, st5, hwr⟩ := g
  refine wpAny_with_toks (Nat.le_refl s₅.toks) (SC.joinGen W.in4_2 hT hst hfp ha (fun i v hv => ?_) (fun s' l hm hi => ?_) ?_)
  · obtain ⟨j, _, hj⟩ := hv
    obtain ⟨y, u, e, _⟩ := hF j v hj
    exact ⟨y, u, e⟩
  · have hl : l.map (fun q => q.1.cps.toList) = ys := by
      have hsz := hi.1
      rw [passing_all] at hsz
      have hll : l.length = n := by simpa [strValues] using hsz
      refine List.ext_getElem? fun j => ?_
      rcases Nat.lt_or_ge j n with q | q
      · have hj : l[j]? = some l[j] := by simp [hll, q]
        have hj2 : (strValues l).toArray[j]? = some (.str l[j].1 l[j].2) := by simp [strValues, hll, q]
        obtain ⟨i, h1, h2⟩ := hi.2 j _ hj2
        rw [passing_at q] at h1
        cases h1
        obtain ⟨y, u, e, h3⟩ := hF j _ h2
        cases e
        rw [List.getElem?_map, hj, h3]; rfl
      · rw [List.getElem?_eq_none (by simp [hll, q]), List.getElem?_eq_none (by omega)]
    have hjo : joinS sep.cps.toList ((l.map (·.1)).map (·.cps.toList)) = joinS sep.cps.toList ys := by rw [List.map_map, ← hl]; rfl
    have nw : ∀ b o, s.heap.get? b = some o → b ∉ wr := fun b o e q => by rw [hwr b q] at e; cases e
    refine ⟨join_fit hsep (by rw [hjo]; exact hok), fun t' k htk => ⟨_, t', rfl, by rw [txt_join, hjo], ⟨fun b o hb e => hm.heap b o (nw b o e) (st5.keep b o hb e), hm.os.trans st5.os, fun q => hm.gens.bare (st5.gens q), fun q => ?_, Nat.le_trans st5.toks htk⟩⟩⟩
    exact K.tinv_keep _ _ (st5.tinv q) fun P hP o e => hm.heap P o (let ⟨o', ho'⟩ := K.live _ q P hP; nw P o' ho') e
  · rw [passing_all]; exact Nat.le_trans (Nat.sub_le _ _) (Nat.le_trans hz (by decide))
end
end Mini
end

section
open PySem PySem.Spec PySem.Calls PyProof.Rows PySem.W PySem.Builtin PySem.Builtin.Str PySem.StrLaws
set_option maxRecDepth 100000
namespace Mini
section
variable {prog : Program} {w : World}

theorem rep_call {A : Around} {s : Shared} {E Q : Value → Shared → Prop} {x p q : Str} {t k k' : Tok} (h0 : k ≠ 0) (h1 : k' ≠ 0) (h2 : k ≠ k') (hp : p.cps.toList.isEmpty = false) (hpq : (p.cps.toList == q.cps.toList) = false) (hq : q.cps.toList.length ≤ 16) (hx : x.cps.toList.length ≤ 4096)
    (h : ∀ (y : Str) t' tk, y.cps.toList = repl p.cps.toList q.cps.toList x.cps.toList → Q (.str y t') { s with toks := tk }) : wpAny (model prog w) A (call (.builtin "str.replace") [.str x t, .str p k, .str q k']) Q E s := by
  have hp' : 0 < p.length := by rw [str_len]; cases hh : p.cps.toList <;> simp_all
  refine SC.replace h0 h1 h2 ?_ ?_ fun t' k'' => h _ _ _ (replace_is _ _ _ hp')
  · rw [str_beq']; exact hpq
  · rw [str_len, str_len]
    have : (x.cps.toList.length + 1) * q.cps.toList.length ≤ 4097 * 16 := Nat.mul_le_mul (by omega) (by omega)
    omega

theorem elt_rep {cenv : PySem.Env} {x : Str} {px q1 q2 p1 p2 pp pq pp' pq' : Pos} {kp kq kp' kq' : Nat} {p q p' q' : Str} {items : Array Value} {l : List S} (hfn : cenv.scope.kind = .function) (hk : cenv.kindOf x = some .local) (hd : plainName x = true) (e1 : (q1.endLine == p1.line) = true) (e2 : (q2.endLine == p2.line) = true)
    (hp : p.cps.toList.isEmpty = false) (hpq : (p.cps.toList == q.cps.toList) = false) (hq : q.cps.toList.length ≤ 16) (hp' : p'.cps.toList.isEmpty = false) (hpq' : (p'.cps.toList == q'.cps.toList) = false) (hq' : q'.cps.toList.length ≤ 16)
    (hit : ∀ (i : Nat) (v : Value), items[i]? = some v → ∃ (y : Str) (t : Tok), v = .str y t ∧ l[i]? = some y.cps.toList ∧ y.cps.toList.length ≤ 4096 ∧ (repl p.cps.toList q.cps.toList y.cps.toList).length ≤ 4096) :
    EltOk prog w cenv x (.Call (.Attribute (.Call (.Attribute (.Name x px) (Str.ofString "replace") q1) [.Constant (.str p) kp pp, .Constant (.str q) kq pq] [] p1) (Str.ofString "replace") q2) [.Constant (.str p') kp' pp', .Constant (.str q') kq' pq'] [] p2)
      (fun i v => items[i]? = some v) (fun i v => ∃ (y : Str) (t : Tok), v = .str y t ∧ (l.map fun s => repl p'.cps.toList q'.cps.toList (repl p.cps.toList q.cps.toList s))[i]? = some y.cps.toList) := by
  intro A' E' i v s₂ m₂ hA hv htk hn hm
  obtain ⟨y, t, rfl, hy, hl1, hl2⟩ := hit i v hv
  refine wpAny_Call_method rfl (by rfl) e2 F.plainAttrs_str F.slot_str_replace F.type_str_replace (wpAny_Call_method rfl (by rfl) e1 F.plainAttrs_str F.slot_str_replace F.type_str_replace (wpAny_Name (wpAny_loadName_local hfn hk hn hm ?_) (name_of _ hd)))
  refine ⟨typeIs_str _ _ _, fun a e => (nomatch e), ?_⟩
  rw [show backTo p1 (starEach [.Constant (.str p) kp pp, .Constant (.str q) kq pq] cenv) = [(false, eval (.Constant (.str p) kp pp) cenv), (false, eval (.Constant (.str q) kq pq) cenv)] from rfl]
  refine callWith_builtin rfl (evalArgs_plain (spliced_cons (Constant_str (spliced_cons (Constant_str (spliced_nil ?_))))))
  refine wpAny_with_toks (Nat.le_refl _) (rep_call (Nat.ne_of_gt htk) (Nat.succ_ne_zero _) (Nat.ne_of_lt (Nat.lt_succ_self _)) hp hpq hq hl1 fun z t' tk hz htk' => ?_)
  refine ⟨typeIs_str _ _ _, fun a e => (nomatch e), ?_⟩
  rw [show backTo p2 (starEach [.Constant (.str p') kp' pp', .Constant (.str q') kq' pq'] cenv) = [(false, eval (.Constant (.str p') kp' pp') cenv), (false, eval (.Constant (.str q') kq' pq') cenv)] from rfl]
  refine callWith_builtin rfl (evalArgs_plain (spliced_cons (Constant_str (spliced_cons (Constant_str (spliced_nil ?_))))))
  have h0 : 0 < tk := Nat.lt_of_lt_of_le (Nat.succ_pos _) htk'
  refine rep_call (Nat.ne_of_gt h0) (Nat.succ_ne_zero _) (Nat.ne_of_lt (Nat.lt_succ_self _)) hp' hpq' hq' (by rw [hz]; exact hl2) fun z' t'' tk' hz' => ?_
  exact ⟨⟨z', t'', rfl, by rw [List.getElem?_map, hy, hz', hz]; rfl⟩, _, _, rfl, fun _ _ e => e⟩
end
end Mini
end

section
open PySem PySem.Spec PySem.Calls PyProof.Rows PySem.W PySem.Builtin PySem.Builtin.Str PySem.StrLaws
set_option maxRecDepth 100000
namespace Mini
section
variable {K : Wd} {G : Gl K} {m : Nat} {prim : Nat → List D → Option D} {c : Cx}

theorem not_tab (X : Gx K G) {s : Shared} (st : St K s) {a : Addr} {vs : Array Value} {n : Nat} (h : s.heap.get? a = some (lstO vs n)) : a ∉ K.tabs := fun q => by
  obtain ⟨ps, hps, _⟩ := X.tab st q
  rw [h] at hps; cases hps

theorem ev_joinRep (X : Gx K G) {cd P : Addr} {scope : Scope} {n x : Str} {y xi : Nat} {sep p q p' q' : Str} {lsep lp lq lp' lq' : S} {q0 qq pp px pt pn q1 q2 p1 p2 e1 e2 e3 e4 pos : Pos} {k0 k1 k2 k3 k4 : Nat}
    (hsep : sep.cps.toList = lsep) (hlp : p.cps.toList = lp) (hlq : q.cps.toList = lq) (hlp' : p'.cps.toList = lp') (hlq' : q'.cps.toList = lq') (hc : c.code = .ref cd) (C : CodeHd K.base cd P) (hP : P ∈ K.tabs)
    (hqq : (qq.endLine == pp.line) = true) (h1 : (q1.endLine == p1.line) = true) (h2 : (q2.endLine == p2.line) = true) (hn : c.nm[y]? = some n) (hpn : plainName n = true) (hy : y ∈ c.vis) (hpx : plainName x = true)
    (hco : scope.isCoroutine = false) (hfree : scope.names.all (fun x => x.2 != .free) = true) (hcell : scope.names.all (fun x => x.2 != .cell) = true) (h0 : scope.names.lookup (".0" : Str) = some NameKind.local)
    (hx : scope.names.lookup x = some .local) (hkind : scope.kind = .function) :
    EvOk K m prim c (.joinRep lsep xi (.v y) lp lq lp' lq')
      (.Call (.Attribute (.Constant (.str sep) k0 q0) (Str.ofString "join") qq) [.GeneratorExp (.Call (.Attribute (.Call (.Attribute (.Name x px) (Str.ofString "replace") q1) [.Constant (.str p) k1 e1, .Constant (.str q) k2 e2] [] p1) (Str.ofString "replace") q2) [.Constant (.str p') k3 e3, .Constant (.str q') k4 e4] [] p2)
        [⟨.Name x pt, .Name n pn, [], 0⟩] scope pos] [] pp) := fun sa A env O ρ s z r f h => by
  subst hsep hlp hlq hlp' hlq'
  simp only [evalE] at h
  obtain ⟨w, hw, h⟩ := ob h
  have hw' : evalE prim (.v y) ρ = some w := by simpa only [evalE] using hw
  unfold joinRepX at h
  obtain ⟨l', hl', h⟩ := ob h
  obtain ⟨l, hl, h⟩ := ob h
  split at h
  · cases h
  rename_i hcond
  simp only [Bool.or_eq_true, not_or, decide_eq_true_eq, Bool.not_eq_true, List.any_eq_false, Nat.not_lt] at hcond
  obtain ⟨⟨⟨⟨⟨⟨⟨⟨c1, c2⟩, c3⟩, c4⟩, c5⟩, c6⟩, c7⟩, c8⟩, c9⟩ := hcond
  obtain ⟨rfl, hz⟩ := okS_some h
  rw [strs_get hl] at hl'
  refine wpAny_Call_method rfl (by rfl) hqq F.plainAttrs_str F.slot_str_join F.type_str_join (Constant_str ⟨typeIs_str _ _ _, fun a e => (nomatch e), ?_⟩)
  have st0 : Step K s { s with toks := s.toks + 1 } := Step.tok (Nat.le_succ _)
  have f0 := f.step G.base st0
  refine callWith_builtin rfl (evalArgs_plain (spliced_cons ?_))
  refine lift (gen_ok (F := fun i v => ∃ (y : Str) (t : Tok), v = .str y t ∧ (l.map fun s => repl p'.cps.toList q'.cps.toList (repl p.cps.toList q.cps.toList s))[i]? = some y.cps.toList) (n := l.length) X (f.code.trans hc) C hP f0.st f.glob r.handled (by have := r.depth; omega) hco hfree (fun y hy => by
    have := List.all_eq_true.mp hcell y hy; simpa using this) h0 hx hkind (fun _ => rfl) ((ev_v hn hpn hy).go r f0 G.base hw' fun v s1 rv st1 f1 => ?_)) fun gv s5 g => spliced_nil ?_
  · refine iter_list r.handled f1.tabs f1.st.tinv rv hl' fun I ax items hne hI hil hv hat => ?_
    have st2 : Step K s1 { s1 with heap := s1.heap.push { cls := .type "list_iterator", data := .fields #[.ref ax, .int 0 0] } } := Step.push _
    have hnone : s1.heap.get? I = none := by rw [hI]; exact new_none
    refine ⟨st1.trans st2, I, [I, ax], [I], fun i v => items[i]? = some v, fun i h => h.IsListIter I ax i ∧ h.IsList ax items, rfl, fun A' hA => ?_, ⟨⟨_, hI ▸ Heap.get?_push_size _ rfl, rfl, rfl⟩, hil.push _⟩, fun b hb => ?_, fun b hb => ?_, fun Cc code => ?_⟩
    · have := hv.1
      rw [List.length_map] at this
      exact this ▸ Walks.list hA I ax hne items
    · obtain ⟨o, ho, _⟩ := id hil
      have hlt := Heap.lt_size ho
      rw [List.mem_cons, List.mem_singleton] at hb
      rw [Heap.size_push]
      rcases hb with e | e
      · rw [e, hI]; exact ⟨Nat.lt_succ_self _, hI ▸ new_tab f1.st.tinv hnone⟩
      · rw [e]; exact ⟨Nat.lt_succ_of_lt hlt, hat⟩
    · rw [List.mem_singleton.mp hb]
      cases e : s.heap.get? I with
      | none => rfl
      | some o => rw [st1.keep I o (new_tab f1.st.tinv hnone) e] at hnone; cases hnone
    · refine elt_rep hkind hx hpx h1 h2 c3 c4 c5 c6 c7 c8 fun i v hi => ?_
      have hlt : i < l.length := by have := hv.1; rw [List.length_map] at this; rw [← this]; exact (Array.getElem?_eq_some_iff.mp hi).1
      obtain ⟨t, k, rfl, ht⟩ := VR.text (hv.2 i v (.str l[i]) hi (by simp [hlt]))
      have := c9 l[i] (List.getElem_mem hlt)
      exact ⟨t, k, rfl, by rw [ht]; simp [hlt], by rw [ht]; exact this.1, by rw [ht]; exact this.2⟩
  · refine lift (gen_join X f0.st g (by simp) (fun i v q => q) (by rw [str_len]; exact c2) hz c1) fun rv s6 q => ?_
    obtain ⟨yy, t', rfl, hy', st6⟩ := q
    exact ⟨VR.ofStr hy', st0.trans st6⟩
end
end Mini
end

section
open PySem PySem.Spec PySem.Calls PyProof.Rows PySem.W PySem.Builtin PySem.Builtin.Str PySem.StrLaws
set_option maxRecDepth 100000
namespace Mini
theorem mro_filter : mroOf (.type "filter") = pure [.type "filter", .type "object"] := by rw [mroOf_type]; kernel_rfl
theorem lookup_filter_new : typeLookup (.type "filter") "__new__" = pure (some (.builtin "filter.__new__")) := by rw [typeLookup_type, builtinLookup_eq_fast]; kernel_rfl
theorem slot_filter_init : Slot "filter" "__init__" "object.__init__" :=
  .of (owner := "object") (n := "__init__") (by rw [typeLookup_type, builtinLookup_eq_fast]; kernel_rfl) (by decide +kernel) (by decide +kernel) (by decide +kernel)
    (by first | exact .inl (by decide +kernel) | exact .inr (by decide +kernel)) (by rw [isSubtype_type]; kernel_rfl)
theorem slot_filter_next : Slot "filter" "__next__" "filter.__next__" :=
  .of (owner := "filter") (n := "__next__") (by rw [typeLookup_type, builtinLookup_eq_fast]; kernel_rfl) (by decide +kernel) (by decide +kernel) (by decide +kernel)
    (by first | exact .inl (by decide +kernel) | exact .inr (by decide +kernel)) (by rw [isSubtype_type]; kernel_rfl)
theorem slot_filter_iter : Slot "filter" "__iter__" "filter.__iter__" :=
  .of (owner := "filter") (n := "__iter__") (by rw [typeLookup_type, builtinLookup_eq_fast]; kernel_rfl) (by decide +kernel) (by decide +kernel) (by decide +kernel)
    (by first | exact .inl (by decide +kernel) | exact .inr (by decide +kernel)) (by rw [isSubtype_type]; kernel_rfl)
theorem entry_filter_iter : entryFor table "filter.__iter__" = some Builtin.«dict_keyiterator.__iter__» :=
  entryFor_alias (id' := "dict_keyiterator.__iter__") (by kernel_rfl) (by first | rfl | decide +kernel | (unfold String.splitOn; simp +decide [String.splitOnAux])) (by decide +kernel) (by kernel_rfl)
theorem entry_filter_next : entryFor table "filter.__next__" = some Builtin.«filter.__next__» := entryFor_of_tree (by kernel_rfl)
theorem entry_filter_new : entryFor table "filter.__new__" = some Builtin.«filter.__new__» := entryFor_of_tree (by kernel_rfl)
theorem called_filter : TypeCalled "filter" "filter.__new__" "object.__init__" :=
  ⟨by decide +kernel, by decide +kernel, ⟨_, _, mro_filter⟩, madeBy_type mro_filter lookup_filter_new (by decide +kernel), by decide +kernel, by rw [isSubtype_type]; kernel_rfl, slot_filter_init⟩
theorem typeCall_filter_2 (a b : Value) : checkTypeCall "filter" ⟨[a, b], []⟩ = pure () := by kernel_rfl
theorem newCall_filter_2 (a b : Value) : checkBuiltinCall "filter.__new__" ⟨[.type "filter", a, b], []⟩ = pure () := by kernel_rfl
theorem args_filter_next (a : Value) : argsOk "filter.__next__" ⟨[a], []⟩ := by kernel_rfl
theorem args_filter_iter (a : Value) : argsOk "filter.__iter__" ⟨[a], []⟩ := by kernel_rfl
theorem sub_filter : isSubtype (.type "filter") (.type "filter") = pure true := by rw [isSubtype_type]; kernel_rfl
theorem isType_filter : isType (.type "filter") = pure true := by kernel_rfl
noncomputable abbrev fltO (it : Addr) : Obj := { cls := .type "filter", data := .fields #[.builtin "len", .ref it] }
end Mini
end

section
open PySem PySem.Spec PySem.Calls PyProof.Rows PySem.W PySem.Builtin PySem.Builtin.Str PySem.StrLaws
set_option maxRecDepth 100000
namespace Mini
section
variable {prog : Program} {w : World} {A : Around} {E : Value → Shared → Prop} {s : Shared}

theorem tup_item {it t : Addr} {i : Nat} {items : Array Value} {x : Value} {Q : Option Value → Shared → Prop} (hit : s.heap.IsTupleIter it t i) (ht : s.heap.IsTuple t items) (hx : items[i]? = some x)
    (hQ : ∀ h', h'.IsTupleIter it t (i + 1) → Heap.SameBut it s.heap h' → Q (some x) { s with heap := h' }) : wpAny (model prog w) A (callSpecial? (.ref it) "__next__") Q E s := by
  obtain ⟨o, ho, hc, hd⟩ := id hit
  obtain ⟨ol, hol, _, nl, hdl⟩ := ht
  refine wpAny_callSpecial?_slot (name := Str.ofString "__next__") hit.typeIs F.slot_tuple_iterator_next (wpAny_call_entry F.slot_tuple_iterator_next hit.typeIs F.entry_tuple_iterator_next ?_ (F.args_tuple_iterator_next_1 _))
  show wpAny _ _ (field (.ref it) 0 >>= _) _ _ s
  refine wpAny_bind (wpAny_field ho hd (x := .ref t) rfl ?_)
  show wpAny _ _ (if (Value.ref t == Value.none) = true then _ else _) _ _ s
  rw [if_neg (show ¬ ((Value.ref t == Value.none) = true) from Bool.false_ne_true)]
  show wpAny _ _ (field (.ref it) 1 >>= _) _ _ s
  refine wpAny_bind (wpAny_field ho hd (x := .int i 0) rfl ?_)
  show wpAny _ _ (seqItems? (.ref t) >>= _) _ _ s
  refine wpAny_bind (wpAny_seqItems hol hdl ?_)
  simp only [Int.toNat_natCast, hx]
  refine wpAny_bind (wpAny_setField ho hd (by simp) (wpAny_pure ⟨x, rfl, hQ _ ?_ (Heap.SameBut.update ..)⟩))
  exact ⟨_, Heap.get?_update_self _ ho (Obj.isFreed_of_fields (Obj.data_mapFields hd _)), (Obj.cls_mapFields ..).trans hc, by
    rw [Obj.data_mapFields hd]; simp [rawInt]⟩

theorem tup_end {it t : Addr} {i : Nat} {items : Array Value} {Q : Option Value → Shared → Prop} (hh : A.handled = none) (hit : s.heap.IsTupleIter it t i) (ht : s.heap.IsTuple t items) (hx : items[i]? = none)
    (hE : ∀ h' e, Heap.ExtBut it s.heap h' → (∃ o, h'.get? e = some o ∧ o.cls = .type "StopIteration") → E (.ref e) { s with heap := h' }) : wpAny (model prog w) A (callSpecial? (.ref it) "__next__") Q E s := by
  obtain ⟨o, ho, hc, hd⟩ := id hit
  obtain ⟨ol, hol, _, nl, hdl⟩ := ht
  refine wpAny_callSpecial?_slot (name := Str.ofString "__next__") hit.typeIs F.slot_tuple_iterator_next (wpAny_call_entry F.slot_tuple_iterator_next hit.typeIs F.entry_tuple_iterator_next ?_ (F.args_tuple_iterator_next_1 _))
  show wpAny _ _ (field (.ref it) 0 >>= _) _ _ s
  refine wpAny_bind (wpAny_field ho hd (x := .ref t) rfl ?_)
  show wpAny _ _ (if (Value.ref t == Value.none) = true then _ else _) _ _ s
  rw [if_neg (show ¬ ((Value.ref t == Value.none) = true) from Bool.false_ne_true)]
  show wpAny _ _ (field (.ref it) 1 >>= _) _ _ s
  refine wpAny_bind (wpAny_field ho hd (x := .int i 0) rfl ?_)
  show wpAny _ _ (seqItems? (.ref t) >>= _) _ _ s
  refine wpAny_bind (wpAny_seqItems hol hdl ?_)
  simp only [Int.toNat_natCast, hx]
  refine wpAny_bind (wpAny_rule (wpAny_bind (wpAny_setField ho hd (by simp) ?_)))
  show wpAny _ _ (newExc (.type "StopIteration") [] >>= _) _ _ _
  refine wpAny_bind ?_
  simp only [newExc, newTuple]
  refine wpAny_bind (wpAny_newObj_type ?_ (by size_fits))
  refine wpAny_bind (m := firstArgMember _ _) (wpAny_of_eq (a := Value.none) (by first | rfl | (simp only [firstArgMember]; rfl)) ?_)
  refine wpAny_newObj_type ?_ (by size_fits)
  simp only [raiseNew]
  refine wpAny_bind (wpAny_handled ?_)
  first | rw [show A.in1.handled = none from hh] | rw [hh]
  refine wpAny_bind (wpAny_pure (wpAny_throw ?_))
  exact hE _ _ (((Heap.SameBut.update ..).extBut.push _).push _) ⟨_, Heap.get?_push_size _ rfl, rfl⟩

theorem flt_end {fa it t : Addr} {i : Nat} {items : Array Value} {Q : Fin → Shared → Prop} (hh : A.handled = none) (hf : s.heap.get? fa = some (fltO it)) (hit : s.heap.IsTupleIter it t i) (ht : s.heap.IsTuple t items) (hx : items[i]? = none)
    (hE : ∀ h' e, Heap.ExtBut it s.heap h' → (∃ o, h'.get? e = some o ∧ o.cls = .type "StopIteration") → E (.ref e) { s with heap := h' }) : wpAny (model prog w) A («filter.__next__» ⟨[.ref fa], []⟩) Q E s := by
  show wpAny _ _ (field (.ref fa) 0 >>= _) _ _ s
  refine wpAny_bind (wpAny_field hf rfl (x := .builtin "len") rfl ?_)
  show wpAny _ _ (field (.ref fa) 1 >>= _) _ _ s
  refine wpAny_bind (wpAny_field hf rfl (x := .ref it) rfl ?_)
  exact wpAny_bind (tup_end hh hit ht hx hE)

theorem flt_item {fa it t : Addr} {i : Nat} {items : Array Value} {x : Str} {k : Tok} {Q : Fin → Shared → Prop} (hf : s.heap.get? fa = some (fltO it)) (hit : s.heap.IsTupleIter it t i) (ht : s.heap.IsTuple t items) (hx : items[i]? = some (.str x k)) (hl : x.length ≤ 16777216)
    (hQ : ∀ h' tk, h'.IsTupleIter it t (i + 1) → Heap.SameBut it s.heap h' → if x.length = 0 then Q (.again (.builtin "filter.__next__" ⟨[.ref fa], []⟩)) { s with heap := h', toks := tk } else Q (.done (.ret (.str x k))) { s with heap := h', toks := tk }) :
    wpAny (model prog w) A («filter.__next__» ⟨[.ref fa], []⟩) Q E s := by
  show wpAny _ _ (field (.ref fa) 0 >>= _) _ _ s
  refine wpAny_bind (wpAny_field hf rfl (x := .builtin "len") rfl ?_)
  show wpAny _ _ (field (.ref fa) 1 >>= _) _ _ s
  refine wpAny_bind (wpAny_field hf rfl (x := .ref it) rfl ?_)
  refine wpAny_bind (tup_item hit ht hx fun h' h1 h2 => ?_)
  dsimp only
  refine wpAny_bind (wpAny_holding ?_)
  rw [if_neg (by decide)]
  refine wpAny_bind (PyProof.Rows.len_str (nat63 hl) ?_)
  refine wpAny_holding (truthy_int ?_)
  have q := hQ h' (s.toks + 1 + 1) h1 h2
  by_cases h0 : x.length = 0
  · rw [if_pos h0] at q
    rw [h0]
    exact wpAny_pure q
  · rw [if_neg h0] at q
    rw [show (((x.length : Int) != 0) = true) by simpa using h0]
    exact wpAny_pure q

theorem plain_filter_next : plainId "filter.__next__" = true := by decide +kernel

noncomputable abbrev FltAt (fa it t : Addr) (x : Str) (k : Tok) (i : Nat) (h : Heap) : Prop := h.get? fa = some (fltO it) ∧ h.IsTupleIter it t i ∧ h.IsTuple t #[.str x k]
/-- filter(len, args) over one text -/
theorem walks_filter {fa it t : Addr} {x : Str} {k : Tok} (hh : A.handled = none) (h1 : fa ≠ it) (h2 : t ≠ it) (hl : x.length ≤ 16777216) :
    Walks prog w A fa [fa, it, t] [it] (if x.length = 0 then 0 else 1) (fun i v => i = 0 ∧ x.length ≠ 0 ∧ v = .str x k) (FltAt fa it t x k) where
  sub := fun b hb => by rw [List.mem_singleton.mp hb]; simp
  frame := fun i h h' st hk => ⟨hk fa (by simp) _ st.1, let ⟨o, ho, r⟩ := st.2.1; ⟨o, hk it (by simp) _ ho, r⟩, let ⟨o, ho, r⟩ := st.2.2; ⟨o, hk t (by simp) _ ho, r⟩⟩
  item := fun i s Q E hi st hQ => by
    obtain ⟨hf, hit, ht⟩ := st
    by_cases h0 : x.length = 0
    · rw [if_pos h0] at hi; omega
    · rw [if_neg h0] at hi
      obtain rfl : i = 0 := by omega
      have hT : s.TypeIs (.ref fa) "filter" := ⟨_, hf, rfl⟩
      unfold pyNext
      refine wpAny_bind (wpAny_attempt (wpAny_callSpecial?_slot (name := Str.ofString "__next__") hT slot_filter_next (wpAny_call_entry slot_filter_next hT entry_filter_next ?_ (args_filter_next _))))
      refine flt_item hf hit ht (x := x) (k := k) rfl hl fun h' tk a1 a2 => ?_
      rw [if_neg h0]
      exact ⟨_, rfl, wpAny_pure (hQ _ h' tk ⟨rfl, h0, rfl⟩ ⟨a2.extBut _ _ h1 hf, a1, ht.extBut a2.extBut h2⟩ fun b o hb e => a2.extBut b o (by simpa using hb) e)⟩
  done := fun s Q E st hQ => by
    obtain ⟨hf, hit, ht⟩ := st
    have hT : s.TypeIs (.ref fa) "filter" := ⟨_, hf, rfl⟩
    unfold pyNext
    refine wpAny_bind (wpAny_attempt (wpAny_callSpecial?_slot (name := Str.ofString "__next__") hT slot_filter_next ?_))
    refine wpAny_call (codeAny_call_builtin slot_filter_next.plain entry_filter_next (slot_filter_next.check _ _ _ _ _ _ _ _ hT (args_filter_next _) ?_))
    by_cases h0 : x.length = 0
    · rw [if_pos h0] at hit
      refine flt_item hf hit ht (x := x) (k := k) rfl hl fun h' tk a1 a2 => ?_
      rw [if_pos h0]
      refine ⟨plainId_quiet plain_filter_next _, codeAny_builtin entry_filter_next ?_⟩
      rw [Around.under_plainId plain_filter_next _]
      refine flt_end (s := { s with heap := h', toks := tk }) hh (a2.extBut _ _ h1 hf) a1 (ht.extBut a2.extBut h2) (by simp) fun h'' e b1 b2 => ?_
      obtain ⟨o, ho, hc⟩ := b2
      refine wpAny_bind (wpAny_isInstance (T := "StopIteration") (b := true) ⟨o, ho, hc⟩ isSubtype_stop ?_)
      exact wpAny_pure (hQ h'' tk fun b o hb e => b1 b o (by simpa using hb) (a2.extBut b o (by simpa using hb) e))
    · rw [if_neg h0] at hit
      refine flt_end hh hf hit ht (by simp) fun h'' e b1 b2 => ?_
      obtain ⟨o, ho, hc⟩ := b2
      refine wpAny_bind (wpAny_isInstance (T := "StopIteration") (b := true) ⟨o, ho, hc⟩ isSubtype_stop ?_)
      exact wpAny_pure (hQ h'' s.toks fun b o hb e => b1 b o (by simpa using hb) e)
  self := fun i s Q E st hQ => by
    have hT : s.TypeIs (.ref fa) "filter" := ⟨_, st.1, rfl⟩
    refine wpAny_pyIter_slot hT slot_filter_iter (wpAny_call_entry slot_filter_iter hT entry_filter_iter ?_ (args_filter_iter _))
    show wpAny _ _ (ret (.ref fa)) _ _ s
    exact wpAny_pure ⟨_, rfl, "filter", _, hT, slot_filter_next.lookup, hQ⟩

theorem filter_new {t : Addr} {items : Array Value} : Meets («filter.__new__» ⟨[.type "filter", .builtin "len", .ref t], []⟩)
    (fun _ R s => s.heap.IsTuple t items ∧ R (.ok (.ret (.ref (s.heap.objs.size + 1)))) { s with heap := (s.heap.push { cls := .type "tuple_iterator", data := .fields #[.ref t, .int 0 0] }).push (fltO s.heap.objs.size) }) := by
  refine Meets.of_wp fun prog w A R s hs => ?_
  obtain ⟨ht, hR⟩ := hs
  show wpAny _ _ (pyIter (.ref t) >>= _) _ _ _
  refine wpAny_bind (wpAny_pyIter_tuple ht ?_)
  show wpAny _ _ (Builtin.SmallTypes.newRecord (.type "filter") [.builtin "len", .ref s.heap.objs.size] >>= _) _ _ _
  unfold Builtin.SmallTypes.newRecord
  refine wpAny_bind (wpAny_newObj_type (wpAny_pure ⟨_, rfl, ?_⟩))
  rw [Heap.size_push]
  exact hR
theorem call_filter {t : Addr} {items : Array Value} {Q : Value → Shared → Prop} (ht : s.heap.IsTuple t items)
    (h : Q (.ref (s.heap.objs.size + 1)) { s with heap := (s.heap.push { cls := .type "tuple_iterator", data := .fields #[.ref t, .int 0 0] }).push (fltO s.heap.objs.size) }) :
    wpAny (model prog w) A (call (.type "filter") [.builtin "len", .ref t]) Q E s :=
  callType_new called_filter (by decide +kernel) (typeCall_filter_2 _ _) (newCall_filter_2 _ _) (fun obj => PySem.F.args_object_init_3 _ _ _) entry_filter_new filter_new
    ⟨ht, ⟨_, Heap.get?_push_at (Heap.size_push _ _).symm rfl, rfl⟩, h⟩
end
end Mini
end

section
namespace Mini
/- _platform: 0:args 1:platform 2:cleaned -/
noncomputable def f_platform : Fn := ⟨3, .seq (.asg 1 (.repl (.v 1) [32] [95])) (.seq (.asg 1 (.repl (.v 1) [47] [45])) (.seq (.asg 1 (.repl (.v 1) [92] [45])) (.seq (.asg 1 (.repl (.v 1) [58] [45])) (.seq (.asg 1 (.repl (.v 1) [59] [45])) (.seq (.asg 1 (.repl (.v 1) [34] [45])) (.seq (.asg 1 (.repl (.v 1) [40] [45])) (.seq (.asg 1 (.repl (.v 1) [41] [45])) (.seq (.asg 1 (.repl (.v 1) [117, 110, 107, 110, 111, 119, 110] [])) (.seq (.while (.bool true) (.seq (.asg 2 (.repl (.v 1) [45, 45] [45])) (.seq (.ifs (.cmp .eq (.v 2) (.v 1)) (.seq (.brk) .skip) (.skip)) (.seq (.asg 1 (.v 2)) .skip)))) (.seq (.while (.and (.v 1) (.cmp .eq (.idx (.v 1) (.neg 1)) (.str [45]))) (.seq (.asg 1 (.slcB (.v 1) (.neg 1))) .skip)) (.seq (.ret (.v 1)) .skip)))))))))))⟩
/- escape: 0:pattern -/
noncomputable def f_escape : Fn := ⟨1, .seq (.ifs (.isStr (.v 0)) (.seq (.ret (.mapT (.v 0))) .skip) (.seq (.no) (.seq (.no) .skip))) .skip⟩
/- _translate: 0:pat 1:STAR 2:QUESTION_MARK 3:res 4:add 5:i 6:n 7:c 8:j 9:stuff 10:chunks 11:k 12:chunk 13:~s -/
noncomputable def f_translate : Fn := ⟨14, .seq (.own 3 .lnil) (.seq (.bind 4 3) (.seq (.asg2 5 6 (.int 0) (.len (.v 0))) (.seq (.while (.cmp .lt (.v 5) (.v 6)) (.seq (.asg 7 (.idx (.v 0) (.v 5))) (.seq (.asg 5 (.add (.v 5) (.int 1))) (.seq (.ifs (.cmp .eq (.v 7) (.str [42])) (.seq (.ifs (.or (.not (.v 3)) (.cmp .isNot (.idx (.v 3) (.neg 1)) (.v 1))) (.seq (.appB 4 (.v 1)) .skip) (.skip)) .skip) (.seq (.ifs (.cmp .eq (.v 7) (.str [63])) (.seq (.appB 4 (.v 2)) .skip) (.seq (.ifs (.cmp .eq (.v 7) (.str [91])) (.seq (.asg 8 (.v 5)) (.seq (.ifs (.and (.cmp .lt (.v 8) (.v 6)) (.cmp .eq (.idx (.v 0) (.v 8)) (.str [33]))) (.seq (.asg 8 (.add (.v 8) (.int 1))) .skip) (.skip)) (.seq (.ifs (.and (.cmp .lt (.v 8) (.v 6)) (.cmp .eq (.idx (.v 0) (.v 8)) (.str [93]))) (.seq (.asg 8 (.add (.v 8) (.int 1))) .skip) (.skip)) (.seq (.while (.and (.cmp .lt (.v 8) (.v 6)) (.cmp .ne (.idx (.v 0) (.v 8)) (.str [93]))) (.seq (.asg 8 (.add (.v 8) (.int 1))) .skip)) (.seq (.ifs (.cmp .ge (.v 8) (.v 6)) (.seq (.appB 4 (.str [92, 91])) .skip) (.seq (.asg 9 (.slcAB (.v 0) (.v 5) (.v 8))) (.seq (.ifs (.cmp .notMem (.str [45]) (.v 9)) (.seq (.asg 9 (.repl (.v 9) [92] [92, 92])) .skip) (.seq (.own 10 .lnil) (.seq (.asg 11 (.ite (.cmp .eq (.idx (.v 0) (.v 5)) (.str [33])) (.add (.v 5) (.int 2)) (.add (.v 5) (.int 1)))) (.seq (.while (.bool true) (.seq (.asg 11 (.find (.v 0) [45] (.v 11) (.v 8))) (.seq (.ifs (.cmp .lt (.v 11) (.int 0)) (.seq (.brk) .skip) (.skip)) (.seq (.app 10 (.slcAB (.v 0) (.v 5) (.v 11))) (.seq (.asg 5 (.add (.v 11) (.int 1))) (.seq (.asg 11 (.add (.v 11) (.int 3))) .skip)))))) (.seq (.asg 12 (.slcAB (.v 0) (.v 5) (.v 8))) (.seq (.ifs (.v 12) (.seq (.app 10 (.v 12)) .skip) (.seq (.augLast 10 [45]) .skip)) (.seq (.freeze 10) (.seq (.forDn 11 (.sub (.len (.v 10)) (.int 1)) (.seq (.ifs (.cmp .gt (.idx (.idx (.v 10) (.sub (.v 11) (.int 1))) (.neg 1)) (.idx (.idx (.v 10) (.v 11)) (.int 0))) (.seq (.no) (.seq (.no) .skip)) (.skip)) .skip)) (.seq (.asg 9 (.joinRep [45] 13 (.v 10) [92] [92, 92] [45] [92, 45])) .skip))))))))) (.seq (.asg 9 (.reSub (.v 9))) (.seq (.asg 5 (.add (.v 8) (.int 1))) (.seq (.ifs (.not (.v 9)) (.seq (.appB 4 (.str [40, 63, 33, 41])) .skip) (.seq (.ifs (.cmp .eq (.v 9) (.str [33])) (.seq (.appB 4 (.str [46])) .skip) (.seq (.ifs (.cmp .eq (.idx (.v 9) (.int 0)) (.str [33])) (.seq (.asg 9 (.add (.str [94]) (.slcA (.v 9) (.int 1)))) .skip) (.seq (.ifs (.cmp .mem (.idx (.v 9) (.int 0)) (.tup (.str [94]) (.str [91]))) (.seq (.asg 9 (.add (.str [92]) (.v 9))) .skip) (.skip)) .skip)) (.seq (.appB 4 (.fstr [91] (.v 9) [93])) .skip))) .skip)) .skip)))))) .skip))))) (.seq (.appB 4 (.call1 2 (.v 7))) .skip)) .skip)) .skip)) .skip)))) (.seq (.assert (.cmp .eq (.v 5) (.v 6))) (.seq (.freeze 3) (.seq (.ret (.v 3)) .skip))))))⟩
/- _join_translated_parts: 0:inp 1:STAR 2:res 3:add 4:i 5:n 6:fixed -/
noncomputable def f_jointranslatedparts : Fn := ⟨7, .seq (.own 2 .lnil) (.seq (.bind 3 2) (.seq (.asg2 4 5 (.int 0) (.len (.v 0))) (.seq (.while (.and (.cmp .lt (.v 4) (.v 5)) (.cmp .isNot (.idx (.v 0) (.v 4)) (.v 1))) (.seq (.appB 3 (.idx (.v 0) (.v 4))) (.seq (.aug 4 (.int 1)) .skip))) (.seq (.while (.cmp .lt (.v 4) (.v 5)) (.seq (.assert (.cmp .is (.idx (.v 0) (.v 4)) (.v 1))) (.seq (.aug 4 (.int 1)) (.seq (.ifs (.cmp .eq (.v 4) (.v 5)) (.seq (.appB 3 (.str [46, 42])) (.seq (.brk) .skip)) (.skip)) (.seq (.assert (.cmp .isNot (.idx (.v 0) (.v 4)) (.v 1))) (.seq (.own 6 .lnil) (.seq (.while (.and (.cmp .lt (.v 4) (.v 5)) (.cmp .isNot (.idx (.v 0) (.v 4)) (.v 1))) (.seq (.app 6 (.idx (.v 0) (.v 4))) (.seq (.aug 4 (.int 1)) .skip))) (.seq (.freeze 6) (.seq (.asg 6 (.join [] (.v 6))) (.seq (.ifs (.cmp .eq (.v 4) (.v 5)) (.seq (.appB 3 (.str [46, 42])) (.seq (.appB 3 (.v 6)) .skip)) (.seq (.appB 3 (.fstr [40, 63, 62, 46, 42, 63] (.v 6) [41])) .skip)) .skip)))))))))) (.seq (.assert (.cmp .eq (.v 4) (.v 5))) (.seq (.freeze 2) (.seq (.asg 2 (.join [] (.v 2))) (.seq (.ret (.fstr [40, 63, 115, 58] (.v 2) [41, 92, 90])) .skip))))))))⟩
/- _law_unit: 0:text 1:k 2:bare 3:off 4:barred 5:spans 6:first 7:last -/
noncomputable def f_lawunit : Fn := ⟨8, .seq (.ifs (.cmp .eq (.idx (.v 0) (.v 1)) (.str [46])) (.seq (.ret (.tup (.tup (.bool true) .lnil) (.add (.v 1) (.int 1)))) .skip) (.skip)) (.seq (.ifs (.cmp .eq (.slcAB (.v 0) (.v 1) (.add (.v 1) (.int 4))) (.str [40, 63, 33, 41])) (.seq (.ret (.tup (.tup (.bool false) .lnil) (.add (.v 1) (.int 4)))) .skip) (.skip)) (.seq (.ifs (.cmp .ne (.idx (.v 0) (.v 1)) (.str [91])) (.seq (.asg 2 (.cmp .ne (.idx (.v 0) (.v 1)) (.str [92]))) (.seq (.aug 1 (.ite (.v 2) (.int 0) (.int 1))) (.seq (.asg 3 (.cmp .mem (.idx (.v 0) (.v 1)) (.ite (.v 2) (.str [36, 40, 41, 42, 43, 63, 94, 123, 124]) (.str [97, 65, 98, 66, 100, 68, 102, 110, 78, 114, 115, 83, 116, 117, 85, 118, 119, 87, 120, 90, 48, 49, 50, 51, 52, 53, 54, 55, 56, 57])))) (.seq (.ret (.tup (.tup (.bool false) (.ite (.v 3) .lnil (.lcons (.tup (.idx (.v 0) (.v 1)) (.idx (.v 0) (.v 1))) .lnil))) (.add (.v 1) (.int 1)))) .skip)))) (.skip)) (.seq (.asg 4 (.cmp .eq (.idx (.v 0) (.add (.v 1) (.int 1))) (.str [94]))) (.seq (.aug 1 (.ite (.v 4) (.int 2) (.int 1))) (.seq (.own 5 .lnil) (.seq (.while (.cmp .ne (.idx (.v 0) (.v 1)) (.str [93])) (.seq (.aug 1 (.ite (.cmp .eq (.idx (.v 0) (.v 1)) (.str [92])) (.int 1) (.int 0))) (.seq (.asg 6 (.idx (.v 0) (.v 1))) (.seq (.asg 7 (.v 6)) (.seq (.aug 1 (.int 1)) (.seq (.ifs (.and (.cmp .eq (.idx (.v 0) (.v 1)) (.str [45])) (.cmp .ne (.idx (.v 0) (.add (.v 1) (.int 1))) (.str [93]))) (.seq (.aug 1 (.ite (.cmp .eq (.idx (.v 0) (.add (.v 1) (.int 1))) (.str [92])) (.int 2) (.int 1))) (.seq (.asg 7 (.idx (.v 0) (.v 1))) (.seq (.aug 1 (.int 1)) .skip))) (.skip)) (.seq (.app 5 (.tup (.v 6) (.v 7))) .skip))))))) (.seq (.freeze 5) (.seq (.ret (.tup (.tup (.v 4) (.v 5)) (.add (.v 1) (.int 1)))) .skip))))))))⟩
/- _law_tokens: 0:text 1:tokens 2:k 3:units 4:unit -/
noncomputable def f_lawtokens : Fn := ⟨5, .seq (.ifs (.or (.cmp .ne (.slcB (.v 0) (.int 4)) (.str [40, 63, 115, 58])) (.cmp .ne (.slcA (.v 0) (.neg 3)) (.str [41, 92, 90]))) (.seq (.ret (.lcons (.tup (.str [111, 110, 101]) (.lcons (.tup (.bool false) .lnil) .lnil)) .lnil)) .skip) (.skip)) (.seq (.own 1 .lnil) (.seq (.asg 2 (.int 4)) (.seq (.while (.cmp .lt (.v 2) (.sub (.len (.v 0)) (.int 3))) (.seq (.ifs (.cmp .eq (.slcAB (.v 0) (.v 2) (.add (.v 2) (.int 6))) (.str [40, 63, 62, 46, 42, 63])) (.seq (.aug 2 (.int 6)) (.seq (.own 3 .lnil) (.seq (.while (.cmp .ne (.idx (.v 0) (.v 2)) (.str [41])) (.seq (.unp 4 2 (.call2 5 (.v 0) (.v 2))) (.seq (.app 3 (.v 4)) .skip))) (.seq (.freeze 3) (.seq (.app 1 (.tup (.str [104, 101, 108, 100]) (.v 3))) (.seq (.aug 2 (.int 1)) .skip)))))) (.seq (.ifs (.cmp .eq (.slcAB (.v 0) (.v 2) (.add (.v 2) (.int 2))) (.str [46, 42])) (.seq (.app 1 (.tup (.str [114, 117, 110]) .lnil)) (.seq (.aug 2 (.int 2)) .skip)) (.seq (.unp 4 2 (.call2 5 (.v 0) (.v 2))) (.seq (.app 1 (.tup (.str [111, 110, 101]) (.lcons (.v 4) .lnil))) .skip))) .skip)) .skip)) (.seq (.freeze 1) (.seq (.ret (.v 1)) .skip)))))⟩
/- _law_fits: 0:units 1:name 2:place 3:k 4:barred 5:spans 6:~first 7:~last -/
noncomputable def f_lawfits : Fn := ⟨8, .seq (.ifs (.cmp .gt (.add (.v 2) (.len (.v 0))) (.len (.v 1))) (.seq (.ret (.bool false)) .skip) (.skip)) (.seq (.forEn 3 4 5 (.v 0) (.seq (.ifs (.cmp .eq (.v 4) (.any (.compT (.cmp2 .le .le (.v 6) (.idx (.v 1) (.add (.v 2) (.v 3))) (.v 7)) 6 7 (.v 5)))) (.seq (.ret (.bool false)) .skip) (.skip)) .skip)) (.seq (.ret (.bool true)) .skip))⟩
/- _law_takes: 0:tokens 1:name 2:places 3:kind 4:units 5:~place 6:after 7:place -/
noncomputable def f_lawtakes : Fn := ⟨8, .seq (.asg 2 (.lcons (.int 0) .lnil)) (.seq (.for2 3 4 (.v 0) (.seq (.ifs (.cmp .eq (.v 3) (.str [114, 117, 110])) (.seq (.asg 2 (.ite (.v 2) (.lrange (.idx (.v 2) (.int 0)) (.add (.len (.v 1)) (.int 1))) .lnil)) .skip) (.seq (.ifs (.cmp .eq (.v 3) (.str [111, 110, 101])) (.seq (.asgC 2 (.compIf (.add (.v 5) (.int 1)) 5 (.v 2) (.call3 7 (.v 4) (.v 1) (.v 5)))) .skip) (.seq (.own 6 .lnil) (.seq (.for1 7 (.v 2) (.seq (.while (.and (.cmp .le (.add (.v 7) (.len (.v 4))) (.len (.v 1))) (.not (.call3 7 (.v 4) (.v 1) (.v 7)))) (.seq (.aug 7 (.int 1)) .skip)) (.seq (.ifs (.cmp .le (.add (.v 7) (.len (.v 4))) (.len (.v 1))) (.seq (.app 6 (.add (.v 7) (.len (.v 4)))) .skip) (.skip)) .skip))) (.seq (.freeze 6) (.seq (.asg 2 (.v 6)) .skip))))) .skip)) .skip)) (.seq (.ret (.cmp .mem (.len (.v 1)) (.v 2))) .skip))⟩
/- law: 0:script 1:pieces 2:texts 3:piece 4:~number 5:eight 6:losing 7:~pattern 8:losing_tokens 9:turning_tokens 10:text 11:~text 12:told 13:~tokens 14:lost 15:~sign -/
noncomputable def f_law : Fn := ⟨16, .seq (.asg 1 (.lcons (.str [117, 110, 107, 110, 111, 119, 110]) (.lcons (.str [117, 110]) (.lcons (.str [107, 110, 111, 119, 110]) (.lcons (.str [45]) (.lcons (.str [45, 45]) (.lcons (.str [95]) (.lcons (.str [32]) (.lcons (.str [9]) (.lcons (.str [10]) (.lcons (.str [47]) (.lcons (.str [92]) (.lcons (.str [58]) (.lcons (.str [59]) (.lcons (.str [34]) (.lcons (.str [40]) (.lcons (.str [41]) (.lcons (.str [97]) (.lcons (.str [42]) .lnil))))))))))))))))))) (.seq (.own 2 (.lcons (.str []) .lnil)) (.seq (.for1 3 (.add (.comp (.idx (.v 1) (.mod (.v 4) (.int 18))) 4 (.lhead (.v 0) 3)) (.lcons (.str [97, 59, 97]) .lnil)) (.seq (.app 2 (.add (.idx (.v 2) (.neg 1)) (.v 3))) .skip)) (.seq (.freeze 2) (.seq (.asg 5 (.str [91, 34, 40, 45, 41, 47, 58, 45, 59, 92, 45, 93])) (.seq (.asg 6 (.lcons (.str [42, 117, 110, 107, 110, 111, 119, 110, 42]) (.lcons (.str [91, 32, 9, 10, 93, 42]) (.lcons (.str [42, 91, 32, 9, 10, 93]) (.lcons (.add (.str [42]) (.v 5)) (.lcons (.add (.add (.add (.str [42]) (.v 5)) (.v 5)) (.str [42])) .lnil)))))) (.seq (.asgC 8 (.comp (.call1 6 (.call1 1 (.v 7))) 7 (.v 6))) (.seq (.asg 9 (.call1 6 (.call1 1 (.str [42, 91, 32, 34, 40, 45, 41, 47, 58, 45, 59, 92, 93, 42])))) (.seq (.for1 10 (.add (.v 2) (.comp (.call1 0 (.v 11)) 11 (.v 2))) (.seq (.asg 12 (.call1 0 (.v 10))) (.seq (.asg 14 (.cmp .mem (.bool true) (.comp (.call2 8 (.v 13) (.v 10)) 13 (.v 8)))) (.seq (.ifs (.cmp .isNot (.cmp .lt (.len (.v 12)) (.len (.v 10))) (.v 14)) (.seq (.ret (.bool false)) .skip) (.skip)) (.seq (.ifs (.and (.not (.v 14)) (.cmp .ne (.v 12) (.join [] (.comp (.ite (.cmp .eq (.v 15) (.str [32])) (.str [95]) (.ite (.cmp .mem (.v 15) (.str [45, 47, 92, 58, 59, 34, 40, 41])) (.str [45]) (.v 15))) 15 (.v 10))))) (.seq (.ret (.bool false)) .skip) (.skip)) (.seq (.ifs (.cmp .is (.cmp .eq (.v 12) (.v 10)) (.or (.v 14) (.call2 8 (.v 9) (.v 10)))) (.seq (.ret (.bool false)) .skip) (.skip)) .skip)))))) (.seq (.ret (.bool true)) .skip)))))))))⟩

end Mini
end

section
open PySem PySem.Spec PySem.Calls PyProof.Rows PySem.W PySem.Builtin PySem.Builtin.Str PySem.StrLaws
set_option maxRecDepth 100000
namespace Mini
noncomputable def xPlatform (prim : Nat → List D → Option D) (t : S) : Option D := do
  if !t.all (· < 128) || 4096 < t.length then none else
  let r ← evalS prim (t.length + 2) f_platform.body [some (.d .none), some (.d (.str (stripS t))), none]
  match r with
  | (.ret d, _) => some d
  | _ => none

section
variable {prog : Program} {w : World}
noncomputable def oneOf (t : S) : List S := if t.length = 0 then [] else [stripS t]
theorem elt_strip {cenv : PySem.Env} {x : Str} {px q1 p1 : Pos} {t : Str} {k : Tok} (hfn : cenv.scope.kind = .function) (hk : cenv.kindOf x = some .local) (hd : plainName x = true) (e1 : (q1.endLine == p1.line) = true) (ha : t.cps.toList.all (· < 128) = true) (hl : t.cps.toList.length ≤ 4096) :
    EltOk prog w cenv x (.Call (.Attribute (.Name x px) (Str.ofString "strip") q1) [] [] p1) (fun i v => i = 0 ∧ t.length ≠ 0 ∧ v = .str t k) (fun i v => ∃ (y : Str) (t' : Tok), v = .str y t' ∧ (oneOf t.cps.toList)[i]? = some y.cps.toList) := by
  intro A' E' i v s₂ m₂ hA hv htk hn hm
  obtain ⟨rfl, h0, rfl⟩ := hv
  refine wpAny_Call_method rfl (by rfl) e1 F.plainAttrs_str F.slot_str_strip F.type_str_strip (wpAny_Name (wpAny_loadName_local hfn hk hn hm ?_) (name_of _ hd))
  refine ⟨typeIs_str _ _ _, fun a e => (nomatch e), ?_⟩
  refine callWith_builtin rfl (PySem.evalArgs_none ?_)
  refine SC.strip (fun t' tk => ⟨⟨_, t', rfl, ?_⟩, _, _, rfl, fun _ _ e => e⟩) ?_
  · unfold oneOf
    rw [str_len] at h0
    rw [if_neg h0, strip_is t (fun c hm => by simpa using List.all_eq_true.mp ha c hm)]
    rfl
  · rw [str_len]
    show _ ≤ 2 ^ 24
    omega
end
theorem name_loads {K : Wd} {A : Around} {s : Shared} {env : PySem.Env} {n : Str} {v : Value} {p : Pos} {Q : Value → Shared → Prop} {E : Value → Shared → Prop} (hk : env.scope.kind = .function) (hd : plainName n = true)
    (l : Loads env K.tabs n v s.heap) (h : Q v s) : wpAny (M K) A (PySem.eval (.Name n p) env) Q E s := l.eval hk (name_of _ hd) h

theorem plat_ok {K : Wd} {G : Gl K} (X : Gx K G) {m : Nat} {prim : Nat → List D → Option D} {o : Obj} {fd : FuncData} {body : List Stmt} {c : Cx} {t : S} {d : D} {nP nA x : Str} {scope : Scope} {k0 : Nat} {p1 p4 pp qq q0 px pt pos q1 e1 pf pl pa pc : Pos}
    (ho : K.base.get? (fnAddr 0) = some o) (hd : o.data = .func fd) (hcd : K.base.CodeRec fd.code fd.qualname)
    (hbody : fd.body = .stmts (.Assign [.Name nP p1] (.Call (.Attribute (.Constant (.str (Str.ofString "-")) k0 q0) (Str.ofString "join") qq)
      [.GeneratorExp (.Call (.Attribute (.Name x px) (Str.ofString "strip") q1) [] [] e1) [⟨.Name x pt, .Call (.Name (Str.ofString "filter") pf) [.Name (Str.ofString "len") pl, .Name nA pa] [] pc, [], 0⟩] scope pos] [] pp) p4 :: body))
    (hclo : fd.closure = []) (hgl : fd.globals = mainGlobals) (hbi : fd.builtins = builtinsNs) (hco : fd.scope.isCoroutine = false) (hgen : fd.scope.isGenerator = false)
    (hbind : ∀ v : Value, bindArgs fd ⟨[v], []⟩ = (newTuple [v] >>= fun t => pure [(nA, t)]))
    (hc : c.sc = fd.scope) (hcc : c.code = fd.code) (hcode : c.code = .ref 37) (Xk : CxOk c [nA]) (hv1 : c.nm[1]? = some nP) (hx1 : 1 ∈ c.vis) (hx0 : 0 ∉ c.vis) (hgl1 : c.gl "filter") (hgl2 : c.gl "len") (hpA : plainName nA = true) (hpx : plainName x = true)
    (hqq : (qq.endLine == pp.line) = true) (he1 : (q1.endLine == e1.line) = true)
    (gco : scope.isCoroutine = false) (gfree : scope.names.all (fun x => x.2 != .free) = true) (gcell : scope.names.all (fun x => x.2 != .cell) = true) (g0 : scope.names.lookup (".0" : Str) = some NameKind.local) (gx : scope.names.lookup x = some .local) (gkind : scope.kind = .function)
    (tie : TieS K m prim c f_platform.body (.many body)) (hP : PrimOk K G m prim) (hr : xPlatform prim t = some d) : CallOk K G (m + 1) 0 [.str t] d := by
  intro sa A s O vals rm st htabs hlive hv
  have hvl : vals.length = 1 := by have := hv.1; rw [List.size_toArray] at this; exact this
  obtain ⟨v, rfl⟩ := List.length_eq_one_iff.mp hvl
  obtain ⟨tx, k, rfl, rfl⟩ := VR.text (hv.2 0 v (.str t) rfl rfl)
  unfold xPlatform at hr
  split at hr
  · cases hr
  rename_i hcond
  simp only [Bool.or_eq_true, not_or, Bool.not_eq_true, Bool.not_eq_false', decide_eq_true_eq, Nat.not_lt, Bool.not_eq_eq_eq_not, Bool.not_true, Bool.not_false] at hcond
  obtain ⟨hasc, hlen⟩ := hcond
  obtain ⟨⟨fl, ρ'⟩, hev, hr⟩ := ob hr
  cases fl with
  | next => cases hr
  | brk => cases hr
  | ret d' =>
  cases hr
  refine call_frame (G := G) ho hd X.nolim hcd hbody hclo hgl hbi hco hgen hc hcc Xk (by have := rm.depth; omega) st htabs hlive
    (fun v s' => v = [.ref s.heap.objs.size] ∧ s' = { s with heap := s.heap.push { cls := .type "tuple", data := .seq #[.str tx k] 0 } })
    (fun v s' q => by obtain ⟨rfl, rfl⟩ := q; exact ⟨rfl, Step.push _⟩)
    (fun Q E h => by rw [hbind]; exact wpAny_bind (wpAny_newTuple (wpAny_pure (h _ _ ⟨rfl, rfl⟩)))) fun v s₀ q env O₁ s₁ C ld S => ?_
  obtain ⟨rfl, rfl⟩ := q
  have S1 := S sa [.none] 2 rfl fun y hy u d hu hd => by
    cases y with
    | zero => exact absurd hy hx0
    | succ y => simp at hd
  have f := S1.fm C
  have rd : Rm (A.deeper env) m := rm.deeper
  refine wpAny_execs_cons (wpAny_Assign_Name (wpAny_Call_method rfl (by rfl) hqq F.plainAttrs_str F.slot_str_join F.type_str_join (Constant_str ⟨typeIs_str _ _ _, fun a e => (nomatch e), ?_⟩)) rfl)
  have st0 : Step K s₁ { s₁ with toks := s₁.toks + 1 } := Step.tok (Nat.le_succ _)
  have f0 := f.step G.base st0
  have hP33 : 33 ∈ K.tabs := by rw [X.tabsE]; simp
  have hTup : s₁.heap.IsTuple s.heap.objs.size #[.str tx k] := ⟨_, S1.step.keep _ _ (fun q => ?_) (Heap.get?_push_size _ rfl), rfl, 0, rfl⟩
  case refine_1 => exact new_tab st.tinv new_none q
  have hl24 : tx.length ≤ 16777216 := by rw [str_len]; omega
  refine callWith_builtin rfl (evalArgs_plain (spliced_cons ?_))
  refine lift (gen_ok (F := fun i v => ∃ (y : Str) (t' : Tok), v = .str y t' ∧ (oneOf tx.cps.toList)[i]? = some y.cps.toList) (n := if tx.length = 0 then 0 else 1) X (f.code.trans hcode) X.hd1 hP33 f0.st f.glob rd.handled (by have := rd.depth; omega) gco gfree (fun y hy => by
    have := List.all_eq_true.mp gcell y hy; simpa using this) g0 gx gkind (fun _ => rfl) ?_) fun gv s5 g => spliced_nil ?_
  · refine wpAny_Call_Name_kw (name_bi G f0 hgl1 G.filt (name_of _ (by decide)) (PySem.callWith_type rfl (evalArgs_plain (spliced_cons (name_bi G f0 hgl2 G.len (name_of _ (by decide)) (spliced_cons (name_loads (by rw [f.sc]; exact f.fn) hpA ((ld 0 nA _ rfl rfl).step st0) (spliced_nil (call_filter hTup ?_)))))))))
    have hk : ∀ b o, s₁.heap.get? b = some o → ((s₁.heap.push { cls := .type "tuple_iterator", data := .fields #[.ref s.heap.objs.size, .int 0 0] }).push (fltO s₁.heap.objs.size)).get? b = some o := fun b o e => Heap.get?_push_of_some _ (Heap.get?_push_of_some _ e)
    have hts : s.heap.objs.size < s₁.heap.objs.size := by obtain ⟨o, ho, _⟩ := hTup; exact Heap.lt_size ho
    have W := fun (A' : Around) (hA : A'.handled = none) => walks_filter (prog := K.prog) (w := K.w) (A := A') (fa := s₁.heap.objs.size + 1) (it := s₁.heap.objs.size) (t := s.heap.objs.size) (x := tx) (k := k) hA (Nat.succ_ne_self _) (Nat.ne_of_lt hts) hl24
    have hst0 : FltAt (s₁.heap.objs.size + 1) s₁.heap.objs.size s.heap.objs.size tx k 0 ((s₁.heap.push { cls := .type "tuple_iterator", data := .fields #[.ref s.heap.objs.size, .int 0 0] }).push (fltO s₁.heap.objs.size)) :=
      ⟨Heap.get?_push_at (Heap.size_push _ _).symm rfl, ⟨_, Heap.get?_push_of_some _ (Heap.get?_push_size _ rfl), rfl, rfl⟩, (hTup.push _).push _⟩
    have stk : Step K { s₁ with toks := s₁.toks + 1 } { s₁ with toks := s₁.toks + 1, heap := (s₁.heap.push { cls := .type "tuple_iterator", data := .fields #[.ref s.heap.objs.size, .int 0 0] }).push (fltO s₁.heap.objs.size) } :=
      Step.of (s := { s₁ with toks := s₁.toks + 1 }) (tk := s₁.toks + 1) hk (Nat.le_refl _)
    have nt : ∀ b, s₁.heap.objs.size ≤ b → b ∉ K.tabs := fun b hb q => by
      obtain ⟨ps, hps, _⟩ := X.tab f.st q
      exact Nat.lt_irrefl _ (Nat.lt_of_lt_of_le (Heap.lt_size hps) hb)
    refine (W (A.deeper env) rd.handled).self 0 _ _ _ hst0 ⟨stk, s₁.heap.objs.size + 1, _, _, _, _, rfl, W, hst0, fun b hb => ?_, fun b hb => ?_, fun Cc code => elt_strip gkind gx hpx he1 (by simpa using hasc) hlen⟩
    · show b < ((s₁.heap.push _).push _).objs.size ∧ _
      rw [Heap.size_push, Heap.size_push]
      simp only [List.mem_cons, List.not_mem_nil, or_false] at hb
      rcases hb with e | e | e
      · rw [e]; exact ⟨Nat.lt_succ_self _, nt _ (Nat.le_succ _)⟩
      · rw [e]; exact ⟨Nat.lt_succ_of_lt (Nat.lt_succ_self _), nt _ (Nat.le_refl _)⟩
      · rw [e]; exact ⟨Nat.lt_succ_of_lt (Nat.lt_succ_of_lt hts), new_tab st.tinv new_none⟩
    · rw [List.mem_singleton.mp hb]
      exact new_none
  · have hj : joinS [45] (oneOf tx.cps.toList) = stripS tx.cps.toList := by
      unfold oneOf
      split
      · rename_i h0
        rw [List.length_eq_zero_iff.mp h0]
        rfl
      · rfl
    have hon : (oneOf tx.cps.toList).length = if tx.length = 0 then 0 else 1 := by
      unfold oneOf
      rw [← str_len]
      split <;> rfl
    have hsl : (stripS tx.cps.toList).length ≤ tx.cps.toList.length := by
      unfold stripS
      rw [List.length_reverse]
      refine Nat.le_trans (List.dropWhile_sublist _).length_le ?_
      rw [List.length_reverse]
      exact (List.dropWhile_sublist _).length_le
    refine lift (gen_join X f0.st g hon (fun i v q => q) (by decide) (by show (joinS [45] (oneOf tx.cps.toList)).length ≤ 4096; rw [hj]; omega) (by split <;> omega)) fun rv s6 q => ?_
    obtain ⟨y, t', rfl, hy, st6⟩ := q
    have hy' : y.cps.toList = stripS tx.cps.toList := hy.trans hj
    refine ((S1.next C st0).next C st6).store (X := .d (.str (stripS tx.cps.toList))) C hx1 hv1 (fun s' _ _ => VR.ofStr hy') (fun l e => by cases e) (fun _ e => by cases e) fun V' s2 S2 x2 => ?_
    refine wpAny_mono (tieS_ok hP tie _ (A.deeper env) env _ O _ _ _ _ _ _ _ rd C S2 hev) (fun fw s' q => ?_) fun _ _ e => e.elim
    obtain ⟨v, rfl, st2, hv2⟩ := q
    exact ⟨v, rfl, hv2, (Step.push _).trans st2⟩
end Mini
end

section
open PySem PySem.Spec PySem.Calls PyProof.Rows PySem.W PySem.Builtin PySem.Builtin.Str PySem.StrLaws
set_option maxRecDepth 100000
namespace Mini
noncomputable def fdOf (K : Frag) (a : Addr) : Option FuncData := match K.lookup a with
  | some ⟨_, _, .func fd, _⟩ => some fd
  | _ => none
noncomputable def bodyOf (K : Frag) (a : Addr) : List Stmt := match fdOf K a with
  | some fd => (match fd.body with | .stmts l => l | _ => [])
  | none => []
noncomputable def scopeOf (K : Frag) (a : Addr) : Scope := match fdOf K a with
  | some fd => fd.scope
  | none => ⟨.module, [], false, false, []⟩

noncomputable def nms (l : List String) : List Str := l.map Str.ofString
noncomputable def c_platform (P : PySem.Params) : Cx := ⟨nms ["args", "platform", "cleaned"], [1, 2], scopeOf (hd.heap_1 P) 38, .ref 37⟩
theorem tie_platform (K : Wd) (m : Nat) (prim : Nat → List D → Option D) (P : PySem.Params) : TieS K m prim (c_platform P) f_platform.body (.many (bodyOf (hd.heap_1 P) 38).tail) := by
  unfold f_platform
  dsimp only
  repeat' first
    | rfl
    | exact TieS.skip
    | exact TieS.no
    | refine TieS.frz ?_ ?_
    | refine TieS.seq ?_ ?_
    | exact of_decide_eq_true rfl
    | exact ⟨of_decide_eq_true rfl, rfl⟩
    | (intro _ _ _; rfl)
    | (show ∀ env, defaultsOf _ env = _; intro _; rfl)
    | (intro _ _; rfl)
    | (intro env h; unfold swappedStores Env.kindOf Env.blockKind; rw [h]; rfl)
    | (intro env h; unfold swapsWith Env.kindOf Env.blockKind; rw [h]; rfl)
    | constructor
noncomputable def c_escape (P : PySem.Params) : Cx := ⟨nms ["pattern"], [0], scopeOf (hd.heap_1 P) 62, .ref 61⟩
theorem tie_escape (K : Wd) (m : Nat) (prim : Nat → List D → Option D) (P : PySem.Params) : TieS K m prim (c_escape P) f_escape.body (.many (bodyOf (hd.heap_1 P) 62)) := by
  unfold f_escape
  dsimp only
  repeat' first
    | rfl
    | exact TieS.skip
    | exact TieS.no
    | refine TieS.frz ?_ ?_
    | refine TieS.seq ?_ ?_
    | exact of_decide_eq_true rfl
    | exact ⟨of_decide_eq_true rfl, rfl⟩
    | (intro _ _ _; rfl)
    | (show ∀ env, defaultsOf _ env = _; intro _; rfl)
    | (intro _ _; rfl)
    | (intro env h; unfold swappedStores Env.kindOf Env.blockKind; rw [h]; rfl)
    | (intro env h; unfold swapsWith Env.kindOf Env.blockKind; rw [h]; rfl)
    | constructor
noncomputable def c_translate (P : PySem.Params) : Cx := ⟨nms ["pat", "STAR", "QUESTION_MARK", "res", "add", "i", "n", "c", "j", "stuff", "chunks", "k", "chunk", "s"], [0, 1, 2, 3, 4, 5, 6, 7, 8, 9, 10, 11, 12], scopeOf (hd.heap_1 P) 69, .ref 68⟩
theorem tie_translate (K : Wd) (m : Nat) (prim : Nat → List D → Option D) (P : PySem.Params) {G : Gl K} (X : Gx K G) : TieS K m prim (c_translate P) f_translate.body (.many (bodyOf (hd.heap_1 P) 69)) := by
  unfold f_translate
  dsimp only
  repeat' first
    | rfl
    | (show _ ∈ K.tabs; rw [X.tabsE]; decide)
    | (show CodeHd _ _ _; exact X.hd2)
    | (show Tie _ _ _ _ (E.reSub _) _; refine Tie.raw (ev_reSub X ?_ ?_ ?_ ?_ ?_ ?_ ?_ ?_ ?_))
    | (show Tie _ _ _ _ (E.joinRep _ _ _ _ _ _ _) _; refine Tie.raw (ev_joinRep (cd := 68) (P := 64) X ?_ ?_ ?_ ?_ ?_ ?_ ?_ ?_ ?_ ?_ ?_ ?_ ?_ ?_ ?_ ?_ ?_ ?_ ?_ ?_ ?_))
    | exact TieS.skip
    | exact TieS.no
    | refine TieS.frz ?_ ?_
    | refine TieS.seq ?_ ?_
    | exact of_decide_eq_true rfl
    | exact ⟨of_decide_eq_true rfl, rfl⟩
    | (intro _ _ _; rfl)
    | (show ∀ env, defaultsOf _ env = _; intro _; rfl)
    | (intro _ _; rfl)
    | (intro env h; unfold swappedStores Env.kindOf Env.blockKind; rw [h]; rfl)
    | (intro env h; unfold swapsWith Env.kindOf Env.blockKind; rw [h]; rfl)
    | constructor
noncomputable def c_jointranslatedparts (P : PySem.Params) : Cx := ⟨nms ["inp", "STAR", "res", "add", "i", "n", "fixed"], [0, 1, 2, 3, 4, 5, 6], scopeOf (hd.heap_1 P) 76, .ref 75⟩
theorem tie_jointranslatedparts (K : Wd) (m : Nat) (prim : Nat → List D → Option D) (P : PySem.Params) : TieS K m prim (c_jointranslatedparts P) f_jointranslatedparts.body (.many (bodyOf (hd.heap_1 P) 76)) := by
  unfold f_jointranslatedparts
  dsimp only
  repeat' first
    | rfl
    | exact TieS.skip
    | exact TieS.no
    | refine TieS.frz ?_ ?_
    | refine TieS.seq ?_ ?_
    | exact of_decide_eq_true rfl
    | exact ⟨of_decide_eq_true rfl, rfl⟩
    | (intro _ _ _; rfl)
    | (show ∀ env, defaultsOf _ env = _; intro _; rfl)
    | (intro _ _; rfl)
    | (intro env h; unfold swappedStores Env.kindOf Env.blockKind; rw [h]; rfl)
    | (intro env h; unfold swapsWith Env.kindOf Env.blockKind; rw [h]; rfl)
    | constructor
noncomputable def c_lawunit (P : PySem.Params) : Cx := ⟨nms ["text", "k", "bare", "off", "barred", "spans", "first", "last"], [0, 1, 2, 3, 4, 5, 6, 7], scopeOf (hd.heap_1 P) 83, .ref 82⟩
theorem tie_lawunit (K : Wd) (m : Nat) (prim : Nat → List D → Option D) (P : PySem.Params) : TieS K m prim (c_lawunit P) f_lawunit.body (.many (bodyOf (hd.heap_1 P) 83)) := by
  unfold f_lawunit
  dsimp only
  repeat' first
    | rfl
    | exact TieS.skip
    | exact TieS.no
    | refine TieS.frz ?_ ?_
    | refine TieS.seq ?_ ?_
    | exact of_decide_eq_true rfl
    | exact ⟨of_decide_eq_true rfl, rfl⟩
    | (intro _ _ _; rfl)
    | (show ∀ env, defaultsOf _ env = _; intro _; rfl)
    | (intro _ _; rfl)
    | (intro env h; unfold swappedStores Env.kindOf Env.blockKind; rw [h]; rfl)
    | (intro env h; unfold swapsWith Env.kindOf Env.blockKind; rw [h]; rfl)
    | constructor
noncomputable def c_lawtokens (P : PySem.Params) : Cx := ⟨nms ["text", "tokens", "k", "units", "unit"], [0, 1, 2, 3, 4], scopeOf (hd.heap_1 P) 90, .ref 89⟩
theorem tie_lawtokens (K : Wd) (m : Nat) (prim : Nat → List D → Option D) (P : PySem.Params) : TieS K m prim (c_lawtokens P) f_lawtokens.body (.many (bodyOf (hd.heap_1 P) 90)) := by
  unfold f_lawtokens
  dsimp only
  repeat' first
    | rfl
    | exact TieS.skip
    | exact TieS.no
    | refine TieS.frz ?_ ?_
    | refine TieS.seq ?_ ?_
    | exact of_decide_eq_true rfl
    | exact ⟨of_decide_eq_true rfl, rfl⟩
    | (intro _ _ _; rfl)
    | (show ∀ env, defaultsOf _ env = _; intro _; rfl)
    | (intro _ _; rfl)
    | (intro env h; unfold swappedStores Env.kindOf Env.blockKind; rw [h]; rfl)
    | (intro env h; unfold swapsWith Env.kindOf Env.blockKind; rw [h]; rfl)
    | constructor
noncomputable def c_lawfits (P : PySem.Params) : Cx := ⟨nms ["units", "name", "place", "k", "barred", "spans", "first", "last"], [0, 1, 2, 3, 4, 5], scopeOf (hd.heap_1 P) 95, .ref 94⟩
theorem tie_lawfits (K : Wd) (m : Nat) (prim : Nat → List D → Option D) (P : PySem.Params) : TieS K m prim (c_lawfits P) f_lawfits.body (.many (bodyOf (hd.heap_1 P) 95)) := by
  unfold f_lawfits
  dsimp only
  repeat' first
    | rfl
    | exact TieS.skip
    | exact TieS.no
    | refine TieS.frz ?_ ?_
    | refine TieS.seq ?_ ?_
    | exact of_decide_eq_true rfl
    | exact ⟨of_decide_eq_true rfl, rfl⟩
    | (intro _ _ _; rfl)
    | (show ∀ env, defaultsOf _ env = _; intro _; rfl)
    | (intro _ _; rfl)
    | (intro env h; unfold swappedStores Env.kindOf Env.blockKind; rw [h]; rfl)
    | (intro env h; unfold swapsWith Env.kindOf Env.blockKind; rw [h]; rfl)
    | constructor
noncomputable def c_lawtakes (P : PySem.Params) : Cx := ⟨nms ["tokens", "name", "places", "kind", "units", "place", "after", "place"], [0, 1, 2, 3, 4, 6, 7], scopeOf (hd.heap_1 P) 100, .ref 99⟩
theorem tie_lawtakes (K : Wd) (m : Nat) (prim : Nat → List D → Option D) (P : PySem.Params) : TieS K m prim (c_lawtakes P) f_lawtakes.body (.many (bodyOf (hd.heap_1 P) 100)) := by
  unfold f_lawtakes
  dsimp only
  repeat' first
    | rfl
    | exact TieS.skip
    | exact TieS.no
    | refine TieS.frz ?_ ?_
    | refine TieS.seq ?_ ?_
    | exact of_decide_eq_true rfl
    | exact ⟨of_decide_eq_true rfl, rfl⟩
    | (intro _ _ _; rfl)
    | (show ∀ env, defaultsOf _ env = _; intro _; rfl)
    | (intro _ _; rfl)
    | (intro env h; unfold swappedStores Env.kindOf Env.blockKind; rw [h]; rfl)
    | (intro env h; unfold swapsWith Env.kindOf Env.blockKind; rw [h]; rfl)
    | constructor
noncomputable def c_law (P : PySem.Params) : Cx := ⟨nms ["script", "pieces", "texts", "piece", "number", "eight", "losing", "pattern", "losing_tokens", "turning_tokens", "text", "text", "told", "tokens", "lost", "sign"], [0, 1, 2, 3, 5, 6, 8, 9, 10, 12, 14], scopeOf (hd.heap_1 P) 105, .ref 104⟩
theorem tie_law (K : Wd) (m : Nat) (prim : Nat → List D → Option D) (P : PySem.Params) : TieS K m prim (c_law P) f_law.body (.many (bodyOf (hd.heap_1 P) 105)) := by
  unfold f_law
  dsimp only
  repeat' first
    | rfl
    | exact TieS.skip
    | exact TieS.no
    | refine TieS.frz ?_ ?_
    | refine TieS.seq ?_ ?_
    | exact of_decide_eq_true rfl
    | exact ⟨of_decide_eq_true rfl, rfl⟩
    | (intro _ _ _; rfl)
    | (show ∀ env, defaultsOf _ env = _; intro _; rfl)
    | (intro _ _; rfl)
    | (intro env h; unfold swappedStores Env.kindOf Env.blockKind; rw [h]; rfl)
    | (intro env h; unfold swapsWith Env.kindOf Env.blockKind; rw [h]; rfl)
    | constructor
end Mini
end

section
open PySem PySem.Spec PySem.Calls PyProof.Rows PySem.W PySem.Builtin PySem.Builtin.Str PySem.StrLaws
set_option maxRecDepth 100000
namespace Mini

noncomputable def wd (prog : Program) (w : World) (h : Heap) : Wd where
  prog := prog
  w := w
  base := hideAll h [33, 64]
  tabs := [33, 64]
  tinv := fun h => ∀ P ∈ [33, 64], ∃ ps, h.get? P = some (tabObj ps) ∧ TriplesOk ps.toList
  tinv_keep := fun h h' i k P hP => let ⟨ps, h1, h2⟩ := i P hP; ⟨ps, k P hP _ h1, h2⟩
  live := fun h i P hP => let ⟨ps, h1, _⟩ := i P hP; ⟨_, h1⟩

section
variable {prog : Program} {w : World} {h : Heap} {F : Frag}
theorem base_get {a : Addr} {o : Obj} (X : F.In h) (ha : a ∉ [33, 64]) (e : F.lookup a = some o) : (wd prog w h).base.get? a = some o := hideAll_get _ (X _ _ e) ha
theorem base_ns {a : Addr} {m : Str → Option Value} (ha : a ∉ [33, 64]) (n : h.Ns a m) : (wd prog w h).base.Ns a m := n.at' fun _ e => hideAll_get _ e ha
theorem ns_get {a : Addr} {m : Str → Option Value} {o : Obj} {es : Array DictEntry} {ep : Nat} (n : h.Ns a m) (e : h.get? a = some o) (hd : o.data = .dict es ep) (x : Str) : m x = nsFind es x := by
  obtain ⟨o', es', ep', h1, h2, _, h3⟩ := n
  rw [e] at h1; cases h1
  rw [hd] at h2; cases h2
  exact (h3 x).symm
end

noncomputable def mainEs (P : PySem.Params) : Array DictEntry := match (hd.heap_1 P).lookup 3 with
  | some ⟨_, _, .dict es _, _⟩ => es
  | _ => #[]
section
variable {prog p : Program} {w : World} {h : Heap} {loose : List Str} {mean : ExcName → Option Value} {mg mb : Str → Option Value}
theorem mg_at (Y : (hd.heap_1 w.params).In h) (g : h.Ns mainGlobals mg) (x : Str) : mg x = nsFind (mainEs w.params) x := ns_get g (Y 3 _ rfl) rfl x
/-- a function stands there -/
noncomputable def funAt (K : Frag) (a : Addr) : Bool := match K.lookup a with
  | some o => match o.data with
    | .func _ => true
    | _ => false
  | none => false
theorem funAt_of {K : Frag} {a : Addr} (h : funAt K a = true) : ∃ o fd, K.lookup a = some o ∧ o.data = .func fd := by
  unfold funAt at h
  split at h
  · rename_i o ho
    split at h
    · rename_i fd hd
      exact ⟨o, fd, ho, hd⟩
    · cases h
  · cases h
theorem fn_at' (P : PySem.Params) (f : Nat) (hf : nsFind (mainEs P) (fnName f) = some (.ref (fnAddr f))) (h : funAt (hd.heap_1 P) (fnAddr f) = true) (hn : fnAddr f ∉ [33, 64]) :
    nsFind (mainEs P) (fnName f) = some (.ref (fnAddr f)) ∧ ∃ o fd, (hd.heap_1 P).lookup (fnAddr f) = some o ∧ o.data = .func fd ∧ fnAddr f ∉ [33, 64] :=
  let ⟨o, fd, h1, h2⟩ := funAt_of h
  ⟨hf, o, fd, h1, h2, hn⟩
theorem fn_at (P : PySem.Params) : ∀ f, f < 9 → nsFind (mainEs P) (fnName f) = some (.ref (fnAddr f)) ∧ ∃ o fd, (hd.heap_1 P).lookup (fnAddr f) = some o ∧ o.data = .func fd ∧ fnAddr f ∉ [33, 64]
  | 0, _ => fn_at' P 0 (by kernel_rfl) (by kernel_rfl) (by decide)
  | 1, _ => fn_at' P 1 (by kernel_rfl) (by kernel_rfl) (by decide)
  | 2, _ => fn_at' P 2 (by kernel_rfl) (by kernel_rfl) (by decide)
  | 3, _ => fn_at' P 3 (by kernel_rfl) (by kernel_rfl) (by decide)
  | 4, _ => fn_at' P 4 (by kernel_rfl) (by kernel_rfl) (by decide)
  | 5, _ => fn_at' P 5 (by kernel_rfl) (by kernel_rfl) (by decide)
  | 6, _ => fn_at' P 6 (by kernel_rfl) (by kernel_rfl) (by decide)
  | 7, _ => fn_at' P 7 (by kernel_rfl) (by kernel_rfl) (by decide)
  | 8, _ => fn_at' P 8 (by kernel_rfl) (by kernel_rfl) (by decide)
  | n + 9, h => absurd h (by omega)

noncomputable def mapEs (P : PySem.Params) : Array DictEntry := match (hd.heap_1 P).lookup 52 with
  | some ⟨_, _, .dict es _, _⟩ => es
  | _ => #[]
theorem map_keys (P : PySem.Params) : (mapEs P).toList.all (fun e => match e.key with | .int i _ => (e.hash == hashInt i) && !escOk i.toNat | _ => false) = true := by rfl
theorem map_at (prog : Program) (w : World) {h' : Heap} (e : ∀ o, (hd.heap_1 w.params).lookup 52 = some o → h'.get? 52 = some o) :
    ∃ f, h'.MapOf (PySem.intKind prog w) 52 f ∧ ∀ c : Nat, escOk c = true → f c = none := by
  refine ⟨_, ⟨_, mapEs w.params, _, e _ rfl, ⟨rfl, rfl, rfl⟩, rfl, ?_, fun _ => rfl⟩, ?_⟩
  · intro e he
    have := List.all_eq_true.mp (map_keys w.params) e (Array.mem_toList_iff.mpr he)
    split at this
    · rename_i i t hk
      rw [Bool.and_eq_true] at this
      exact ⟨i, by rw [hk]; show Value.isInt i (.int i t) = true; simp [Value.isInt], eq_of_beq this.1⟩
    · cases this
  · intro c hc
    show ((mapEs w.params).find? fun e => Value.isInt (c : Int) e.key).map (·.val) = none
    rw [Option.map_eq_none_iff, Array.find?_eq_none]
    intro e he hi
    have := List.all_eq_true.mp (map_keys w.params) e (Array.mem_toList_iff.mpr he)
    split at this
    · rename_i i t hk
      rw [Bool.and_eq_true] at this
      rw [hk] at hi
      have hci : i = (c : Int) := by simp [Value.isInt] at hi; omega
      rw [hci] at this
      simp [hc] at this
    · cases this

noncomputable def gl_of (Y : (hd.heap_1 w.params).In h) (T : Top p loose mean mg mb h) : Gl (wd prog w h) where
  mg := mg
  mb := mb
  hg := base_ns (by decide) T.g
  hb := base_ns (by decide) T.b
  base := fun P hP => hideAll_none _ hP
  fOk := fun f hf => let ⟨h1, o, fd, h2, h3, h4⟩ := fn_at w.params f hf; ⟨(mg_at Y T.g _).trans h1, o, fd, base_get Y h4 h2, h3⟩
  len := ⟨(mg_at Y T.g _).trans rfl, (T.builtins _ (by decide)).trans (by decide +kernel)⟩
  any := ⟨(mg_at Y T.g _).trans rfl, (T.builtins _ (by decide)).trans (by decide +kernel)⟩
  list := ⟨(mg_at Y T.g _).trans rfl, (T.builtins _ (by decide)).trans (by decide +kernel)⟩
  range := ⟨(mg_at Y T.g _).trans rfl, (T.builtins _ (by decide)).trans (by decide +kernel)⟩
  isinst := ⟨(mg_at Y T.g _).trans rfl, (T.builtins _ (by decide)).trans (by decide +kernel)⟩
  strT := ⟨(mg_at Y T.g _).trans rfl, (T.builtins _ (by decide)).trans (by decide +kernel)⟩
  map := (mg_at Y T.g _).trans rfl
  mapOf := map_at prog w fun o e => base_get Y (by decide) e
  twin := (mg_at Y T.g _).trans rfl
  enum := ⟨(mg_at Y T.g _).trans rfl, (T.builtins _ (by decide)).trans (by decide +kernel)⟩
  obj := ⟨(mg_at Y T.g _).trans rfl, (T.builtins _ (by decide)).trans (by decide +kernel)⟩
  filt := ⟨(mg_at Y T.g _).trans rfl, (T.builtins _ (by decide)).trans (by decide +kernel)⟩

theorem frag_base (Y : (hd.heap_1 w.params).In h) (hn : ∀ P ∈ [33, 64], (hd.heap_1 w.params).lookup P = none) : (hd.heap_1 w.params).In (wd prog w h).base := fun a o e => hideAll_get _ (Y _ _ e) fun q => by rw [hn a q] at e; cases e
theorem no_tabs (P : PySem.Params) : ∀ a ∈ [33, 64], (hd.heap_1 P).lookup a = none := fun a ha => by
  simp only [List.mem_cons, List.not_mem_nil, or_false] at ha
  rcases ha with rfl | rfl <;> rfl

theorem gx_of (Y : (hd.heap_1 w.params).In h) (T : Top p loose mean mg mb h) : Gx (wd prog w h) (gl_of (prog := prog) Y T) where
  tinvE := fun _ => Iff.rfl
  tabsE := rfl
  hd1 := codeHd_of_K (frag_base Y (no_tabs _)) (by rfl)
  hd2 := codeHd_of_K (frag_base Y (no_tabs _)) (by rfl)
  bmain := by
    obtain ⟨bm, ob, h1, h2, h3, h4, h5, h6⟩ := T.bmain
    have e : (some (Value.ref 4) : Option Value) = some (.ref bm) := by rw [← h1, mg_at Y T.g]; rfl
    obtain rfl : 4 = bm := by cases e; rfl
    exact ⟨4, ob, h1, h2, by decide, hideAll_get _ h3 (by decide), h4, h5, h6⟩
  nolim := let ⟨mc, hn, h0⟩ := T.nolimit; ⟨mc, base_ns (by decide) hn, h0⟩
  pat := ⟨_, _, frag_base Y (no_tabs _) _ _ rfl⟩
  cod := frag_base Y (no_tabs _) _ _ rfl
end
end Mini
end

section
open PySem PySem.Spec PySem.Calls PyProof.Rows PySem.W PySem.Builtin PySem.Builtin.Str PySem.StrLaws
set_option maxRecDepth 100000
namespace Mini
theorem two {α : Type} {l : List α} (h : l.length = 2) : ∃ a b, l = [a, b] := by
  cases l with
  | nil => cases h
  | cons a l =>
    obtain ⟨b, rfl⟩ := List.length_eq_one_iff.mp (Nat.succ.inj h)
    exact ⟨a, b, rfl⟩
theorem three {α : Type} {l : List α} (h : l.length = 3) : ∃ a b c, l = [a, b, c] := by
  cases l with
  | nil => cases h
  | cons a l =>
    obtain ⟨b, c, rfl⟩ := two (Nat.succ.inj h)
    exact ⟨a, b, c, rfl⟩
noncomputable def nameB (c : Cx) (n : Str) : Bool := c.sc.names.lookup n == some .local || c.sc.names.lookup n == some .cell
noncomputable def cxB (c : Cx) (ps : List Str) : Bool :=
  c.sc.kind == .function && c.vis.all (fun x => c.vis.all fun y => c.nm[x]? != c.nm[y]? || x == y) &&
  c.vis.all (fun x => match c.nm[x]? with | some n => plainName n && nameB c n | none => false) && decide ps.Nodup &&
  (List.range ps.length).all (fun j => c.nm[j]? == ps[j]?) && ps.all (nameB c)
theorem nameB_of {c : Cx} {n : Str} (h : nameB c n = true) : c.sc.names.lookup n = some .local ∨ c.sc.names.lookup n = some .cell := by
  unfold nameB at h
  rw [Bool.or_eq_true] at h
  rcases h with h | h
  · exact .inl (eq_of_beq h)
  · exact .inr (eq_of_beq h)
theorem cxOk_of {c : Cx} {ps : List Str} (h : cxB c ps = true) : CxOk c ps := by
  unfold cxB at h
  simp only [Bool.and_eq_true] at h
  obtain ⟨⟨⟨⟨⟨h1, h2⟩, h3⟩, h4⟩, h5⟩, h6⟩ := h
  refine ⟨eq_of_beq h1, fun x hx y hy e => ?_, fun x hx => ?_, of_decide_eq_true h4, fun j n e => ?_, fun n hn => nameB_of (List.all_eq_true.mp h6 n hn)⟩
  · have := List.all_eq_true.mp (List.all_eq_true.mp h2 x hx) y hy
    simpa [e] using this
  · have := List.all_eq_true.mp h3 x hx
    split at this
    · rename_i n hn
      rw [Bool.and_eq_true] at this
      exact ⟨n, hn, this.1, nameB_of this.2⟩
    · cases this
  · have hj : j < ps.length := (List.getElem?_eq_some_iff.mp e).1
    have := List.all_eq_true.mp h5 j (List.mem_range.mpr hj)
    rw [eq_of_beq this, e]

noncomputable def c_tr (P : PySem.Params) : Cx := ⟨nms ["pat", "STAR", "parts"], [0, 1, 2], scopeOf (hd.heap_1 P) 50, .ref 49⟩
theorem tie_tr (K : Wd) (m : Nat) (prim : Nat → List D → Option D) (P : PySem.Params) : TieS K m prim (c_tr P) f_tr2 (.many (bodyOf (hd.heap_1 P) 50).tail) := by
  unfold f_tr2
  repeat' first
    | rfl
    | exact TieS.skip
    | refine TieS.seq ?_ ?_
    | exact of_decide_eq_true rfl
    | exact ⟨of_decide_eq_true rfl, rfl⟩
    | (intro _ _ _; rfl)
    | (intro _ _; rfl)
    | constructor
section
variable {prog p : Program} {w : World} {h : Heap} {loose : List Str} {mean : ExcName → Option Value} {mg mb : Str → Option Value}
variable (Y : (hd.heap_1 w.params).In h) (T : Top p loose mean mg mb h)
include Y T
theorem ok_escape {m : Nat} {prim : Nat → List D → Option D} (hP : PrimOk (wd prog w h) (gl_of Y T) m prim) {fuel : Nat} {ds : List D} {r : D} (hr : f_escape.run prim fuel ds = some r) (hl : ds.length = 1) : CallOk (wd prog w h) (gl_of Y T) (m + 1) 2 ds r :=
  call_mini (ps := nms ["pattern"]) (c := c_escape w.params) (frag_base Y (no_tabs _) _ _ rfl) rfl (gx_of Y T).nolim (codeRec_of (frag_base Y (no_tabs _)) rfl) rfl rfl rfl rfl rfl rfl
    (fun vals hv => by obtain ⟨v, rfl⟩ := List.length_eq_one_iff.mp hv; rfl) rfl rfl (cxOk_of (by rfl)) (tie_escape _ m prim w.params) hP hr hl
theorem ok_translate {m : Nat} {prim : Nat → List D → Option D} (hP : PrimOk (wd prog w h) (gl_of Y T) m prim) {fuel : Nat} {ds : List D} {r : D} (hr : f_translate.run prim fuel ds = some r) (hl : ds.length = 3) : CallOk (wd prog w h) (gl_of Y T) (m + 1) 3 ds r :=
  call_mini (ps := nms ["pat", "STAR", "QUESTION_MARK"]) (c := c_translate w.params) (frag_base Y (no_tabs _) _ _ rfl) rfl (gx_of Y T).nolim (codeRec_of (frag_base Y (no_tabs _)) rfl) rfl rfl rfl rfl rfl rfl
    (fun vals hv => by obtain ⟨a, b, c, rfl⟩ := three hv; rfl) rfl rfl (cxOk_of (by rfl)) (tie_translate _ m prim w.params (gx_of Y T)) hP hr hl
theorem ok_jointranslatedparts {m : Nat} {prim : Nat → List D → Option D} (hP : PrimOk (wd prog w h) (gl_of Y T) m prim) {fuel : Nat} {ds : List D} {r : D} (hr : f_jointranslatedparts.run prim fuel ds = some r) (hl : ds.length = 2) : CallOk (wd prog w h) (gl_of Y T) (m + 1) 4 ds r :=
  call_mini (ps := nms ["inp", "STAR"]) (c := c_jointranslatedparts w.params) (frag_base Y (no_tabs _) _ _ rfl) rfl (gx_of Y T).nolim (codeRec_of (frag_base Y (no_tabs _)) rfl) rfl rfl rfl rfl rfl rfl
    (fun vals hv => by obtain ⟨a, b, rfl⟩ := two hv; rfl) rfl rfl (cxOk_of (by rfl)) (tie_jointranslatedparts _ m prim w.params) hP hr hl
theorem ok_lawunit {m : Nat} {prim : Nat → List D → Option D} (hP : PrimOk (wd prog w h) (gl_of Y T) m prim) {fuel : Nat} {ds : List D} {r : D} (hr : f_lawunit.run prim fuel ds = some r) (hl : ds.length = 2) : CallOk (wd prog w h) (gl_of Y T) (m + 1) 5 ds r :=
  call_mini (ps := nms ["text", "k"]) (c := c_lawunit w.params) (frag_base Y (no_tabs _) _ _ rfl) rfl (gx_of Y T).nolim (codeRec_of (frag_base Y (no_tabs _)) rfl) rfl rfl rfl rfl rfl rfl
    (fun vals hv => by obtain ⟨a, b, rfl⟩ := two hv; rfl) rfl rfl (cxOk_of (by rfl)) (tie_lawunit _ m prim w.params) hP hr hl
theorem ok_lawtokens {m : Nat} {prim : Nat → List D → Option D} (hP : PrimOk (wd prog w h) (gl_of Y T) m prim) {fuel : Nat} {ds : List D} {r : D} (hr : f_lawtokens.run prim fuel ds = some r) (hl : ds.length = 1) : CallOk (wd prog w h) (gl_of Y T) (m + 1) 6 ds r :=
  call_mini (ps := nms ["text"]) (c := c_lawtokens w.params) (frag_base Y (no_tabs _) _ _ rfl) rfl (gx_of Y T).nolim (codeRec_of (frag_base Y (no_tabs _)) rfl) rfl rfl rfl rfl rfl rfl
    (fun vals hv => by obtain ⟨v, rfl⟩ := List.length_eq_one_iff.mp hv; rfl) rfl rfl (cxOk_of (by rfl)) (tie_lawtokens _ m prim w.params) hP hr hl
theorem ok_lawfits {m : Nat} {prim : Nat → List D → Option D} (hP : PrimOk (wd prog w h) (gl_of Y T) m prim) {fuel : Nat} {ds : List D} {r : D} (hr : f_lawfits.run prim fuel ds = some r) (hl : ds.length = 3) : CallOk (wd prog w h) (gl_of Y T) (m + 1) 7 ds r :=
  call_mini (ps := nms ["units", "name", "place"]) (c := c_lawfits w.params) (frag_base Y (no_tabs _) _ _ rfl) rfl (gx_of Y T).nolim (codeRec_of (frag_base Y (no_tabs _)) rfl) rfl rfl rfl rfl rfl rfl
    (fun vals hv => by obtain ⟨a, b, c, rfl⟩ := three hv; rfl) rfl rfl (cxOk_of (by rfl)) (tie_lawfits _ m prim w.params) hP hr hl
theorem ok_lawtakes {m : Nat} {prim : Nat → List D → Option D} (hP : PrimOk (wd prog w h) (gl_of Y T) m prim) {fuel : Nat} {ds : List D} {r : D} (hr : f_lawtakes.run prim fuel ds = some r) (hl : ds.length = 2) : CallOk (wd prog w h) (gl_of Y T) (m + 1) 8 ds r :=
  call_mini (ps := nms ["tokens", "name"]) (c := c_lawtakes w.params) (frag_base Y (no_tabs _) _ _ rfl) rfl (gx_of Y T).nolim (codeRec_of (frag_base Y (no_tabs _)) rfl) rfl rfl rfl rfl rfl rfl
    (fun vals hv => by obtain ⟨a, b, rfl⟩ := two hv; rfl) rfl rfl (cxOk_of (by rfl)) (tie_lawtakes _ m prim w.params) hP hr hl
theorem ok_tr {m : Nat} {prim : Nat → List D → Option D} (hP : PrimOk (wd prog w h) (gl_of Y T) m prim) {t q : S} {d : D} (h1 : prim 3 [.str t, .star, .str [46]] = some d) (h2 : prim 4 [d, .star] = some (.str q)) : CallOk (wd prog w h) (gl_of Y T) (m + 1) 1 [.str t] (.str q) :=
  translate_ok (c := c_tr w.params) (frag_base Y (no_tabs _) _ _ rfl) rfl (gx_of Y T).nolim (codeRec_of (frag_base Y (no_tabs _)) rfl) rfl rfl rfl rfl rfl rfl
    (fun vals hv => by obtain ⟨v, rfl⟩ := List.length_eq_one_iff.mp hv; rfl) rfl rfl (cxOk_of (by rfl)) (by show 1 ∈ [0, 1, 2]; decide) rfl rfl (tie_tr _ m prim w.params) hP h1 h2
theorem ok_platform {m : Nat} {prim : Nat → List D → Option D} (hP : PrimOk (wd prog w h) (gl_of Y T) m prim) {t : S} {d : D} (hr : xPlatform prim t = some d) : CallOk (wd prog w h) (gl_of Y T) (m + 1) 0 [.str t] d :=
  plat_ok (gx_of Y T) (c := c_platform w.params) (nA := "args") (frag_base Y (no_tabs _) _ _ rfl) rfl (codeRec_of (frag_base Y (no_tabs _)) rfl) rfl rfl rfl rfl rfl rfl
    (fun v => rfl) rfl rfl rfl (cxOk_of (by rfl)) rfl (by show 1 ∈ [1, 2]; decide) (by show 0 ∉ [1, 2]; decide) rfl rfl (by decide) (by decide) rfl rfl rfl rfl rfl rfl rfl rfl (tie_platform _ m prim w.params) hP hr
end
end Mini
end

section
open PySem PySem.Spec PySem.Calls PyProof.Rows PySem.W PySem.Builtin PySem.Builtin.Str PySem.StrLaws
set_option maxRecDepth 100000
namespace Mini
noncomputable def prim0 : Nat → List D → Option D := fun _ _ => none
noncomputable def p1 (g : D → Option D) : List D → Option D
  | [a] => g a
  | _ => none
noncomputable def p2 (g : D → D → Option D) : List D → Option D
  | [a, b] => g a b
  | _ => none
noncomputable def p3 (g : D → D → D → Option D) : List D → Option D
  | [a, b, c] => g a b c
  | _ => none
noncomputable def onS (g : S → Option D) : D → Option D
  | .str t => g t
  | _ => none
noncomputable def primE (f : Nat) (ds : List D) : Option D := if f = 2 then p1 (fun a => f_escape.run prim0 2 [a]) ds else none
/-- translate's two halves -/
noncomputable def prim3 (f : Nat) (ds : List D) : Option D := if f = 3 then p3 (fun p q r => f_translate.run primE 300 [p, q, r]) ds else if f = 4 then p2 (fun p q => f_jointranslatedparts.run prim0 300 [p, q]) ds else none
noncomputable def xTranslate (p : S) : Option D := do
  let parts ← prim3 3 [.str p, .star, .str [46]]
  onS (fun q => some (.str q)) (← prim3 4 [parts, .star])
noncomputable def primU (f : Nat) (ds : List D) : Option D := if f = 5 then p2 (fun a b => f_lawunit.run prim0 300 [a, b]) ds else none
noncomputable def primF (f : Nat) (ds : List D) : Option D := if f = 7 then p3 (fun a b c => f_lawfits.run prim0 300 [a, b, c]) ds else none
noncomputable def primL (f : Nat) (ds : List D) : Option D :=
  if f = 0 then p1 (onS (xPlatform prim0)) ds else if f = 1 then p1 (onS xTranslate) ds else if f = 6 then p1 (fun a => f_lawtokens.run primU 300 [a]) ds else if f = 8 then p2 (fun a b => f_lawtakes.run primF 300 [a, b]) ds else none
theorem p1_some {g : D → Option D} {ds : List D} {r : D} (h : p1 g ds = some r) : ∃ a, ds = [a] ∧ g a = some r := by
  cases ds with
  | nil => cases h
  | cons a l => cases l with
    | nil => exact ⟨a, rfl, h⟩
    | cons b l => cases h
theorem p2_some {g : D → D → Option D} {ds : List D} {r : D} (h : p2 g ds = some r) : ∃ a b, ds = [a, b] ∧ g a b = some r := by
  cases ds with
  | nil => cases h
  | cons a l => cases l with
    | nil => cases h
    | cons b l => cases l with
      | nil => exact ⟨a, b, rfl, h⟩
      | cons c l => cases h
theorem p3_some {g : D → D → D → Option D} {ds : List D} {r : D} (h : p3 g ds = some r) : ∃ a b c, ds = [a, b, c] ∧ g a b c = some r := by
  cases ds with
  | nil => cases h
  | cons a l => cases l with
    | nil => cases h
    | cons b l => cases l with
      | nil => cases h
      | cons c l => cases l with
        | nil => exact ⟨a, b, c, rfl, h⟩
        | cons d l => cases h
theorem onS_some {g : S → Option D} {d r : D} (h : onS g d = some r) : ∃ t, d = .str t ∧ g t = some r := by
  cases d with
  | str t => exact ⟨t, rfl, h⟩
  | _ => cases h
theorem if_some {p : Prop} [Decidable p] {a : Option D} {r : D} (h : (if p then a else none) = some r) : p ∧ a = some r := by
  by_cases q : p
  · rw [if_pos q] at h; exact ⟨q, h⟩
  · rw [if_neg q] at h; cases h
theorem if_cases {p : Prop} [Decidable p] {a b : Option D} {r : D} (h : (if p then a else b) = some r) : (p ∧ a = some r) ∨ b = some r := by
  by_cases q : p
  · rw [if_pos q] at h; exact .inl ⟨q, h⟩
  · rw [if_neg q] at h; exact .inr h
noncomputable def xLaw (script : List Int) : Option D := f_law.run primL 300 [.lst (script.map .int)]

section
variable {K : Wd} {G : Gl K}
theorem CallOk.up {m m' f : Nat} {ds : List D} {r : D} (h : CallOk K G m f ds r) (l : m ≤ m') : CallOk K G m' f ds r := fun sa A s O vals rm => h sa A s O vals (rm.less l)
theorem prim0_ok {m : Nat} : PrimOk K G m prim0 := fun _ _ _ e => by cases e
end
section
variable {prog p : Program} {w : World} {h : Heap} {loose : List Str} {mean : ExcName → Option Value} {mg mb : Str → Option Value}
variable (Y : (hd.heap_1 w.params).In h) (T : Top p loose mean mg mb h)
include Y T
theorem primE_ok : PrimOk (wd prog w h) (gl_of Y T) 1 primE := fun f ds r e => by
  obtain ⟨rfl, e⟩ := if_some e
  obtain ⟨a, rfl, e⟩ := p1_some e
  exact ⟨by decide, ok_escape Y T prim0_ok e rfl⟩
theorem prim3_ok : PrimOk (wd prog w h) (gl_of Y T) 2 prim3 := fun f ds r e => by
  rcases if_cases e with ⟨rfl, e⟩ | e
  · obtain ⟨a, b, c, rfl, e⟩ := p3_some e
    exact ⟨by decide, ok_translate Y T (primE_ok Y T) e rfl⟩
  · obtain ⟨rfl, e⟩ := if_some e
    obtain ⟨a, b, rfl, e⟩ := p2_some e
    exact ⟨by decide, (ok_jointranslatedparts (m := 0) Y T prim0_ok e rfl).up (by decide)⟩
theorem primU_ok : PrimOk (wd prog w h) (gl_of Y T) 1 primU := fun f ds r e => by
  obtain ⟨rfl, e⟩ := if_some e
  obtain ⟨a, b, rfl, e⟩ := p2_some e
  exact ⟨by decide, ok_lawunit Y T prim0_ok e rfl⟩
theorem primF_ok : PrimOk (wd prog w h) (gl_of Y T) 1 primF := fun f ds r e => by
  obtain ⟨rfl, e⟩ := if_some e
  obtain ⟨a, b, c, rfl, e⟩ := p3_some e
  exact ⟨by decide, ok_lawfits Y T prim0_ok e rfl⟩
theorem primL_ok : PrimOk (wd prog w h) (gl_of Y T) 3 primL := fun f ds r e => by
  rcases if_cases e with ⟨rfl, e⟩ | e
  · obtain ⟨a, rfl, e⟩ := p1_some e
    obtain ⟨t, rfl, e⟩ := onS_some e
    exact ⟨by decide, (ok_platform (m := 0) Y T prim0_ok e).up (by decide)⟩
  rcases if_cases e with ⟨rfl, e⟩ | e
  · obtain ⟨a, rfl, e⟩ := p1_some e
    obtain ⟨t, rfl, e⟩ := onS_some e
    obtain ⟨d, h1, e⟩ := ob e
    obtain ⟨q, h2, e⟩ := ob e
    obtain ⟨z, rfl, e⟩ := onS_some e
    cases e
    exact ⟨by decide, ok_tr Y T (prim3_ok Y T) h1 h2⟩
  rcases if_cases e with ⟨rfl, e⟩ | e
  · obtain ⟨a, rfl, e⟩ := p1_some e
    exact ⟨by decide, (ok_lawtokens Y T (primU_ok Y T) e rfl).up (by decide)⟩
  · obtain ⟨rfl, e⟩ := if_some e
    obtain ⟨a, b, rfl, e⟩ := p2_some e
    exact ⟨by decide, (ok_lawtakes Y T (primF_ok Y T) e rfl).up (by decide)⟩
end
end Mini
end

section
open PySem PySem.Spec PySem.Calls PyProof.Rows PySem.W PySem.Builtin PySem.Builtin.Str PySem.StrLaws
set_option maxRecDepth 100000
namespace Mini
section
variable {M : Model} {A : Around} {E : Value → Shared → Prop} {s₀ s : Shared} {m cm : Str → Option Value} {env : PySem.Env}
theorem store_tok {n : Str} {v : Value} {Q : Unit → Shared → Prop} (x : InCallC s₀ env.locals m env.cells cm s) (hk : env.scope.kind = .function) (hl : env.kindOf n = some .local)
    (h : ∀ s', InCallC s₀ env.locals (fun y => if y = n then some v else m y) env.cells cm s' → s'.toks = s.toks + 1 → Q () s') : wpAny M A (storeName env n v) Q E s := by
  refine wpAny_storeName_local hl x.toInCall.ns (fun h' hn' hs' => h _ ⟨⟨?_, hn', fun b o e => ?_, x.toInCall.fresh⟩, fun k c hc => ?_, x.apart, x.above⟩ rfl) (by rw [hk]; rfl)
  · obtain ⟨h₁, tk, rfl⟩ := x.toInCall.same
    exact ⟨h', _, rfl⟩
  · exact hs'.extBut b o (Nat.ne_of_lt (Nat.lt_of_lt_of_le (Heap.lt_size e) x.toInCall.fresh)) (x.toInCall.keep b o e)
  · exact (x.cell k c hc).sameBut hs' (Nat.ne_of_gt (x.above k c (mem_of_lookup hc)))
theorem newEnv_one {scope : Scope} {globals : Addr} {n : Str} {v : Value} {qual : Str} {func : Option Addr} {code : Value} {builtins : Addr} {Q : PySem.Env → Shared → Prop}
    (hk : scope.kind = .function) (hl : scope.names.lookup n = some .local)
    (hQ : ∀ env, env = newEnv scope s.heap.objs.size globals (cellsFrom (s.heap.objs.size + 1) scope.names []) qual func code none builtins →
      ∀ s', InCallC s env.locals (bindL env.kindOf [(n, v)] fun _ => none) env.cells (bindC env.kindOf [(n, v)] fun _ => none) s' → s.toks + 1 ≤ s'.toks → Q env s') :
    wpAny M A (newFunctionEnv scope globals [] [(n, v)] qual func code none builtins) Q E s := by
  simp only [newFunctionEnv, Option.isSome_none, Bool.false_eq_true, if_false]
  refine wpAny_bind (wpAny_alloc ?_)
  refine wpAny_bind (wpAny_layCells _ (fun name kind cells => by cases hkc : kind == NameKind.cell <;> simp [hkc]) _ _ _ _ ?_)
  have ok := cellsFrom_ok scope.names (s.heap.push { cls := .type "frame", data := .dict #[] }) (s.heap.objs.size + 1) [] ⟨fun _ _ hm => (nomatch hm), List.Pairwise.nil⟩ (by rw [Heap.size_push]; exact Nat.le_refl _)
  rw [Heap.size_push] at ok
  rw [show ({ s with heap := s.heap.push { cls := .type "frame", data := .dict #[] } } : Shared).heap.objs.size = s.heap.objs.size + 1 from Heap.size_push ..]
  rw [List.forIn_cons]
  simp only [List.forIn_nil]
  have x0 : InCallC s (newEnv scope s.heap.objs.size globals (cellsFrom (s.heap.objs.size + 1) scope.names []) qual func code none builtins).locals (fun _ => none) (newEnv scope s.heap.objs.size globals (cellsFrom (s.heap.objs.size + 1) scope.names []) qual func code none builtins).cells (fun _ => none)
      { s with heap := pushCells (s.heap.push { cls := .type "frame", data := .dict #[] }) scope.names } :=
    ⟨⟨⟨_, _, rfl⟩, (Heap.Ns.new s.heap (.type "frame")).keeps (pushCells_keeps _ _), fun b o e => pushCells_keeps _ _ b o (Heap.get?_push_of_some _ e), Nat.le_refl _⟩,
      fun n c hc => (ok.empty n c (mem_of_lookup hc)).1, ok.apart, fun n c hm => (ok.empty n c hm).2⟩
  refine wpAny_bind (wpAny_bind (wpAny_bind (store_tok x0 hk hl fun s' x' ht => wpAny_pure (wpAny_pure (wpAny_pure (hQ _ rfl s' ?_ (Nat.le_of_eq ht.symm)))))))
  unfold bindL bindC bindL bindC
  rw [if_pos (show (newEnv scope s.heap.objs.size globals (cellsFrom (s.heap.objs.size + 1) scope.names []) qual func code none builtins).kindOf n = some .local from hl), if_pos (show (newEnv scope s.heap.objs.size globals (cellsFrom (s.heap.objs.size + 1) scope.names []) qual func code none builtins).kindOf n = some .local from hl)]
  exact x'
end
theorem call_entry {K : Wd} {G : Gl K} {fa : Addr} {o : Obj} {fd : FuncData} {n0 : Str} {v0 : Value} {body : List Stmt} {c : Cx}
    (ho : K.base.get? fa = some o) (hd : o.data = .func fd) (hlim : K.base.NoLimit) (hcd : K.base.CodeRec fd.code fd.qualname) (hbody : fd.body = .stmts body) (hclo : fd.closure = []) (hgl : fd.globals = mainGlobals) (hbi : fd.builtins = builtinsNs)
    (hco : fd.scope.isCoroutine = false) (hgen : fd.scope.isGenerator = false) (hc : c.sc = fd.scope) (hcc : c.code = fd.code) (Xk : CxOk c [n0]) (hl0 : fd.scope.names.lookup n0 = some .local)
    {A : Around} {s : Shared} {O : List Addr} {Q : Value → Shared → Prop} (dep : A.depth < recursionLimit) (st : St K { s with toks := s.toks + 1 }) (htabs : ∀ a ∈ K.tabs, a ∈ O) (hlive : ∀ a ∈ O, ∃ o, s.heap.get? a = some o)
    (hbind : bindArgs fd ⟨[v0], []⟩ = pure [(n0, v0)])
    (k : ∀ env O₁ s₁, Ct K c env { s with toks := s.toks + 1 } O → (∀ (sa : Addr) (ds : List D) (n : Nat), ds.length = 1 → (∀ x ∈ c.vis, ∀ u d, [v0][x]? = some u → ds[x]? = some d → VR sa (Vw O s.heap) u d) → Sm K sa c env { s with toks := s.toks + 1 } O O₁ (fun j => [v0].getD j .none) (ds.map (fun d => some (X.d d)) ++ List.replicate n none) s₁) →
      wpAny (M K) (A.deeper env) (execs body env) (fun fw s' => ∃ v, fw = .ret v ∧ Q v s') NoE s₁) : wpAny (M K) A (call (.ref fa) [v0]) Q NoE s := by
  have hk : fd.scope.kind = .function := by rw [← hc]; exact Xk.fn
  refine wpAny_call (codeAny_call_function dep (st.base _ _ ho) hd hco hgen hbody (hcd.keeps st.base) ?_)
  rw [hbind, hclo]
  refine wpAny_pure (newEnv_one hk hl0 fun env he s₁ Xc htk => ?_)
  subst he
  generalize hE : newEnv fd.scope s.heap.objs.size fd.globals (cellsFrom (s.heap.objs.size + 1) fd.scope.names []) (fd.qualname ++ ".<locals>.") (some fa) fd.code none fd.builtins = env at Xc ⊢
  have eL : env.locals = s.heap.objs.size := by rw [← hE]; rfl
  have eS : env.scope = c.sc := by rw [← hE, hc]; rfl
  have eG : env.globals = mainGlobals := by rw [← hE]; exact hgl
  have eB : env.builtins = builtinsNs := by rw [← hE]; exact hbi
  have eC : env.cells = cellsFrom (s.heap.objs.size + 1) fd.scope.names [] := by rw [← hE]; rfl
  obtain ⟨h₁, tk, rfl, hkp⟩ := Xc.done
  have stp : Step K { s with toks := s.toks + 1 } { s with heap := h₁, toks := tk } := Step.of (s := { s with toks := s.toks + 1 }) hkp htk
  have nocell : ∀ n a, env.cells.lookup n = some a → s.heap.get? a = none := fun n a e => by
    have h1 := Xc.above n a (mem_of_lookup e)
    cases e' : s.heap.get? a with
    | none => rfl
    | some o =>
      have h2 := Heap.lt_size e'
      rw [eL] at h1
      exact absurd h2 (Nat.not_lt.mpr (Nat.le_of_lt h1))
  have C : Ct K c env { s with toks := s.toks + 1 } O := by
    refine ⟨G.base, st, eS, Xk.fn, eG, eB, by rw [← hE, hcc]; rfl, htabs, fun n e => ?_, fun n n' a e e' => name_of_addr Xc.apart (mem_of_lookup e) (mem_of_lookup e'), Xk.inj, Xk.kinds, by rw [eL]; exact new_none, nocell, fun q => ?_, fun n a e q => live_ne (nocell n a e) (hlive a q) rfl⟩
    · rw [eC]
      have : c.sc.names.lookup n = some .cell := e
      rw [hc] at this
      exact Option.isSome_iff_exists.mp (cells_some _ _ _ (.inl (mem_of_lookup this)))
    · rw [eL] at q
      exact live_ne new_none (hlive _ q) rfl
  have kofe : ∀ n, env.kindOf n = c.sc.names.lookup n := fun n => by show env.scope.names.lookup n = _; rw [eS]
  have hld : ∀ (x : Nat) (n : Str) (u : Value), [n0][x]? = some n → [v0][x]? = some u → Loads env K.tabs n u h₁ := fun x n u hpx hvx => by
    rcases Xk.kind n (List.mem_of_getElem? hpx) with hkl | hkc
    · exact .inl ⟨by rw [kofe]; exact hkl, C.Ltab, _, Xc.toInCall.ns, bindL_zip _ [n0] [v0] _ _ _ x Xk.nodup hpx hvx (by rw [kofe]; exact hkl)⟩
    · obtain ⟨a, ha⟩ := C.cells _ hkc
      have hcl := Xc.cell _ a ha
      rw [show [(n0, v0)] = [n0].zip [v0] from rfl, bindC_zip _ [n0] [v0] _ _ _ x Xk.nodup hpx hvx (by rw [kofe, hkc]; decide)] at hcl
      exact .inr ⟨by rw [kofe]; exact hkc, a, ha, C.ctab ha, hcl⟩
  refine ⟨(hlim.keeps st.base).keeps hkp, codeAny_func (wpAny_mono (k env (env.locals :: (env.cells.filterMap (fun p => env.cells.lookup p.1) ++ O)) _ C fun sa ds n hdl hv => ?_) (fun fw s'' q => ?_) fun _ _ e => e.elim)⟩
  · have vw : ∀ b o, Vw O s.heap b o → Vw (env.locals :: (env.cells.filterMap (fun p => env.cells.lookup p.1) ++ O)) h₁ b o := fun b o q => ⟨by
      rw [List.mem_cons, List.mem_append, not_or, not_or]
      refine ⟨fun e => ?_, fun e => ?_, q.1⟩
      · rw [eL] at e
        exact live_ne new_none ⟨o, q.2⟩ e
      · obtain ⟨⟨n, a⟩, hm, hl⟩ := List.mem_filterMap.mp e
        exact live_ne (nocell n b hl) ⟨o, q.2⟩ rfl, hkp b o q.2⟩
    have cellmem : ∀ n a, env.cells.lookup n = some a → a ∈ env.cells.filterMap (fun p => env.cells.lookup p.1) := fun n a e => List.mem_filterMap.mpr ⟨(n, a), mem_of_lookup e, e⟩
    refine ⟨stp, fun a ha => by rw [List.mem_cons, List.mem_append]; exact .inr (.inr ha), fun a ha => ?_, List.mem_cons_self, ⟨_, Xc.toInCall.ns⟩, fun n a e => ⟨⟨_, Xc.cell n a e⟩, by rw [List.mem_cons, List.mem_append]; exact .inr (.inl (cellmem n a e))⟩, fun x hx Z hZ => ?_, fun x hx l hl => ?_, fun x hx y hy hne l l' hl => ?_, fun y hy x hX => ?_⟩
    · rw [List.mem_cons, List.mem_append] at ha
      rcases ha with rfl | ha | ha
      · obtain ⟨o, _, _, ho, _⟩ := Xc.toInCall.ns; exact ⟨o, ho⟩
      · obtain ⟨⟨n, a'⟩, hm, hl⟩ := List.mem_filterMap.mp ha
        obtain ⟨o, ho, _⟩ := Xc.cell n a hl
        exact ⟨o, ho⟩
      · obtain ⟨o, ho⟩ := hlive a ha
        exact ⟨o, hkp a o ho⟩
    · obtain ⟨d, hd', rfl⟩ := getV_args hZ
      have hxl : x < [n0].length := by show x < 1; have := (List.getElem?_eq_some_iff.mp hd').1; omega
      have hpx : [n0][x]? = some [n0][x] := List.getElem?_eq_getElem hxl
      have hvx : [v0][x]? = some ([v0].getD x .none) := by
        have : x < [v0].length := hxl
        simp only [List.getD, List.getElem?_eq_getElem this, Option.getD_some]
      exact ⟨[n0][x], Xk.args x _ hpx, hld x _ _ hpx hvx, (hv x hx _ d hvx hd').mono vw⟩
    · obtain ⟨d, _, e⟩ := getV_args hl; cases e
    · obtain ⟨d, _, e⟩ := getV_args hl; cases e
    · obtain ⟨d, _, e⟩ := getV_args hX; cases e
  · obtain ⟨v, rfl, q⟩ := q
    exact q

end Mini
end

section
open PySem PySem.Spec PySem.Calls PyProof.Rows PySem.W PySem.Builtin PySem.Builtin.Str PySem.StrLaws
set_option maxRecDepth 100000
namespace Mini
theorem codeTable {h : Heap} {c P : Addr} (x : CodeHd h c P) : isCodeTable h P := by
  obtain ⟨o, vs, _, _, _, _, _, _, _, e1, e2, e3, e4, _⟩ := x
  exact ⟨c, o, vs, e1, e2, e3, e4⟩
theorem old_end {h h' : Heap} (c1 : CodeHd h 37 33) (c2 : CodeHd h 68 64) (t : ∀ P ∈ [33, 64], h.get? P = some (tabObj #[])) (keep : ∀ b o, b ∉ [33, 64] → h.get? b = some o → h'.get? b = some o)
    (ti : ∀ P ∈ [33, 64], ∃ ps, h'.get? P = some (tabObj ps) ∧ TriplesOk ps.toList) : OldK h h' := by
  have ct : ∀ P ∈ [33, 64], isCodeTable h P := fun P hP => by
    simp only [List.mem_cons, List.not_mem_nil, or_false] at hP
    rcases hP with rfl | rfl
    · exact codeTable c1
    · exact codeTable c2
  refine ⟨fun b o e => ?_, fun b o e => ?_⟩
  · by_cases hb : b ∈ [33, 64]
    · have e' := t b hb
      rw [e] at e'
      cases e'
      obtain ⟨ps, hps, _⟩ := ti b hb
      exact .inr (.inl ⟨ct b hb, rfl, #[], ps, rfl, by simpa using hps⟩)
    · exact .inl (keep b o hb e)
  · by_cases hb : b ∈ [33, 64]
    · obtain ⟨ps, hps, _⟩ := ti b hb
      exact ⟨_, hps⟩
    · exact ⟨o, keep b o hb e⟩
end Mini
end

section
open PySem PySem.Spec PySem.Calls PyProof.Rows PySem.W PySem.Builtin PySem.Builtin.Str PySem.StrLaws
set_option maxRecDepth 100000
namespace Mini
theorem call_entry_run {K : Wd} {G : Gl K} {fa : Addr} {o : Obj} {fd : FuncData} {n0 : Str} {v0 : Value} {body : List Stmt} {c : Cx}
    (ho : K.base.get? fa = some o) (hd : o.data = .func fd) (hlim : K.base.NoLimit) (hcd : K.base.CodeRec fd.code fd.qualname) (hbody : fd.body = .stmts body) (hclo : fd.closure = []) (hgl : fd.globals = mainGlobals) (hbi : fd.builtins = builtinsNs)
    (hco : fd.scope.isCoroutine = false) (hgen : fd.scope.isGenerator = false) (hc : c.sc = fd.scope) (hcc : c.code = fd.code) (Xk : CxOk c [n0]) (hl0 : fd.scope.names.lookup n0 = some .local)
    {A : Around} {s : Shared} {O : List Addr} (dep : A.depth < recursionLimit) (st : St K { s with toks := s.toks + 1 }) (htabs : ∀ a ∈ K.tabs, a ∈ O) (hlive : ∀ a ∈ O, ∃ o, s.heap.get? a = some o)
    (hbind : bindArgs fd ⟨[v0], []⟩ = pure [(n0, v0)])
    {m : Nat} {prim : Nat → List D → Option D} {f : Fn} {fuel : Nat} {d0 r : D} (rm : Rm A (m + 1)) (hP : PrimOk K G m prim) (tie : TieS K m prim c f.body (.many body)) (hv0 : VR 0 (Vw O s.heap) v0 d0)
    (hr : f.run prim fuel [d0] = some r) : wpAny (M K) A (call (.ref fa) [v0]) (fun v s' => ∃ O', VR 0 (Vw O' s'.heap) v r ∧ Step K { s with toks := s.toks + 1 } s') NoE s := by
  obtain ⟨⟨fl, ρ'⟩, hev, hr⟩ := ob hr
  cases fl with
  | next => cases hr
  | brk => cases hr
  | ret d =>
  cases hr
  refine call_entry (K := K) (G := G) ho hd hlim hcd hbody hclo hgl hbi hco hgen hc hcc Xk hl0 dep st htabs hlive hbind fun env O₁ s₂ C S => ?_
  have S1 := S 0 [d0] (f.names - [d0].length) rfl fun x hx u d hu hd => by
    cases x with
    | zero => cases hu; cases hd; exact hv0
    | succ x => simp at hu
  refine wpAny_mono (tieS_ok hP tie 0 (A.deeper env) env _ _ _ _ _ _ fuel _ _ rm.deeper C S1 hev) (fun fw s' q => ?_) fun _ _ e => e.elim
  obtain ⟨v, rfl, st2, hv2⟩ := q
  exact ⟨v, rfl, _, hv2, st2⟩
end Mini
end

section
open PySem PySem.Spec PySem.Calls PyProof.Rows PySem.W PySem.Builtin PySem.Builtin.Str PySem.StrLaws
set_option maxRecDepth 100000
namespace Mini
theorem callerA_rm : Rm callerA 5 := ⟨rfl, by decide +kernel, by decide +kernel⟩
section
variable {prog p : Program} {w : World} {s₁ : Shared} {loose : List Str} {mean : ExcName → Option Value} {mg mb : Str → Option Value}
theorem law_run (Y : (hd.heap_1 w.params).In s₁.heap) (T : Top p loose mean mg mb s₁.heap)
    (st : St (wd prog w s₁.heap) { s₁ with toks := s₁.toks + 1 }) (tabs : ∀ P ∈ [33, 64], ∃ o, s₁.heap.get? P = some o) {v0 : Value} {d0 r : D} {fuel : Nat} (hv0 : VR 0 (Vw [33, 64] s₁.heap) v0 d0)
    (hr : f_law.run primL fuel [d0] = some r) :
    wpAny (M (wd prog w s₁.heap)) callerA (call (.ref 105) [v0]) (fun v s' => ∃ O', VR 0 (Vw O' s'.heap) v r ∧ Step (wd prog w s₁.heap) { s₁ with toks := s₁.toks + 1 } s') NoE s₁ :=
  call_entry_run (n0 := "script") (c := c_law w.params) (frag_base Y (no_tabs _) _ _ rfl) rfl (gx_of (prog := prog) Y T).nolim (codeRec_of (frag_base Y (no_tabs _)) rfl) rfl rfl rfl rfl rfl rfl rfl rfl (cxOk_of (by rfl)) rfl (by decide +kernel) st (fun a ha => ha) tabs rfl
    (callerA_rm.less (by decide)) (primL_ok Y T) (tie_law _ 3 primL w.params) hv0 hr
theorem law_good (Y : (hd.heap_1 w.params).In s₁.heap) (T : Top p loose mean mg mb s₁.heap)
    (tabs : ∀ P ∈ [33, 64], s₁.heap.get? P = some (tabObj #[])) (hg : AllBare s₁.gens) {l : Addr} {vs : Array Value} {n : Nat} {script : List Int} (hl : s₁.heap.get? l = some (lstO vs n)) (hs : VRs 0 (Vw [33, 64] s₁.heap) vs (script.map .int))
    (hr : xLaw script = some (.bool true)) :
    wpAny (model prog w) callerA (call (.ref 105) [.ref l]) (fun v s' => v = .bool true ∧ OldK s₁.heap s'.heap ∧ s'.os = s₁.os ∧ AllBare s'.gens) NoE s₁ := by
  have st : St (wd prog w s₁.heap) { s₁ with toks := s₁.toks + 1 } := ⟨fun b o e => of_hideAll _ e, hg, Nat.succ_pos _, fun P hP => ⟨#[], tabs P hP, trivial⟩⟩
  refine wpAny_mono (law_run Y T st (fun P hP => ⟨_, tabs P hP⟩) (VR.ofVRs ⟨fun q => (by rw [tabs l q] at hl; cases hl), hl⟩ hs) hr) (fun v s' q => ?_) fun _ _ e => e
  obtain ⟨O', hv2, st2⟩ := q
  cases VR.boolean hv2
  refine ⟨rfl, old_end ?_ ?_ tabs (fun b o hb e => st2.keep b o hb e) (st2.tinv st.tinv), st2.os, st2.gens hg⟩
  · exact codeHd_of_K Y (by rfl)
  · exact codeHd_of_K Y (by rfl)
end
end Mini
end

section
open PySem PySem.Spec PySem.Calls PyProof.Rows PySem.W PySem.Builtin PySem.Builtin.Str PySem.StrLaws
namespace Mini
theorem wellInts {P : Params} {h : Heap} {Q : Addr → Obj → Prop} : ∀ {xs : List Int} {vs : List Value}, WellAll P h vs (ofPys (xs.map PyData.int)) → VRs 0 Q vs.toArray (xs.map .int)
  | [], _, W => by
    cases W
    exact .nil
  | x :: xs, _, W => by
    cases W with
    | cons h1 h2 =>
      cases h1 with
      | int i t => exact .ofList (.int _ _) (wellInts h2)
theorem wellList {P : Params} {h : Heap} {Q : Addr → Obj → Prop} {l : Addr} {xs : List Int} (W : Well P h (.ref l) (ofPy (.list (xs.map PyData.int)))) : ∃ vs : Array Value, h.get? l = some (lstO vs 0) ∧ VRs 0 Q vs (xs.map .int) := by
  cases W with
  | list h1 h2 => exact ⟨_, h1, wellInts h2⟩
end Mini
end

section
open PySem PySem.W PyProof.Rows
set_option Elab.async false
set_option maxRecDepth 100000
set_option maxHeartbeats 8000000
namespace Mini
theorem join (L : ∀ script : List Int, script.length ≤ 63 → xLaw script = some (.bool true)) : PySem.Challenge.rw_in0229_01.Holds := by
  w_on
  refine holds_law (by kernel_rfl) fun said => ?_
  refine holds_open (q := vw) (loose := vl) (Xt := xt) (XP := XL vw []) (Yf := Hook.obs hk) (Ya := Hook.val hk) (YP := Hook.says hk) (N := 3510) left (Hook.of hk) (Hook.keeps hk) (fun s e => xl_of s (Bool.and_eq_true_iff.mp e).1) XL.keeps (by rfl) (by rfl) (by rfl)
    (fun s e => recFacts_of (Bool.and_eq_true_iff.mp e).2) (by rfl) (by first | assumption | decide +kernel) (by decide +kernel) ⟨rfl, rfl, rfl, rfl, rfl, by decide +kernel⟩ ?hw ?hc
  case hw => w_witness2
  case hc =>
    k_fill
    intro w s₀ s₁ mg mb G Y fa o pm cd doc dV kV ho hd hcd hD hmg hg args vals as hpre hlay hrd hwl hlo
    clear hd hcd hD ho
    have hfa : fa = 105 := by
      have e := (mg_at (km_in_of Y) G.T.g (Str.ofString "law")).symm.trans hmg
      exact Value.ref.inj (Option.some.inj (e.symm.trans rfl))
    clear hmg
    subst hfa
    have t33 : CodeHd s₁.heap 37 33 ∧ s₁.heap.get? 33 = some (tabObj #[]) := tab_of (x := Str.ofString "_platform") G.T (km_in_of Y) rfl rfl
    have t64 := km_tabs_of Y 64 (by decide)
    wrow_args hpre hlay hrd hwl hlo
    rename_i xs _ _ _ _ _ _ _ l vs _ _ _ W _ _ _ hle _
    obtain ⟨ws, hl, hv⟩ := wellList W
    refine wpAny_mono (law_good (km_in_of Y) G.T ?_ ?_ hl hv (L xs ?_)) (fun v s' q => ?_) fun _ _ e => e.elim
    · intro P hP
      simp only [List.mem_cons, List.not_mem_nil, or_false] at hP
      rcases hP with rfl | rfl
      · exact t33.2
      · exact t64
    · exact AllBare.of_eq hg
    · omega
    · obtain ⟨rfl, h1, h2, h3⟩ := q
      exact ⟨.inl ⟨_, _, _, rfl, fun cls => rfl, .bool true, by wrow_post, fun _ => ⟨.nil, fun a ha => nomatch ha⟩⟩, h1, h2, h3⟩
end Mini
end

section
namespace Mini
theorem mapM_some {α β : Type} {f : α → Option β} {g : α → β} : ∀ {l : List α}, (∀ d ∈ l, f d = some (g d)) → l.mapM f = some (l.map g)
  | [], _ => rfl
  | d :: l, h => by
    rw [List.mapM_cons, h d List.mem_cons_self, mapM_some fun e he => h e (List.mem_cons_of_mem _ he)]
    rfl
theorem bools_map : ∀ l : List Bool, bools? (l.map .bool) = some l
  | [] => rfl
  | b :: l => by rw [List.map_cons, bools?, bools_map l]; rfl
theorem ints_map : ∀ l : List Int, ints? (l.map .int) = some l
  | [] => rfl
  | b :: l => by rw [List.map_cons, ints?, ints_map l]; rfl
theorem strs_map : ∀ l : List S, strs? (l.map .str) = some l
  | [] => rfl
  | b :: l => by rw [List.map_cons, strs?, strs_map l]; rfl
theorem flatten_one {α β : Type} (g : α → β) : ∀ l : List α, (l.map fun d => [g d]).flatten = l.map g
  | [] => rfl
  | b :: l => by rw [List.map_cons, List.flatten_cons, flatten_one g l]; rfl
theorem flatten_if {α β : Type} (f : α → Bool) (g : α → β) : ∀ l : List α, (l.map fun d => if f d then [g d] else []).flatten = (l.filter f).map g
  | [] => rfl
  | b :: l => by
    rw [List.map_cons, List.flatten_cons, flatten_if f g l]
    cases h : f b with
    | true => rw [List.filter_cons_of_pos h]; rfl
    | false => rw [List.filter_cons_of_neg (by rw [h]; decide)]; rfl
theorem okL_of {l : List D} (h : l.length ≤ 4096) : okL l = some (.d (.lst l)) := if_pos h
theorem okI_of {i : Int} (h : -1048576 ≤ i ∧ i ≤ 1048576) : okI i = some (.d (.int i)) := if_pos h
theorem okS_of {s : S} (h : s.length ≤ 4096) : okS s = some (.d (.str s)) := if_pos h
theorem okI_nat {n : Nat} (h : n ≤ 1048576) : okI (n : Int) = some (.d (.int n)) := okI_of ⟨Int.le_trans (by decide) (Int.natCast_nonneg n), Int.ofNat_le.mpr h⟩
section
variable {prim : Nat → List D → Option D} {fuel : Nat} {ρ ρ' : Env}
theorem ev_seq {s u : T} (h : evalS prim fuel s ρ = some (.next, ρ')) : evalS prim fuel (.seq s u) ρ = evalS prim fuel u ρ' := by
  rw [evalS, h]; rfl
theorem ev_seqR {s u : T} {d : D} (h : evalS prim fuel s ρ = some (.ret d, ρ')) : evalS prim fuel (.seq s u) ρ = some (.ret d, ρ') := by
  rw [evalS, h]; rfl
theorem ev_seqB {s u : T} (h : evalS prim fuel s ρ = some (.brk, ρ')) : evalS prim fuel (.seq s u) ρ = some (.brk, ρ') := by
  rw [evalS, h]; rfl
theorem run_of {f : Fn} {args : List D} {d : D} (h : evalS prim fuel f.body (args.map (fun d => some (X.d d)) ++ List.replicate (f.names - args.length) none) = some (.ret d, ρ')) : f.run prim fuel args = some d := by
  unfold Fn.run
  rw [h]
  rfl
theorem pv_bind {α β : Type} {x : Option α} {a : α} {f : α → Option β} (h : x = some a) : (x >>= f) = f a := by rw [h]; rfl
theorem pv_ifsT {c : E} {a b : T} (h : (do truth (← evalE prim c ρ)) = some true) : evalS prim fuel (.ifs c a b) ρ = evalS prim fuel a ρ := by
  rw [evalS]
  simp only [Option.bind_eq_bind] at h ⊢
  rw [← Option.bind_assoc, h]
  rfl
theorem pv_ifsF {c : E} {a b : T} (h : (do truth (← evalE prim c ρ)) = some false) : evalS prim fuel (.ifs c a b) ρ = evalS prim fuel b ρ := by
  rw [evalS]
  simp only [Option.bind_eq_bind] at h ⊢
  rw [← Option.bind_assoc, h]
  rfl
theorem pv_tr {c : E} {b : Bool} (h : evalE prim c ρ = some (.d (.bool b))) : (do truth (← evalE prim c ρ)) = some b := by rw [h]; rfl
theorem pv_call1 {f : Nat} {a : E} {x d : D} (h1 : evalE prim a ρ = some (.d x)) (h : prim f [x] = some d) : evalE prim (.call1 f a) ρ = some (.d d) := by
  rw [evalE, h1]
  show (do return X.d (← prim f [x])) = _
  rw [h]
  rfl
theorem pv_call2 {f : Nat} {a b : E} {x y d : D} (h1 : evalE prim a ρ = some (.d x)) (h2 : evalE prim b ρ = some (.d y)) (h : prim f [x, y] = some d) : evalE prim (.call2 f a b) ρ = some (.d d) := by
  rw [evalE, h1, h2]
  show (do return X.d (← prim f [x, y])) = _
  rw [h]
  rfl
theorem pv_call3 {f : Nat} {a b c : E} {x y z d : D} (h1 : evalE prim a ρ = some (.d x)) (h2 : evalE prim b ρ = some (.d y)) (h3 : evalE prim c ρ = some (.d z)) (h : prim f [x, y, z] = some d) : evalE prim (.call3 f a b c) ρ = some (.d d) := by
  rw [evalE, h1, h2, h3]
  show (do return X.d (← prim f [x, y, z])) = _
  rw [h]
  rfl
theorem pv_add {a b : E} {x y : X} {z : Option X} (h1 : evalE prim a ρ = some x) (h2 : evalE prim b ρ = some y) (h : addX x y = z) : evalE prim (.add a b) ρ = z := by
  rw [evalE, h1, h2]
  exact h
theorem pv_idx {a b : E} {x y : X} {z : Option X} (h1 : evalE prim a ρ = some x) (h2 : evalE prim b ρ = some y) (h : idxX (isV a) x y = z) : evalE prim (.idx a b) ρ = z := by
  rw [evalE, h1, h2]
  exact h
theorem pv_iteT {c a b : E} (h : (do truth (← evalE prim c ρ)) = some true) : evalE prim (.ite c a b) ρ = evalE prim a ρ := by
  rw [evalE]
  simp only [Option.bind_eq_bind] at h ⊢
  rw [← Option.bind_assoc, h]
  rfl
theorem pv_iteF {c a b : E} (h : (do truth (← evalE prim c ρ)) = some false) : evalE prim (.ite c a b) ρ = evalE prim b ρ := by
  rw [evalE]
  simp only [Option.bind_eq_bind] at h ⊢
  rw [← Option.bind_assoc, h]
  rfl
theorem pv_asg {x : Nat} {e : E} {d : D} (h : evalE prim e ρ = some (.d d)) : evalS prim fuel (.asg x e) ρ = some (.next, setV ρ x (.d d)) := by
  rw [evalS, h]; rfl
theorem pv_asgC {x : Nat} {e : E} {d : D} (h : evalE prim e ρ = some (.d d)) : evalS prim fuel (.asgC x e) ρ = some (.next, setV ρ x (.d d)) := by
  rw [evalS, h]; rfl
theorem pv_one {s : T} (h : evalS prim fuel s ρ = some (.next, ρ')) : evalS prim fuel (.seq s .skip) ρ = some (.next, ρ') := by
  rw [ev_seq h, evalS]
theorem pv_cmp {o : Cmp} {a b : E} {x y : X} {r : Bool} (h1 : evalE prim a ρ = some x) (h2 : evalE prim b ρ = some y) (h : cmpX o x y = some r) : evalE prim (.cmp o a b) ρ = some (.d (.bool r)) := by
  rw [evalE, h1, h2]
  show (do return X.d (.bool (← cmpX o x y))) = _
  rw [h]
  rfl
theorem pv_cmp2T {o p : Cmp} {a b c : E} {x y z : X} {r : Bool} (h1 : evalE prim a ρ = some x) (h2 : evalE prim b ρ = some y) (h : cmpX o x y = some true) (h3 : evalE prim c ρ = some z) (h4 : cmpX p y z = some r) : evalE prim (.cmp2 o p a b c) ρ = some (.d (.bool r)) := by
  rw [evalE, h1, h2]
  show (do if ← cmpX o x y then (do let z ← evalE prim c ρ; return X.d (.bool (← cmpX p y z))) else return X.d (.bool false)) = _
  rw [h, h3]
  show (do return X.d (.bool (← cmpX p y z))) = _
  rw [h4]
  rfl
theorem pv_cmp2F {o p : Cmp} {a b c : E} {x y : X} (h1 : evalE prim a ρ = some x) (h2 : evalE prim b ρ = some y) (h : cmpX o x y = some false) : evalE prim (.cmp2 o p a b c) ρ = some (.d (.bool false)) := by
  rw [evalE, h1, h2]
  show (do if ← cmpX o x y then (do let z ← evalE prim c ρ; return X.d (.bool (← cmpX p y z))) else return X.d (.bool false)) = _
  rw [h]
  rfl
theorem pv_lenL {a : E} {l : List D} (h : evalE prim a ρ = some (.d (.lst l))) (hl : l.length ≤ 4096) : evalE prim (.len a) ρ = some (.d (.int (l.length : Int))) := by
  rw [evalE, h]
  exact okI_nat (Nat.le_trans hl (by decide))
theorem pv_lenS {a : E} {s : S} (h : evalE prim a ρ = some (.d (.str s))) (hl : s.length ≤ 4096) : evalE prim (.len a) ρ = some (.d (.int (s.length : Int))) := by
  rw [evalE, h]
  exact okI_nat (Nat.le_trans hl (by decide))
theorem pv_andF {a b : E} {x : X} (h : evalE prim a ρ = some x) (ht : truth x = some false) : evalE prim (.and a b) ρ = some x := by
  rw [evalE, h]
  show (do if ← truth x then evalE prim b ρ else return x) = _
  rw [ht]
  rfl
theorem pv_andT {a b : E} {x : X} (h : evalE prim a ρ = some x) (ht : truth x = some true) : evalE prim (.and a b) ρ = evalE prim b ρ := by
  rw [evalE, h]
  show (do if ← truth x then evalE prim b ρ else return x) = _
  rw [ht]
  rfl
theorem pv_orT {a b : E} {x : X} (h : evalE prim a ρ = some x) (ht : truth x = some true) : evalE prim (.or a b) ρ = some x := by
  rw [evalE, h]
  show (do if ← truth x then return x else evalE prim b ρ) = _
  rw [ht]
  rfl
theorem pv_orF {a b : E} {x : X} (h : evalE prim a ρ = some x) (ht : truth x = some false) : evalE prim (.or a b) ρ = evalE prim b ρ := by
  rw [evalE, h]
  show (do if ← truth x then return x else evalE prim b ρ) = _
  rw [ht]
  rfl
theorem pv_not {a : E} {b : Bool} (h : evalE prim a ρ = some (.d (.bool b))) : evalE prim (.not a) ρ = some (.d (.bool !b)) := by
  rw [evalE, h]
  rfl
theorem pv_aug {x : Nat} {e : E} {i j : Int} {r : X} (h1 : getV ρ x = some (.d (.int i))) (h2 : evalE prim e ρ = some (.d (.int j))) (h : okI (i + j) = some r) : evalS prim fuel (.aug x e) ρ = some (.next, setV ρ x r) := by
  rw [evalS, h1, h2]
  simp only [Option.bind_eq_bind, Option.bind_some, asI, h]
  rfl
theorem pv_repl {a : E} {p q s : S} (h : evalE prim a ρ = some (.d (.str s))) (hc : (p.isEmpty || p == q || decide (16 < q.length)) = false) (hs : s.length ≤ 4096) (hr : (repl p q s).length ≤ 4096) : evalE prim (.repl a p q) ρ = some (.d (.str (repl p q s))) := by
  rw [evalE, h]
  show (if (p.isEmpty || p == q || decide (16 < q.length) || decide (4096 < s.length)) = true then none else okS (repl p q s)) = _
  rw [hc, Bool.false_or, if_neg (fun e => absurd (of_decide_eq_true e) (Nat.not_lt.mpr hs)), okS_of hr]
theorem pv_lcons {a r : E} {x : D} {l : List D} (h1 : evalE prim a ρ = some (.d x)) (h2 : evalE prim r ρ = some (.d (.lst l))) (hl : l.length + 1 ≤ 4096) : evalE prim (.lcons a r) ρ = some (.d (.lst (x :: l))) := by
  rw [evalE, h1, h2]
  exact okL_of hl
theorem while_stop {test : Env → Option Bool} {body : Env → Option (Fl × Env)} {m : Nat} (h : test ρ = some false) : whileN test body (m + 1) ρ = some (.next, ρ) := by
  rw [whileN, h]; rfl
theorem while_go {test : Env → Option Bool} {body : Env → Option (Fl × Env)} {m : Nat} (h : test ρ = some true) (hb : body ρ = some (.next, ρ')) : whileN test body (m + 1) ρ = whileN test body m ρ' := by
  rw [whileN, h]
  show (do match ← body ρ with
      | (.next, ρ') => whileN test body m ρ'
      | (.brk, ρ') => return (.next, ρ')
      | (.ret d, ρ') => return (.ret d, ρ')) = _
  rw [hb]
  rfl
theorem while_brk {test : Env → Option Bool} {body : Env → Option (Fl × Env)} {m : Nat} (h : test ρ = some true) (hb : body ρ = some (.brk, ρ')) : whileN test body (m + 1) ρ = some (.next, ρ') := by
  rw [whileN, h]
  show (do match ← body ρ with
      | (.next, ρ') => whileN test body m ρ'
      | (.brk, ρ') => return (.next, ρ')
      | (.ret d, ρ') => return (.ret d, ρ')) = _
  rw [hb]
  rfl
theorem for_go {f : D → Env → Option (Fl × Env)} {d : D} {r : List D} (h : f d ρ = some (.next, ρ')) : forN f (d :: r) ρ = forN f r ρ' := by
  rw [forN, h]
  rfl
theorem pv_compA {elt src : E} {x : Nat} {s : X} {α : Type} {m g : α → D} {l : List α} (hs : evalE prim src ρ = some s) (hl : asIt s = some (l.map m)) (hn : l.length ≤ 4096) (hg : ∀ d ∈ l, evalE prim elt (setV ρ x (.d (m d))) = some (.d (g d))) :
    evalE prim (.comp elt x src) ρ = some (.d (.lst (l.map g))) := by
  have hm := mapM_some (l := l) (f := (fun d => do return [← asD (← evalE prim elt (setV ρ x (.d d)))]) ∘ m) (g := fun d => [g d]) fun d hd => by
    simp only [Function.comp, hg d hd]; rfl
  rw [evalE, hs]
  simp only [Option.bind_eq_bind, Option.bind_some, hl, List.length_map] at hm ⊢
  rw [if_neg (Nat.not_lt.mpr hn), List.mapM_map]
  refine (congrArg (fun o => Option.bind o fun r => okL r.flatten) hm).trans ?_
  show okL (List.flatten _) = _
  rw [flatten_one, okL_of (by rw [List.length_map]; exact hn)]
theorem pv_compIf {elt src c : E} {x : Nat} {s : X} {l : List D} {g : D → D} {f : D → Bool} (hs : evalE prim src ρ = some s) (hl : asIt s = some l) (hn : l.length ≤ 4096) (hc : ∀ d ∈ l, ∃ z, evalE prim c (setV ρ x (.d d)) = some z ∧ truth z = some (f d))
    (hg : ∀ d ∈ l, f d = true → evalE prim elt (setV ρ x (.d d)) = some (.d (g d))) :
    evalE prim (.compIf elt x src c) ρ = some (.d (.lst ((l.filter f).map g))) := by
  have hm := mapM_some (l := l) (f := fun d => do if ← truth (← evalE prim c (setV ρ x (.d d))) then do return [← asD (← evalE prim elt (setV ρ x (.d d)))] else return []) (g := fun d => if f d then [g d] else []) fun d hd => by
    obtain ⟨z, h1, h2⟩ := hc d hd
    rw [h1]
    simp only [Option.bind_eq_bind, Option.bind_some, h2]
    by_cases q : f d = true
    · rw [if_pos q, if_pos q, hg d hd q]; rfl
    · rw [if_neg q, if_neg q]; rfl
  rw [evalE, hs]
  simp only [Option.bind_eq_bind, Option.bind_some, hl] at hm ⊢
  rw [if_neg (Nat.not_lt.mpr hn), hm, Option.bind_some, flatten_if, okL_of (by rw [List.length_map]; exact Nat.le_trans (List.length_filter_le _ _) hn)]
theorem pv_compT {elt src : E} {x y : Nat} {s : X} {α : Type} {m : α → D} {l : List α} {g : α → D} (hs : evalE prim src ρ = some s) (hl : asL s = some (l.map m)) (hn : l.length ≤ 4096)
    (hg : ∀ d ∈ l, ∃ a b, m d = .tup a b ∧ evalE prim elt (setV (setV ρ x (.d a)) y (.d b)) = some (.d (g d))) :
    evalE prim (.compT elt x y src) ρ = some (.d (.lst (l.map g))) := by
  have hm := mapM_some (l := l) (f := (fun d => match d with
      | .tup a b => do return [← asD (← evalE prim elt (setV (setV ρ x (.d a)) y (.d b)))]
      | _ => (none : Option (List D))) ∘ m) (g := fun d => [g d]) fun d hd => by
    obtain ⟨a, b, h1, h2⟩ := hg d hd
    simp only [Function.comp, h1, h2]
    rfl
  rw [evalE, hs]
  simp only [Option.bind_eq_bind, Option.bind_some, hl, List.length_map] at hm ⊢
  rw [if_neg (Nat.not_lt.mpr hn), List.mapM_map]
  refine (congrArg (fun o => Option.bind o fun r => okL r.flatten) hm).trans ?_
  show okL (List.flatten _) = _
  rw [flatten_one, okL_of (by rw [List.length_map]; exact hn)]
end
end Mini
end

section
namespace Mini
noncomputable def hasP (p : S) : S → Bool
  | [] => false
  | c :: x => p.isPrefixOf (c :: x) || hasP p x
theorem replF_single {c d : Nat} : ∀ (n : Nat) (x : S), x.length < n → replF [c] [d] n x = x.map fun y => if y = c then d else y
  | 0, x, h => absurd h (Nat.not_lt_zero _)
  | n + 1, [], _ => rfl
  | n + 1, y :: x, h => by
    have ih := replF_single (c := c) (d := d) n x (by simp at h; omega)
    unfold replF
    by_cases e : y = c
    · subst e; simp [ih]
    · have e' : ¬ c = y := fun q => e q.symm
      simp [e, e', ih]
theorem replF_no {p q : S} : ∀ (n : Nat) (x : S), hasP p x = false → replF p q n x = x
  | 0, x, _ => by cases x <;> rfl
  | n + 1, [], _ => rfl
  | n + 1, c :: x, h => by
    unfold hasP at h
    rw [Bool.or_eq_false_iff] at h
    unfold replF
    rw [if_neg (by rw [h.1]; decide), replF_no n x h.2]
theorem prefix_le {p x : S} (h : p.isPrefixOf x = true) : p.length ≤ x.length := (List.isPrefixOf_iff_prefix.mp h).length_le
theorem replF_le {p q : S} (h : q.length ≤ p.length) : ∀ (n : Nat) (x : S), (replF p q n x).length ≤ x.length
  | 0, x => by cases x <;> exact Nat.le_refl _
  | n + 1, [] => Nat.le_refl _
  | n + 1, c :: x => by
    unfold replF
    split
    · rename_i e
      have l := prefix_le e
      have ih := replF_le h n ((c :: x).drop p.length)
      rw [List.length_drop] at ih
      rw [List.length_append]
      omega
    · have ih := replF_le h n x
      simp only [List.length_cons]
      omega
theorem replF_lt {p q : S} (h : q.length < p.length) : ∀ (n : Nat) (x : S), x.length < n → hasP p x = true → (replF p q n x).length < x.length
  | 0, x, hn, _ => absurd hn (Nat.not_lt_zero _)
  | n + 1, [], _, hh => by cases hh
  | n + 1, c :: x, hn, hh => by
    unfold replF
    split
    · rename_i e
      have l := prefix_le e
      have ih := replF_le (Nat.le_of_lt h) n ((c :: x).drop p.length)
      rw [List.length_drop] at ih
      rw [List.length_append]
      omega
    · rename_i e
      unfold hasP at hh
      rw [Bool.or_eq_true] at hh
      have ih := replF_lt h n x (by simp at hn; omega) (hh.resolve_left e)
      simp only [List.length_cons]
      omega
theorem replF_mem {p q : S} {y : Nat} : ∀ (n : Nat) (x : S), y ∈ replF p q n x → y ∈ x ∨ y ∈ q
  | 0, x, h => by cases x <;> exact .inl h
  | n + 1, [], h => by cases h
  | n + 1, c :: x, h => by
    unfold replF at h
    split at h
    · rw [List.mem_append] at h
      rcases h with h | h
      · exact .inr h
      · rcases replF_mem n _ h with h | h
        · exact .inl (List.mem_of_mem_drop h)
        · exact .inr h
    · rw [List.mem_cons] at h
      rcases h with h | h
      · exact .inl (h ▸ List.mem_cons_self)
      · rcases replF_mem n _ h with h | h
        · exact .inl (List.mem_cons_of_mem _ h)
        · exact .inr h
theorem repl_single {c d : Nat} (x : S) : repl [c] [d] x = x.map fun y => if y = c then d else y := replF_single _ x (Nat.lt_succ_self _)
theorem repl_no {p q x : S} (h : hasP p x = false) : repl p q x = x := replF_no _ x h
theorem repl_le {p q : S} (h : q.length ≤ p.length) (x : S) : (repl p q x).length ≤ x.length := replF_le h _ x
theorem repl_lt {p q x : S} (h : q.length < p.length) (hh : hasP p x = true) : (repl p q x).length < x.length := replF_lt h _ x (Nat.lt_succ_self _) hh
theorem repl_mem {p q x : S} {y : Nat} (h : y ∈ repl p q x) : y ∈ x ∨ y ∈ q := replF_mem _ x h

/- strip -/
theorem dropWhile_lt {f : Nat → Bool} {c : Nat} {x : S} (h : f c = true) : ((c :: x).dropWhile f).length < (c :: x).length := by
  rw [List.dropWhile_cons_of_pos h]
  exact Nat.lt_succ_of_le (List.dropWhile_sublist _).length_le
theorem strip_le (x : S) : (stripS x).length ≤ x.length := by
  unfold stripS
  rw [List.length_reverse]
  refine Nat.le_trans (List.dropWhile_sublist _).length_le ?_
  rw [List.length_reverse]
  exact (List.dropWhile_sublist _).length_le
theorem strip_mem {x : S} {y : Nat} (h : y ∈ stripS x) : y ∈ x := by
  unfold stripS at h
  exact (List.dropWhile_sublist _).subset (List.mem_reverse.mp ((List.dropWhile_sublist _).subset (List.mem_reverse.mp h)))
theorem strip_id {x : S} (h1 : ∀ c, x.head? = some c → isSp c = false) (h2 : ∀ c, x.getLast? = some c → isSp c = false) : stripS x = x := by
  unfold stripS
  have e1 : x.dropWhile isSp = x := by
    cases x with
    | nil => rfl
    | cons c x => exact List.dropWhile_cons_of_neg (by rw [h1 c rfl]; decide)
  rw [e1]
  have e2 : x.reverse.dropWhile isSp = x.reverse := by
    rw [← List.head?_reverse] at h2
    cases hr : x.reverse with
    | nil => rfl
    | cons c y => exact List.dropWhile_cons_of_neg (by rw [hr] at h2; rw [h2 c rfl]; decide)
  rw [e2, List.reverse_reverse]
theorem strip_lt1 {c : Nat} {x : S} (h : isSp c = true) : (stripS (c :: x)).length < (c :: x).length := by
  unfold stripS
  rw [List.length_reverse]
  refine Nat.lt_of_le_of_lt (List.dropWhile_sublist _).length_le ?_
  rw [List.length_reverse]
  exact dropWhile_lt h
theorem strip_lt2 {c : Nat} {x : S} (h : isSp c = true) : (stripS (x ++ [c])).length < (x ++ [c]).length := by
  unfold stripS
  rw [List.length_reverse]
  cases hx : (x ++ [c]).dropWhile isSp with
  | nil => simp
  | cons d y =>
    have hs : (d :: y) <:+ (x ++ [c]) := hx ▸ List.dropWhile_suffix _
    have hl : (d :: y).getLast? = some c := by
      obtain ⟨z, hz⟩ := hs
      have := congrArg List.getLast? hz
      rw [List.getLast?_append, List.getLast?_append] at this
      simpa using this
    rw [← List.head?_reverse] at hl
    have hlen := hs.length_le
    cases hr : (d :: y).reverse with
    | nil => simp
    | cons e z =>
      rw [hr] at hl
      cases hl
      have := dropWhile_lt (x := z) h
      rw [← hr, List.length_reverse] at this
      rw [hr] at this
      omega
end Mini
end

section
namespace Mini
noncomputable def pre : List (Nat → Bool) → S → Bool
  | [], _ => true
  | _ :: _, [] => false
  | u :: us, c :: x => u c && pre us x
noncomputable def hasU (us : List (Nat → Bool)) : S → Bool
  | [] => pre us []
  | c :: x => pre us (c :: x) || hasU us x
noncomputable def lits (p : S) : List (Nat → Bool) := p.map fun l c => l == c
theorem pre_lits : ∀ p x : S, p.isPrefixOf x = pre (lits p) x
  | [], _ => by unfold lits; rfl
  | _ :: _, [] => rfl
  | a :: p, c :: x => by
    show (a == c && p.isPrefixOf x) = (a == c && pre (lits p) x)
    rw [pre_lits p x]
theorem hasP_lits {a : Nat} {p : S} : ∀ x : S, hasP (a :: p) x = hasU (lits (a :: p)) x
  | [] => rfl
  | c :: x => by
    show ((a :: p).isPrefixOf (c :: x) || hasP (a :: p) x) = (pre (lits (a :: p)) (c :: x) || hasU (lits (a :: p)) x)
    rw [pre_lits, hasP_lits x]
theorem pre_map {f : Nat → Nat} : ∀ (us : List (Nat → Bool)) (x : S), pre us (x.map f) = pre (us.map fun u c => u (f c)) x
  | [], x => by cases x <;> rfl
  | _ :: _, [] => rfl
  | u :: us, c :: x => by
    show (u (f c) && pre us (x.map f)) = (u (f c) && _)
    rw [pre_map us x]
theorem hasU_map {f : Nat → Nat} {us : List (Nat → Bool)} : ∀ x : S, hasU us (x.map f) = hasU (us.map fun u c => u (f c)) x
  | [] => pre_map us []
  | c :: x => by
    show (pre us ((c :: x).map f) || hasU us (x.map f)) = (_ || _)
    rw [hasU_map x, pre_map]

noncomputable def uF (l : List (Nat × Nat)) (c : Nat) : Bool := l.any fun s => decide (s.1 ≤ c) && decide (c ≤ s.2)
noncomputable def uUnk : List (List (Nat × Nat)) := [[(117, 117)], [(110, 110)], [(107, 107)], [(110, 110)], [(111, 111)], [(119, 119)], [(110, 110)]]
noncomputable def uWs : List (Nat × Nat) := [(32, 32), (9, 9), (10, 10)]
noncomputable def uE8 : List (Nat × Nat) := [(34, 34), (40, 41), (47, 47), (58, 59), (92, 92), (45, 45)]
noncomputable def uTu : List (Nat × Nat) := [(32, 32), (34, 34), (40, 41), (47, 47), (58, 59), (92, 92)]
noncomputable def unk : S := [117, 110, 107, 110, 111, 119, 110]
noncomputable def fch (c : Nat) : Nat := if c = 32 then 95 else if [47, 92, 58, 59, 34, 40, 41].contains c then 45 else c
noncomputable def alphaL : S := [117, 110, 107, 111, 119, 45, 95, 32, 9, 10, 47, 92, 58, 59, 34, 40, 41, 97, 42]
noncomputable def alpha (c : Nat) : Prop := c ∈ alphaL
noncomputable def ws : Nat → Bool := uF uWs
noncomputable def e8 : Nat → Bool := uF uE8
noncomputable def tu : Nat → Bool := uF uTu
theorem fch_alpha {c : Nat} (h : alpha c) : alpha (fch c) := by
  have : ∀ c ∈ alphaL, fch c ∈ alphaL := by decide +kernel
  exact this c h
theorem alpha_lt {c : Nat} (h : alpha c) : c < 128 := by
  have : ∀ c ∈ alphaL, c < 128 := by decide +kernel
  exact this c h
theorem alpha_sp {c : Nat} (h : alpha c) : isSp c = ws c := by
  have : ∀ c ∈ alphaL, isSp c = ws c := by decide +kernel
  exact this c h
theorem fch_unk {l : Nat} (hl : l ∈ unk) {c : Nat} (h : alpha c) : (l == fch c) = (l == c) := by
  have : ∀ l ∈ unk, ∀ c ∈ alphaL, (l == fch c) = (l == c) := by decide +kernel
  exact this l hl c h
theorem fch_e8 {c : Nat} (h : alpha c) : (45 == fch c) = e8 c := by
  have : ∀ c ∈ alphaL, (45 == fch c) = e8 c := by decide +kernel
  exact this c h
theorem fch_tu {c : Nat} (h : alpha c) : (fch c == c) = !tu c := by
  have : ∀ c ∈ alphaL, (fch c == c) = !tu c := by decide +kernel
  exact this c h
theorem pre_congr {F : (Nat → Bool) → Nat → Bool} : ∀ (us : List (Nat → Bool)) (x : S), (∀ u ∈ us, ∀ c ∈ x, F u c = u c) → pre (us.map F) x = pre us x
  | [], x, _ => by cases x <;> rfl
  | _ :: _, [], _ => rfl
  | u :: us, c :: x, h => by
    show (F u c && pre (us.map F) x) = (u c && pre us x)
    rw [h u List.mem_cons_self c List.mem_cons_self, pre_congr us x fun u hu c hc => h u (List.mem_cons_of_mem _ hu) c (List.mem_cons_of_mem _ hc)]
theorem hasU_congr {F : (Nat → Bool) → Nat → Bool} {us : List (Nat → Bool)} : ∀ x : S, (∀ u ∈ us, ∀ c ∈ x, F u c = u c) → hasU (us.map F) x = hasU us x
  | [], h => pre_congr us [] h
  | c :: x, h => by
    show (pre (us.map F) (c :: x) || hasU (us.map F) x) = (_ || _)
    rw [pre_congr us (c :: x) h, hasU_congr x fun u hu c hc => h u hu c (List.mem_cons_of_mem _ hc)]
theorem has_unk {x : S} (ha : ∀ c ∈ x, alpha c) : hasP unk (x.map fch) = hasP unk x := by
  show hasP (117 :: _) _ = hasP (117 :: _) _
  rw [hasP_lits, hasP_lits, hasU_map]
  refine hasU_congr (F := fun u c => u (fch c)) x fun u hu c hc => ?_
  obtain ⟨l, hl, rfl⟩ := List.mem_map.mp hu
  exact fch_unk hl (ha c hc)
theorem has_two {x : S} (ha : ∀ c ∈ x, alpha c) : hasP [45, 45] (x.map fch) = hasU [e8, e8] x := by
  rw [hasP_lits, hasU_map]
  show hasU ([e8, e8].map fun _ c => 45 == fch c) x = _
  refine hasU_congr (F := fun _ c => 45 == fch c) x fun u hu c hc => ?_
  have : u = e8 := by
    rcases List.mem_cons.mp hu with h | h
    · exact h
    · exact List.mem_singleton.mp h
  rw [this]
  exact fch_e8 (ha c hc)

noncomputable def lost (t : S) : Bool := hasP unk t || t.head?.any ws || t.getLast?.any ws || t.getLast?.any e8 || hasU [e8, e8] t
/-- the loop that makes one hyphen of two -/
noncomputable def bCol : T := .seq (.asg 2 (.repl (.v 1) [45, 45] [45])) (.seq (.ifs (.cmp .eq (.v 2) (.v 1)) (.seq (.brk) .skip) (.skip)) (.seq (.asg 1 (.v 2)) .skip))
noncomputable def bStr : T := .seq (.asg 1 (.slcB (.v 1) (.neg 1))) .skip
noncomputable def cStr : E := .and (.v 1) (.cmp .eq (.idx (.v 1) (.neg 1)) (.str [45]))
variable {prim : Nat → List D → Option D}
theorem col_step {fuel : Nat} {x : S} {a b : Option X} (h : x.length ≤ 4096) : evalS prim fuel bCol [a, some (.d (.str x)), b] =
    some (if repl [45, 45] [45] x = x then (.brk, [a, some (.d (.str x)), some (.d (.str x))]) else (.next, [a, some (.d (.str (repl [45, 45] [45] x))), some (.d (.str (repl [45, 45] [45] x)))])) := by
  have h1 : (repl [45, 45] [45] x).length ≤ 4096 := Nat.le_trans (repl_le (by decide) x) h
  have hc : (do truth (← evalE prim (.cmp .eq (.v 2) (.v 1)) [a, some (.d (.str x)), some (.d (.str (repl [45, 45] [45] x)))])) = some (repl [45, 45] [45] x == x) := pv_tr (pv_cmp (x := .d (.str (repl [45, 45] [45] x))) (y := .d (.str x)) rfl rfl rfl)
  refine (ev_seq (pv_asg (pv_repl (s := x) rfl rfl h h1))).trans ?_
  by_cases e : repl [45, 45] [45] x = x
  · rw [if_pos e]
    rw [show (repl [45, 45] [45] x == x) = true from beq_iff_eq.mpr e] at hc
    refine (ev_seqB (ρ' := [a, some (.d (.str x)), some (.d (.str x))]) ((pv_ifsT hc).trans ?_))
    rw [e]
    rfl
  · rw [if_neg e]
    rw [show (repl [45, 45] [45] x == x) = false from beq_eq_false_iff_ne.mpr e] at hc
    exact (ev_seq ((pv_ifsF hc).trans rfl)).trans rfl
theorem col_loop {fuel : Nat} {a : Option X} : ∀ (n : Nat) (x : S) (b : Option X), x.length < n → x.length ≤ 4096 → ∃ r b', whileN (fun ρ => do truth (← evalE prim (.bool true) ρ)) (evalS prim fuel bCol) n [a, some (.d (.str x)), b] = some (.next, [a, some (.d (.str r)), b']) ∧
      r.length ≤ x.length ∧ (∀ c ∈ r, c ∈ x ∨ c = 45) ∧ (hasP [45, 45] x = false → r = x) ∧ (hasP [45, 45] x = true → r.length < x.length)
  | 0, _, _, h, _ => absurd h (Nat.not_lt_zero _)
  | n + 1, x, b, h, hx => by
    by_cases e : repl [45, 45] [45] x = x
    · refine ⟨x, some (.d (.str x)), while_brk rfl ((col_step hx).trans (by rw [if_pos e])), Nat.le_refl _, fun c hc => .inl hc, fun _ => rfl, fun q => ?_⟩
      · have := repl_lt (q := [45]) (by decide) q
        rw [e] at this
        exact absurd this (Nat.lt_irrefl _)
    · have hh : hasP [45, 45] x = true := by
        cases q : hasP [45, 45] x with
        | true => rfl
        | false => exact absurd (repl_no q) e
      have hl : (repl [45, 45] [45] x).length < x.length := repl_lt (by decide) hh
      obtain ⟨r, b', e1, e2, e3, _, _⟩  := col_loop (fuel := fuel) n (repl [45, 45] [45] x) (some (.d (.str (repl [45, 45] [45] x)))) (by omega) (by omega)
      refine ⟨r, b', ?_, by omega, fun c hc => ?_, fun q => ?_, fun _ => by omega⟩
      · exact (while_go rfl ((col_step hx).trans (by rw [if_neg e]))).trans e1
      · rcases e3 c hc with q | q
        · rcases repl_mem q with q | q
          · exact .inl q
          · exact .inr (List.mem_singleton.mp q)
        · exact .inr q
      · rw [hh] at q; cases q
theorem str_loop {fuel : Nat} {a b : Option X} : ∀ (n : Nat) (x : S), x.length < n → x.length ≤ 4096 → ∃ r, whileN (fun ρ => do truth (← evalE prim cStr ρ)) (evalS prim fuel bStr) n [a, some (.d (.str x)), b] = some (.next, [a, some (.d (.str r)), b]) ∧
      r.length ≤ x.length ∧ (∀ c ∈ r, c ∈ x) ∧ (x.getLast? ≠ some 45 → r = x) ∧ (x.getLast? = some 45 → r.length < x.length)
  | 0, _, h, _ => absurd h (Nat.not_lt_zero _)
  | n + 1, x, h, hx => by
    rcases List.eq_nil_or_concat x with rfl | ⟨y, c, rfl⟩
    · exact ⟨[], while_stop rfl, Nat.le_refl _, fun c hc => hc, fun _ => rfl, fun q => by cases q⟩
    · rw [List.concat_eq_append] at h hx ⊢
      rw [List.length_append, List.length_singleton] at h hx
      have hlen : (y ++ [c]).length = y.length + 1 := List.length_append
      have hat : at? (-1) (y ++ [c]).length = some y.length := by
        unfold at?
        rw [hlen, if_neg (by decide), if_pos (by omega)]
        congr 1
        omega
      have hcut : cut (-1) (y ++ [c]).length = y.length := by
        unfold cut
        rw [hlen, if_neg (by decide)]
        omega
      have hy : y.length ≤ 4096 := by omega
      have hne : evalE prim (.neg 1) [a, some (.d (.str (y ++ [c]))), b] = some (.d (.int (-1))) := by
        rw [evalE]; exact okI_of (i := -((1 : Nat) : Int)) ⟨by decide, by decide⟩
      have hx1 : idxS (y ++ [c]) (-1) = some (.d (.str [c])) := by
        unfold idxS
        rw [if_neg (by rw [hlen]; omega), hat]
        show (do return X.d (.str [← (y ++ [c])[y.length]?])) = _
        rw [List.getElem?_append_right (Nat.le_refl _), Nat.sub_self]
        rfl
      have ht : (do truth (← evalE prim cStr [a, some (.d (.str (y ++ [c]))), b])) = some (c == 45) := by
        unfold cStr
        rw [pv_andT (x := .d (.str (y ++ [c]))) rfl ?_]
        · rw [pv_cmp (x := .d (.str [c])) (y := .d (.str [45])) (r := c == 45) (pv_idx (a := .v 1) (x := .d (.str (y ++ [c]))) rfl hne hx1) rfl ?_]
          · rfl
          · show some ([c] == [45]) = _
            congr 1
            show (c == 45 && true) = _
            rw [Bool.and_true]
        · show (if (y ++ [c]).length ≤ 4096 then some (!(y ++ [c]).isEmpty) else none) = _
          rw [if_pos (by rw [hlen]; exact hx)]
          cases y <;> rfl
      by_cases e : c = 45
      · subst e
        obtain ⟨r, e1, e2, e3, _, _⟩ := str_loop (fuel := fuel) n y (by omega) (by omega)
        refine ⟨r, ?_, by rw [hlen]; omega, fun c hc => List.mem_append_left _ (e3 c hc), fun q => ?_, fun _ => by rw [hlen]; omega⟩
        · have hb : evalS prim fuel bStr [a, some (.d (.str (y ++ [45]))), b] = some (.next, [a, some (.d (.str y)), b]) := by
            refine pv_one (pv_asg (d := .str y) ?_)
            rw [evalE, evalE, hne]
            show (if 4096 < (y ++ [45]).length then none else okS ((y ++ [45]).take (cut (-1) (y ++ [45]).length))) = _
            rw [if_neg (by rw [hlen]; omega), hcut, List.take_left', okS_of hy]
            rfl
          exact (while_go ht hb).trans e1
        · exact absurd List.getLast?_concat q
      · refine ⟨y ++ [c], while_stop (ht.trans (by rw [beq_eq_false_iff_ne.mpr e])), Nat.le_refl _, fun c hc => hc, fun _ => rfl, fun q => ?_⟩
        rw [List.getLast?_concat] at q
        exact absurd (Option.some.inj q) e
end Mini
end

section
namespace Mini
section
variable {prim : Nat → List D → Option D} {fuel : Nat} {a b : Option X} {x : S} {T : T}
theorem st_repl {p q : S} (hp : p.isEmpty = false) (hpq : (p == q) = false) (hq : q.length ≤ 16) (hx : x.length ≤ 4096) (hr : (repl p q x).length ≤ 4096) :
    evalS prim fuel (.seq (.asg 1 (.repl (.v 1) p q)) T) [a, some (.d (.str x)), b] = evalS prim fuel T [a, some (.d (.str (repl p q x))), b] := by
  refine (ev_seq (pv_asg (pv_repl (s := x) rfl ?_ hx hr))).trans rfl
  rw [hp, hpq, Bool.false_or, Bool.false_or, decide_eq_false (Nat.not_lt.mpr hq)]
theorem st_one {c d : Nat} (hpq : c ≠ d) (hx : x.length ≤ 4096) :
    evalS prim fuel (.seq (.asg 1 (.repl (.v 1) [c] [d])) T) [a, some (.d (.str x)), b] = evalS prim fuel T [a, some (.d (.str (x.map fun y => if y = c then d else y))), b] := by
  rw [st_repl rfl (beq_eq_false_iff_ne.mpr fun e => hpq (List.cons.inj e).1) (by show 1 ≤ 16; decide) hx (by rw [repl_single, List.length_map]; exact hx), repl_single]
end
noncomputable def f8 : Nat → Nat := (fun y => if y = 41 then 45 else y) ∘ (fun y => if y = 40 then 45 else y) ∘ (fun y => if y = 34 then 45 else y) ∘ (fun y => if y = 59 then 45 else y) ∘ (fun y => if y = 58 then 45 else y) ∘
    (fun y => if y = 92 then 45 else y) ∘ (fun y => if y = 47 then 45 else y) ∘ fun y => if y = 32 then 95 else y
theorem f8_eq {c : Nat} (h : alpha c) : f8 c = fch c := by
  have : ∀ c ∈ alphaL, f8 c = fch c := by decide +kernel
  exact this c h
theorem f8_eqc {c : Nat} (h : alpha c) : ((fun y => if y = 41 then 45 else y) ∘ (fun y => if y = 40 then 45 else y) ∘ (fun y => if y = 34 then 45 else y) ∘ (fun y => if y = 59 then 45 else y) ∘ (fun y => if y = 58 then 45 else y) ∘
    (fun y => if y = 92 then 45 else y) ∘ (fun y => if y = 47 then 45 else y) ∘ fun y => if y = 32 then 95 else y) c = fch c := f8_eq h
theorem lost_cases {t : S} (h : lost t = true) : hasP unk t = true ∨ t.head?.any ws = true ∨ t.getLast?.any ws = true ∨ t.getLast?.any e8 = true ∨ hasU [e8, e8] t = true := by
  unfold lost at h
  simp only [Bool.or_eq_true] at h
  rcases h with (((h | h) | h) | h) | h
  · exact .inl h
  · exact .inr (.inl h)
  · exact .inr (.inr (.inl h))
  · exact .inr (.inr (.inr (.inl h)))
  · exact .inr (.inr (.inr (.inr h)))
theorem lost_not {t : S} (h : lost t = false) : hasP unk t = false ∧ t.head?.any ws = false ∧ t.getLast?.any ws = false ∧ t.getLast?.any e8 = false ∧ hasU [e8, e8] t = false := by
  unfold lost at h
  simp only [Bool.or_eq_false_iff] at h
  obtain ⟨⟨⟨⟨h1, h2⟩, h3⟩, h4⟩, h5⟩ := h
  exact ⟨h1, h2, h3, h4, h5⟩
theorem mem_head {t : S} {c : Nat} (h : t.head? = some c) : c ∈ t := List.mem_of_head? h
theorem strip_edge {t : S} (ha : ∀ c ∈ t, alpha c) (h : (stripS t).length = t.length) : t.head?.any ws = false ∧ t.getLast?.any ws = false := by
  constructor
  · cases t with
    | nil => rfl
    | cons c x =>
      show ws c = false
      cases q : ws c with
      | false => rfl
      | true =>
        have := strip_lt1 (x := x) ((alpha_sp (ha c List.mem_cons_self)).trans q)
        omega
  · rcases List.eq_nil_or_concat t with rfl | ⟨y, c, rfl⟩
    · rfl
    · rw [List.concat_eq_append] at *
      rw [List.getLast?_append]
      show ws c = false
      cases q : ws c with
      | false => rfl
      | true =>
        have := strip_lt2 (x := y) ((alpha_sp (ha c (by simp))).trans q)
        omega
theorem strip_same {t : S} (ha : ∀ c ∈ t, alpha c) (h1 : t.head?.any ws = false) (h2 : t.getLast?.any ws = false) : stripS t = t := by
  refine strip_id (fun c hc => ?_) fun c hc => ?_
  · rw [alpha_sp (ha c (mem_head hc))]
    rw [hc] at h1
    exact h1
  · rw [alpha_sp (ha c (List.mem_of_getLast? hc))]
    rw [hc] at h2
    exact h2
/-- what is behind the strip -/
theorem strip_by {t : S} (ha : ∀ c ∈ t, alpha c) (h : (stripS t).length = t.length) : stripS t = t :=
  let ⟨h1, h2⟩ := strip_edge ha h
  strip_same ha h1 h2
theorem plat_spec {t : S} (hl : t.length ≤ 4096) (ha : ∀ c ∈ t, alpha c) : ∃ r, xPlatform prim0 t = some (.str r) ∧ r.length ≤ t.length ∧ (∀ c ∈ r, alpha c) ∧ (lost t = false → r = t.map fch) ∧ (lost t = true → r.length < t.length) := by
  have l1 := strip_le t
  have m1 : ∀ c ∈ (stripS t).map fch, alpha c := fun c hc => by
    obtain ⟨d, hd, rfl⟩ := List.mem_map.mp hc
    exact fch_alpha (ha d (strip_mem hd))
  have l2 : (repl unk [] ((stripS t).map fch)).length ≤ (stripS t).length := by
    have := repl_le (p := unk) (q := []) (by decide) ((stripS t).map fch)
    rw [List.length_map] at this
    exact this
  have m2 : ∀ c ∈ repl unk [] ((stripS t).map fch), alpha c := fun c hc => by
    rcases repl_mem hc with q | q
    · exact m1 c q
    · cases q
  obtain ⟨r1, b1, e1, l3, m3, s3, t3⟩ := col_loop (prim := prim0) (fuel := t.length + 2) (a := some (.d .none)) (t.length + 2) (repl unk [] ((stripS t).map fch)) none (by omega) (by omega)
  obtain ⟨r2, e2, l4, m4, s4, t4⟩ := str_loop (prim := prim0) (fuel := t.length + 2) (a := some (.d .none)) (b := b1) (t.length + 2) r1 (by omega) (by omega)
  have m3' : ∀ c ∈ r1, alpha c := fun c hc => by
    rcases m3 c hc with q | rfl
    · exact m2 c q
    · unfold alpha; decide
  refine ⟨r2, ?_, by omega, fun c hc => m3' c (m4 c hc), fun hn => ?_, fun hh => ?_⟩
  · unfold xPlatform
    have hasc : (!(t.all fun x => decide (x < 128)) || decide (4096 < t.length)) = false := by
      rw [Bool.or_eq_false_iff]
      refine ⟨?_, by simp; omega⟩
      rw [Bool.not_eq_false', List.all_eq_true]
      exact fun c hc => decide_eq_true (alpha_lt (ha c hc))
    rw [hasc]
    have ev : evalS prim0 (t.length + 2) f_platform.body [some (.d .none), some (.d (.str (stripS t))), none] = some (.ret (.str r2), [some (.d .none), some (.d (.str r2)), b1]) := by
      unfold f_platform
      dsimp only
      rw [st_one (by decide) (by omega), st_one (by decide) (by simp; omega), st_one (by decide) (by simp; omega), st_one (by decide) (by simp; omega), st_one (by decide) (by simp; omega), st_one (by decide) (by simp; omega), st_one (by decide) (by simp; omega), st_one (by decide) (by simp; omega)]
      simp only [List.map_map]
      have hm : ∀ g : Nat → Nat, (∀ c ∈ stripS t, g c = fch c) → List.map g (stripS t) = (stripS t).map fch := fun g hg => List.map_congr_left hg
      rw [hm _ fun c hc => f8_eqc (ha c (strip_mem hc))]
      refine (st_repl (p := unk) rfl rfl (by decide) (by simp; omega) (Nat.le_trans l2 (by omega))).trans ?_
      refine (ev_seq (s := .while (.bool true) bCol) e1).trans ((ev_seq (s := .while cStr bStr) e2).trans rfl)
    rw [ev]
    rfl
  · obtain ⟨h1, h2, h3, h4, h5⟩ := lost_not hn
    have es := strip_same ha h2 h3
    rw [es] at s3 t3
    have eu : repl unk [] (t.map fch) = t.map fch := repl_no ((has_unk ha).trans h1)
    rw [eu] at s3
    have er := s3 ((has_two ha).trans h5)
    rw [s4 ?_, er]
    rw [er, List.getLast?_map]
    intro q
    cases hq : t.getLast? with
    | none => rw [hq] at q; cases q
    | some c =>
      rw [hq] at q h4
      have : fch c = 45 := by simpa using q
      have h6 := fch_e8 (ha c (List.mem_of_getLast? hq))
      rw [this] at h6
      have h7 : e8 c = false := h4
      rw [h7] at h6
      cases h6
  · by_cases hs : (stripS t).length = t.length
    · have es := strip_by ha hs
      obtain ⟨g1, g2⟩ := strip_edge ha hs
      rw [es] at s3 t3 l2 l3
      cases hu : hasP unk t with
      | true =>
        have := repl_lt (p := unk) (q := []) (by decide) ((has_unk ha).trans hu)
        rw [List.length_map] at this
        omega
      | false =>
        have eu : repl unk [] (t.map fch) = t.map fch := repl_no ((has_unk ha).trans hu)
        rw [eu] at s3 t3
        cases h2 : hasU [e8, e8] t with
        | true =>
          have := t3 ((has_two ha).trans h2)
          rw [List.length_map] at this
          omega
        | false =>
          have er := s3 ((has_two ha).trans h2)
          have hle : t.getLast?.any e8 = true := by
            rcases lost_cases hh with q | q | q | q | q
            · rw [hu] at q; cases q
            · rw [g1] at q; cases q
            · rw [g2] at q; cases q
            · exact q
            · rw [h2] at q; cases q
          have := t4 (by
            rw [er, List.getLast?_map]
            cases hq : t.getLast? with
            | none => rw [hq] at hle; cases hle
            | some c =>
              rw [hq] at hle
              have h6 := fch_e8 (ha c (List.mem_of_getLast? hq))
              rw [show e8 c = true from hle] at h6
              rw [Option.map_some, ← eq_of_beq h6])
          rw [er, List.length_map] at this
          omega
    · omega
end Mini
end

section
namespace Mini
noncomputable def encSp (s : Nat × Nat) : D := .tup (.str [s.1]) (.str [s.2])
noncomputable def encU (l : List (Nat × Nat)) : D := .tup (.bool false) (.lst (l.map encSp))
noncomputable def encUs (us : List (List (Nat × Nat))) : D := .lst (us.map encU)
theorem leS_one (a b : Nat) : leS [a] [b] = decide (a ≤ b) := by
  unfold leS
  by_cases h : a < b
  · rw [if_pos h]; simp; omega
  · rw [if_neg h]
    by_cases e : a = b
    · rw [if_pos e]; simp [leS, e]
    · rw [if_neg e]; simp; omega
theorem cmp_le (a b : S) : cmpX .le (.d (.str a)) (.d (.str b)) = some (leS a b) := rfl
theorem idxS_nat {s : S} {k : Nat} {c : Nat} (hl : s.length ≤ 4096) (h : s[k]? = some c) : idxS s (k : Int) = some (.d (.str [c])) := by
  have hk : k < s.length := (List.getElem?_eq_some_iff.mp h).1
  have : at? (k : Int) s.length = some k := by
    unfold at?
    rw [if_pos (by omega), if_pos (by omega)]
    rfl
  unfold idxS
  rw [if_neg (Nat.not_lt.mpr hl), this]
  show (do return X.d (.str [← s[k]?])) = _
  rw [h]
  rfl
section
variable {prim : Nat → List D → Option D} {t : S} {ρ : Env}
noncomputable def bAny : E := .any (.compT (.cmp2 .le .le (.v 6) (.idx (.v 1) (.add (.v 2) (.v 3))) (.v 7)) 6 7 (.v 5))
theorem any_step {u : Option X} {p k c : Nat} {l : List (Nat × Nat)} {z : Option X} (ht : t.length ≤ 4096) (hl : l.length ≤ 4096) (hc : t[p + k]? = some c) :
    evalE prim bAny [u, some (.d (.str t)), some (.d (.int p)), some (.d (.int k)), z, some (.d (.lst (l.map encSp))), none, none] = some (.d (.bool (uF l c))) := by
  have hk : p + k < t.length := (List.getElem?_eq_some_iff.mp hc).1
  have hi : okI ((p : Int) + (k : Int)) = some (.d (.int ((p : Int) + (k : Int)))) := okI_of (by omega)
  have hx : idxS t ((p : Int) + (k : Int)) = some (.d (.str [c])) := idxS_nat (k := p + k) ht hc
  unfold bAny
  rw [evalE, pv_compT (m := encSp) (l := l) (g := fun s => .bool (decide (s.1 ≤ c) && decide (c ≤ s.2))) rfl rfl hl]
  · show anyX (.d (.lst (l.map (D.bool ∘ fun s => decide (s.1 ≤ c) && decide (c ≤ s.2))))) = _
    rw [← List.map_map]
    simp only [anyX, asL, Option.bind_eq_bind, Option.bind_some, bools_map, Option.pure_def, List.any_map]
    rfl
  · intro s hs
    obtain ⟨a, b⟩ := s
    refine ⟨_, _, rfl, ?_⟩
    have ei : evalE prim (.idx (.v 1) (.add (.v 2) (.v 3))) [u, some (.d (.str t)), some (.d (.int p)), some (.d (.int k)), z, some (.d (.lst (l.map encSp))), some (.d (.str [a])), some (.d (.str [b]))] = some (.d (.str [c])) :=
      pv_idx (a := .v 1) (x := .d (.str t)) rfl (pv_add (x := .d (.int p)) (y := .d (.int k)) rfl rfl hi) hx
    by_cases h1 : a ≤ c
    · rw [decide_eq_true h1, Bool.true_and]
      exact pv_cmp2T (x := .d (.str [a])) (z := .d (.str [b])) rfl ei (by rw [cmp_le, leS_one, decide_eq_true h1]) rfl (by rw [cmp_le, leS_one])
    · rw [decide_eq_false h1, Bool.false_and]
      exact pv_cmp2F (x := .d (.str [a])) rfl ei (by rw [cmp_le, leS_one, decide_eq_false h1])
end
end Mini
end

section
namespace Mini
theorem pre_len : ∀ {us : List (Nat → Bool)} {x : S}, pre us x = true → us.length ≤ x.length
  | [], _, _ => Nat.zero_le _
  | _ :: _, [], h => by cases h
  | u :: us, c :: x, h => by
    have h : (u c && pre us x) = true := h
    rw [Bool.and_eq_true] at h
    exact Nat.succ_le_succ (pre_len h.2)
noncomputable def bFit : T := .seq (.ifs (.cmp .eq (.v 4) bAny) (.seq (.ret (.bool false)) .skip) (.skip)) .skip
noncomputable def fFit (prim : Nat → List D → Option D) (fuel : Nat) : D → Env → Option (Fl × Env) := fun d ρ => match d with
      | .tup i (.tup u v) => evalS prim fuel bFit (setV (setV (setV ρ 3 (.d i)) 4 (.d u)) 5 (.d v))
      | _ => none
section
variable {prim : Nat → List D → Option D} {t : S} {fuel : Nat}
theorem fit_loop {U : Option X} {p : Nat} (ht : t.length ≤ 4096) : ∀ (us : List (List (Nat × Nat))) (k : Nat) (x3 x4 x5 : Option X), p + k + us.length ≤ t.length → (∀ l ∈ us, l.length ≤ 4096) →
    ∃ ρ', forN (fFit prim fuel) (enum k (us.map encU)) [U, some (.d (.str t)), some (.d (.int p)), x3, x4, x5, none, none] = some (if pre (us.map uF) (t.drop (p + k)) then .next else .ret (.bool false), ρ')
  | [], k, x3, x4, x5, _, _ => ⟨_, by unfold pre; rfl⟩
  | l :: us, k, x3, x4, x5, hk, hl => by
    rw [List.length_cons] at hk
    have hkt : p + k < t.length := by omega
    have hc : t[p + k]? = some t[p + k] := List.getElem?_eq_getElem hkt
    have hst := any_step (prim := prim) (u := U) (z := some (.d (.bool false))) ht (hl l List.mem_cons_self) hc
    have hd : t.drop (p + k) = t[p + k] :: t.drop (p + (k + 1)) := List.drop_eq_getElem_cons hkt
    have hp : pre ((l :: us).map uF) (t.drop (p + k)) = (uF l t[p + k] && pre (us.map uF) (t.drop (p + (k + 1)))) := by rw [hd]; rfl
    have hb : fFit prim fuel (.tup (.int k) (encU l)) [U, some (.d (.str t)), some (.d (.int p)), x3, x4, x5, none, none] = some (if uF l t[p + k] then .next else .ret (.bool false), [U, some (.d (.str t)), some (.d (.int p)), some (.d (.int k)), some (.d (.bool false)), some (.d (.lst (l.map encSp))), none, none]) := by
      show evalS prim fuel bFit [U, some (.d (.str t)), some (.d (.int p)), some (.d (.int k)), some (.d (.bool false)), some (.d (.lst (l.map encSp))), none, none] = _
      unfold bFit
      have hcond : (do truth (← evalE prim (.cmp .eq (.v 4) bAny) [U, some (.d (.str t)), some (.d (.int p)), some (.d (.int k)), some (.d (.bool false)), some (.d (.lst (l.map encSp))), none, none])) = some (!uF l t[p + k]) := by
        rw [evalE, hst]
        cases uF l t[p + k] <;> rfl
      cases hv : uF l t[p + k]
      · rw [hv] at hcond
        exact ev_seqR ((pv_ifsT hcond).trans rfl)
      · rw [hv] at hcond
        exact pv_one ((pv_ifsF hcond).trans rfl)
    cases hv : uF l t[p + k]
    · refine ⟨[U, some (.d (.str t)), some (.d (.int p)), some (.d (.int k)), some (.d (.bool false)), some (.d (.lst (l.map encSp))), none, none], ?_⟩
      rw [hp, hv]
      show (forN (fFit prim fuel) (.tup (.int k) (encU l) :: enum (k + 1) (us.map encU)) _) = _
      rw [forN, hb, hv]
      rfl
    · obtain ⟨ρ', h⟩ := fit_loop (U := U) (p := p) ht us (k + 1) (some (.d (.int k))) (some (.d (.bool false))) (some (.d (.lst (l.map encSp)))) (by omega) fun l h => hl l (List.mem_cons_of_mem _ h)
      refine ⟨ρ', ?_⟩
      rw [hp, hv, Bool.true_and]
      show (forN (fFit prim fuel) (.tup (.int k) (encU l) :: enum (k + 1) (us.map encU)) _) = _
      rw [forN, hb, hv]
      exact h
theorem fits_ok {us : List (List (Nat × Nat))} {p : Nat} (ht : t.length ≤ 4096) (hus : us.length ≤ 4096) (hl : ∀ l ∈ us, l.length ≤ 4096) (hp : p ≤ t.length) :
    f_lawfits.run prim fuel [encUs us, .str t, .int p] = some (.bool (pre (us.map uF) (t.drop p))) := by
  have hgt : (do truth (← evalE prim (.cmp .gt (.add (.v 2) (.len (.v 0))) (.len (.v 1))) [some (.d (encUs us)), some (.d (.str t)), some (.d (.int p)), none, none, none, none, none])) = some (decide ((p : Int) + (us.length : Int) > (t.length : Int))) := by
    have hl0 : evalE prim (.len (.v 0)) [some (.d (encUs us)), some (.d (.str t)), some (.d (.int p)), none, none, none, none, none] = some (.d (.int (us.length : Int))) := by
      have := pv_lenL (prim := prim) (ρ := [some (.d (encUs us)), some (.d (.str t)), some (.d (.int p)), none, none, none, none, none]) (a := .v 0) (l := us.map encU) rfl (by rw [List.length_map]; exact hus)
      rw [List.length_map] at this
      exact this
    exact pv_tr (pv_cmp (pv_add (x := .d (.int p)) rfl hl0 (okI_of (by omega))) (pv_lenS (s := t) rfl ht) rfl)
  by_cases hlen : t.length < p + us.length
  · rw [show pre (us.map uF) (t.drop p) = false from by
      cases q : pre (us.map uF) (t.drop p) with
      | false => rfl
      | true =>
        have := pre_len q
        rw [List.length_map, List.length_drop] at this
        omega]
    rw [decide_eq_true (by omega)] at hgt
    refine run_of (ρ' := [some (.d (encUs us)), some (.d (.str t)), some (.d (.int p)), none, none, none, none, none]) ?_
    refine ev_seqR ?_
    show evalS prim fuel (.ifs _ _ _) [some (.d (encUs us)), some (.d (.str t)), some (.d (.int p)), none, none, none, none, none] = _
    exact (pv_ifsT hgt).trans rfl
  · rw [decide_eq_false (by omega)] at hgt
    obtain ⟨ρ', h⟩ := fit_loop (prim := prim) (fuel := fuel) (U := some (.d (encUs us))) (p := p) ht us 0 none none none (by omega) hl
    have h' : evalS prim fuel (.forEn 3 4 5 (.v 0) bFit) [some (.d (encUs us)), some (.d (.str t)), some (.d (.int p)), none, none, none, none, none] = some (if pre (us.map uF) (t.drop (p + 0)) then .next else .ret (.bool false), ρ') := h
    rw [Nat.add_zero] at h'
    refine run_of (ρ' := ρ') ((ev_seq (ρ' := [some (.d (encUs us)), some (.d (.str t)), some (.d (.int p)), none, none, none, none, none]) (by
      show evalS prim fuel (.ifs _ _ _) [some (.d (encUs us)), some (.d (.str t)), some (.d (.int p)), none, none, none, none, none] = _
      exact (pv_ifsF hgt).trans rfl)).trans ?_)
    cases hv : pre (us.map uF) (t.drop p) with
    | true =>
      rw [hv] at h'
      exact (ev_seq (s := .forEn 3 4 5 (.v 0) bFit) h').trans rfl
    | false =>
      rw [hv] at h'
      exact ev_seqR (s := .forEn 3 4 5 (.v 0) bFit) h'
end
end Mini
end

section
set_option maxRecDepth 100000
namespace Mini
theorem hasU_len : ∀ {us : List (Nat → Bool)} {x : S}, x.length < us.length → hasU us x = false
  | us, [], h => by
    show pre us [] = false
    cases us with
    | nil => exact absurd h (Nat.lt_irrefl _)
    | cons u us => rfl
  | us, c :: x, h => by
    show (pre us (c :: x) || hasU us x) = false
    rw [hasU_len (x := x) (by simp at h; omega), Bool.or_false]
    cases q : pre us (c :: x) with
    | false => rfl
    | true => exact absurd (pre_len q) (by omega)
noncomputable def sRun : S := [114, 117, 110]
noncomputable def sOne : S := [111, 110, 101]
noncomputable def sHeld : S := [104, 101, 108, 100]
noncomputable def aRun : T := .seq (.asg 2 (.ite (.v 2) (.lrange (.idx (.v 2) (.int 0)) (.add (.len (.v 1)) (.int 1))) .lnil)) .skip
noncomputable def aOne : T := .seq (.asgC 2 (.compIf (.add (.v 5) (.int 1)) 5 (.v 2) (.call3 7 (.v 4) (.v 1) (.v 5)))) .skip
noncomputable def cH : E := .and (.cmp .le (.add (.v 7) (.len (.v 4))) (.len (.v 1))) (.not (.call3 7 (.v 4) (.v 1) (.v 7)))
noncomputable def bAug : T := .seq (.aug 7 (.int 1)) .skip
noncomputable def bH : T := .seq (.while cH bAug) (.seq (.ifs (.cmp .le (.add (.v 7) (.len (.v 4))) (.len (.v 1))) (.seq (.app 6 (.add (.v 7) (.len (.v 4)))) .skip) .skip) .skip)
noncomputable def aHeld : T := .seq (.own 6 .lnil) (.seq (.for1 7 (.v 2) bH) (.seq (.freeze 6) (.seq (.asg 2 (.v 6)) .skip)))
noncomputable def bTk : T := .seq (.ifs (.cmp .eq (.v 3) (.str sRun)) aRun (.seq (.ifs (.cmp .eq (.v 3) (.str sOne)) aOne aHeld) .skip)) .skip
theorem takes_body : f_lawtakes.body = .seq (.asg 2 (.lcons (.int 0) .lnil)) (.seq (.for2 3 4 (.v 0) bTk) (.seq (.ret (.cmp .mem (.len (.v 1)) (.v 2))) .skip)) := rfl
noncomputable def en (K : Option X) (t : S) (ps : List D) (kind : S) (units : D) (x6 x7 : Option X) : Env := [K, some (.d (.str t)), some (.d (.lst ps)), some (.d (.str kind)), some (.d units), none, x6, x7]
noncomputable def upto (i : Int) (n : Nat) : List D := (List.range (((n : Int) + 1) - i).toNat).map fun (k : Nat) => D.int (i + (k : Int))
section
variable {t : S} {K x6 x7 : Option X} {units : D} {us : List (List (Nat × Nat))}
theorem fits_prim {p : Nat} (ht : t.length ≤ 250) (hus : us.length ≤ 4096) (hl : ∀ l ∈ us, l.length ≤ 4096) (hp : p ≤ t.length) :
    primF 7 [encUs us, .str t, .int p] = some (.bool (pre (us.map uF) (t.drop p))) := fits_ok (by omega) hus hl hp
theorem pv_len {ps : List D} {kind : S} (ht : t.length ≤ 250) : evalE primF (.len (.v 1)) (en K t ps kind units x6 x7) = some (.d (.int (t.length : Int))) := by
    have i1 : okI (t.length : Int) = some (.d (.int t.length)) := okI_of (by omega)
    simp [evalE, en, getV, i1, lenX]
theorem pv_int1 {ρ : Env} : evalE primF (.int 1) ρ = some (.d (.int 1)) := by
    have i4 : okI 1 = some (.d (.int 1)) := okI_of (by omega)
    simp [evalE, i4]
theorem kind_run {ps : List D} : (do truth (← evalE primF (.cmp .eq (.v 3) (.str sRun)) (en K t ps sRun units x6 x7))) = some true := rfl
theorem kind_one0 {ps : List D} : (do truth (← evalE primF (.cmp .eq (.v 3) (.str sRun)) (en K t ps sOne units x6 x7))) = some false := rfl
theorem kind_one {ps : List D} : (do truth (← evalE primF (.cmp .eq (.v 3) (.str sOne)) (en K t ps sOne units x6 x7))) = some true := rfl
theorem kind_held0 {ps : List D} : (do truth (← evalE primF (.cmp .eq (.v 3) (.str sRun)) (en K t ps sHeld units x6 x7))) = some false := rfl
theorem kind_held {ps : List D} : (do truth (← evalE primF (.cmp .eq (.v 3) (.str sOne)) (en K t ps sHeld units x6 x7))) = some false := rfl
theorem go_run {ps ps' : List D} (h : evalE primF (.ite (.v 2) (.lrange (.idx (.v 2) (.int 0)) (.add (.len (.v 1)) (.int 1))) .lnil) (en K t ps sRun units x6 x7) = some (.d (.lst ps'))) :
    evalS primF 300 bTk (en K t ps sRun units x6 x7) = some (.next, en K t ps' sRun units x6 x7) := by
  refine pv_one ?_
  rw [pv_ifsT kind_run]
  exact pv_one (pv_asg h)
theorem run_step0 : evalS primF 300 bTk (en K t [] sRun units x6 x7) = some (.next, en K t [] sRun units x6 x7) := go_run rfl
theorem run_step {i : Int} {ps : List D} (ht : t.length ≤ 250) (hi : 0 ≤ i ∧ i ≤ 1000) (hps : ps.length ≤ 4000) : evalS primF 300 bTk (en K t (.int i :: ps) sRun units x6 x7) = some (.next, en K t (upto i t.length) sRun units x6 x7) := by
  have i1 : okI (t.length : Int) = some (.d (.int t.length)) := okI_of (by omega)
  have i2 : okI ((t.length : Int) + 1) = some (.d (.int ((t.length : Int) + 1))) := okI_of (by omega)
  have i3 : okI 0 = some (.d (.int 0)) := okI_of (by omega)
  have i4 : okI 1 = some (.d (.int 1)) := okI_of (by omega)
  have hx : idxL (.int i :: ps) 0 = some (.d (.int i)) := by
    have : at? 0 (ps.length + 1) = some 0 := by
      unfold at?
      rw [if_pos (by omega), if_pos (by omega)]
      rfl
    simp [idxL, this]
    omega
  have hr : lrangeX (.d (.int i)) (.d (.int ((t.length : Int) + 1))) = some (.d (.lst (upto i t.length))) := by
    have : lrangeX (.d (.int i)) (.d (.int ((t.length : Int) + 1))) = if -1048576 ≤ i ∧ i ≤ 1048576 ∧ -1048576 ≤ ((t.length : Int) + 1) ∧ ((t.length : Int) + 1) ≤ 1048576 then okL (upto i t.length) else none := rfl
    rw [this, if_pos (by omega), okL_of]
    unfold upto
    rw [List.length_map, List.length_range]
    omega
  have hn : ps.length + 1 ≤ 4096 := by omega
  refine go_run ?_
  have e1 : evalE primF (.idx (.v 2) (.int 0)) (en K t (.int i :: ps) sRun units x6 x7) = some (.d (.int i)) := by
    simp [evalE, en, getV, i3, idxX, asI, asL, isV, hx]
  have e2 : evalE primF (.add (.len (.v 1)) (.int 1)) (en K t (.int i :: ps) sRun units x6 x7) = some (.d (.int ((t.length : Int) + 1))) := by
    exact pv_add (pv_len ht) pv_int1 i2
  have e3 : (do truth (← evalE primF (.v 2) (en K t (.int i :: ps) sRun units x6 x7))) = some true := by
    simp [evalE, en, getV, truth, hn]
  rw [pv_iteT e3, evalE, e1]
  show (do lrangeX _ (← _)) = _
  rw [e2]
  exact hr
theorem one_c {u : List (Nat × Nat)} {q : Nat} {ps : List D} (ht : t.length ≤ 250) (hu : u.length ≤ 4096) (hq : q ≤ t.length) :
    evalE primF (.call3 7 (.v 4) (.v 1) (.v 5)) (setV (en K t ps sOne (encUs [u]) x6 x7) 5 (.d (.int q))) = some (.d (.bool (pre [uF u] (t.drop q)))) := by
  have := fits_prim (us := [u]) ht (Nat.succ_le_succ (Nat.zero_le _)) (fun l hl => by rw [List.mem_singleton.mp hl]; exact hu) hq
  have a4 : evalE primF (.v 4) (setV (en K t ps sOne (encUs [u]) x6 x7) 5 (.d (.int q))) = some (.d (encUs [u])) := rfl
  have a1 : evalE primF (.v 1) (setV (en K t ps sOne (encUs [u]) x6 x7) 5 (.d (.int q))) = some (.d (.str t)) := rfl
  have a5 : evalE primF (.v 5) (setV (en K t ps sOne (encUs [u]) x6 x7) 5 (.d (.int q))) = some (.d (.int q)) := rfl
  exact pv_call3 a4 a1 a5 this
theorem one_e {q : Nat} {ps : List D} (ht : t.length ≤ 250) (hq : q ≤ t.length) : evalE primF (.add (.v 5) (.int 1)) (setV (en K t ps sOne units x6 x7) 5 (.d (.int q))) = some (.d (.int ((q : Int) + 1))) := by
  have hi : okI ((q : Int) + 1) = some (.d (.int ((q : Int) + 1))) := okI_of (by omega)
  exact pv_add (x := .d (.int q)) (y := .d (.int 1)) rfl pv_int1 hi
theorem one_l {u : List (Nat × Nat)} {qs : List Nat} (ht : t.length ≤ 250) (hu : u.length ≤ 4096) (hq : ∀ q ∈ qs, q ≤ t.length) (hqs : qs.length ≤ 4096) :
    evalE primF (.compIf (.add (.v 5) (.int 1)) 5 (.v 2) (.call3 7 (.v 4) (.v 1) (.v 5))) (en K t (qs.map fun (q : Nat) => D.int q) sOne (encUs [u]) x6 x7) = some (.d (.lst ((qs.filter fun q => pre [uF u] (t.drop q)).map fun (q : Nat) => D.int ((q : Int) + 1)))) := by
  rw [pv_compIf (s := .d (.lst (qs.map fun (q : Nat) => D.int q))) (l := qs.map fun (q : Nat) => D.int q) (f := fun d => match d with | .int i => pre [uF u] (t.drop i.toNat) | _ => false) (g := fun d => match d with | .int i => .int (i + 1) | _ => .none) rfl rfl (by rw [List.length_map]; exact hqs)]
  · rw [List.filter_map, List.map_map]
    rfl
  · intro d hd
    obtain ⟨q, hm, rfl⟩ := List.mem_map.mp hd
    exact ⟨_, one_c ht hu (hq q hm), rfl⟩
  · intro d hd _
    obtain ⟨q, hm, rfl⟩ := List.mem_map.mp hd
    exact one_e ht (hq q hm)
theorem one_step {u : List (Nat × Nat)} {qs : List Nat} (ht : t.length ≤ 250) (hu : u.length ≤ 4096) (hq : ∀ q ∈ qs, q ≤ t.length) (hqs : qs.length ≤ 4096) :
    evalS primF 300 bTk (en K t (qs.map fun (q : Nat) => D.int q) sOne (encUs [u]) x6 x7) = some (.next, en K t ((qs.filter fun q => pre [uF u] (t.drop q)).map fun (q : Nat) => D.int ((q : Int) + 1)) sOne (encUs [u]) x6 x7) := by
  refine pv_one ?_
  rw [pv_ifsF kind_one0]
  refine pv_one ?_
  rw [pv_ifsT kind_one]
  exact pv_one (pv_asgC (one_l ht hu hq hqs))
end
end Mini
end

section
set_option maxRecDepth 100000
namespace Mini
noncomputable def hv (K : Option X) (t : S) (units : D) (l : List D) (q : Nat) : Env := [K, some (.d (.str t)), some (.d (.lst [.int 0])), some (.d (.str sHeld)), some (.d units), none, some (.own l), some (.d (.int q))]
section
variable {t : S} {K x6 x7 : Option X} {units : D} {us : List (List (Nat × Nat))} {l : List D}
theorem held_sum {q : Nat} (ht : t.length ≤ 250) (hus : us.length ≤ 100) (hq : q ≤ t.length) : evalE primF (.add (.v 7) (.len (.v 4))) (hv K t (encUs us) l q) = some (.d (.int ((q + us.length : Nat) : Int))) := by
  have h4 : evalE primF (.len (.v 4)) (hv K t (encUs us) l q) = some (.d (.int (us.length : Int))) := by
    have := pv_lenL (prim := primF) (ρ := hv K t (encUs us) l q) (a := .v 4) (l := us.map encU) rfl (by rw [List.length_map]; omega)
    rw [List.length_map] at this
    exact this
  refine pv_add (x := .d (.int q)) rfl h4 ?_
  rw [Int.natCast_add]
  exact okI_of (by omega)
theorem held_le {q : Nat} (ht : t.length ≤ 250) (hus : us.length ≤ 100) (hq : q ≤ t.length) : evalE primF (.cmp .le (.add (.v 7) (.len (.v 4))) (.len (.v 1))) (hv K t (encUs us) l q) = some (.d (.bool (decide (q + us.length ≤ t.length)))) := by
  refine pv_cmp (held_sum ht hus hq) (pv_lenS (s := t) rfl (by omega)) ?_
  show some (decide (((q + us.length : Nat) : Int) ≤ (t.length : Int))) = _
  rw [decide_eq_decide.mpr Int.ofNat_le]
theorem held_test {q : Nat} (ht : t.length ≤ 250) (hus : us.length ≤ 100) (hl : ∀ l ∈ us, l.length ≤ 4096) (hq : q ≤ t.length) :
    (do truth (← evalE primF cH (hv K t (encUs us) l q))) = some (decide (q + us.length ≤ t.length) && !pre (us.map uF) (t.drop q)) := by
  have h1 := held_le (K := K) (l := l) ht hus hq
  unfold cH
  cases hd : decide (q + us.length ≤ t.length) with
  | false =>
    rw [hd] at h1
    rw [pv_andF h1 rfl]
    rfl
  | true =>
    rw [hd] at h1
    have h2 : evalE primF (.call3 7 (.v 4) (.v 1) (.v 7)) (hv K t (encUs us) l q) = some (.d (.bool (pre (us.map uF) (t.drop q)))) := pv_call3 (x := encUs us) (y := .str t) (z := .int q) rfl rfl rfl (fits_prim ht (by omega) hl hq)
    rw [pv_andT h1 rfl, pv_not h2]
    rfl
theorem held_aug {q : Nat} (ht : t.length ≤ 250) (hq : q ≤ t.length) : evalS primF 300 bAug (hv K t units l q) = some (.next, hv K t units l (q + 1)) := by
  refine pv_one ?_
  have hi : okI ((q : Int) + 1) = some (.d (.int ((q + 1 : Nat) : Int))) := by
    rw [Int.natCast_succ]
    exact okI_of (by omega)
  exact pv_aug (i := q) (j := 1) rfl pv_int1 hi
theorem held_loop (ht : t.length ≤ 250) (hus : us.length ≤ 100) (h0 : 0 < us.length) (hl : ∀ l ∈ us, l.length ≤ 4096) : ∀ (m q : Nat), t.length + 1 - q < m → q ≤ t.length →
    ∃ q', q' ≤ t.length ∧ whileN (fun ρ => do truth (← evalE primF cH ρ)) (evalS primF 300 bAug) m (hv K t (encUs us) l q) = some (.next, hv K t (encUs us) l q') ∧ decide (q' + us.length ≤ t.length) = hasU (us.map uF) (t.drop q)
  | 0, q, hm, _ => absurd hm (Nat.not_lt_zero _)
  | m + 1, q, hm, hq => by
    have hT := held_test (K := K) (l := l) ht hus hl hq
    by_cases hle : q + us.length ≤ t.length
    · have hlt : q < t.length := by omega
      have hd : t.drop q = t[q] :: t.drop (q + 1) := List.drop_eq_getElem_cons hlt
      have hh : hasU (us.map uF) (t.drop q) = (pre (us.map uF) (t.drop q) || hasU (us.map uF) (t.drop (q + 1))) := by rw [hd]; rfl
      rw [decide_eq_true hle, Bool.true_and] at hT
      cases hp : pre (us.map uF) (t.drop q) with
      | true =>
        rw [hp] at hT
        exact ⟨q, hq, while_stop hT, by rw [hh, hp, Bool.true_or, decide_eq_true hle]⟩
      | false =>
        rw [hp] at hT
        obtain ⟨q', e1, e2, e3⟩ := held_loop ht hus h0 hl m (q + 1) (by omega) hlt
        exact ⟨q', e1, (while_go hT (held_aug ht hq)).trans e2, by rw [hh, hp, Bool.false_or, e3]⟩
    · rw [decide_eq_false hle, Bool.false_and] at hT
      refine ⟨q, hq, while_stop hT, ?_⟩
      rw [decide_eq_false hle, hasU_len]
      rw [List.length_map, List.length_drop]
      omega
theorem held_step (ht : t.length ≤ 250) (hus : us.length ≤ 100) (h0 : 0 < us.length) (hl : ∀ l ∈ us, l.length ≤ 4096) (hK : ∀ x, K ≠ some (.bnd x)) :
    ∃ (q : Nat) (x6 x7 : Option X), q ≤ t.length ∧ evalS primF 300 bTk (en K t [.int 0] sHeld (encUs us) none none) = some (.next, en K t (if hasU (us.map uF) t then [.int q] else []) sHeld (encUs us) x6 x7) := by
  obtain ⟨q, e1, e2, e3⟩ := held_loop (K := K) (l := []) ht hus h0 hl 300 0 (by omega) (Nat.zero_le _)
  rw [List.drop_zero] at e3
  have hle := held_le (K := K) (l := []) ht hus e1
  rw [e3] at hle
  refine ⟨if hasU (us.map uF) t then q + us.length else q, some (.d (.lst (if hasU (us.map uF) t then [.int ((q + us.length : Nat) : Int)] else []))), some (.d (.int q)), ?_, ?_⟩
  · cases hu : hasU (us.map uF) t with
    | true =>
      rw [hu] at e3
      exact of_decide_eq_true e3
    | false => exact e1
  · refine pv_one ?_
    rw [pv_ifsF kind_held0]
    refine pv_one ?_
    rw [pv_ifsF kind_held]
    unfold aHeld
    have s1 : evalS primF 300 (.own 6 .lnil) (en K t [.int 0] sHeld (encUs us) none none) = some (.next, [K, some (.d (.str t)), some (.d (.lst [.int 0])), some (.d (.str sHeld)), some (.d (encUs us)), none, some (.own []), none]) := by
      rw [evalS]
      have hb : (en K t [.int 0] sHeld (encUs us) none none).any (fun o => match o with | some (.bnd y) => y == 6 | _ => false) = false := by
        unfold en
        rw [List.any_cons]
        cases K with
        | none => rfl
        | some k => cases k with
          | d v => rfl
          | own l => rfl
          | bnd x => exact absurd rfl (hK x)
      show (do if 4096 < ([] : List D).length then none else if (en K t [.int 0] sHeld (encUs us) none none).any (fun o => match o with | some (.bnd y) => y == 6 | _ => false) then none else return (Fl.next, setV (en K t [.int 0] sHeld (encUs us) none none) 6 (.own []))) = _
      rw [hb]
      rfl
    have s2 : evalS primF 300 bH (hv K t (encUs us) [] 0) = some (.next, hv K t (encUs us) (if hasU (us.map uF) t then [.int ((q + us.length : Nat) : Int)] else []) q) := by
      refine (ev_seq (s := .while cH bAug) e2).trans (pv_one ?_)
      cases hu : hasU (us.map uF) t with
      | true =>
        rw [hu] at hle
        rw [pv_ifsT (by rw [hle]; rfl)]
        refine pv_one ?_
        have hs := held_sum (K := K) (l := []) ht hus e1
        rw [evalS]
        show (do match ← some (X.own []) with
          | .own l => do
            let d ← asD (← evalE primF (.add (.v 7) (.len (.v 4))) (hv K t (encUs us) [] q))
            if l.length < 4096 then return (Fl.next, setV (hv K t (encUs us) [] q) 6 (.own (l ++ [d]))) else none
          | _ => none) = _
        rw [hs]
        rfl
      | false =>
        rw [hu] at hle
        rw [pv_ifsF (by rw [hle]; rfl)]
        rfl
    refine (ev_seq s1).trans ?_
    refine (ev_seq (s := .for1 7 (.v 2) bH) (ρ' := hv K t (encUs us) (if hasU (us.map uF) t then [.int ((q + us.length : Nat) : Int)] else []) q) ?_).trans ?_
    · rw [evalS]
      show forN (fun d ρ => evalS primF 300 bH (setV ρ 7 (.d d))) [.int 0] _ = _
      rw [forN]
      show (do match ← evalS primF 300 bH (hv K t (encUs us) [] 0) with
        | (.next, ρ') => forN _ [] ρ'
        | (.brk, ρ') => return (.next, ρ')
        | (.ret d, ρ') => return (.ret d, ρ')) = _
      rw [s2]
      rfl
    · cases hasU (us.map uF) t <;> rfl
end
end Mini
end

section
set_option maxRecDepth 100000
namespace Mini
noncomputable def tokK (k1 k2 : S) (u1 u2 : D) : D := .lst [.tup (.str k1) u1, .tup (.str k2) u2]
noncomputable def fTk : D → Env → Option (Fl × Env) := fun d ρ => match d with
      | .tup u v => evalS primF 300 bTk (setV (setV ρ 3 (.d u)) 4 (.d v))
      | _ => none
section
variable {t : S}
theorem takes_two {k1 k2 : S} {u1 u2 : D} {ps1 ps2 : List D} {x6 x7 x6' x7' : Option X} {is : List Int} {b : Bool} (ht : t.length ≤ 250)
    (h1 : evalS primF 300 bTk (en (some (.d (tokK k1 k2 u1 u2))) t [.int 0] k1 u1 none none) = some (.next, en (some (.d (tokK k1 k2 u1 u2))) t ps1 k1 u1 x6 x7))
    (h2 : evalS primF 300 bTk (en (some (.d (tokK k1 k2 u1 u2))) t ps1 k2 u2 x6 x7) = some (.next, en (some (.d (tokK k1 k2 u1 u2))) t ps2 k2 u2 x6' x7'))
    (hi : ints? ps2 = some is) (hb : is.contains (t.length : Int) = b) : f_lawtakes.run primF 300 [tokK k1 k2 u1 u2, .str t] = some (.bool b) := by
  refine run_of (ρ' := en (some (.d (tokK k1 k2 u1 u2))) t ps2 k2 u2 x6' x7') ?_
  show evalS primF 300 f_lawtakes.body [some (.d (tokK k1 k2 u1 u2)), some (.d (.str t)), none, none, none, none, none, none] = _
  rw [takes_body]
  refine (ev_seq (ρ' := [some (.d (tokK k1 k2 u1 u2)), some (.d (.str t)), some (.d (.lst [.int 0])), none, none, none, none, none]) rfl).trans ?_
  refine (ev_seq (ρ' := en (some (.d (tokK k1 k2 u1 u2))) t ps2 k2 u2 x6' x7') ?_).trans ?_
  · rw [evalS]
    show forN fTk [.tup (.str k1) u1, .tup (.str k2) u2] _ = _
    exact (for_go (f := fTk) (d := .tup (.str k1) u1) (ρ := [some (.d (tokK k1 k2 u1 u2)), some (.d (.str t)), some (.d (.lst [.int 0])), none, none, none, none, none]) h1).trans ((for_go (f := fTk) (d := .tup (.str k2) u2) (ρ := en (some (.d (tokK k1 k2 u1 u2))) t ps1 k1 u1 x6 x7) h2).trans rfl)
  · refine ev_seqR ?_
    have hm : evalE primF (.cmp .mem (.len (.v 1)) (.v 2)) (en (some (.d (tokK k1 k2 u1 u2))) t ps2 k2 u2 x6' x7') = some (.d (.bool b)) := by
      refine pv_cmp (pv_lenS (s := t) rfl (by omega)) (y := .d (.lst ps2)) rfl ?_
      show (ints? ps2).map (·.contains (t.length : Int)) = _
      rw [hi, Option.map_some, hb]
    rw [evalS, hm]
    rfl
theorem upto_ints (i : Int) (n : Nat) : ints? (upto i n) = some ((List.range (((n : Int) + 1) - i).toNat).map fun (k : Nat) => i + (k : Int)) := by
  unfold upto
  rw [show (fun (k : Nat) => D.int (i + (k : Int))) = D.int ∘ fun (k : Nat) => i + (k : Int) from rfl, ← List.map_map]
  exact ints_map _
theorem upto_has {q n : Nat} (h : q ≤ n) : ((List.range (((n : Int) + 1) - (q : Int)).toNat).map fun (k : Nat) => (q : Int) + (k : Int)).contains (n : Int) = true := by
  rw [List.contains_iff_mem, List.mem_map]
  exact ⟨n - q, List.mem_range.mpr (by omega), by omega⟩
theorem takes_held {us : List (List (Nat × Nat))} {u2 : D} (ht : t.length ≤ 250) (hus : us.length ≤ 100) (h0 : 0 < us.length) (hl : ∀ l ∈ us, l.length ≤ 4096) :
    f_lawtakes.run primF 300 [tokK sHeld sRun (encUs us) u2, .str t] = some (.bool (hasU (us.map uF) t)) := by
  obtain ⟨q, x6, x7, hq, h1⟩ := held_step (K := some (.d (tokK sHeld sRun (encUs us) u2))) ht hus h0 hl (fun x e => by cases e)
  cases hu : hasU (us.map uF) t with
  | true =>
    rw [hu] at h1
    exact takes_two ht h1 (run_step ht ⟨by omega, by omega⟩ (Nat.zero_le _)) (upto_ints _ _) (upto_has hq)
  | false =>
    rw [hu] at h1
    exact takes_two ht h1 run_step0 rfl rfl
theorem takes_front {u : List (Nat × Nat)} {u2 : D} (ht : t.length ≤ 250) (hu : u.length ≤ 4096) :
    f_lawtakes.run primF 300 [tokK sOne sRun (encUs [u]) u2, .str t] = some (.bool (t.head?.any (uF u))) := by
  have h1 := one_step (K := some (.d (tokK sOne sRun (encUs [u]) u2))) (x6 := none) (x7 := none) (qs := [0]) ht hu (fun q hq => by rw [List.mem_singleton.mp hq]; exact Nat.zero_le _) (Nat.succ_le_succ (Nat.zero_le _))
  cases t with
  | nil => exact takes_two ht h1 run_step0 rfl rfl
  | cons c t =>
    cases hc : uF u c with
    | true =>
      have hf : ([0].filter fun q => pre [uF u] ((c :: t).drop q)) = [0] := by
        show (match uF u c && true with | true => [0] | false => []) = [0]
        rw [hc]; rfl
      rw [hf] at h1
      rw [show (c :: t).head?.any (uF u) = true from hc]
      exact takes_two (ps1 := [.int 1]) ht h1 (run_step ht ⟨by decide, by decide⟩ (Nat.zero_le _)) (upto_ints _ _) (upto_has (q := 1) (Nat.succ_le_succ (Nat.zero_le _)))
    | false =>
      have hf : ([0].filter fun q => pre [uF u] ((c :: t).drop q)) = [] := by
        show (match uF u c && true with | true => [0] | false => []) = []
        rw [hc]; rfl
      rw [hf] at h1
      rw [show (c :: t).head?.any (uF u) = false from hc]
      exact takes_two ht h1 run_step0 rfl rfl
theorem takes_back {u : List (Nat × Nat)} {u1 : D} (ht : t.length ≤ 250) (hu : u.length ≤ 4096) :
    f_lawtakes.run primF 300 [tokK sRun sOne u1 (encUs [u]), .str t] = some (.bool (t.getLast?.any (uF u))) := by
  have h1 := run_step (K := some (.d (tokK sRun sOne u1 (encUs [u])))) (units := u1) (x6 := none) (x7 := none) (i := 0) (ps := []) ht ⟨by decide, by decide⟩ (Nat.zero_le _)
  have hup : upto 0 t.length = (List.range (t.length + 1)).map fun (q : Nat) => D.int q := by
    unfold upto
    rw [show (((t.length : Int) + 1) - 0).toNat = t.length + 1 by omega]
    exact List.map_congr_left fun k _ => by rw [Int.zero_add]
  rw [hup] at h1
  have h2 := one_step (K := some (.d (tokK sRun sOne u1 (encUs [u])))) (x6 := none) (x7 := none) (qs := List.range (t.length + 1)) ht hu (fun q hq => by have := List.mem_range.mp hq; omega) (by rw [List.length_range]; omega)
  refine takes_two ht h1 h2 (is := ((List.range (t.length + 1)).filter fun q => pre [uF u] (t.drop q)).map fun (q : Nat) => (q : Int) + 1) ?_ ?_
  · rw [show (fun (q : Nat) => D.int ((q : Int) + 1)) = D.int ∘ fun (q : Nat) => (q : Int) + 1 from rfl, ← List.map_map]
    exact ints_map _
  · rw [Bool.eq_iff_iff, List.contains_iff_mem, List.mem_map]
    constructor
    · rintro ⟨q, hq, e⟩
      obtain ⟨h3, h4⟩ := List.mem_filter.mp hq
      have hql : q < t.length := by omega
      rw [List.drop_eq_getElem_cons hql] at h4
      have h4 : (uF u t[q] && pre [] (t.drop (q + 1))) = true := h4
      rw [Bool.and_eq_true] at h4
      rw [List.getLast?_eq_getElem?, show t.length - 1 = q by omega, List.getElem?_eq_getElem hql]
      exact h4.1
    · intro h
      cases hg : t.getLast? with
      | none => rw [hg] at h; cases h
      | some c =>
        rw [hg] at h
        have h : uF u c = true := h
        have hn : t ≠ [] := by rintro rfl; cases hg
        have hpos : 0 < t.length := List.length_pos_iff.mpr hn
        rw [List.getLast?_eq_getElem?] at hg
        obtain ⟨hql, e⟩ := List.getElem?_eq_some_iff.mp hg
        refine ⟨t.length - 1, List.mem_filter.mpr ⟨List.mem_range.mpr (by omega), ?_⟩, by omega⟩
        rw [List.drop_eq_getElem_cons hql, e]
        show (uF u c && _) = true
        rw [h]
        rfl
end
end Mini
end

section
set_option maxRecDepth 100000
set_option Elab.async false
namespace Mini
noncomputable def tok1 : D := tokK sHeld sRun (encUs uUnk) (.lst [])
noncomputable def tok2 : D := tokK sOne sRun (encUs [uWs]) (.lst [])
noncomputable def tok3 : D := tokK sRun sOne (.lst []) (encUs [uWs])
noncomputable def tok4 : D := tokK sRun sOne (.lst []) (encUs [uE8])
noncomputable def tok5 : D := tokK sHeld sRun (encUs [uE8, uE8]) (.lst [])
noncomputable def tok6 : D := tokK sHeld sRun (encUs [uTu]) (.lst [])
noncomputable def pat1 : S := [42, 117, 110, 107, 110, 111, 119, 110, 42]
noncomputable def pat2 : S := [91, 32, 9, 10, 93, 42]
noncomputable def pat3 : S := [42, 91, 32, 9, 10, 93]
noncomputable def pEight : S := [91, 34, 40, 45, 41, 47, 58, 45, 59, 92, 45, 93]
noncomputable def pat4 : S := [42] ++ pEight
noncomputable def pat5 : S := [42] ++ pEight ++ pEight ++ [42]
noncomputable def pat6 : S := [42, 91, 32, 34, 40, 45, 41, 47, 58, 45, 59, 92, 93, 42]
noncomputable def xTok (p : S) : Option D := do primL 6 [← primL 1 [.str p]]
theorem xt1 : xTok pat1 = some tok1 := by kernel_rfl
theorem xt2 : xTok pat2 = some tok2 := by kernel_rfl
theorem xt3 : xTok pat3 = some tok3 := by kernel_rfl
theorem xt4 : xTok pat4 = some tok4 := by kernel_rfl
theorem xt5 : xTok pat5 = some tok5 := by kernel_rfl
theorem xt6 : xTok pat6 = some tok6 := by kernel_rfl
end Mini
end

section
set_option maxRecDepth 100000
namespace Mini
theorem uF_lit (l c : Nat) : uF [(l, l)] c = (l == c) := by
  show (decide (l ≤ c) && decide (c ≤ l) || false) = _
  rw [Bool.eq_iff_iff]
  simp
  omega
theorem uF_unk : uUnk.map uF = lits unk := by
  unfold uUnk lits unk
  simp only [List.map_cons, List.map_nil]
  simp only [show ∀ l, uF [(l, l)] = fun c => l == c from fun l => funext (uF_lit l)]
theorem uF_ws : uF uWs = ws := rfl
theorem uF_e8 : uF uE8 = e8 := rfl
theorem uF_tu : uF uTu = tu := rfl
theorem hasU_one (u : Nat → Bool) : ∀ t : S, hasU [u] t = t.any u
  | [] => rfl
  | c :: t => by
    show (u c && true || hasU [u] t) = (u c || t.any u)
    rw [hasU_one u t, Bool.and_true]
section
variable {t : S}
theorem tk1 (ht : t.length ≤ 250) : primL 8 [tok1, .str t] = some (.bool (hasP unk t)) := by
  have h := takes_held (t := t) (us := uUnk) (u2 := .lst []) ht (by decide) (by decide) (by decide)
  rw [uF_unk] at h
  exact h.trans (by rw [unk, hasP_lits])
theorem tk2 (ht : t.length ≤ 250) : primL 8 [tok2, .str t] = some (.bool (t.head?.any ws)) := by
  have h := takes_front (t := t) (u := uWs) (u2 := .lst []) ht (by decide)
  rw [uF_ws] at h
  exact h
theorem tk3 (ht : t.length ≤ 250) : primL 8 [tok3, .str t] = some (.bool (t.getLast?.any ws)) := by
  have h := takes_back (t := t) (u := uWs) (u1 := .lst []) ht (by decide)
  rw [uF_ws] at h
  exact h
theorem tk4 (ht : t.length ≤ 250) : primL 8 [tok4, .str t] = some (.bool (t.getLast?.any e8)) := by
  have h := takes_back (t := t) (u := uE8) (u1 := .lst []) ht (by decide)
  rw [uF_e8] at h
  exact h
theorem tk5 (ht : t.length ≤ 250) : primL 8 [tok5, .str t] = some (.bool (hasU [e8, e8] t)) := by
  have h := takes_held (t := t) (us := [uE8, uE8]) (u2 := .lst []) ht (by decide) (by decide) (by decide)
  rw [show [uE8, uE8].map uF = [e8, e8] by simp only [List.map_cons, List.map_nil, uF_e8]] at h
  exact h
theorem tk6 (ht : t.length ≤ 250) : primL 8 [tok6, .str t] = some (.bool (t.any tu)) := by
  have h := takes_held (t := t) (us := [uTu]) (u2 := .lst []) ht (by decide) (by decide) (by decide)
  rw [show [uTu].map uF = [tu] by simp only [List.map_cons, List.map_nil, uF_tu], hasU_one] at h
  exact h
end
noncomputable def LT : D := .lst [tok1, tok2, tok3, tok4, tok5]
noncomputable def lv (a0 a1 a2 a3 a5 a6 x10 x12 x14 : Option X) : Env := [a0, a1, a2, a3, none, a5, a6, none, some (.d LT), some (.d tok6), x10, none, x12, none, x14, none]
noncomputable def eMap : E := .comp (.ite (.cmp .eq (.v 15) (.str [32])) (.str [95]) (.ite (.cmp .mem (.v 15) (.str [45, 47, 92, 58, 59, 34, 40, 41])) (.str [45]) (.v 15))) 15 (.v 10)
noncomputable def bLaw : T := .seq (.asg 12 (.call1 0 (.v 10))) (.seq (.asg 14 (.cmp .mem (.bool true) (.comp (.call2 8 (.v 13) (.v 10)) 13 (.v 8)))) (.seq (.ifs (.cmp .isNot (.cmp .lt (.len (.v 12)) (.len (.v 10))) (.v 14)) (.seq (.ret (.bool false)) .skip) (.skip)) (.seq (.ifs (.and (.not (.v 14)) (.cmp .ne (.v 12) (.join [] eMap))) (.seq (.ret (.bool false)) .skip) (.skip)) (.seq (.ifs (.cmp .is (.cmp .eq (.v 12) (.v 10)) (.or (.v 14) (.call2 8 (.v 9) (.v 10)))) (.seq (.ret (.bool false)) .skip) (.skip)) .skip))))
theorem joinS_flat : ∀ l : List S, joinS [] l = l.flatten
  | [] => rfl
  | [x] => by simp [joinS]
  | x :: y :: l => by
    rw [joinS, joinS_flat (y :: l)]
    simp
    intro e; cases e
section
variable {a0 a1 a2 a3 a5 a6 x12 x14 : Option X} {t : S}
theorem eMap_ok (ht : t.length ≤ 250) : evalE primL (.join [] eMap) (lv a0 a1 a2 a3 a5 a6 (some (.d (.str t))) x12 x14) = some (.d (.str (t.map fch))) := by
  have h : evalE primL eMap (lv a0 a1 a2 a3 a5 a6 (some (.d (.str t))) x12 x14) = some (.d (.lst (t.map fun c => D.str [fch c]))) := by
    refine pv_compA (s := .d (.str t)) (m := fun c => D.str [c]) (g := fun c => D.str [fch c]) rfl rfl (by omega) fun c _ => ?_
    by_cases h1 : c = 32
    · subst h1; rfl
    · have e1 : (do truth (← evalE primL (.cmp .eq (.v 15) (.str [32])) (setV (lv a0 a1 a2 a3 a5 a6 (some (.d (.str t))) x12 x14) 15 (.d (.str [c]))))) = some false := by
        refine pv_tr (pv_cmp (x := .d (.str [c])) (y := .d (.str [32])) rfl rfl ?_)
        show some (c == 32 && true) = some false
        rw [beq_eq_false_iff_ne.mpr h1]
        rfl
      rw [pv_iteF e1]
      by_cases h45 : c = 45
      · subst h45; rfl
      have e2 : (do truth (← evalE primL (.cmp .mem (.v 15) (.str [45, 47, 92, 58, 59, 34, 40, 41])) (setV (lv a0 a1 a2 a3 a5 a6 (some (.d (.str t))) x12 x14) 15 (.d (.str [c]))))) = some ([47, 92, 58, 59, 34, 40, 41].contains c) := by
        refine pv_tr (pv_cmp (x := .d (.str [c])) (y := .d (.str [45, 47, 92, 58, 59, 34, 40, 41])) rfl rfl ?_)
        show some ([45, 47, 92, 58, 59, 34, 40, 41].contains c) = _
        rw [List.contains_cons, beq_eq_false_iff_ne.mpr h45, Bool.false_or]
      cases hc : [47, 92, 58, 59, 34, 40, 41].contains c with
      | true =>
        rw [hc] at e2
        rw [pv_iteT e2, show fch c = 45 from by unfold fch; rw [if_neg h1, if_pos hc]]
        rfl
      | false =>
        rw [hc] at e2
        rw [pv_iteF e2, show fch c = c from by unfold fch; rw [if_neg h1, hc]; rfl]
        rfl
  rw [evalE, h]
  show joinX [] (.d (.lst (t.map fun c => D.str [fch c]))) = _
  unfold joinX
  simp only [asL, Option.bind_eq_bind, Option.bind_some, List.length_map, List.length_nil]
  rw [if_pos ⟨by omega, by omega⟩, show (fun c => D.str [fch c]) = D.str ∘ fun c => [fch c] from rfl, ← List.map_map, strs_map, Option.bind_some, joinS_flat, flatten_one]
  unfold okS
  rw [if_pos (by rw [List.length_map]; omega)]
end
end Mini
end

section
set_option maxRecDepth 100000
namespace Mini
section
variable {a0 a1 a2 a3 a5 a6 x12 x14 : Option X} {t r : S}
theorem lost_ok (ht : t.length ≤ 250) : evalE primL (.cmp .mem (.bool true) (.comp (.call2 8 (.v 13) (.v 10)) 13 (.v 8))) (lv a0 a1 a2 a3 a5 a6 (some (.d (.str t))) x12 x14) = some (.d (.bool (lost t))) := by
  have h : evalE primL (.comp (.call2 8 (.v 13) (.v 10)) 13 (.v 8)) (lv a0 a1 a2 a3 a5 a6 (some (.d (.str t))) x12 x14) = some (.d (.lst ([(tok1, hasP unk t), (tok2, t.head?.any ws), (tok3, t.getLast?.any ws), (tok4, t.getLast?.any e8), (tok5, hasU [e8, e8] t)].map fun p => D.bool p.2))) := by
    refine pv_compA (s := .d LT) (m := fun (p : D × Bool) => p.1) (g := fun p => D.bool p.2) rfl rfl (show 5 ≤ 4096 by decide) fun p hp => ?_
    have go : ∀ (k : D) (b : Bool), primL 8 [k, .str t] = some (.bool b) → evalE primL (.call2 8 (.v 13) (.v 10)) (setV (lv a0 a1 a2 a3 a5 a6 (some (.d (.str t))) x12 x14) 13 (.d k)) = some (.d (.bool b)) := fun k b e => pv_call2 (x := k) (y := .str t) rfl rfl e
    simp only [List.mem_cons, List.not_mem_nil, or_false] at hp
    rcases hp with rfl | rfl | rfl | rfl | rfl
    · exact go _ _ (tk1 ht)
    · exact go _ _ (tk2 ht)
    · exact go _ _ (tk3 ht)
    · exact go _ _ (tk4 ht)
    · exact go _ _ (tk5 ht)
  refine pv_cmp (x := .d (.bool true)) rfl h ?_
  show (bools? ([hasP unk t, t.head?.any ws, t.getLast?.any ws, t.getLast?.any e8, hasU [e8, e8] t].map .bool)).map (·.contains true) = _
  rw [bools_map]
  show some (List.contains _ true) = _
  unfold lost
  generalize hasP unk t = b1
  generalize t.head?.any ws = b2
  generalize t.getLast?.any ws = b3
  generalize t.getLast?.any e8 = b4
  generalize hasU [e8, e8] t = b5
  cases b1 <;> cases b2 <;> cases b3 <;> cases b4 <;> cases b5 <;> rfl
theorem bLaw_ok (ht : t.length ≤ 250) (ha : ∀ c ∈ t, alpha c) : ∃ x12' x14', evalS primL 300 bLaw (lv a0 a1 a2 a3 a5 a6 (some (.d (.str t))) x12 x14) = some (.next, lv a0 a1 a2 a3 a5 a6 (some (.d (.str t))) x12' x14') := by
  obtain ⟨r, hr, hle, _, hn, hh⟩ := plat_spec (Nat.le_trans ht (by decide)) ha
  have hrl : r.length ≤ 4096 := by omega
  refine ⟨some (.d (.str r)), some (.d (.bool (lost t))), ?_⟩
  unfold bLaw
  refine (ev_seq (pv_asg (d := .str r) (pv_call1 (x := .str t) rfl hr))).trans ?_
  refine (ev_seq (ρ := lv a0 a1 a2 a3 a5 a6 (some (.d (.str t))) (some (.d (.str r))) x14) (pv_asg (lost_ok ht))).trans ?_
  show evalS primL 300 _ (lv a0 a1 a2 a3 a5 a6 (some (.d (.str t))) (some (.d (.str r))) (some (.d (.bool (lost t))))) = _
  have hlt : evalE primL (.cmp .lt (.len (.v 12)) (.len (.v 10))) (lv a0 a1 a2 a3 a5 a6 (some (.d (.str t))) (some (.d (.str r))) (some (.d (.bool (lost t))))) = some (.d (.bool (lost t))) := by
    refine pv_cmp (pv_lenS (s := r) rfl hrl) (pv_lenS (s := t) rfl (by omega)) ?_
    show some (decide ((r.length : Int) < (t.length : Int))) = _
    cases hl : lost t with
    | true => rw [decide_eq_true (by have := hh hl; omega)]
    | false => rw [decide_eq_false (by have := hn hl; rw [this, List.length_map]; omega)]
  refine (ev_seq (ρ' := lv a0 a1 a2 a3 a5 a6 (some (.d (.str t))) (some (.d (.str r))) (some (.d (.bool (lost t))))) ?_).trans ?_
  · rw [pv_ifsF]
    · rfl
    · rw [pv_cmp (x := .d (.bool (lost t))) (y := .d (.bool (lost t))) (r := false) hlt rfl ?_]
      · rfl
      · show some (lost t != lost t) = _
        simp
  refine (ev_seq (ρ' := lv a0 a1 a2 a3 a5 a6 (some (.d (.str t))) (some (.d (.str r))) (some (.d (.bool (lost t))))) ?_).trans ?_
  · rw [pv_ifsF]
    · rfl
    · cases hl : lost t with
      | true =>
        rw [pv_andF (x := .d (.bool false)) rfl rfl]
        rfl
      | false =>
        rw [pv_andT (x := .d (.bool true)) rfl rfl]
        rw [pv_cmp (x := .d (.str r)) (y := .d (.str (t.map fch))) (r := false) rfl (eMap_ok ht) ?_]
        · rfl
        · show some (r != t.map fch) = _
          rw [hn hl]
          simp
  refine pv_one ?_
  rw [pv_ifsF]
  · rfl
  · have heq : evalE primL (.cmp .eq (.v 12) (.v 10)) (lv a0 a1 a2 a3 a5 a6 (some (.d (.str t))) (some (.d (.str r))) (some (.d (.bool (lost t))))) = some (.d (.bool (r == t))) := pv_cmp (x := .d (.str r)) (y := .d (.str t)) rfl rfl rfl
    have hor : evalE primL (.or (.v 14) (.call2 8 (.v 9) (.v 10))) (lv a0 a1 a2 a3 a5 a6 (some (.d (.str t))) (some (.d (.str r))) (some (.d (.bool (lost t))))) = some (.d (.bool (lost t || t.any tu))) := by
      cases hl : lost t with
      | true =>
        rw [pv_orT (x := .d (.bool true)) rfl rfl]
        rfl
      | false =>
        rw [pv_orF (x := .d (.bool false)) rfl rfl]
        exact pv_call2 (x := tok6) (y := .str t) rfl rfl (tk6 ht)
    rw [pv_cmp heq hor (r := false) ?_]
    · rfl
    · show some ((r == t) == (lost t || t.any tu)) = some false
      congr 1
      cases hl : lost t with
      | true =>
        have : (r == t) = false := by
          rw [beq_eq_false_iff_ne]
          intro e
          have := hh hl
          rw [e] at this
          omega
        rw [this]; rfl
      | false =>
        rw [hn hl, Bool.false_or]
        cases hu : t.any tu with
        | true =>
          have : (t.map fch == t) = false := by
            rw [beq_eq_false_iff_ne]
            intro e
            obtain ⟨c, hc, hcu⟩ := List.any_eq_true.mp hu
            have he : ∀ x ∈ t, fch x = x := by
              have := List.map_congr_left (l := t) (f := fch) (g := id)
              intro x hx
              exact (List.map_inj_left (f := fch) (g := id)).mp (e.trans (List.map_id t).symm) x hx
            have := fch_tu (ha c hc)
            rw [hcu, beq_iff_eq.mpr (he c hc)] at this
            cases this
          rw [this]; rfl
        | false =>
          have : (t.map fch == t) = true := by
            rw [beq_iff_eq]
            have h : t.map fch = t.map id := List.map_congr_left fun c hc => by
              rw [List.any_eq_false] at hu
              have := hu c hc
              exact eq_of_beq ((fch_tu (ha c hc)).trans (by rw [Bool.eq_false_iff.mpr this]; rfl))
            rw [h, List.map_id]
          rw [this]; rfl
end
end Mini
end

section
set_option maxRecDepth 100000
set_option Elab.async false
namespace Mini
noncomputable def pcs : List S := [[117, 110, 107, 110, 111, 119, 110], [117, 110], [107, 110, 111, 119, 110], [45], [45, 45], [95], [32], [9], [10], [47], [92], [58], [59], [34], [40], [41], [97], [42]]
theorem pcs_ok : ∀ s ∈ pcs, s.length ≤ 7 ∧ ∀ c ∈ s, alpha c := by unfold alpha; decide
noncomputable def pieceOf (i : Int) : S := pcs.getD (i % 18).toNat []
theorem piece_ok (i : Int) : (pieceOf i).length ≤ 7 ∧ ∀ c ∈ pieceOf i, alpha c := by
  unfold pieceOf
  rw [List.getD_eq_getElem?_getD]
  cases h : pcs[(i % 18).toNat]? with
  | none => exact ⟨Nat.zero_le _, fun c hc => by cases hc⟩
  | some s => exact pcs_ok s (List.mem_of_getElem? h)
noncomputable def eEight : E := .str pEight
noncomputable def ePcs : E := .lcons (.str [117, 110, 107, 110, 111, 119, 110]) (.lcons (.str [117, 110]) (.lcons (.str [107, 110, 111, 119, 110]) (.lcons (.str [45]) (.lcons (.str [45, 45]) (.lcons (.str [95]) (.lcons (.str [32]) (.lcons (.str [9]) (.lcons (.str [10]) (.lcons (.str [47]) (.lcons (.str [92]) (.lcons (.str [58]) (.lcons (.str [59]) (.lcons (.str [34]) (.lcons (.str [40]) (.lcons (.str [41]) (.lcons (.str [97]) (.lcons (.str [42]) .lnil)))))))))))))))))
noncomputable def ePick : E := .comp (.idx (.v 1) (.mod (.v 4) (.int 18))) 4 (.lhead (.v 0) 3)
noncomputable def bTx : T := .seq (.app 2 (.add (.idx (.v 2) (.neg 1)) (.v 3))) .skip
noncomputable def eLos : E := .lcons (.str [42, 117, 110, 107, 110, 111, 119, 110, 42]) (.lcons (.str [91, 32, 9, 10, 93, 42]) (.lcons (.str [42, 91, 32, 9, 10, 93]) (.lcons (.add (.str [42]) (.v 5)) (.lcons (.add (.add (.add (.str [42]) (.v 5)) (.v 5)) (.str [42])) .lnil))))
theorem law_body : f_law.body = .seq (.asg 1 ePcs) (.seq (.own 2 (.lcons (.str []) .lnil)) (.seq (.for1 3 (.add ePick (.lcons (.str [97, 59, 97]) .lnil)) bTx) (.seq (.freeze 2) (.seq (.asg 5 eEight) (.seq (.asg 6 eLos) (.seq (.asgC 8 (.comp (.call1 6 (.call1 1 (.v 7))) 7 (.v 6)))
    (.seq (.asg 9 (.call1 6 (.call1 1 (.str pat6)))) (.seq (.for1 10 (.add (.v 2) (.comp (.call1 0 (.v 11)) 11 (.v 2))) bLaw) (.seq (.ret (.bool true)) .skip))))))))) := rfl
noncomputable def strsD (l : List S) : D := .lst (l.map .str)
theorem ePcs_ok {ρ : Env} : evalE primL ePcs ρ = some (.d (strsD pcs)) := rfl
/-- the texts' bound -/
noncomputable def Gd (B : Nat) (l : List S) : Prop := ∀ t ∈ l, t.length ≤ B ∧ ∀ c ∈ t, alpha c
noncomputable def n12 : Env := List.replicate 12 none
noncomputable def tx (a0 a1 x3 : Option X) (l : List S) : Env := a0 :: a1 :: some (.own (l.map .str)) :: x3 :: n12
section
variable {a0 a1 x3 : Option X}
theorem tx_step {l : List S} {last p : S} (hl : last.length + p.length ≤ 4096) (hn : l.length + 1 < 4096) : evalS primL 300 bTx (tx a0 a1 (some (.d (.str p))) (l ++ [last])) = some (.next, tx a0 a1 (some (.d (.str p))) (l ++ [last] ++ [last ++ p])) := by
  have h1 : evalE primL (.idx (.v 2) (.neg 1)) (tx a0 a1 (some (.d (.str p))) (l ++ [last])) = some (.d (.str last)) := by
    have hne : okI (-((1 : Nat) : Int)) = some (.d (.int (-1))) := okI_of (by omega)
    have hlen : ((l ++ [last]).map D.str).length = l.length + 1 := by rw [List.length_map, List.length_append]; rfl
    have hat : at? (-1) ((l ++ [last]).map D.str).length = some l.length := by
      unfold at?
      rw [hlen, if_neg (by decide), if_pos (by omega)]
      congr 1
      omega
    have hget : ((l ++ [last]).map D.str)[l.length]? = some (.str last) := by
      rw [List.getElem?_map, List.getElem?_append_right (Nat.le_refl _), Nat.sub_self]
      rfl
    have hx : idxL ((l ++ [last]).map D.str) (-1) = some (.d (.str last)) := by
      unfold idxL
      rw [if_neg (by rw [hlen]; omega), hat]
      show (do return X.d (← ((l ++ [last]).map D.str)[l.length]?)) = _
      rw [hget]
      rfl
    rw [evalE, evalE, evalE, hne]
    exact hx
  have h2 : evalE primL (.add (.idx (.v 2) (.neg 1)) (.v 3)) (tx a0 a1 (some (.d (.str p))) (l ++ [last])) = some (.d (.str (last ++ p))) := by
    refine pv_add (y := .d (.str p)) h1 rfl ?_
    show okS (last ++ p) = _
    unfold okS
    rw [if_pos (by rw [List.length_append]; exact hl)]
  refine pv_one ?_
  rw [evalS, h2]
  show (if ((l ++ [last]).map D.str).length < 4096 then some (Fl.next, setV (tx a0 a1 (some (.d (.str p))) (l ++ [last])) 2 (.own ((l ++ [last]).map D.str ++ [.str (last ++ p)]))) else none) = _
  rw [if_pos (by rw [List.length_map, List.length_append]; exact hn)]
  show some (Fl.next, tx a0 a1 (some (.d (.str p))) (l ++ [last])|>.set 2 (some (.own ((l ++ [last]).map D.str ++ [.str (last ++ p)])))) = _
  unfold tx
  rw [List.map_append (l₁ := l ++ [last])]
  rfl
noncomputable def fTx : D → Env → Option (Fl × Env) := fun d ρ => evalS primL 300 bTx (setV ρ 3 (.d d))
theorem tx_loop : ∀ (ps : List S) (l : List S) (last : S) (x3 : Option X) (B : Nat), B + 7 * ps.length ≤ 4000 → l.length + ps.length ≤ 4000 → Gd B (l ++ [last]) → Gd 7 ps →
    ∃ l' x3', forN fTx (ps.map .str) (tx a0 a1 x3 (l ++ [last])) = some (.next, tx a0 a1 x3' l') ∧ Gd (B + 7 * ps.length) l' ∧ l'.length = l.length + 1 + ps.length
  | [], l, last, x3, B, _, _, h, _ => ⟨l ++ [last], x3, rfl, h, by rw [List.length_append]; rfl⟩
  | p :: ps, l, last, x3, B, hB, hn, h, hp => by
    obtain ⟨hp1, hp2⟩ := hp p List.mem_cons_self
    obtain ⟨hl1, hl2⟩ := h last (by simp)
    rw [List.length_cons] at hB hn
    have hs := tx_step (a0 := a0) (a1 := a1) (l := l) (last := last) (p := p) (by omega) (by omega)
    obtain ⟨l', x3', e1, e2, e3⟩ := tx_loop ps (l ++ [last]) (last ++ p) (some (.d (.str p))) (B + 7) (by omega) (by rw [List.length_append, List.length_singleton]; omega) (fun t ht => by
      rw [List.mem_append, List.mem_singleton] at ht
      rcases ht with ht | rfl
      · obtain ⟨q1, q2⟩ := h t ht
        exact ⟨by omega, q2⟩
      · refine ⟨by rw [List.length_append]; omega, fun c hc => ?_⟩
        rw [List.mem_append] at hc
        exact hc.elim (hl2 c) (hp2 c)) fun t ht => hp t (List.mem_cons_of_mem _ ht)
    refine ⟨l', x3', ?_, fun t ht => ?_, ?_⟩
    · exact (for_go (f := fTx) (d := .str p) (ρ := tx a0 a1 x3 (l ++ [last])) hs).trans e1
    · obtain ⟨q1, q2⟩ := e2 t ht
      exact ⟨by rw [List.length_cons]; omega, q2⟩
    · rw [e3]; simp only [List.length_append, List.length_cons, List.length_nil]; omega
end
theorem pick_ok {script : List Int} {ρ : Env} (h0 : getV ρ 0 = some (.d (.lst (script.map .int)))) (h1 : getV ρ 1 = some (.d (strsD pcs))) (h4 : ∀ d, getV (setV ρ 4 (.d d)) 4 = some (.d d)) (h14 : ∀ d, getV (setV ρ 4 (.d d)) 1 = getV ρ 1) (hs : script.length ≤ 63) :
    evalE primL ePick ρ = some (.d (strsD ((script.take 3).map pieceOf))) := by
  have hsrc : evalE primL (.lhead (.v 0) 3) ρ = some (.d (.lst ((script.take 3).map .int))) := by
    rw [evalE, evalE, h0]
    show (if 4096 < (script.map D.int).length then none else okL ((script.map D.int).take 3)) = _
    rw [if_neg (by rw [List.length_map]; omega), ← List.map_take, okL_of]
    rw [List.length_map, List.length_take]
    omega
  have ht3 : (script.take 3).length ≤ 4096 := by rw [List.length_take]; omega
  unfold strsD ePick
  rw [List.map_map]
  refine pv_compA (m := D.int) (g := D.str ∘ pieceOf) hsrc rfl ht3 fun i _ => ?_
  have e1 : evalE primL (.v 1) (setV ρ 4 (.d (.int i))) = some (.d (strsD pcs)) := by rw [evalE, h14, h1]
  have e4 : evalE primL (.v 4) (setV ρ 4 (.d (.int i))) = some (.d (.int i)) := by rw [evalE, h4]
  have e18 : evalE primL (.int 18) (setV ρ 4 (.d (.int i))) = some (.d (.int 18)) := by rw [evalE]; exact okI_of (by omega)
  have hm : evalE primL (.mod (.v 4) (.int 18)) (setV ρ 4 (.d (.int i))) = some (.d (.int (i % 18))) := by
    rw [evalE, e4, e18]
    show (if (0 : Int) < 18 then okI (i % 18) else none) = _
    rw [if_pos (by decide), okI_of (by omega)]
  have hx : idxL (pcs.map .str) (i % 18) = some (.d (.str (pieceOf i))) := by
    have hk : (i % 18).toNat < pcs.length := by
      show (i % 18).toNat < 18
      omega
    have hat : at? (i % 18) (pcs.map D.str).length = some (i % 18).toNat := by
      unfold at?
      rw [List.length_map, if_pos (by omega), if_pos (by show i % 18 < ((18 : Nat) : Int); omega)]
    unfold idxL
    rw [if_neg (by decide), hat]
    show (do return X.d (← (pcs.map D.str)[(i % 18).toNat]?)) = _
    unfold pieceOf
    rw [List.getElem?_map, List.getD_eq_getElem?_getD, List.getElem?_eq_getElem hk]
    rfl
  rw [evalE, e1, hm]
  exact hx
noncomputable def plat (t : S) : S := match xPlatform prim0 t with
  | some (.str r) => r
  | _ => []
theorem plat_run {t : S} (hl : t.length ≤ 250) (ha : ∀ c ∈ t, alpha c) : primL 0 [.str t] = some (.str (plat t)) ∧ (plat t).length ≤ 250 ∧ ∀ c ∈ plat t, alpha c := by
  obtain ⟨r, hr, hle, h, _⟩ := plat_spec (Nat.le_trans hl (by decide)) ha
  have e : plat t = r := by unfold plat; rw [hr]
  rw [e]
  exact ⟨hr, by omega, h⟩
noncomputable def fLaw : D → Env → Option (Fl × Env) := fun d ρ => evalS primL 300 bLaw (setV ρ 10 (.d d))
theorem law_loop {a0 a1 a2 a3 a5 a6 : Option X} : ∀ (l : List S) (x10 x12 x14 : Option X), Gd 250 l → ∃ x10' x12' x14', forN fLaw (l.map .str) (lv a0 a1 a2 a3 a5 a6 x10 x12 x14) = some (.next, lv a0 a1 a2 a3 a5 a6 x10' x12' x14')
  | [], x10, x12, x14, _ => ⟨x10, x12, x14, rfl⟩
  | t :: l, x10, x12, x14, h => by
    obtain ⟨h1, h2⟩ := h t List.mem_cons_self
    obtain ⟨y12, y14, hb⟩ := bLaw_ok (a0 := a0) (a1 := a1) (a2 := a2) (a3 := a3) (a5 := a5) (a6 := a6) (x12 := x12) (x14 := x14) h1 h2
    obtain ⟨z10, z12, z14, e⟩ := law_loop (a0 := a0) (a1 := a1) (a2 := a2) (a3 := a3) (a5 := a5) (a6 := a6) l (some (.d (.str t))) y12 y14 fun t ht => h t (List.mem_cons_of_mem _ ht)
    exact ⟨z10, z12, z14, (for_go (f := fLaw) (d := .str t) (ρ := lv a0 a1 a2 a3 a5 a6 x10 x12 x14) hb).trans e⟩
theorem pv_tok {ρ : Env} {a : E} {p : S} {k : D} (h : evalE primL a ρ = some (.d (.str p))) (hx : xTok p = some k) : evalE primL (.call1 6 (.call1 1 a)) ρ = some (.d k) := by
  unfold xTok at hx
  obtain ⟨q, h1, h2⟩ := Option.bind_eq_some_iff.mp hx
  exact pv_call1 (pv_call1 h h1) h2
end Mini
end

section
set_option maxRecDepth 100000
set_option Elab.async false
namespace Mini
noncomputable def a0 (script : List Int) : Option X := some (.d (.lst (script.map .int)))
noncomputable def a1 : Option X := some (.d (strsD pcs))
noncomputable def a5 : Option X := some (.d (.str pEight))
noncomputable def a6 : Option X := some (.d (.lst [.str pat1, .str pat2, .str pat3, .str pat4, .str pat5]))
noncomputable def xtra : S := [97, 59, 97]
theorem ps_good (script : List Int) : Gd 7 ((script.take 3).map pieceOf ++ [xtra]) := fun t ht => by
  rw [List.mem_append, List.mem_singleton] at ht
  rcases ht with ht | rfl
  · obtain ⟨i, _, rfl⟩ := List.mem_map.mp ht
    exact piece_ok i
  · unfold alpha; decide
theorem los_ok {ρ : Env} (h : getV ρ 5 = a5) : evalE primL eLos ρ = some (.d (.lst [.str pat1, .str pat2, .str pat3, .str pat4, .str pat5])) := by
  have h5 : evalE primL (.v 5) ρ = some (.d (.str pEight)) := h
  have s42 : evalE primL (.str [42]) ρ = some (.d (.str [42])) := rfl
  have e4 : evalE primL (.add (.str [42]) (.v 5)) ρ = some (.d (.str pat4)) := pv_add s42 h5 rfl
  have e5 : evalE primL (.add (.add (.add (.str [42]) (.v 5)) (.v 5)) (.str [42])) ρ = some (.d (.str pat5)) := pv_add (pv_add (z := some (.d (.str ([42] ++ pEight ++ pEight)))) e4 h5 rfl) s42 rfl
  exact pv_lcons rfl (pv_lcons rfl (pv_lcons rfl (pv_lcons e4 (pv_lcons e5 rfl (by decide)) (by decide)) (by decide)) (by decide)) (by decide)
theorem toks_ok {ρ : Env} (h : getV ρ 6 = a6) (h7 : ∀ d, getV (setV ρ 7 (.d d)) 7 = some (.d d)) : evalE primL (.comp (.call1 6 (.call1 1 (.v 7))) 7 (.v 6)) ρ = some (.d LT) := by
  refine pv_compA (s := .d (.lst [.str pat1, .str pat2, .str pat3, .str pat4, .str pat5])) (m := fun (p : S × D) => D.str p.1) (g := fun p => p.2) (l := [(pat1, tok1), (pat2, tok2), (pat3, tok3), (pat4, tok4), (pat5, tok5)]) h rfl (show 5 ≤ 4096 by decide) fun p hp => ?_
  have hv : evalE primL (.v 7) (setV ρ 7 (.d (.str p.1))) = some (.d (.str p.1)) := h7 _
  refine pv_tok hv ?_
  simp only [List.mem_cons, List.not_mem_nil, or_false] at hp
  rcases hp with rfl | rfl | rfl | rfl | rfl
  · exact xt1
  · exact xt2
  · exact xt3
  · exact xt4
  · exact xt5
theorem xLaw_true (script : List Int) (hs : script.length ≤ 63) : xLaw script = some (.bool true) := by
  obtain ⟨L, x3, hL, hG, hn⟩ := tx_loop (a0 := a0 script) (a1 := a1) ((script.take 3).map pieceOf ++ [xtra]) [] [] none 0
    (by simp only [List.length_append, List.length_map, List.length_take, List.length_cons, List.length_nil]; omega) (by simp only [List.length_append, List.length_map, List.length_take, List.length_cons, List.length_nil]; omega)
    (fun t ht => by rw [List.nil_append, List.mem_singleton] at ht; subst ht; exact ⟨Nat.le_refl _, fun c hc => by cases hc⟩) (ps_good script)
  have hps : ((script.take 3).map pieceOf ++ [xtra]).length ≤ 4 := by
    simp only [List.length_append, List.length_map, List.length_take, List.length_cons, List.length_nil]; omega
  have hL5 : L.length ≤ 5 := by rw [hn]; show 0 + 1 + _ ≤ 5; omega
  have hG' : Gd 250 L := fun t ht => let ⟨q1, q2⟩ := hG t ht; ⟨by omega, q2⟩
  -- the platforms
  have hpl : Gd 250 (L.map plat) := fun t ht => by
    obtain ⟨u, hu, rfl⟩ := List.mem_map.mp ht
    exact (plat_run (hG' u hu).1 (hG' u hu).2).2
  have hall : Gd 250 (L ++ L.map plat) := fun t ht => (List.mem_append.mp ht).elim (hG' t) (hpl t)
  obtain ⟨x10, x12, x14, hF⟩ := law_loop (a0 := a0 script) (a1 := a1) (a2 := some (.d (strsD L))) (a3 := x3) (a5 := a5) (a6 := a6) (L ++ L.map plat) none none none hall
  unfold xLaw
  refine run_of (ρ' := lv (a0 script) a1 (some (.d (strsD L))) x3 a5 a6 x10 x12 x14) ?_
  rw [law_body]
  show evalS primL 300 _ (a0 script :: none :: none :: none :: n12) = _
  refine (ev_seq (ρ' := a0 script :: a1 :: none :: none :: n12) (pv_asg ePcs_ok)).trans ?_
  refine (ev_seq (ρ' := tx (a0 script) a1 none ([] ++ [[]])) rfl).trans ?_
  have hpick : evalE primL (.add ePick (.lcons (.str [97, 59, 97]) .lnil)) (tx (a0 script) a1 none ([] ++ [[]])) = some (.d (strsD ((script.take 3).map pieceOf ++ [xtra]))) := by
    refine pv_add (y := .d (.lst [.str xtra])) (pick_ok (script := script) rfl rfl (fun d => rfl) (fun d => rfl) hs) rfl ?_
    show okL (((script.take 3).map pieceOf).map D.str ++ [.str xtra]) = _
    rw [okL_of]
    · unfold strsD
      rw [List.map_append]
      rfl
    · have := hps
      rw [List.length_append] at this
      rw [List.length_append, List.length_map]
      exact Nat.le_trans this (by decide)
  refine (ev_seq (ρ' := tx (a0 script) a1 x3 L) ?_).trans ?_
  · rw [evalS, hpick]
    exact hL
  refine (ev_seq (ρ' := a0 script :: a1 :: some (.d (strsD L)) :: x3 :: n12) rfl).trans ?_
  refine (ev_seq (ρ' := a0 script :: a1 :: some (.d (strsD L)) :: x3 :: none :: a5 :: List.replicate 10 none) rfl).trans ?_
  refine (ev_seq (ρ' := a0 script :: a1 :: some (.d (strsD L)) :: x3 :: none :: a5 :: a6 :: List.replicate 9 none) (pv_asg (los_ok rfl))).trans ?_
  refine (ev_seq (ρ' := a0 script :: a1 :: some (.d (strsD L)) :: x3 :: none :: a5 :: a6 :: none :: some (.d LT) :: List.replicate 7 none) (pv_asgC (toks_ok rfl fun d => rfl))).trans ?_
  refine (ev_seq (ρ' := lv (a0 script) a1 (some (.d (strsD L))) x3 a5 a6 none none none) (pv_asg (pv_tok (p := pat6) rfl xt6))).trans ?_
  have hcomp : evalE primL (.comp (.call1 0 (.v 11)) 11 (.v 2)) (lv (a0 script) a1 (some (.d (strsD L))) x3 a5 a6 none none none) = some (.d (.lst (L.map fun t => D.str (plat t)))) := by
    refine pv_compA (s := .d (strsD L)) (m := D.str) (g := fun t => D.str (plat t)) rfl rfl (by omega) fun t ht => ?_
    exact pv_call1 (x := .str t) rfl (plat_run (hG' t ht).1 (hG' t ht).2).1
  have hsum : evalE primL (.add (.v 2) (.comp (.call1 0 (.v 11)) 11 (.v 2))) (lv (a0 script) a1 (some (.d (strsD L))) x3 a5 a6 none none none) = some (.d (strsD (L ++ L.map plat))) := by
    refine pv_add (x := .d (strsD L)) rfl hcomp ?_
    show okL (L.map D.str ++ L.map fun t => D.str (plat t)) = _
    rw [okL_of (by rw [List.length_append, List.length_map, List.length_map]; omega)]
    unfold strsD
    rw [List.map_append, List.map_map]
    rfl
  refine (ev_seq (ρ' := lv (a0 script) a1 (some (.d (strsD L))) x3 a5 a6 x10 x12 x14) ?_).trans rfl
  rw [evalS, hsum]
  exact hF
end Mini
end

theorem PySem.Challenge.cw_in0229_01_holds : PySem.Challenge.rw_in0229_01.Holds :=
  Mini.join Mini.xLaw_true
