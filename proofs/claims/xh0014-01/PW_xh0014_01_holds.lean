import PyProof.Rows.All
import Wide.All
import OpenK.KCell
import PyProof.CodeObjX
import PyProof.DefMake
import Wide.FinOn
import PyProof.AtCode
import PyProof.WalksPairs
import PyProof.InstLoad
import PyProof.AttrMissHeap
import PyProof.SumAny
import PyProof.InstSpecial
import PyProof.JoinWalk
import PyProof.Rows.StrWeight2
import PyProof.Rows.CatchOwn
import PyProof.ExcStr
import PyProof.ExcBaseAll.Exception
import KE.IntTextText
import PyProof.Conv_int
import Open.FastT9
import PySem.Challenge.RW_xh0014_01
set_option Elab.async false
set_option genSizeOf false
set_option genSizeOfSpec false
set_option genInjectivity false
set_option maxRecDepth 100000
set_option linter.unusedVariables false
section
open PySem
namespace Mine
theorem nsE {α : Type _} {a : α} {P : Prop} (h : (none : Option α) = some a) : P := nomatch h
theorem snE {α : Type _} {a : α} {P : Prop} (h : some a = (none : Option α)) : P := nomatch h
theorem tfE {P : Prop} (h : true = false) : P := nomatch h
theorem ftE {P : Prop} (h : false = true) : P := nomatch h
@[elab_as_elim] theorem rwL {α : Sort _} {a b : α} {P : α → Prop} (h : a = b) (q : P b) : P a := h ▸ q
@[elab_as_elim] theorem rwR {α : Sort _} {a b : α} {P : α → Prop} (h : b = a) (q : P b) : P a := h ▸ q
theorem shut {P : Prop} (h : ∀ G : Prop, (P → G) → G) : P := h P id
section
inductive AD where
  | none | bool (b : Bool) | int (i : Int) | str (x : Str) | ref (k : Nat) | tup (xs : List AD) | lst (xs : List AD) | rng (lo hi : Int)
inductive BO where | add | sub | mul | fdiv | mod | pow
inductive CO where | eq | ne | lt | le | is | isnot
inductive BI where | len | abs | str | int | ord | chr | max2 | minl | range
inductive SM where | find | split | join | append | insert
inductive FN where
  | insort | bright | bleft | cells | body | refusal | spoilt | port | part | second | turn | cut | lows | parse | law
  | mkacc | push | popfrom | pop | alen | astr | reset | pcount
inductive X where
  | c (d : AD)
  | v (i : Nat)
  | fv (f : FN)
  | bin (o : BO) (a b : X)
  | neg (a : X)
  | cmp (o : CO) (a b : X)
  | idx (a i : X)
  | slc (a lo hi : X)
  | ll (es : X)
  | hl (es : X)
  | tp (es : X)
  | comp (elt : X) (caps : List Nat) (src cond : X)
  | fc (f : FN) (args key : X)
  | cv (i : Nat) (args : X)
  | bi (b : BI) (args : X)
  | sm (m : SM) (o args : X)
  | am (f : FN) (o args : X)
  | ask (f : FN) (o : X)
  | lam (body : X) (caps : List Nat)
  | nil
  | cons (x r : X)
  | non
  | som (x : X)
  | nok
  | key (x : X)
  | tst (x : X)
  | cmp2 (o1 o2 : CO) (a b c : X)
  | nott (t : X)
  | or (ts : X)
  | fls
  | orv (t r : X)
  | yes
  | cnd (t : X)
  | asg (i : Nat) (e : X)
  | asgc (i : Nat) (elt : X) (caps : List Nat) (src cond : X)
  | aug (i : Nat) (ix val : X)
  | ex (e : X)
  | ife (t b o : X)
  | fr (i : Nat) (src b : X)
  | wh (t b : X)
  | ret (e : X)
  | boom
  | sn
  | sc (s r : X)
inductive AV where
  | d (x : AD)
  | fn (f : FN)
  | clo (b : X) (caps : List AD)
inductive AO where
  | list (xs : List AD)
  | acc (xs : List AD) (n : Int)
noncomputable abbrev Fm := List (Option AV)
noncomputable abbrev H := List AO
inductive FL where | next | ret (d : AD)
inductive O where
  | v (a : AV)
  | l (xs : List AD)
  | b (b : Bool)
  | bs (b : Bool)
  | i (b : Bool)
  | o (d : Option AD)
  | k (a : Option AV)
  | f (r : FL) (f : Fm)
  | g (r : FL) (f : Fm)
noncomputable def getIdx {α : Type} (xs : List α) (i : Int) : Option α :=
  match i with
  | .ofNat n => xs[n]?
  | .negSucc n => if n < xs.length then xs[xs.length - 1 - n]? else .none
noncomputable def clampI (i : Int) (n : Nat) : Nat :=
  match i with
  | .ofNat k => if k ≤ n then k else n
  | .negSucc k => n - (k + 1)
noncomputable def slcL {α : Type} (xs : List α) (lo hi : Option Int) : List α :=
  let a := match lo with | some i => clampI i xs.length | .none => 0
  let b := match hi with | some i => clampI i xs.length | .none => xs.length
  (xs.drop a).take (b - a)
section
variable {β : Type}
noncomputable def bD (a : AV) (k : AD → Option β) : Option β := match a with | .d x => k x | _ => .none
noncomputable def bI (a : AD) (k : Int → Option β) : Option β := match a with | .int i => k i | _ => .none
noncomputable def bN (a : AD) (k : Nat → Option β) : Option β := bI a fun i => match i with | .ofNat n => k n | .negSucc _ => .none
noncomputable def bS (a : AD) (k : Str → Option β) : Option β := match a with | .str x => k x | _ => .none
noncomputable def bR (a : AD) (k : Nat → Option β) : Option β := match a with | .ref r => k r | _ => .none
noncomputable def bO (σ : H) (r : Nat) (k : List AD → Option β) : Option β := match σ[r]? with | some o => (match o with | .list xs => k xs | .acc _ _ => .none) | .none => .none
noncomputable def bA (σ : H) (r : Nat) (k : List AD → Int → Option β) : Option β := match σ[r]? with | some o => (match o with | .list _ => .none | .acc xs n => k xs n) | .none => .none
noncomputable def bQ (σ : H) (a : AD) (k : List AD → Option β) : Option β := match a with | .lst xs => k xs | .ref r => bO σ r k | _ => .none
noncomputable def fewL (xs : List AD) : Bool := decide (xs.length ≤ 5000)
noncomputable def smallI (i : Int) : Bool := decide (-100000 < i) && decide (i < 100000)
noncomputable def bIf (c : Bool) (k : Option β) : Option β := bif c then k else .none
noncomputable def one (xs : List AD) (k : AD → Option β) : Option β := match xs with | x :: r => (match r with | [] => k x | _ :: _ => .none) | [] => .none
noncomputable def pop1 (xs : List AD) (k : AD → List AD → Option β) : Option β := match xs with | x :: r => k x r | [] => .none
noncomputable def two (xs : List AD) (k : AD → AD → Option β) : Option β := pop1 xs fun x r => one r (k x)
end
noncomputable def binI (o : BO) (a b : Int) : Option AD := match o with
  | .add => some (.int (a + b))
  | .sub => some (.int (a - b))
  | .mul => bIf (decide (a.natAbs < 1024)) (some (.int (a * b)))
  | .fdiv => bIf (b != 0) (some (.int (a.fdiv b)))
  | .mod => bIf (b != 0) (some (.int (a.fmod b)))
  | .pow => bIf (decide (a.natAbs < 1024) && decide (0 ≤ b) && decide (b < 1024)) (some (.int (a ^ b.toNat)))
noncomputable def binS (o : BO) (x : Str) (b : AD) : Option AD := match o with
  | .add => bS b fun y => bIf (decide (x.length + y.length ≤ 100000)) (some (.str (x ++ y)))
  | .mul => bN b fun n => bIf (decide (x.length ≤ 10) && decide (n ≤ 1000)) (some (.str ⟨(List.replicate n x.cps.toList).flatten.toArray⟩))
  | _ => .none
noncomputable def binD (o : BO) (x y : AD) : Option AD := match x with
  | .int a => bI y fun b => binI o a b
  | .str a => binS o a y
  | _ => .none
noncomputable def bB {β : Type} (a : AD) (k : Bool → Option β) : Option β := match a with | .bool i => k i | _ => .none
noncomputable def eqL (g : AD → AD → Option Bool) : List AD → List AD → Option Bool
  | [], ys => some ys.isEmpty
  | x :: xs, ys => match ys with
    | [] => some false
    | y :: ys => match g x y with
      | some a => (match eqL g xs ys with | some b => some (a && b) | .none => .none)
      | .none => .none
noncomputable def eqI (g : AD → AD → Option Bool) (x e : AD) : Option Bool := match x with
  | .ref a => bR e fun b => bIf (a == b) (some true)
  | _ => g x e
noncomputable def eqD : Nat → AD → AD → Option Bool
  | 0, _, _ => .none
  | n + 1, x, e => match x with
    | .int a => bI e fun b => some (a == b)
    | .str a => bS e fun b => some (a == b)
    | .bool a => bB e fun b => some (a == b)
    | .tup xs => (match e with | .tup ys => bIf (xs.length == ys.length) (eqL (eqI (eqD n)) xs ys) | _ => .none)
    | .lst xs => (match e with | .lst ys => eqL (eqI (eqD n)) xs ys | _ => .none)
    | _ => .none
noncomputable def isLen (a : AV) : Bool := match a with | .fn g => (match g with | .alen => true | _ => false) | _ => false
noncomputable def isNone : AV → Bool
  | .d x => (match x with | .none => true | _ => false)
  | _ => false
noncomputable def cmpD (o : CO) (a b : AV) : Option Bool := match o with
  | .eq => bD a fun x => bD b fun y => eqD 4 x y
  | .ne => bD a fun x => bD b fun y => match eqD 4 x y with | some r => some (!r) | .none => .none
  | .lt => bD a fun x => bD b fun y => bI x fun i => bI y fun j => some (decide (i < j))
  | .le => bD a fun x => bD b fun y => bI x fun i => bI y fun j => some (decide (i ≤ j))
  | .is => bIf (isNone b && !isLen a) (some (isNone a))
  | .isnot => bif isNone b then bIf (!isLen a) (some (!isNone a)) else bD a fun x => bD b fun y => bR x fun i => bR y fun j => some (i != j)
noncomputable def itemAt (d : AD) (σ : H) (i : Nat) : Option (Option AD) := match d with
  | .rng lo hi => some (bif decide (lo + (i : Int) < hi) then some (.int (lo + i)) else .none)
  | _ => bQ σ d fun xs => some xs[i]?
noncomputable def cntOf (d : AD) (σ : H) : Nat := match d with
  | .rng lo hi => (hi - lo).toNat + 1
  | _ => match bQ σ d fun xs => bIf (fewL xs) (some xs.length) with | some n => n + 1 | .none => 0
noncomputable def idxD (σ : H) (a i : AD) : Option AD := bI i fun i => bIf (smallI i) (match a with
  | .lst xs => getIdx xs i
  | .tup xs => getIdx xs i
  | .str x => (match getIdx x.cps.toList i with | some c => some (.str ⟨#[c]⟩) | .none => .none)
  | .ref k => (match σ[k]? with | some o => (match o with | .list xs => getIdx xs i | .acc xs _ => bIf (decide (0 ≤ i)) (getIdx xs i)) | .none => .none)
  | _ => .none)
noncomputable def partD (a : Option AD) : Option (Option Int) := match a with
  | .none => some .none
  | some d => bI d fun i => bIf (smallI i) (some (some i))
noncomputable def slcD (σ : H) (a : AD) (lo hi : Option Int) : Option AD := match a with
  | .str x => bIf (decide (x.length ≤ 100000)) (some (.str ⟨(slcL x.cps.toList lo hi).toArray⟩))
  | _ => bQ σ a fun xs => bIf (fewL xs) (some (.lst (slcL xs lo hi)))
noncomputable def findL (y : List Nat) : List Nat → Nat → Option Nat
  | [], i => bif y.isEmpty then some i else .none
  | c :: r, i => bif y.isPrefixOf (c :: r) then some i else findL y r (i + 1)
noncomputable def findS (x y : Str) (from_ : Nat) : Int :=
  match findL y.cps.toList (x.cps.toList.drop from_) from_ with | some k => k | .none => -1
noncomputable def splitL (m : Nat) : List Nat → List (List Nat)
  | [] => [[]]
  | c :: r => bif c == m then [] :: splitL m r else match splitL m r with
    | w :: ws => (c :: w) :: ws
    | [] => [[c]]
noncomputable def joinL (sep : List Nat) : List (List Nat) → List Nat
  | [] => []
  | x :: r => match r with | [] => x | _ :: _ => x ++ sep ++ joinL sep r
noncomputable def intText (i : Int) : Str := Str.ofString (toString i)
noncomputable def natOfText (ds : List Nat) : Option Nat :=
  bIf (!ds.isEmpty && ds.all fun c => decide (48 ≤ c) && decide (c ≤ 57)) (some (ds.foldl (fun a c => 10 * a + (c - 48)) 0))
noncomputable def intOfText (l : List Nat) : Option Int := match l with
  | [] => .none
  | c :: ds => bif c == 45 then (match natOfText ds with | some n => some (-(n : Int)) | .none => .none) else match natOfText (c :: ds) with | some n => some (n : Int) | .none => .none
inductive BiR (σ : H) : BI → List AD → AD → Prop
  | lenT {x : Str} (h : x.length ≤ 100000) : BiR σ .len [.str x] (.int x.length)
  | lenL {xs : List AD} (h : xs.length ≤ 5000) : BiR σ .len [.lst xs] (.int xs.length)
  | lenR {k : Nat} {xs : List AD} (e : σ[k]? = some (.list xs)) (h : xs.length ≤ 5000) : BiR σ .len [.ref k] (.int xs.length)
  | abs (i : Int) : BiR σ .abs [.int i] (.int i.natAbs)
  | str {i : Int} (h : i.natAbs < 100000) : BiR σ .str [.int i] (.str (intText i))
  | int {x : Str} {i : Int} (h : x.length ≤ 8) (e : intOfText x.cps.toList = some i) : BiR σ .int [.str x] (.int i)
  | ord (c : Nat) : BiR σ .ord [.str ⟨#[c]⟩] (.int c)
  | chr {n : Nat} (h : n < 128) : BiR σ .chr [.int n] (.str ⟨#[n]⟩)
  | max2 (a b : Int) : BiR σ .max2 [.int a, .int b] (.int (if b > a then b else a))
  | minl {l : List Int} {i : Int} (m : i ∈ l) (h : ∀ b ∈ l, i ≤ b) : BiR σ .minl [.lst (l.map .int)] (.int i)
  | rng1 {a : Int} (h1 : -4096 < a) (h2 : a < 4096) : BiR σ .range [.int a] (.rng 0 a)
  | rng2 {a b : Int} (h1 : -4096 < a) (h2 : a < 4096) (h3 : -4096 < b) (h4 : b < 4096) : BiR σ .range [.int a, .int b] (.rng a b)
inductive SmR (σ : H) : SM → AD → List AD → AD → H → Prop
  | find {x : Str} {c : Nat} : SmR σ .find (.str x) [.str ⟨#[c]⟩] (.int (findS x ⟨#[c]⟩ 0)) σ
  | find2 {x : Str} {c n : Nat} : SmR σ .find (.str x) [.str ⟨#[c]⟩, .int n] (.int (findS x ⟨#[c]⟩ n)) σ
  | split {x : Str} {c : Nat} (h : x.length ≤ 100000) : SmR σ .split (.str x) [.str ⟨#[c]⟩] (.lst ((splitL c x.cps.toList).map fun w => .str ⟨w.toArray⟩)) σ
  | join {x : Str} {l : List Str} (h : (l.map (·.length)).sum + l.length * x.length ≤ 100000) : SmR σ .join (.str x) [.lst (l.map .str)] (.str ⟨(joinL x.cps.toList (l.map (·.cps.toList))).toArray⟩) σ
  | append {k : Nat} {l : List AD} {y : AD} (e : σ[k]? = some (.list l)) (h : l.length ≤ 5000) : SmR σ .append (.ref k) [y] .none (σ.set k (.list (l ++ [y])))
  | insert {k j : Nat} {l : List AD} {y : AD} (e : σ[k]? = some (.list l)) (h1 : j ≤ l.length) (h2 : l.length ≤ 5000) : SmR σ .insert (.ref k) [.int j, y] .none (σ.set k (.list (l.take j ++ y :: l.drop j)))
noncomputable def isListAt (σ : H) (k : Nat) : Bool := match σ[k]? with | some o => (match o with | .list _ => true | .acc _ _ => false) | .none => false
noncomputable def isAcc (σ : H) (k : Nat) : Bool := match σ[k]? with | some o => (match o with | .list _ => false | .acc _ _ => true) | .none => false
noncomputable def hasM (σ : H) (m : SM) (x : AD) : Bool := match m with
  | .append | .insert => (match x with | .ref k => isListAt σ k | _ => false)
  | _ => (match x with | .str _ => true | _ => false)
noncomputable def capsD (f : Fm) : List Nat → Option (List AD)
  | [] => some []
  | i :: r => match f[i]? with
    | some o => (match o with
      | some a => bD a fun x => match capsD f r with | some xs => some (x :: xs) | .none => .none
      | .none => .none)
    | .none => .none
noncomputable def setF (f : Fm) (i : Nat) (v : AV) : Fm := f.set i (some v)
noncomputable def frameC (x : AD) (cs : List AD) : Fm := some (.d x) :: cs.map fun y => some (.d y)
inductive LC (cond : AD → H → Bool → H → Prop) (elt : AD → H → AD → H → Prop) (src : AD) : Nat → Nat → H → List AD → H → Prop
  | done {k i : Nat} {σ : H} (h : itemAt src σ i = some .none) : LC cond elt src (k + 1) i σ [] σ
  | yes {k i : Nat} {σ σ₁ σ₂ σ' : H} {d y : AD} {r : List AD} (h : itemAt src σ i = some (some d)) (hc : cond d σ true σ₁) (he : elt d σ₁ y σ₂) (hr : LC cond elt src k (i + 1) σ₂ r σ') : LC cond elt src (k + 1) i σ (y :: r) σ'
  | no {k i : Nat} {σ σ₁ σ' : H} {d : AD} {r : List AD} (h : itemAt src σ i = some (some d)) (hc : cond d σ false σ₁) (hr : LC cond elt src k (i + 1) σ₁ r σ') : LC cond elt src (k + 1) i σ r σ'
inductive LF (st : AD → Fm → H → FL → Fm → H → Prop) (src : AD) : Nat → Nat → Fm → H → FL → Fm → H → Prop
  | done {k i : Nat} {f : Fm} {σ : H} (h : itemAt src σ i = some .none) : LF st src (k + 1) i f σ .next f σ
  | go {k i : Nat} {f f2 f' : Fm} {σ σ2 σ' : H} {y : AD} {l : FL} (h : itemAt src σ i = some (some y)) (hs : st y f σ .next f2 σ2) (hr : LF st src k (i + 1) f2 σ2 l f' σ') : LF st src (k + 1) i f σ l f' σ'
  | ret {k i : Nat} {f f' : Fm} {σ σ' : H} {y d : AD} (h : itemAt src σ i = some (some y)) (hs : st y f σ (.ret d) f' σ') : LF st src (k + 1) i f σ (.ret d) f' σ'
inductive LW (t : Fm → H → Bool → H → Prop) (st : Fm → H → FL → Fm → H → Prop) : Nat → Fm → H → FL → Fm → H → Prop
  | stop {k : Nat} {f : Fm} {σ σ' : H} (h : t f σ false σ') : LW t st (k + 1) f σ .next f σ'
  | go {k : Nat} {f f2 f' : Fm} {σ σ₁ σ2 σ' : H} {l : FL} (h : t f σ true σ₁) (hs : st f σ₁ .next f2 σ2) (hr : LW t st k f2 σ2 l f' σ') : LW t st (k + 1) f σ l f' σ'
  | ret {k : Nat} {f f' : Fm} {σ σ₁ σ' : H} {d : AD} (h : t f σ true σ₁) (hs : st f σ₁ (.ret d) f' σ') : LW t st (k + 1) f σ (.ret d) f' σ'
end
theorem s3E {α β γ : Type _} {P : Prop} {l m : α} {f g : β} {s t : γ} (q : m = l → g = f → t = s → P) (h : some (l, f, s) = some (m, g, t)) : P := by cases h; exact q rfl rfl rfl
theorem someS {α β : Type _} {P : Prop} {a c : α} {b d : β} (q : c = a → d = b → P) (h : some (a, b) = some (c, d)) : P := by cases h; exact q rfl rfl
theorem someT {α : Type _} {P : Prop} {a c : α} (q : c = a → P) (h : some a = some c) : P := by cases h; exact q rfl
end Mine
end
set_option hygiene false
local macro_rules
  | `(tactic| cases $e:ident) => `(tactic| first | exact Mine.nsE $e | exact Mine.snE $e | exact Mine.ftE $e | exact Mine.tfE $e | (replace $e:ident := Eq.symm $e; subst $e) | (revert $e; with_reducible refine Mine.s3E (fun hq1 hq2 hq3 => ?_); (first | subst hq1 | (replace hq1 := Eq.symm hq1; cases (hq1))); (first | subst hq2 | (replace hq2 := Eq.symm hq2; cases (hq2))); (first | subst hq3 | (replace hq3 := Eq.symm hq3; cases (hq3)))) | (revert $e; with_reducible refine Mine.someS (fun hq1 hq2 => ?_); (first | subst hq1 | (replace hq1 := Eq.symm hq1; cases (hq1))); (first | subst hq2 | (replace hq2 := Eq.symm hq2; cases (hq2)))) | (revert $e; with_reducible refine Mine.someT (fun hq1 => ?_); (first | subst hq1 | (replace hq1 := Eq.symm hq1; cases (hq1)))) | cases ($e))
local macro_rules
  | `(tactic| rw [$h:term]) => `(tactic| first | (refine Mine.rwL $h ?_; try (with_reducible rfl)) | (rewrite [$h:term]; try (with_reducible rfl)))
  | `(tactic| rw [← $h:term]) => `(tactic| first | (refine Mine.rwR $h ?_; try (with_reducible rfl)) | (rewrite [← $h:term]; try (with_reducible rfl)))
  | `(tactic| rw [$h:term, $r,*]) => `(tactic| (first | refine Mine.rwL $h ?_ | rewrite [$h:term]); rw [$r,*])
  | `(tactic| rw [← $h:term, $r,*]) => `(tactic| (first | refine Mine.rwR $h ?_ | rewrite [← $h:term]); rw [$r,*])
set_option hygiene true
section
open PySem
namespace Mine
noncomputable def b_insort : X := (.sc (.ife (.tst (.cmp .is (.v 4) (.c .none))) (.sc (.asg 2 (.fc .bright (.cons (.v 0) (.cons (.v 1) (.cons (.v 2) (.cons (.v 3) .nil)))) .nok)) .sn) (.sc (.asg 2 (.fc .bright (.cons (.v 0) (.cons (.cv 4 (.cons (.v 1) .nil)) (.cons (.v 2) (.cons (.v 3) .nil)))) (.key (.v 4)))) .sn)) (.sc (.ex (.sm .insert (.v 0) (.cons (.v 2) (.cons (.v 1) .nil)))) .sn))
noncomputable def b_bright : X := (.sc (.ife (.tst (.cmp .lt (.v 2) (.c (.int 0)))) (.sc .boom .sn) .sn) (.sc (.ife (.tst (.cmp .is (.v 3) (.c .none))) (.sc (.asg 3 (.bi .len (.cons (.v 0) .nil))) .sn) .sn) (.sc (.ife (.tst (.cmp .is (.v 4) (.c .none))) (.sc (.wh (.tst (.cmp .lt (.v 2) (.v 3))) (.sc (.asg 5 (.bin .fdiv (.bin .add (.v 2) (.v 3)) (.c (.int 2)))) (.sc (.ife (.tst (.cmp .lt (.v 1) (.idx (.v 0) (.v 5)))) (.sc (.asg 3 (.v 5)) .sn) (.sc (.asg 2 (.bin .add (.v 5) (.c (.int 1)))) .sn)) .sn))) .sn) (.sc (.wh (.tst (.cmp .lt (.v 2) (.v 3))) (.sc (.asg 5 (.bin .fdiv (.bin .add (.v 2) (.v 3)) (.c (.int 2)))) (.sc (.ife (.tst (.cmp .lt (.v 1) (.cv 4 (.cons (.idx (.v 0) (.v 5)) .nil)))) (.sc (.asg 3 (.v 5)) .sn) (.sc (.asg 2 (.bin .add (.v 5) (.c (.int 1)))) .sn)) .sn))) .sn)) (.sc (.ret (.v 2)) .sn))))
noncomputable def b_bleft : X := (.sc (.ife (.tst (.cmp .lt (.v 2) (.c (.int 0)))) (.sc .boom .sn) .sn) (.sc (.ife (.tst (.cmp .is (.v 3) (.c .none))) (.sc (.asg 3 (.bi .len (.cons (.v 0) .nil))) .sn) .sn) (.sc (.ife (.tst (.cmp .is (.v 4) (.c .none))) (.sc (.wh (.tst (.cmp .lt (.v 2) (.v 3))) (.sc (.asg 5 (.bin .fdiv (.bin .add (.v 2) (.v 3)) (.c (.int 2)))) (.sc (.ife (.tst (.cmp .lt (.idx (.v 0) (.v 5)) (.v 1))) (.sc (.asg 2 (.bin .add (.v 5) (.c (.int 1)))) .sn) (.sc (.asg 3 (.v 5)) .sn)) .sn))) .sn) (.sc (.wh (.tst (.cmp .lt (.v 2) (.v 3))) (.sc (.asg 5 (.bin .fdiv (.bin .add (.v 2) (.v 3)) (.c (.int 2)))) (.sc (.ife (.tst (.cmp .lt (.cv 4 (.cons (.idx (.v 0) (.v 5)) .nil)) (.v 1))) (.sc (.asg 2 (.bin .add (.v 5) (.c (.int 1)))) .sn) (.sc (.asg 3 (.v 5)) .sn)) .sn))) .sn)) (.sc (.ret (.v 2)) .sn))))
noncomputable def b_parse : X := (.sc (.ife (.tst (.cmp .ne (.slc (.v 0) .non (.som (.c (.int 3)))) (.c (.str (Str.ofString "229"))))) (.sc .boom .sn) .sn) (.sc (.asg 2 (.sm .find (.v 0) (.cons (.c (.str (Str.ofString "("))) .nil))) (.sc (.ife (.tst (.cmp .lt (.v 2) (.c (.int 0)))) (.sc .boom .sn) .sn) (.sc (.asg 3 (.sm .find (.v 0) (.cons (.c (.str (Str.ofString ")"))) (.cons (.bin .add (.v 2) (.c (.int 1))) .nil)))) (.sc (.ife (.tst (.cmp .lt (.v 3) (.c (.int 0)))) (.sc .boom .sn) .sn) (.sc (.ife (.tst (.cmp .ne (.idx (.v 0) (.bin .add (.v 2) (.c (.int 1)))) (.idx (.v 0) (.bin .sub (.v 3) (.c (.int 1)))))) (.sc .boom .sn) .sn) (.sc (.asg 4 (.sm .split (.slc (.v 0) (.som (.bin .add (.v 2) (.c (.int 1)))) (.som (.v 3))) (.cons (.idx (.v 0) (.bin .add (.v 2) (.c (.int 1)))) .nil))) (.sc (.ife (.tst (.cmp .ne (.bi .len (.cons (.v 4) .nil)) (.c (.int 5)))) (.sc .boom .sn) .sn) (.sc (.asg 5 (.idx (.v 1) (.c (.int 0)))) (.sc (.asg 6 (.bi .int (.cons (.idx (.v 4) (.c (.int 3))) .nil))) (.sc (.ret (.tp (.cons (.v 5) (.cons (.v 6) .nil)))) .sn)))))))))))
noncomputable def b_cells : X := (.sc (.asg 1 (.hl (.cons (.c (.int 576371)) (.cons (.c (.int 38694572)) (.cons (.c (.int 16)) (.cons (.c (.int 186)) .nil)))))) (.sc (.fr 2 (.bi .range (.cons (.bi .len (.cons (.v 0) .nil)) .nil)) (.sc (.aug 1 (.bin .mod (.v 2) (.c (.int 4))) (.idx (.v 0) (.v 2))) .sn)) (.sc (.ret (.v 1)) .sn)))
noncomputable def b_body : X := (.sc (.asg 3 (.idx (.c (.str (Str.ofString "|!/="))) (.bin .mod (.bin .add (.v 2) (.v 0)) (.c (.int 4))))) (.sc (.asg 4 (.bin .add (.bin .mul (.c (.str (Str.ofString "0"))) (.bin .mod (.bin .fdiv (.v 2) (.c (.int 4))) (.c (.int 3)))) (.bi .str (.cons (.bi .abs (.cons (.v 1) .nil)) .nil)))) (.sc (.ife (.tst (.cmp .lt (.v 1) (.c (.int 0)))) (.sc (.asg 4 (.bin .add (.c (.str (Str.ofString "-"))) (.v 4))) .sn) .sn) (.sc (.asg 5 (.idx (.ll (.cons (.c (.str (Str.ofString ""))) (.cons (.c (.str (Str.ofString "1"))) .nil))) (.bin .mod (.bin .fdiv (.v 2) (.c (.int 12))) (.c (.int 2))))) (.sc (.asg 6 (.idx (.ll (.cons (.c (.str (Str.ofString ""))) (.cons (.c (.str (Str.ofString "h"))) .nil))) (.bin .mod (.bin .fdiv (.v 2) (.c (.int 24))) (.c (.int 2))))) (.sc (.ret (.bin .add (.bin .add (.bin .add (.bin .add (.bin .add (.bin .add (.v 3) (.v 5)) (.v 3)) (.v 6)) (.v 3)) (.v 4)) (.v 3))) .sn))))))
noncomputable def b_spoilt : X := (.sc (.fr 2 (.ll (.cons (.c (.str (Str.ofString "129"))) (.cons (.c (.str (Str.ofString "209"))) (.cons (.c (.str (Str.ofString "228"))) .nil)))) (.sc (.ife (.tst (.cmp .ne (.fc .refusal (.cons (.bin .add (.bin .add (.bin .add (.bin .add (.v 2) (.v 0)) (.c (.str (Str.ofString "(")))) (.v 1)) (.c (.str (Str.ofString ")")))) .nil) .nok) (.ll (.cons (.c (.str (Str.ofString "reply"))) (.cons (.c (.bool true)) .nil))))) (.sc (.ret (.c (.bool false))) .sn) .sn) .sn)) (.sc (.ife (.tst (.cmp .ne (.fc .refusal (.cons (.bin .add (.bin .add (.bin .add (.bin .add (.c (.str (Str.ofString "228"))) (.v 0)) (.c (.str (Str.ofString "[")))) (.v 1)) (.c (.str (Str.ofString "]")))) .nil) .nok) (.ll (.cons (.c (.str (Str.ofString "reply"))) (.cons (.c (.bool true)) .nil))))) (.sc (.ret (.c (.bool false))) .sn) .sn) (.sc (.asg 3 (.idx (.v 1) (.c (.int 0)))) (.sc (.asg 4 (.ll (.cons (.bin .add (.bin .add (.c (.str (Str.ofString "["))) (.v 1)) (.c (.str (Str.ofString ")")))) (.cons (.bin .add (.bin .add (.c (.str (Str.ofString "("))) (.v 1)) (.c (.str (Str.ofString "]")))) (.cons (.bin .add (.bin .add (.c (.str (Str.ofString "("))) (.v 1)) (.c (.str (Str.ofString "x)")))) (.cons (.bin .add (.bin .add (.bin .add (.c (.str (Str.ofString "("))) (.v 1)) (.v 3)) (.c (.str (Str.ofString ")")))) (.cons (.bin .add (.bin .add (.c (.str (Str.ofString "("))) (.slc (.v 1) (.som (.c (.int 1))) .non)) (.c (.str (Str.ofString ")")))) .nil))))))) (.sc (.fr 5 (.v 4) (.sc (.ife (.tst (.cmp .ne (.fc .refusal (.cons (.bin .add (.bin .add (.c (.str (Str.ofString "229"))) (.v 0)) (.v 5)) .nil) .nok) (.ll (.cons (.c (.str (Str.ofString "proto"))) (.cons (.c (.bool true)) .nil))))) (.sc (.ret (.c (.bool false))) .sn) .sn) .sn)) (.sc (.ret (.cmp .eq (.fc .refusal (.cons (.c (.str (Str.ofString "229 2172)"))) .nil) .nok) (.ll (.cons (.c (.str (Str.ofString "proto"))) (.cons (.c (.bool true)) .nil))))) .sn))))))
noncomputable def b_port : X := (.sc (.ret (.idx (.v 0) (.c (.int 0)))) .sn)
noncomputable def b_part : X := (.sc (.ret (.bin .fdiv (.idx (.v 0) (.c (.int 0))) (.c (.int 24)))) .sn)
noncomputable def b_second : X := (.sc (.asg 1 (.hl .nil)) (.sc (.fr 2 (.v 0) (.sc (.ex (.fc .insort (.cons (.v 1) (.cons (.v 2) .nil)) (.key (.fv .part)))) .sn)) (.sc (.asgc 3 (.fc .part (.cons (.v 0) .nil) .nok) [] (.v 1) .yes) (.sc (.fr 4 (.bi .range (.cons (.neg (.c (.int 3))) (.cons (.c (.int 3)) .nil))) (.sc (.asg 5 (.bi .len (.cons (.comp (.v 0) [4] (.v 0) (.cnd (.tst (.cmp .lt (.idx (.v 0) (.c (.int 0))) (.bin .mul (.c (.int 24)) (.v 1)))))) .nil))) (.sc (.asgc 6 (.v 0) [4] (.v 0) (.cnd (.cmp2 .le .lt (.bin .mul (.c (.int 24)) (.v 1)) (.idx (.v 0) (.c (.int 0))) (.bin .add (.bin .mul (.c (.int 24)) (.v 1)) (.c (.int 24)))))) (.sc (.asg 7 (.bin .add (.v 5) (.bi .len (.cons (.v 6) .nil)))) (.sc (.ife (.or (.orv (.tst (.cmp .ne (.fc .bleft (.cons (.v 1) (.cons (.v 4) .nil)) (.key (.fv .part))) (.v 5))) (.orv (.tst (.cmp .ne (.fc .bright (.cons (.v 1) (.cons (.v 4) .nil)) (.key (.fv .part))) (.v 7))) .fls))) (.sc (.ret (.c (.bool false))) .sn) .sn) (.sc (.ife (.or (.orv (.tst (.cmp .ne (.fc .bleft (.cons (.v 3) (.cons (.v 4) (.cons (.c (.int 2)) .nil))) .nok) (.bi .max2 (.cons (.v 5) (.cons (.c (.int 2)) .nil))))) (.orv (.tst (.cmp .ne (.fc .bright (.cons (.v 3) (.cons (.v 4) (.cons (.c (.int 2)) .nil))) .nok) (.bi .max2 (.cons (.v 7) (.cons (.c (.int 2)) .nil))))) .fls))) (.sc (.ret (.c (.bool false))) .sn) .sn) (.sc (.ife (.tst (.cmp .ne (.slc (.v 1) (.som (.v 5)) (.som (.v 7))) (.v 6))) (.sc (.ret (.c (.bool false))) .sn) .sn) .sn))))))) (.sc (.ret (.c (.bool true))) .sn)))))
noncomputable def b_turn : X := (.sc (.ret (.bi .len (.cons (.idx (.v 0) (.c (.int 0))) .nil))) .sn)
noncomputable def b_cut : X := (.sc (.ret (.fc .bleft (.cons (.v 0) (.cons (.v 1) (.cons (.c (.int 0)) (.cons (.am .pcount (.v 0) .nil) .nil)))) (.key (.lam (.idx (.v 1) (.bin .sub (.bi .ord (.cons (.idx (.v 0) (.c (.int 1))) .nil)) (.c (.int 97)))) [2])))) .sn)
noncomputable def b_lows : X := (.sc (.fr 4 (.bi .range (.cons (.v 2) .nil)) (.sc (.asg 5 (.fc .bleft (.cons (.v 0) (.cons (.v 4) (.cons (.c (.int 0)) (.cons (.am .pcount (.v 0) .nil) .nil)))) (.key (.fv .turn)))) (.sc (.ife (.tst (.cmp .ne (.idx (.v 3) (.bin .sub (.bi .ord (.cons (.idx (.idx (.v 0) (.v 5)) (.c (.int 1))) .nil)) (.c (.int 97)))) (.bi .minl (.cons (.comp (.idx (.v 1) (.v 0)) [3] (.slc (.v 1) (.som (.v 4)) (.som (.v 2))) .yes) .nil)))) (.sc (.ret (.c (.bool false))) .sn) .sn) .sn))) (.sc (.ret (.c (.bool true))) .sn))
noncomputable def l_0 : X := (.asg 1 (.fc .cells (.cons (.v 0) .nil) .nok))
noncomputable def l_1 : X := (.asgc 3 (.bin .mod (.bin .fdiv (.idx (.v 1) (.c (.int 0))) (.bin .pow (.c (.int 8)) (.v 0))) (.c (.int 8))) [1] (.bi .range (.cons (.c (.int 8)) .nil)) .yes)
noncomputable def l_2 : X := (.asg 4 (.comp (.bin .sub (.bin .add (.bin .mul (.c (.int 8)) (.bin .mod (.bin .fdiv (.idx (.v 1) (.c (.int 1))) (.bin .pow (.c (.int 10)) (.v 0))) (.c (.int 10)))) (.v 0)) (.c (.int 37))) [1] (.bi .range (.cons (.c (.int 8)) .nil)) .yes))
noncomputable def l_3 : X := (.asg 5 (.bin .mod (.bin .fdiv (.idx (.v 1) (.c (.int 2))) (.c (.int 8))) (.c (.int 3))))
noncomputable def l_4 : X := (.asg 6 (.bin .add (.c (.str (Str.ofString " "))) (.idx (.ll (.cons (.c (.str (Str.ofString ""))) (.cons (.c (.str (Str.ofString "ok) "))) .nil))) (.bin .mod (.bin .fdiv (.idx (.v 1) (.c (.int 3))) (.c (.int 48))) (.c (.int 2))))))
noncomputable def l_5 : X := (.asg 7 (.idx (.ll (.cons (.c (.str (Str.ofString ""))) (.cons (.c (.str (Str.ofString " (|||9|)"))) .nil))) (.bin .mod (.bin .fdiv (.idx (.v 1) (.c (.int 3))) (.c (.int 96))) (.c (.int 2)))))
noncomputable def l_6 : X := (.asgc 8 (.hl (.cons (.idx (.v 1) (.v 0)) (.cons (.v 0) .nil))) [4] (.bi .range (.cons (.c (.int 8)) .nil)) .yes)
noncomputable def l_7 : X := (.asg 9 (.hl .nil))
noncomputable def l_8 : X := (.fr 10 (.v 8) (.sc (.ife (.tst (.cmp .isnot (.fc .insort (.cons (.v 9) (.cons (.v 10) .nil)) (.key (.fv .port))) (.c .none))) (.sc (.ret (.c (.bool false))) .sn) .sn) .sn))
noncomputable def l_9 : X := (.ife (.nott (.tst (.fc .second (.cons (.v 8) .nil) .nok))) (.sc (.ret (.c (.bool false))) .sn) .sn)
noncomputable def l_10 : X := (.asg 11 (.hl (.cons (.bin .mod (.idx (.v 1) (.c (.int 2))) (.c (.int 8))) .nil)))
noncomputable def l_11 : X := (.fr 12 (.bi .range (.cons (.c (.int 16)) .nil)) (.sc (.ex (.sm .append (.v 11) (.cons (.idx (.v 3) (.idx (.v 11) (.neg (.c (.int 1))))) .nil))) .sn))
noncomputable def l_12 : X := (.asg 13 (.bi .minl (.cons (.comp (.idx (.v 1) (.v 0)) [4] (.slc (.v 11) (.som (.c (.int 8))) (.som (.c (.int 16)))) .yes) .nil)))
noncomputable def l_13 : X := (.asg 14 (.comp (.v 0) [13, 11, 4] (.bi .range (.cons (.c (.int 17)) .nil)) (.cnd (.tst (.cmp .eq (.idx (.v 3) (.idx (.v 2) (.v 0))) (.v 1))))))
noncomputable def l_14 : X := (.asg 15 (.idx (.v 14) (.c (.int 1))))
noncomputable def l_15 : X := (.asg 16 (.hl .nil))
noncomputable def l_16 : X := (.fr 12 (.bi .range (.cons (.v 15) .nil)) (.sc (.ife (.tst (.cmp .eq (.comp (.v 0) [11, 4, 12] (.slc (.v 11) (.som (.bin .add (.v 12) (.c (.int 1)))) (.som (.v 15))) (.cnd (.tst (.cmp .le (.idx (.v 2) (.v 0)) (.idx (.v 2) (.idx (.v 1) (.v 3))))))) (.ll .nil))) (.sc (.ex (.sm .append (.v 16) (.cons (.tp (.cons (.bin .mul (.c (.str (Str.ofString " "))) (.v 12)) (.cons (.bi .chr (.cons (.bin .add (.c (.int 97)) (.idx (.v 11) (.v 12))) .nil)) .nil))) .nil))) .sn) .sn) .sn))
noncomputable def l_17 : X := (.asg 17 (.bi .len (.cons (.comp (.v 0) [14] (.v 16) (.cnd (.tst (.cmp .lt (.bi .len (.cons (.idx (.v 0) (.c (.int 0))) .nil)) (.idx (.v 1) (.c (.int 0))))))) .nil)))
noncomputable def l_18 : X := (.asg 18 (.sm .join (.c (.str (Str.ofString ""))) (.cons (.comp (.bin .add (.idx (.v 0) (.c (.int 0))) (.idx (.v 0) (.c (.int 1)))) [] (.v 16) .yes) .nil)))
noncomputable def l_19 : X := (.asg 19 (.fc .mkacc (.cons (.v 5) .nil) .nok))
noncomputable def l_20 : X := (.asg 20 (.ll .nil))
noncomputable def l_21 : X := (.asg 21 (.idx (.v 11) (.c (.int 0))))
noncomputable def l_22 : X := (.fr 12 (.bi .range (.cons (.bin .add (.v 15) (.c (.int 1))) .nil)) (.sc (.ife (.tst (.cmp .eq (.v 12) (.v 15))) (.sc (.ife (.or (.orv (.tst (.cmp .ne (.ask .astr (.v 19)) (.v 18))) (.orv (.tst (.cmp .ne (.ask .alen (.v 19)) (.bin .add (.v 5) (.bi .len (.cons (.v 18) .nil))))) (.orv (.tst (.cmp .ne (.am .pcount (.v 19) .nil) (.bi .len (.cons (.v 16) .nil)))) .fls)))) (.sc (.ret (.c (.bool false))) .sn) .sn) (.sc (.ife (.nott (.tst (.fc .lows (.cons (.v 19) (.cons (.v 11) (.cons (.v 15) (.cons (.v 4) .nil)))) .nok))) (.sc (.ret (.c (.bool false))) .sn) .sn) .sn)) .sn) (.sc (.asg 22 (.fc .cut (.cons (.v 19) (.cons (.idx (.v 4) (.v 21)) (.cons (.v 4) .nil))) .nok)) (.sc (.asg 20 (.am .popfrom (.v 19) (.cons (.v 22) .nil))) (.sc (.asg 23 (.bi .chr (.cons (.bin .add (.c (.int 97)) (.v 21)) .nil))) (.sc (.ife (.tst (.cmp .ne (.cmp .ne (.comp (.v 0) [23] (.v 20) (.cnd (.tst (.cmp .eq (.idx (.v 0) (.c (.int 1))) (.v 1))))) (.ll .nil)) (.cmp .eq (.v 12) (.v 15)))) (.sc (.ret (.c (.bool false))) .sn) .sn) (.sc (.ife (.tst (.cmp .lt (.v 12) (.v 15))) (.sc (.ife (.tst (.cmp .isnot (.am .push (.v 19) (.cons (.bin .mul (.c (.str (Str.ofString " "))) (.v 12)) (.cons (.v 23) .nil))) (.c .none))) (.sc (.ret (.c (.bool false))) .sn) .sn) (.sc (.asg 24 (.idx (.v 4) (.idx (.v 3) (.v 21)))) (.sc (.asg 25 (.fc .parse (.cons (.bin .add (.bin .add (.bin .add (.bin .add (.bin .add (.c (.str (Str.ofString "229"))) (.v 6)) (.c (.str (Str.ofString "(")))) (.fc .body (.cons (.v 21) (.cons (.v 24) (.cons (.idx (.v 1) (.c (.int 3))) .nil))) .nok)) (.c (.str (Str.ofString ")")))) (.v 7)) (.cons (.tp (.cons (.v 23) (.cons (.c (.int 21)) .nil))) .nil)) .nok)) (.sc (.ife (.or (.orv (.tst (.cmp .ne (.v 25) (.tp (.cons (.v 23) (.cons (.v 24) .nil))))) (.orv (.tst (.cmp .ne (.bi .str (.cons (.idx (.v 25) (.c (.int 1))) .nil)) (.bi .str (.cons (.v 24) .nil)))) .fls))) (.sc (.ret (.c (.bool false))) .sn) .sn) (.sc (.asg 2 (.fc .bleft (.cons (.v 9) (.cons (.idx (.v 25) (.c (.int 1))) .nil)) (.key (.fv .port)))) (.sc (.ife (.or (.orv (.tst (.cmp .ne (.fc .bright (.cons (.v 9) (.cons (.idx (.v 25) (.c (.int 1))) .nil)) (.key (.fv .port))) (.bin .add (.v 2) (.c (.int 1))))) (.orv (.tst (.cmp .isnot (.idx (.v 9) (.v 2)) (.idx (.v 8) (.idx (.v 3) (.v 21))))) .fls))) (.sc (.ret (.c (.bool false))) .sn) .sn) (.sc (.asg 21 (.idx (.idx (.v 9) (.v 2)) (.c (.int 1)))) .sn))))))) .sn) .sn)))))))
noncomputable def l_23 : X := (.ife (.or (.orv (.tst (.cmp .ne (.v 20) (.slc (.v 16) (.som (.v 17)) .non))) (.orv (.tst (.cmp .ne (.bi .len (.cons (.v 20) .nil)) (.bin .sub (.bi .len (.cons (.v 16) .nil)) (.v 17)))) (.orv (.tst (.cmp .ne (.am .popfrom (.v 19) .nil) (.slc (.v 16) .non (.som (.v 17))))) .fls)))) (.sc (.ret (.c (.bool false))) .sn) .sn)
noncomputable def l_24 : X := (.ife (.or (.orv (.tst (.cmp .ne (.ask .alen (.v 19)) (.v 5))) (.orv (.tst (.cmp .ne (.am .pop (.v 19) .nil) (.tp (.cons (.c (.str (Str.ofString ""))) (.cons (.c (.str (Str.ofString ""))) .nil))))) .fls))) (.sc (.ret (.c (.bool false))) .sn) .sn)
noncomputable def l_25 : X := (.ex (.am .push (.v 19) (.cons (.c (.str (Str.ofString " "))) (.cons (.c (.str (Str.ofString "x"))) .nil))))
noncomputable def l_26 : X := (.ife (.or (.orv (.tst (.cmp .isnot (.am .reset (.v 19) (.cons (.v 20) .nil)) (.c .none))) (.orv (.tst (.cmp .ne (.ask .astr (.v 19)) (.sm .join (.c (.str (Str.ofString ""))) (.cons (.comp (.bin .add (.idx (.v 0) (.c (.int 0))) (.idx (.v 0) (.c (.int 1)))) [] (.v 20) .yes) .nil)))) .fls))) (.sc (.ret (.c (.bool false))) .sn) .sn)
noncomputable def l_27 : X := (.ife (.or (.orv (.tst (.cmp .ne (.ask .alen (.v 19)) (.bi .len (.cons (.ask .astr (.v 19)) .nil)))) (.orv (.tst (.cmp .ne (.am .pop (.v 19) .nil) (.idx (.v 20) (.neg (.c (.int 1)))))) (.orv (.tst (.cmp .ne (.am .pcount (.v 19) .nil) (.bin .sub (.bi .len (.cons (.v 20) .nil)) (.c (.int 1))))) .fls)))) (.sc (.ret (.c (.bool false))) .sn) .sn)
noncomputable def l_28 : X := (.ex (.am .reset (.v 19) .nil))
noncomputable def l_29 : X := (.ife (.tst (.cmp .ne (.am .pcount (.v 19) .nil) (.c (.int 0)))) (.sc (.ret (.c (.bool false))) .sn) .sn)
noncomputable def l_30 : X := (.ret (.fc .spoilt (.cons (.v 6) (.cons (.fc .body (.cons (.idx (.v 11) (.c (.int 0))) (.cons (.idx (.v 4) (.idx (.v 3) (.idx (.v 11) (.c (.int 0))))) (.cons (.idx (.v 1) (.c (.int 3))) .nil))) .nok) .nil)) .nok))
noncomputable def b_law : X := (.sc l_0 (.sc l_1 (.sc l_2 (.sc l_3 (.sc l_4 (.sc l_5 (.sc l_6 (.sc l_7 (.sc l_8 (.sc l_9 (.sc l_10 (.sc l_11 (.sc l_12 (.sc l_13 (.sc l_14 (.sc l_15 (.sc l_16 (.sc l_17 (.sc l_18 (.sc l_19 (.sc l_20 (.sc l_21 (.sc l_22 (.sc l_23 (.sc l_24 (.sc l_25 (.sc l_26 (.sc l_27 (.sc l_28 (.sc l_29 (.sc l_30 .sn)))))))))))))))))))))))))))))))
noncomputable def nD : Option AV := some (.d .none)
noncomputable def keyV (k : Option AV) : AV := match k with
  | some k => k
  | .none => .d .none
noncomputable def bindN (g : FN) : Nat × Nat := match g with
  | .cells => (1, 3) | .body => (3, 7) | .spoilt => (2, 6) | .port => (1, 1) | .part => (1, 1) | .turn => (1, 1) | .second => (1, 8) | .cut => (3, 3) | .lows => (4, 6) | .parse => (2, 7) | .law => (1, 26)
  | _ => (100, 0)
noncomputable def isKeyed (g : FN) : Bool := match g with | .insort => true | .bright => true | .bleft => true | _ => false
noncomputable def dfl (n : Nat) : List (Option AV) := match n with | 2 => [some (.d (.int 0)), nD] | 3 => [nD] | _ => []
noncomputable def shapeK (n : Nat) (b : Bool) : Bool := match n with | 2 => b | 3 => !b | 4 => b | _ => false
noncomputable def bindF (g : FN) (args : List AD) (key : Option AV) : Option Fm :=
  bif isKeyed g then bIf (shapeK args.length key.isSome) (some (args.map (fun a => some (.d a)) ++ dfl args.length ++ [some (keyV key)] ++ (match g with | .insort => [] | _ => [.none])))
  else bIf (args.length == (bindN g).1 && key.isNone) (some (args.map (fun a => some (.d a)) ++ List.replicate ((bindN g).2 - (bindN g).1) .none))
noncomputable def bodyF : FN → X
  | .insort => b_insort | .bright => b_bright | .bleft => b_bleft | .cells => b_cells | .body => b_body | .spoilt => b_spoilt | .port => b_port | .part => b_part
  | .second => b_second | .turn => b_turn | .cut => b_cut | .lows => b_lows | .parse => b_parse | .law => b_law
  | _ => .nil
noncomputable def bP {β : Type} (d : AD) (k : Str → Str → Option β) : Option β := match d with
  | .tup xs => two xs fun a b => bS a fun x => bS b fun y => bIf (decide (x.length ≤ 5000) && decide (y.length ≤ 5000)) (k x y)
  | _ => .none
noncomputable def pieceLen : List AD → Option Int
  | [] => some 0
  | d :: r => bP d fun x y => match pieceLen r with | some n => some ((x.length : Int) + y.length + n) | .none => .none
noncomputable def pieceText : List AD → Option (List Nat)
  | [] => some []
  | d :: r => bP d fun x y => match pieceText r with | some n => some (x.cps.toList ++ y.cps.toList ++ n) | .none => .none
noncomputable def isPrim (g : FN) : Bool := match g with
  | .mkacc | .push | .popfrom | .pop | .alen | .astr | .reset | .pcount | .refusal => true
  | _ => false
end Mine
end
section
namespace Mine
open PySem
noncomputable def bopO : BO → Operator
  | .add => .Add | .sub => .Sub | .mul => .Mult | .fdiv => .FloorDiv | .mod => .Mod | .pow => .Pow
noncomputable def copO : CO → CmpOp
  | .eq => .Eq | .ne => .NotEq | .lt => .Lt | .le => .LtE | .is => .Is | .isnot => .IsNot
noncomputable def fName : FN → Str
  | .insort => "insort_right" | .bright => "bisect_right" | .bleft => "bisect_left" | .cells => "_law_cells" | .body => "_law_body" | .refusal => "_law_refusal" | .spoilt => "_law_spoilt"
  | .port => "_law_port" | .part => "_law_part" | .second => "_law_second" | .turn => "_law_turn" | .cut => "_law_cut" | .lows => "_law_lows" | .parse => "parse229" | .law => "law"
  | .mkacc => "_Accumulator" | .push => "push" | .popfrom => "pop_from" | .pop => "pop" | .alen => "len" | .astr => "str" | .reset => "reset" | .pcount => "part_count"
noncomputable def isMeth (g : FN) : Bool := match g with
  | .push | .popfrom | .pop | .reset | .pcount => true
  | _ => false
noncomputable def isAsk (g : FN) : Bool := match g with
  | .alen | .astr => true
  | _ => false
noncomputable def isGlob (g : FN) : Bool := !isMeth g && !isAsk g
noncomputable def biName : BI → Str
  | .len => "len" | .abs => "abs" | .str => "str" | .int => "int" | .ord => "ord" | .chr => "chr" | .max2 => "max" | .minl => "min" | .range => "range"
noncomputable def smName : SM → Str
  | .find => "find" | .split => "split" | .join => "join" | .append => "append" | .insert => "insert"
noncomputable def constO (d : AD) : Const := match d with | .bool b => .bool b | .int i => .int i | .str x => .str x | _ => .none
noncomputable def isConst (d : AD) : Bool := match d with | .none | .bool _ | .int _ | .str _ => true | _ => false
noncomputable def kindIs (sc : Scope) (x : Str) (k : NameKind) : Bool := sc.names.lookup x == some k
noncomputable def freesOf (sc : Scope) : List Str := (sc.names.filter fun p => p.2 == .free).map (·.1)
noncomputable def lamNs : List Str := ["pile", "port", "ports"]
noncomputable def nodupB : List Str → Bool
  | [] => true
  | x :: r => !r.contains x && nodupB r
noncomputable def compScopeOk (scope : Scope) (x : Str) (ns : List Str) : Bool :=
  scope.kind == .function && !scope.isGenerator && !scope.isCoroutine && kindIs scope x .local && scope.names.all (fun p => p.2 != .cell) &&
  scope.names.all (fun p => p.2 != .local || kindIs scope p.1 .local) && ns.all (fun y => kindIs scope y .free && y != "__debug__" && y != "__classdict__") && freesOf scope == ns && !ns.contains x && nodupB ns && x != "pile" && x != "__debug__" && x != "__classdict__" && x != ".0"
inductive Sd where
  | mk (p q : Pos) (u : Nat) (sc : Scope) (x : Str) (ar : Option Arguments) (st : Option Stmt) (ks : List Sd)
noncomputable def Sd.p (t : Sd) : Pos := match t with | .mk p _ _ _ _ _ _ _ => p
noncomputable def Sd.q (t : Sd) : Pos := match t with | .mk _ q _ _ _ _ _ _ => q
noncomputable def Sd.u (t : Sd) : Nat := match t with | .mk _ _ u _ _ _ _ _ => u
noncomputable def Sd.sc (t : Sd) : Scope := match t with | .mk _ _ _ s _ _ _ _ => s
noncomputable def Sd.x (t : Sd) : Str := match t with | .mk _ _ _ _ x _ _ _ => x
noncomputable def Sd.ar (t : Sd) : Option Arguments := match t with | .mk _ _ _ _ _ a _ _ => a
noncomputable def Sd.st (t : Sd) : Option Stmt := match t with | .mk _ _ _ _ _ _ s _ => s
noncomputable def Sd.none : Sd := .mk default default 0 default Str.empty .none .none []
noncomputable def Sd.k (t : Sd) (i : Nat) : Sd := match t with | .mk _ _ _ _ _ _ _ ks => ks.getD i Sd.none
inductive Nd where
  | e (e : Expr) | l (es : List Expr) | t (es : List Expr) | o (e : Option Expr) | k (ks : List Keyword) | s (s : Stmt) | ss (b : List Stmt)
noncomputable def Nd.toE (n : Nd) : Expr := match n with | .e z => z | _ => .Constant .none 0 default
noncomputable def Nd.toL (n : Nd) : List Expr := match n with | .l z => z | _ => []
noncomputable def Nd.toT (n : Nd) : List Expr := match n with | .t z => z | _ => []
noncomputable def Nd.toO (n : Nd) : Option Expr := match n with | .o z => z | _ => .none
noncomputable def Nd.toK (n : Nd) : List Keyword := match n with | .k z => z | _ => []
noncomputable def Nd.toS (n : Nd) : Stmt := match n with | .s z => z | _ => .Pass default
noncomputable def Nd.toB (n : Nd) : List Stmt := match n with | .ss z => z | _ => []
noncomputable def kE (e : Expr) : Nat := match e with
  | .Starred .. => 1
  | .ListComp .. | .SetComp .. | .DictComp .. => 2
  | .Set .. => 3
  | .UnaryOp .Not _ _ | .BoolOp .. | .IfExp .. => 4
  | .Compare _ ops cs _ => bif ops.length == 1 && cs.length == 1 then 0 else 4
  | _ => 0
noncomputable def isn (e : Expr) (k : Nat) : Bool := kE e != k
structure Rn where
  nd : Nd
  ok : Bool
noncomputable def nameE (ns : List Str) (i : Nat) (p : Pos) : Expr := .Name (ns.getD i Str.empty) p
noncomputable def caps (ns : List Str) (cs : List Nat) : List Str := cs.map fun i => ns.getD i Str.empty
noncomputable def inn (ns : List Str) (cs : List Nat) : Bool := cs.all fun i => decide (i < ns.length)
noncomputable def capOk (sc : Scope) (cs : List Str) : Bool := cs.all fun y => kindIs sc y .cell
noncomputable def noCall (e : Expr) : Bool := match e with | .Call .. => false | _ => true
noncomputable def gOk (sc : Scope) (x : Str) : Bool := kindIs sc x .globalImplicit
noncomputable def oneArg (x : Str) (p : Pos) : Arguments := ⟨[], [⟨x, .none, p⟩], .none, [], [], .none, []⟩
noncomputable def un (sc : Scope) (ns : List Str) : X → Sd → Rn
  | .c d, t => ⟨.e (.Constant (constO d) t.u t.p), isConst d⟩
  | .v i, t => ⟨.e (nameE ns i t.p), decide (i < ns.length)⟩
  | .fv g, t => ⟨.e (.Name (fName g) t.p), gOk sc (fName g) && isGlob g && !isPrim g⟩
  | .bin o a b, t => ⟨.e (.BinOp (un sc ns a (t.k 0)).nd.toE (bopO o) (un sc ns b (t.k 1)).nd.toE t.p), (un sc ns a (t.k 0)).ok && (un sc ns b (t.k 1)).ok⟩
  | .neg a, t => ⟨.e (.UnaryOp .USub (un sc ns a (t.k 0)).nd.toE t.p), (un sc ns a (t.k 0)).ok⟩
  | .cmp o a b, t => ⟨.e (.Compare (un sc ns a (t.k 0)).nd.toE [copO o] [(un sc ns b (t.k 1)).nd.toE] t.p), (un sc ns a (t.k 0)).ok && (un sc ns b (t.k 1)).ok && isn (un sc ns b (t.k 1)).nd.toE 3⟩
  | .idx a i, t => ⟨.e (.Subscript (un sc ns a (t.k 0)).nd.toE (un sc ns i (t.k 1)).nd.toE t.p), (un sc ns a (t.k 0)).ok && (un sc ns i (t.k 1)).ok⟩
  | .slc a lo hi, t => ⟨.e (.Subscript (un sc ns a (t.k 0)).nd.toE (.Slice (un sc ns lo (t.k 1)).nd.toO (un sc ns hi (t.k 2)).nd.toO .none t.q) t.p), (un sc ns a (t.k 0)).ok && (un sc ns lo (t.k 1)).ok && (un sc ns hi (t.k 2)).ok⟩
  | .ll es, t => ⟨.e (.List (un sc ns es (t.k 0)).nd.toL t.p), (un sc ns es (t.k 0)).ok⟩
  | .hl es, t => ⟨.e (.List (un sc ns es (t.k 0)).nd.toL t.p), (un sc ns es (t.k 0)).ok⟩
  | .tp es, t => ⟨.e (.Tuple (un sc ns es (t.k 0)).nd.toL t.u t.p), (un sc ns es (t.k 0)).ok⟩
  | .comp elt cs src cond, t =>
    ⟨.e (.ListComp (un t.sc (t.x :: caps ns cs) elt (t.k 0)).nd.toE [⟨.Name t.x t.q, (un sc ns src (t.k 1)).nd.toE, (un t.sc (t.x :: caps ns cs) cond (t.k 2)).nd.toT, 0⟩] t.sc t.p),
      (un t.sc (t.x :: caps ns cs) elt (t.k 0)).ok && (un sc ns src (t.k 1)).ok && (un t.sc (t.x :: caps ns cs) cond (t.k 2)).ok && inn ns cs && capOk sc (caps ns cs) && compScopeOk t.sc t.x (caps ns cs) && isn (un sc ns src (t.k 1)).nd.toE 3⟩
  | .fc g args key, t => ⟨.e (.Call (.Name (fName g) t.q) (un sc ns args (t.k 0)).nd.toL (un sc ns key (t.k 1)).nd.toK t.p), (un sc ns args (t.k 0)).ok && (un sc ns key (t.k 1)).ok && gOk sc (fName g) && isGlob g⟩
  | .cv i args, t => ⟨.e (.Call (nameE ns i t.q) (un sc ns args (t.k 0)).nd.toL [] t.p), (un sc ns args (t.k 0)).ok && decide (i < ns.length)⟩
  | .bi b args, t => ⟨.e (.Call (.Name (biName b) t.q) (un sc ns args (t.k 0)).nd.toL [] t.p), (un sc ns args (t.k 0)).ok && gOk sc (biName b)⟩
  | .sm m o args, t => ⟨.e (.Call (.Attribute (un sc ns o (t.k 0)).nd.toE (smName m) t.q) (un sc ns args (t.k 1)).nd.toL [] t.p), (un sc ns o (t.k 0)).ok && (un sc ns args (t.k 1)).ok && t.q.endLine == t.p.line && noCall (un sc ns o (t.k 0)).nd.toE && decide ((un sc ns args (t.k 1)).nd.toL.length < 30)⟩
  | .am g o args, t => ⟨.e (.Call (.Attribute (un sc ns o (t.k 0)).nd.toE (fName g) t.q) (un sc ns args (t.k 1)).nd.toL [] t.p), (un sc ns o (t.k 0)).ok && (un sc ns args (t.k 1)).ok && isMeth g && t.q.endLine == t.p.line && noCall (un sc ns o (t.k 0)).nd.toE && decide ((un sc ns args (t.k 1)).nd.toL.length < 30)⟩
  | .ask g o, t => ⟨.e (.Call (.Name (fName g) t.q) [(un sc ns o ((t.k 0).k 0)).nd.toE] [] t.p), (un sc ns o ((t.k 0).k 0)).ok && isn (un sc ns o ((t.k 0).k 0)).nd.toE 1 && isAsk g && gOk sc (fName g)⟩
  | .lam b cs, t => ⟨.e (.Lambda (oneArg t.x t.q) (un t.sc (t.x :: caps ns cs) b (t.k 0)).nd.toE t.sc t.p),
      (un t.sc (t.x :: caps ns cs) b (t.k 0)).ok && inn ns cs && capOk sc (caps ns cs) && compScopeOk t.sc t.x (caps ns cs) && ns == lamNs && t.p.line == 170 && t.p.col == 61⟩
  | .nil, _ => ⟨.l [], true⟩
  | .cons x r, t => ⟨.l ((un sc ns x (t.k 0)).nd.toE :: (un sc ns r (t.k 1)).nd.toL), (un sc ns x (t.k 0)).ok && (un sc ns r (t.k 1)).ok && isn (un sc ns x (t.k 0)).nd.toE 1⟩
  | .non, _ => ⟨.o .none, true⟩
  | .som x, t => ⟨.o (some (un sc ns x t).nd.toE), (un sc ns x t).ok⟩
  | .nok, _ => ⟨.k [], true⟩
  | .key x, t => ⟨.k [⟨some "key", (un sc ns x (t.k 0)).nd.toE, t.p⟩], (un sc ns x (t.k 0)).ok⟩
  | .tst x, t => ⟨.e (un sc ns x t).nd.toE, (un sc ns x t).ok && isn (un sc ns x t).nd.toE 4⟩
  | .cmp2 o1 o2 a b c, t => ⟨.e (.Compare (un sc ns a (t.k 0)).nd.toE [copO o1, copO o2] [(un sc ns b (t.k 1)).nd.toE, (un sc ns c (t.k 2)).nd.toE] t.p),
      (un sc ns a (t.k 0)).ok && (un sc ns b (t.k 1)).ok && (un sc ns c (t.k 2)).ok && isn (un sc ns c (t.k 2)).nd.toE 3⟩
  | .nott a, t => ⟨.e (.UnaryOp .Not (un sc ns a (t.k 0)).nd.toE t.p), (un sc ns a (t.k 0)).ok⟩
  | .or ts, t => ⟨.e (.BoolOp .Or (un sc ns ts (t.k 0)).nd.toT t.p), (un sc ns ts (t.k 0)).ok⟩
  | .fls, _ => ⟨.t [], true⟩
  | .orv a r, t => ⟨.t ((un sc ns a (t.k 0)).nd.toE :: (un sc ns r (t.k 1)).nd.toT), (un sc ns a (t.k 0)).ok && (un sc ns r (t.k 1)).ok⟩
  | .yes, _ => ⟨.t [], true⟩
  | .cnd a, t => ⟨.t [(un sc ns a (t.k 0)).nd.toE], (un sc ns a (t.k 0)).ok⟩
  | .asg i e, t => ⟨.s (.Assign [nameE ns i t.q] (un sc ns e (t.k 0)).nd.toE t.p), (un sc ns e (t.k 0)).ok && decide (i < ns.length) && (isn (un sc ns e (t.k 0)).nd.toE 2 || kindIs sc (ns.getD i Str.empty) .cell)⟩
  | .asgc i elt cs src cond, t =>
    ⟨.s (.Assign [nameE ns i t.q] (.ListComp (un (t.k 0).sc ((t.k 0).x :: caps ns cs) elt ((t.k 0).k 0)).nd.toE [⟨.Name (t.k 0).x (t.k 0).q, (un sc ns src ((t.k 0).k 1)).nd.toE, (un (t.k 0).sc ((t.k 0).x :: caps ns cs) cond ((t.k 0).k 2)).nd.toT, 0⟩] (t.k 0).sc (t.k 0).p) t.p),
      (un (t.k 0).sc ((t.k 0).x :: caps ns cs) elt ((t.k 0).k 0)).ok && (un sc ns src ((t.k 0).k 1)).ok && (un (t.k 0).sc ((t.k 0).x :: caps ns cs) cond ((t.k 0).k 2)).ok && inn ns cs && capOk sc (caps ns cs) && compScopeOk (t.k 0).sc (t.k 0).x (caps ns cs) &&
      isn (un sc ns src ((t.k 0).k 1)).nd.toE 3 && decide (i < ns.length) && kindIs sc (ns.getD i Str.empty) .local && t.q.line == (t.k 0).p.line && !((t.k 0).sc.names.any fun n => n.1 == ns.getD i Str.empty && (n.2 == .local || n.2 == .cell))⟩
  | .aug i ix e, t => ⟨.s (.AugAssign (.Subscript (nameE ns i (t.k 2).p) (un sc ns ix (t.k 0)).nd.toE t.q) .Add (un sc ns e (t.k 1)).nd.toE t.p), (un sc ns ix (t.k 0)).ok && (un sc ns e (t.k 1)).ok && decide (i < ns.length)⟩
  | .ex e, t => ⟨.s (.Expr (un sc ns e (t.k 0)).nd.toE t.p), (un sc ns e (t.k 0)).ok && isn (un sc ns e (t.k 0)).nd.toE 2⟩
  | .ife a b o, t => ⟨.s (.If (un sc ns a (t.k 0)).nd.toE (un sc ns b (t.k 1)).nd.toB (un sc ns o (t.k 2)).nd.toB t.p), (un sc ns a (t.k 0)).ok && (un sc ns b (t.k 1)).ok && (un sc ns o (t.k 2)).ok⟩
  | .fr i src b, t => ⟨.s (.For (nameE ns i t.q) (un sc ns src (t.k 0)).nd.toE (un sc ns b (t.k 1)).nd.toB [] t.p), (un sc ns src (t.k 0)).ok && (un sc ns b (t.k 1)).ok && decide (i < ns.length) && isn (un sc ns src (t.k 0)).nd.toE 3⟩
  | .wh a b, t => ⟨.s (.While (un sc ns a (t.k 0)).nd.toE (un sc ns b (t.k 1)).nd.toB [] t.p), (un sc ns a (t.k 0)).ok && (un sc ns b (t.k 1)).ok⟩
  | .ret e, t => ⟨.s (.Return (some (un sc ns e (t.k 0)).nd.toE) t.p), (un sc ns e (t.k 0)).ok⟩
  | .boom, t => ⟨.s (t.st.getD (.Pass default)), true⟩
  | .sn, _ => ⟨.ss [], true⟩
  | .sc s r, t => ⟨.ss ((un sc ns s (t.k 0)).nd.toS :: (un sc ns r (t.k 1)).nd.toB), (un sc ns s (t.k 0)).ok && (un sc ns r (t.k 1)).ok⟩
noncomputable def sp (p q : Pos) (ks : List Sd) : Sd := .mk p q 0 default Str.empty .none .none ks
noncomputable def sdL (f : Expr → Sd) : List Expr → Sd
  | [] => Sd.none
  | e :: r => sp default default [f e, sdL f r]
noncomputable def sdO (f : Expr → Sd) (e : Option Expr) : Sd := match e with | some e => f e | .none => Sd.none
noncomputable def sdE : Nat → Expr → Sd
  | 0, _ => Sd.none
  | n + 1, e => match e with
    | .Constant _ k p => .mk p default k default Str.empty .none .none []
    | .Name _ p => sp p default []
    | .BinOp a _ b p => sp p default [sdE n a, sdE n b]
    | .UnaryOp _ a p => sp p default [sdE n a]
    | .Compare a _ cs p => sp p default (sdE n a :: cs.map (sdE n))
    | .Subscript a i p => (match i with
      | .Slice lo hi _ q => sp p q [sdE n a, sdO (sdE n) lo, sdO (sdE n) hi]
      | _ => sp p default [sdE n a, sdE n i])
    | .List es p => sp p default [sdL (sdE n) es]
    | .Tuple es k p => .mk p default k default Str.empty .none .none [sdL (sdE n) es]
    | .BoolOp _ es p => sp p default [sdL (sdE n) es]
    | .ListComp f gs sc p => (match gs with
      | [⟨.Name x q, it, ifs, _⟩] => .mk p q 0 sc x .none .none [sdE n f, sdE n it, sdL (sdE n) ifs]
      | _ => Sd.none)
    | .Lambda ar b sc p => (match ar.args with
      | [⟨x, _, q⟩] => .mk p q 0 sc x .none .none [sdE n b]
      | _ => Sd.none)
    | .Call f xs ks p => (match f with
      | .Attribute v _ q => sp p q [sdE n v, sdL (sdE n) xs]
      | .Name _ q => sp p q [sdL (sdE n) xs, match ks with | [⟨_, v, kp⟩] => sp kp default [sdE n v] | _ => Sd.none]
      | _ => Sd.none)
    | _ => Sd.none
noncomputable def sdB (f : Stmt → Sd) : List Stmt → Sd
  | [] => Sd.none
  | e :: r => sp default default [f e, sdB f r]
noncomputable def posE (e : Expr) : Pos := match e with | .Name _ p => p | _ => default
noncomputable def sdS : Nat → Stmt → Sd
  | 0, _ => Sd.none
  | n + 1, s => match s with
    | .Assign ts v p => sp p (match ts with | [x] => posE x | _ => default) [sdE n v]
    | .AugAssign t _ v p => (match t with
      | .Subscript x i q => sp p q [sdE n i, sdE n v, sp (posE x) default []]
      | _ => Sd.none)
    | .Expr e p => sp p default [sdE n e]
    | .If a b o p => sp p default [sdE n a, sdB (sdS n) b, sdB (sdS n) o]
    | .For x it b _ p => sp p (posE x) [sdE n it, sdB (sdS n) b]
    | .While a b _ p => sp p default [sdE n a, sdB (sdS n) b]
    | .Return e p => sp p default [sdO (sdE n) e]
    | .Raise .. => .mk default default 0 default Str.empty .none (some s) []
    | _ => Sd.none
end Mine
end
section
namespace Mine
open PySem PySem.W
noncomputable def findDef (x : Str) : List Stmt → Option Stmt
  | [] => .none
  | s :: r => match s with
    | .FunctionDef n .. => bif n == x then some s else findDef x r
    | _ => findDef x r
noncomputable def findCls (x : Str) : List Stmt → List Stmt
  | [] => []
  | s :: r => match s with
    | .ClassDef n _ _ b .. => bif n == x then b else findCls x r
    | _ => findCls x r
noncomputable def topBody : List Stmt := PySem.Challenge.pw_xh0014_01.main.body
noncomputable def defOf (g : FN) : Option Stmt := findDef (fName g) topBody
noncomputable def stBody (s : Option Stmt) : List Stmt := match s with | some (.FunctionDef _ _ b _ _ _ _ _ _ _) => b | _ => []
noncomputable def stScope (s : Option Stmt) : Scope := match s with | some (.FunctionDef _ _ _ _ _ _ sc _ _ _) => sc | _ => default
noncomputable def stArgs (s : Option Stmt) : Arguments := match s with | some (.FunctionDef _ a _ _ _ _ _ _ _ _) => a | _ => default
noncomputable def bodyOf (g : FN) : List Stmt := stBody (defOf g)
noncomputable def scopeOf (g : FN) : Scope := stScope (defOf g)
noncomputable def argsOf (g : FN) : Arguments := stArgs (defOf g)
noncomputable def methOf (x : Str) : Option Stmt := findDef x (findCls "_Accumulator" topBody)
noncomputable def mBody (x : Str) : List Stmt := stBody (methOf x)
noncomputable def mScope (x : Str) : Scope := stScope (methOf x)
noncomputable def mArgs (x : Str) : Arguments := stArgs (methOf x)
noncomputable abbrev fnR (name qual : Str) (params : Arguments) (body : List Stmt) (scope : Scope) (cl : List (Str × Addr)) (dV kV pm cdv ct : Value) : FuncData :=
  { name, qualname := qual, params, body := .stmts body, scope, globals := mainGlobals, closure := cl, defaults := dV, kwdefaults := kV, doc := .none, pyModule := pm, annotations := none, code := cdv, closureTuple := ct, builtins := builtinsNs }
noncomputable def accFns : List (Str × Value) := [("__init__", .ref 65), ("push", .ref 72), ("pop_from", .ref 80), ("pop", .ref 88), ("__len__", .ref 95), ("__str__", .ref 102), ("reset", .ref 110), ("part_count", .ref 125), ("is_onlyws", .ref 117)]
noncomputable def accRest : List Str := ["__module__", "__firstlineno__", "__static_attributes__", "__dict__", "__weakref__", "__doc__"]
noncomputable abbrev clCell : List (Str × Addr) := [("__class__", 52)]
noncomputable def slotsOf : FN → List Str
  | .insort => ["a", "x", "lo", "hi", "key"]
  | .bright => ["a", "x", "lo", "hi", "key", "mid"]
  | .bleft => ["a", "x", "lo", "hi", "key", "mid"]
  | .cells => ["script", "cells", "place"]
  | .body => ["place", "port", "cell", "mark", "figures", "one", "two"]
  | .spoilt => ["head", "body", "code", "mark", "worse", "text"]
  | .port => ["entry"]
  | .part => ["entry"]
  | .turn => ["piece"]
  | .second => ["entries", "book", "entry", "parts", "part", "begin", "alike", "behind"]
  | .cut => ["pile", "port", "ports"]
  | .lows => ["pile", "plain", "caught", "ports", "begin", "place"]
  | .parse => ["resp", "peer", "left", "right", "parts", "host", "port"]
  | .law => ["script", "cells", "place", "way", "ports", "first", "head", "tail", "entries", "book", "entry", "plain", "turn", "least", "comings", "caught", "due", "kept", "text", "pile", "taken", "here", "cut", "letter", "port", "told"]
  | _ => []
noncomputable def sideOf (g : FN) : Sd := sdB (sdS 40) (bodyOf g)
noncomputable def unOf (g : FN) : Rn := un (scopeOf g) (slotsOf g) (bodyF g) (sideOf g)
noncomputable abbrev P1 (l a b : Nat) : Pos := ⟨l, a, l, b⟩
noncomputable def nthS (b : List Stmt) (i : Nat) : Stmt := b.getD i (.Pass default)
noncomputable def stV (s : Stmt) : Expr := match s with | .Expr e _ => e | .Assign _ v _ => v | .Return (some e) _ => e | _ => .Constant .none 0 default
noncomputable def exArgs (e : Expr) : List Expr := match e with | .Call _ xs _ _ => xs | _ => []
noncomputable def ifT (s : Stmt) : Expr := match s with | .If t _ _ _ => t | _ => .Constant .none 0 default
noncomputable def ifB (s : Stmt) : List Stmt := match s with | .If _ b _ _ => b | _ => []
noncomputable def tryB (s : Stmt) : List Stmt := match s with | .Try b _ _ _ _ => b | _ => []
noncomputable def genSc (st : List Stmt) : Scope := match st with
  | [.Return (some (.Call _ (.GeneratorExp _ _ sc _ :: _) _ _)) _] => sc
  | _ => default
noncomputable def frag : List (Addr × Obj) := [
  (4, { cls := .type "module", dict := some 0, data := .plain, slots := #[] }),
  (22, { cls := .type "tuple", dict := none, data := .seq #[.int 0 196, .none] 0, slots := #[] }),
  (29, { cls := .type "code", dict := none, data := .fields #[.str "insort_right" 198, .str "insort_right" 199, .str "/claim/cut.py" 200, .int 5 0, .int 4 0, .int 0 0, .int 1 0, .int 3 0, .ref 24, .bool true, .int 181 0, .ref 25, .none, .ref 26, .ref 27, .ref 28, .int 206 0, .int 5 0, .str "/claim/cut.py" 207], slots := #[] }),
  (30, { cls := .type "function", dict := none, data := .func (fnR "insort_right" "insort_right" (argsOf .insort) (bodyOf .insort) (scopeOf .insort) [] (.ref 22) (.ref 23) (.str "cpy313.bisect" 194) (.ref 29) (.none)), slots := #[] }),
  (31, { cls := .type "tuple", dict := none, data := .seq #[.int 0 209, .none] 0, slots := #[] }),
  (38, { cls := .type "code", dict := none, data := .fields #[.str "bisect_right" 211, .str "bisect_right" 212, .str "/claim/cut.py" 213, .int 11 0, .int 4 0, .int 0 0, .int 1 0, .int 3 0, .ref 33, .bool true, .int 181 0, .ref 34, .none, .ref 35, .ref 36, .ref 37, .int 220 0, .int 11 0, .str "/claim/cut.py" 221], slots := #[] }),
  (39, { cls := .type "function", dict := none, data := .func (fnR "bisect_right" "bisect_right" (argsOf .bright) (bodyOf .bright) (scopeOf .bright) [] (.ref 31) (.ref 32) (.str "cpy313.bisect" 194) (.ref 38) (.none)), slots := #[] }),
  (40, { cls := .type "tuple", dict := none, data := .seq #[.int 0 223, .none] 0, slots := #[] }),
  (47, { cls := .type "code", dict := none, data := .fields #[.str "bisect_left" 225, .str "bisect_left" 226, .str "/claim/cut.py" 227, .int 31 0, .int 4 0, .int 0 0, .int 1 0, .int 3 0, .ref 42, .bool true, .int 181 0, .ref 43, .none, .ref 44, .ref 45, .ref 46, .int 234 0, .int 31 0, .str "/claim/cut.py" 235], slots := #[] }),
  (48, { cls := .type "function", dict := none, data := .func (fnR "bisect_left" "bisect_left" (argsOf .bleft) (bodyOf .bleft) (scopeOf .bleft) [] (.ref 40) (.ref 41) (.str "cpy313.bisect" 194) (.ref 47) (.none)), slots := #[] }),
  (52, { cls := .type "cell", dict := none, data := .cell (some (.ref 128)), slots := #[] }),
  (57, { cls := .type "tuple", dict := none, data := .seq #[.int 0 253] 0, slots := #[] }),
  (64, { cls := .type "code", dict := none, data := .fields #[.str "__init__" 254, .str "_Accumulator.__init__" 255, .str "/claim/cut.py" 256, .int 55 0, .int 2 0, .int 0 0, .int 0 0, .int 3 0, .ref 59, .bool true, .int 181 0, .ref 60, .none, .ref 61, .ref 62, .ref 63, .int 260 0, .int 55 0, .str "/claim/cut.py" 261], slots := #[] }),
  (65, { cls := .type "function", dict := none, data := .func (fnR "__init__" "_Accumulator.__init__" (mArgs "__init__") (mBody "__init__") (mScope "__init__") clCell (.ref 57) (.none) (.str "cpy313.email.header" 237) (.ref 64) (.ref 58)), slots := #[] }),
  (71, { cls := .type "code", dict := none, data := .fields #[.str "push" 263, .str "_Accumulator.push" 264, .str "/claim/cut.py" 265, .int 59 0, .int 3 0, .int 0 0, .int 0 0, .int 3 0, .ref 66, .bool true, .int 181 0, .ref 67, .none, .ref 68, .ref 69, .ref 70, .int 269 0, .int 59 0, .str "/claim/cut.py" 270], slots := #[] }),
  (72, { cls := .type "function", dict := none, data := .func (fnR "push" "_Accumulator.push" (mArgs "push") (mBody "push") (mScope "push") [] (.none) (.none) (.str "cpy313.email.header" 237) (.ref 71) (.none)), slots := #[] }),
  (73, { cls := .type "tuple", dict := none, data := .seq #[.int 0 272] 0, slots := #[] }),
  (79, { cls := .type "code", dict := none, data := .fields #[.str "pop_from" 273, .str "_Accumulator.pop_from" 274, .str "/claim/cut.py" 275, .int 62 0, .int 2 0, .int 0 0, .int 0 0, .int 3 0, .ref 74, .bool true, .int 181 0, .ref 75, .none, .ref 76, .ref 77, .ref 78, .int 279 0, .int 62 0, .str "/claim/cut.py" 280], slots := #[] }),
  (80, { cls := .type "function", dict := none, data := .func (fnR "pop_from" "_Accumulator.pop_from" (mArgs "pop_from") (mBody "pop_from") (mScope "pop_from") [] (.ref 73) (.none) (.str "cpy313.email.header" 237) (.ref 79) (.none)), slots := #[] }),
  (87, { cls := .type "code", dict := none, data := .fields #[.str "pop" 282, .str "_Accumulator.pop" 283, .str "/claim/cut.py" 284, .int 67 0, .int 1 0, .int 0 0, .int 0 0, .int 3 0, .ref 82, .bool true, .int 181 0, .ref 83, .none, .ref 84, .ref 85, .ref 86, .int 287 0, .int 67 0, .str "/claim/cut.py" 288], slots := #[] }),
  (88, { cls := .type "function", dict := none, data := .func (fnR "pop" "_Accumulator.pop" (mArgs "pop") (mBody "pop") (mScope "pop") clCell (.none) (.none) (.str "cpy313.email.header" 237) (.ref 87) (.ref 81)), slots := #[] }),
  (90, { cls := .none, dict := none, data := .fields #[], slots := #[] }),
  (94, { cls := .type "code", dict := none, data := .fields #[.str "__len__" 290, .str "_Accumulator.__len__" 291, .str "/claim/cut.py" 292, .int 72 0, .int 1 0, .int 0 0, .int 0 0, .int 3 0, .ref 89, .bool true, .int 181 0, .ref 90, .none, .ref 91, .ref 92, .ref 93, .int 294 0, .int 72 0, .str "/claim/cut.py" 295], slots := #[] }),
  (95, { cls := .type "function", dict := none, data := .func (fnR "__len__" "_Accumulator.__len__" (mArgs "__len__") (mBody "__len__") (mScope "__len__") [] (.none) (.none) (.str "cpy313.email.header" 237) (.ref 94) (.none)), slots := #[] }),
  (97, { cls := .none, dict := none, data := .fields #[], slots := #[] }),
  (101, { cls := .type "code", dict := none, data := .fields #[.str "__str__" 297, .str "_Accumulator.__str__" 298, .str "/claim/cut.py" 299, .int 75 0, .int 1 0, .int 0 0, .int 0 0, .int 3 0, .ref 96, .bool true, .int 181 0, .ref 97, .none, .ref 98, .ref 99, .ref 100, .int 301 0, .int 75 0, .str "/claim/cut.py" 302], slots := #[] }),
  (102, { cls := .type "function", dict := none, data := .func (fnR "__str__" "_Accumulator.__str__" (mArgs "__str__") (mBody "__str__") (mScope "__str__") [] (.none) (.none) (.str "cpy313.email.header" 237) (.ref 101) (.none)), slots := #[] }),
  (103, { cls := .type "tuple", dict := none, data := .seq #[.none] 0, slots := #[] }),
  (109, { cls := .type "code", dict := none, data := .fields #[.str "reset" 304, .str "_Accumulator.reset" 305, .str "/claim/cut.py" 306, .int 78 0, .int 2 0, .int 0 0, .int 0 0, .int 3 0, .ref 104, .bool true, .int 181 0, .ref 105, .none, .ref 106, .ref 107, .ref 108, .int 309 0, .int 78 0, .str "/claim/cut.py" 310], slots := #[] }),
  (110, { cls := .type "function", dict := none, data := .func (fnR "reset" "_Accumulator.reset" (mArgs "reset") (mBody "reset") (mScope "reset") [] (.ref 103) (.none) (.str "cpy313.email.header" 237) (.ref 109) (.none)), slots := #[] }),
  (117, { cls := .type "function", dict := none, data := .func (fnR "is_onlyws" "_Accumulator.is_onlyws" (mArgs "is_onlyws") (mBody "is_onlyws") (mScope "is_onlyws") [] (.none) (.none) (.str "cpy313.email.header" 237) (.ref 116) (.none)), slots := #[] }),
  (124, { cls := .type "code", dict := none, data := .fields #[.str "part_count" 319, .str "_Accumulator.part_count" 320, .str "/claim/cut.py" 321, .int 87 0, .int 1 0, .int 0 0, .int 0 0, .int 3 0, .ref 119, .bool true, .int 181 0, .ref 120, .none, .ref 121, .ref 122, .ref 123, .int 324 0, .int 87 0, .str "/claim/cut.py" 325], slots := #[] }),
  (125, { cls := .type "function", dict := none, data := .func (fnR "part_count" "_Accumulator.part_count" (mArgs "part_count") (mBody "part_count") (mScope "part_count") clCell (.none) (.none) (.str "cpy313.email.header" 237) (.ref 124) (.ref 118)), slots := #[] }),
  (128, { cls := .type "type", dict := none, data := .cls { name := "_Accumulator", bases := [.type "list"], mro := [.ref 128, .type "list", .type "object"], ns := 127, qualname := "_Accumulator", hasDict := true, slotNames := [], subclasses := [], abstract := false, collection := none }, slots := #[some (.ref 49), none, some (.str "_Accumulator" 241), some (.str "_Accumulator" 249), some (.builtin "list.__new__"), some (.bool true)] }),
  (142, { cls := .type "type", dict := none, data := .cls { name := "Error", bases := [.type "Exception"], mro := [.ref 142, .type "Exception", .type "BaseException", .type "object"], ns := 141, qualname := "Error", hasDict := true, slotNames := [], subclasses := [.ref 155, .ref 167], abstract := false, collection := none }, slots := #[some (.ref 133), none, some (.str "Error" 339), some (.str "Error" 347), some (.builtin "Exception.__new__"), some (.bool true)] }),
  (155, { cls := .type "type", dict := none, data := .cls { name := "error_reply", bases := [.ref 142], mro := [.ref 155, .ref 142, .type "Exception", .type "BaseException", .type "object"], ns := 154, qualname := "error_reply", hasDict := true, slotNames := [], subclasses := [], abstract := false, collection := none }, slots := #[some (.ref 146), none, some (.str "error_reply" 359), some (.str "error_reply" 367), some (.builtin "Exception.__new__"), some (.bool true)] }),
  (167, { cls := .type "type", dict := none, data := .cls { name := "error_proto", bases := [.ref 142], mro := [.ref 167, .ref 142, .type "Exception", .type "BaseException", .type "object"], ns := 166, qualname := "error_proto", hasDict := true, slotNames := [], subclasses := [], abstract := false, collection := none }, slots := #[some (.ref 158), none, some (.str "error_proto" 375), some (.str "error_proto" 383), some (.builtin "Exception.__new__"), some (.bool true)] }),
  (175, { cls := .type "code", dict := none, data := .fields #[.str "parse229" 391, .str "parse229" 392, .str "/claim/cut.py" 393, .int 96 0, .int 2 0, .int 0 0, .int 0 0, .int 3 0, .ref 170, .bool true, .int 181 0, .ref 171, .none, .ref 172, .ref 173, .ref 174, .int 401 0, .int 96 0, .str "/claim/cut.py" 402], slots := #[] }),
  (176, { cls := .type "function", dict := none, data := .func (fnR "parse229" "parse229" (argsOf .parse) (bodyOf .parse) (scopeOf .parse) [] (.none) (.none) (.str "cpy313.ftplib" 337) (.ref 175) (.none)), slots := #[] }),
  (182, { cls := .type "code", dict := none, data := .fields #[.str "_law_cells" 406, .str "_law_cells" 407, .str "/claim/cut.py" 408, .int 114 0, .int 1 0, .int 0 0, .int 0 0, .int 3 0, .ref 177, .bool true, .int 181 0, .ref 178, .none, .ref 179, .ref 180, .ref 181, .int 412 0, .int 114 0, .str "/claim/cut.py" 413], slots := #[] }),
  (183, { cls := .type "function", dict := none, data := .func (fnR "_law_cells" "_law_cells" (argsOf .cells) (bodyOf .cells) (scopeOf .cells) [] (.none) (.none) (.str "law_xh0014_01" 404) (.ref 182) (.none)), slots := #[] }),
  (189, { cls := .type "code", dict := none, data := .fields #[.str "_law_body" 415, .str "_law_body" 416, .str "/claim/cut.py" 417, .int 119 0, .int 3 0, .int 0 0, .int 0 0, .int 3 0, .ref 184, .bool true, .int 181 0, .ref 185, .none, .ref 186, .ref 187, .ref 188, .int 425 0, .int 119 0, .str "/claim/cut.py" 426], slots := #[] }),
  (190, { cls := .type "function", dict := none, data := .func (fnR "_law_body" "_law_body" (argsOf .body) (bodyOf .body) (scopeOf .body) [] (.none) (.none) (.str "law_xh0014_01" 404) (.ref 189) (.none)), slots := #[] }),
  (196, { cls := .type "code", dict := none, data := .fields #[.str "_law_refusal" 428, .str "_law_refusal" 429, .str "/claim/cut.py" 430, .int 127 0, .int 1 0, .int 0 0, .int 0 0, .int 3 0, .ref 191, .bool true, .int 181 0, .ref 192, .none, .ref 193, .ref 194, .ref 195, .int 433 0, .int 127 0, .str "/claim/cut.py" 434], slots := #[] }),
  (197, { cls := .type "function", dict := none, data := .func (fnR "_law_refusal" "_law_refusal" (argsOf .refusal) (bodyOf .refusal) (scopeOf .refusal) [] (.none) (.none) (.str "law_xh0014_01" 404) (.ref 196) (.none)), slots := #[] }),
  (203, { cls := .type "code", dict := none, data := .fields #[.str "_law_spoilt" 436, .str "_law_spoilt" 437, .str "/claim/cut.py" 438, .int 135 0, .int 2 0, .int 0 0, .int 0 0, .int 3 0, .ref 198, .bool true, .int 181 0, .ref 199, .none, .ref 200, .ref 201, .ref 202, .int 445 0, .int 135 0, .str "/claim/cut.py" 446], slots := #[] }),
  (204, { cls := .type "function", dict := none, data := .func (fnR "_law_spoilt" "_law_spoilt" (argsOf .spoilt) (bodyOf .spoilt) (scopeOf .spoilt) [] (.none) (.none) (.str "law_xh0014_01" 404) (.ref 203) (.none)), slots := #[] }),
  (210, { cls := .type "code", dict := none, data := .fields #[.str "_law_port" 448, .str "_law_port" 449, .str "/claim/cut.py" 450, .int 147 0, .int 1 0, .int 0 0, .int 0 0, .int 3 0, .ref 205, .bool true, .int 181 0, .ref 206, .none, .ref 207, .ref 208, .ref 209, .int 452 0, .int 147 0, .str "/claim/cut.py" 453], slots := #[] }),
  (211, { cls := .type "function", dict := none, data := .func (fnR "_law_port" "_law_port" (argsOf .port) (bodyOf .port) (scopeOf .port) [] (.none) (.none) (.str "law_xh0014_01" 404) (.ref 210) (.none)), slots := #[] }),
  (217, { cls := .type "code", dict := none, data := .fields #[.str "_law_part" 455, .str "_law_part" 456, .str "/claim/cut.py" 457, .int 149 0, .int 1 0, .int 0 0, .int 0 0, .int 3 0, .ref 212, .bool true, .int 181 0, .ref 213, .none, .ref 214, .ref 215, .ref 216, .int 459 0, .int 149 0, .str "/claim/cut.py" 460], slots := #[] }),
  (218, { cls := .type "function", dict := none, data := .func (fnR "_law_part" "_law_part" (argsOf .part) (bodyOf .part) (scopeOf .part) [] (.none) (.none) (.str "law_xh0014_01" 404) (.ref 217) (.none)), slots := #[] }),
  (222, { cls := .type "code", dict := none, data := .fields #[.str "_law_second" 462, .str "_law_second" 463, .str "/claim/cut.py" 464, .int 151 0, .int 1 0, .int 0 0, .int 0 0, .int 3 0, .ref 219, .bool true, .int 181 0, .ref 220, .none, .none, .none, .ref 221, .int 465 0, .int 151 0, .str "/claim/cut.py" 466], slots := #[] }),
  (223, { cls := .type "function", dict := none, data := .func (fnR "_law_second" "_law_second" (argsOf .second) (bodyOf .second) (scopeOf .second) [] (.none) (.none) (.str "law_xh0014_01" 404) (.ref 222) (.none)), slots := #[] }),
  (229, { cls := .type "code", dict := none, data := .fields #[.str "_law_turn" 468, .str "_law_turn" 469, .str "/claim/cut.py" 470, .int 167 0, .int 1 0, .int 0 0, .int 0 0, .int 3 0, .ref 224, .bool true, .int 181 0, .ref 225, .none, .ref 226, .ref 227, .ref 228, .int 472 0, .int 167 0, .str "/claim/cut.py" 473], slots := #[] }),
  (230, { cls := .type "function", dict := none, data := .func (fnR "_law_turn" "_law_turn" (argsOf .turn) (bodyOf .turn) (scopeOf .turn) [] (.none) (.none) (.str "law_xh0014_01" 404) (.ref 229) (.none)), slots := #[] }),
  (232, { cls := .none, dict := none, data := .fields #[], slots := #[] }),
  (236, { cls := .type "code", dict := none, data := .fields #[.str "_law_cut" 475, .str "_law_cut" 476, .str "/claim/cut.py" 477, .int 169 0, .int 3 0, .int 0 0, .int 0 0, .int 3 0, .ref 231, .bool true, .int 181 0, .ref 232, .none, .ref 233, .ref 234, .ref 235, .int 482 0, .int 169 0, .str "/claim/cut.py" 483], slots := #[] }),
  (237, { cls := .type "function", dict := none, data := .func (fnR "_law_cut" "_law_cut" (argsOf .cut) (bodyOf .cut) (scopeOf .cut) [] (.none) (.none) (.str "law_xh0014_01" 404) (.ref 236) (.none)), slots := #[] }),
  (241, { cls := .type "code", dict := none, data := .fields #[.str "_law_lows" 485, .str "_law_lows" 486, .str "/claim/cut.py" 487, .int 171 0, .int 4 0, .int 0 0, .int 0 0, .int 3 0, .ref 238, .bool true, .int 181 0, .ref 239, .none, .none, .none, .ref 240, .int 488 0, .int 171 0, .str "/claim/cut.py" 489], slots := #[] }),
  (242, { cls := .type "function", dict := none, data := .func (fnR "_law_lows" "_law_lows" (argsOf .lows) (bodyOf .lows) (scopeOf .lows) [] (.none) (.none) (.str "law_xh0014_01" 404) (.ref 241) (.none)), slots := #[] }),
  (246, { cls := .type "code", dict := none, data := .fields #[.str "law" 491, .str "law" 492, .str "/claim/cut.py" 493, .int 177 0, .int 1 0, .int 0 0, .int 0 0, .int 3 0, .ref 243, .bool true, .int 181 0, .ref 244, .none, .none, .none, .ref 245, .int 494 0, .int 177 0, .str "/claim/cut.py" 495], slots := #[] }),
  (247, { cls := .type "function", dict := none, data := .func (fnR "law" "law" (argsOf .law) (bodyOf .law) (scopeOf .law) [] (.none) (.none) (.str "law_xh0014_01" 404) (.ref 246) (.none)), slots := #[] })]
noncomputable def nsTab : List (Addr × List (Str × Option Value)) := [
  (3, [("insort_right", some (.ref 30)), ("bisect_right", some (.ref 39)), ("bisect_left", some (.ref 48)), ("_law_cells", some (.ref 183)), ("_law_body", some (.ref 190)), ("_law_refusal", some (.ref 197)), ("_law_spoilt", some (.ref 204)), ("_law_port", some (.ref 211)), ("_law_part", some (.ref 218)),
    ("_law_second", some (.ref 223)), ("_law_turn", some (.ref 230)), ("_law_cut", some (.ref 237)), ("_law_lows", some (.ref 242)), ("parse229", some (.ref 176)), ("law", some (.ref 247)), ("_Accumulator", some (.ref 128)), ("error_reply", some (.ref 155)), ("error_proto", some (.ref 167)),
    ("len", none), ("abs", none), ("str", none), ("int", none), ("ord", none), ("chr", none), ("max", none), ("min", none), ("range", none), ("EMPTYSTRING", some (.str ⟨#[]⟩ 239)), ("super", none), ("sum", none), ("__builtins__", some (.ref 4))]),
  (2, [("thirdparty.any", none)]),
  (23, [("key", some .none)]), (32, [("key", some .none)]), (41, [("key", some .none)]),
  (127, [("__init__", some (.ref 65)), ("push", some (.ref 72)), ("pop_from", some (.ref 80)), ("pop", some (.ref 88)), ("__len__", some (.ref 95)), ("__str__", some (.ref 102)), ("reset", some (.ref 110)), ("part_count", some (.ref 125)), ("is_onlyws", some (.ref 117))]),
  (141, [("__init__", none), ("__str__", none)]), (154, [("__init__", none), ("__str__", none)]), (166, [("__init__", none), ("__str__", none)])]
noncomputable def isTab (b : Addr) : Bool := b == 90 || b == 97 || b == 232
noncomputable abbrev gTab : List (Str × Option Value) := (nsTab.getD 0 (0, [])).2
inductive NsAt (h : Heap) (a : Addr) (l : List (Str × Option Value)) : Prop
  | mk (m : Str → Option Value) (hn : h.Ns a m) (v : ∀ (i : Nat) {x v}, l[i]? = some (x, v) → m x = v) : NsAt h a l
end Mine
end
section
namespace Mine
open PySem PySem.W PyProof.Rows PySem.Calls
structure Rho where
  l : List (Addr × Addr)
  z : Addr → Prop
noncomputable def Rho.no : Rho := ⟨[], fun _ => False⟩
noncomputable def Rho.app (ρ : Rho) (τ : List (Addr × Addr)) : Rho := ⟨ρ.l ++ τ, ρ.z⟩
noncomputable def Foot (ρ : Rho) (b : Addr) : Prop := (∃ p ∈ ρ.l, b = p.1 ∨ b = p.2) ∨ ρ.z b
mutual
noncomputable def VR (ρ : Rho) (h : Heap) : AD → Value → Prop
  | .none, v => v = .none
  | .bool b, v => v = .bool b
  | .int i, v => ∃ t, v = .int i t
  | .str x, v => ∃ t, v = .str x t
  | .ref k, v => ∃ p, ρ.l[k]? = some p ∧ v = .ref p.1
  | .tup xs, v => ∃ a vs, v = .ref a ∧ IsTup h a vs.toArray ∧ ¬ Foot ρ a ∧ VRs ρ h xs vs
  | .lst xs, v => ∃ a vs, v = .ref a ∧ h.IsList a vs.toArray ∧ ¬ Foot ρ a ∧ VRs ρ h xs vs
  | .rng lo hi, v => ∃ a t u w, v = .ref a ∧ IsRange h a lo hi 1 t u w ∧ ¬ Foot ρ a ∧ -5000 < lo ∧ lo < 5000 ∧ -5000 < hi ∧ hi < 5000
noncomputable def VRs (ρ : Rho) (h : Heap) : List AD → List Value → Prop
  | [], vs => vs = []
  | x :: xs, vs => ∃ v r, vs = v :: r ∧ VR ρ h x v ∧ VRs ρ h xs r
end
theorem VRs.length {ρ : Rho} {h : Heap} : ∀ {xs : List AD} {vs : List Value}, VRs ρ h xs vs → vs.length = xs.length
  | [], _, e => by rw [VRs] at e; rw [e]; rfl
  | _ :: _, _, e => by rw [VRs] at e; obtain ⟨v, r, rfl, _, e'⟩ := e; simp [VRs.length e']
theorem VRs.at {ρ : Rho} {h : Heap} : ∀ {xs : List AD} {vs : List Value}, VRs ρ h xs vs → ∀ {i : Nat} {d : AD}, xs[i]? = some d → ∃ v, vs[i]? = some v ∧ VR ρ h d v
  | [], _, _, i, d, q => by simp at q
  | x :: xs, _, e, i, d, q => by
    rw [VRs] at e
    obtain ⟨v, r, rfl, e1, e'⟩ := e
    cases i with
    | zero => simp at q; subst q; exact ⟨v, rfl, e1⟩
    | succ i => simp at q; simpa using VRs.at e' q
theorem VRs.none {ρ : Rho} {h : Heap} {xs : List AD} {vs : List Value} (e : VRs ρ h xs vs) {i : Nat} (q : xs[i]? = none) : vs[i]? = none := by
  rw [List.getElem?_eq_none_iff] at q ⊢
  rw [e.length]; exact q
theorem VRs.append {ρ : Rho} {h : Heap} : ∀ {xs ys : List AD} {vs us : List Value}, VRs ρ h xs vs → VRs ρ h ys us → VRs ρ h (xs ++ ys) (vs ++ us)
  | [], _, _, _, e, e' => by rw [VRs] at e; subst e; exact e'
  | _ :: _, _, _, _, e, e' => by
    rw [VRs] at e
    obtain ⟨v, r, rfl, e1, e2⟩ := e
    show VRs ρ h (_ :: (_ ++ _)) (v :: (r ++ _))
    rw [VRs]
    exact ⟨v, _, rfl, e1, VRs.append e2 e'⟩
theorem VRs.cons {ρ : Rho} {h : Heap} {x : AD} {xs : List AD} {v : Value} {vs : List Value} (e : VR ρ h x v) (e' : VRs ρ h xs vs) : VRs ρ h (x :: xs) (v :: vs) := by
  rw [VRs]; exact ⟨v, vs, rfl, e, e'⟩
theorem VRs.nil {ρ : Rho} {h : Heap} : VRs ρ h [] [] := by rw [VRs]
theorem VRs.cons_inv {ρ : Rho} {h : Heap} {d : AD} {r : List AD} {vs : List Value} (e : VRs ρ h (d :: r) vs) : ∃ v w, vs = v :: w ∧ VR ρ h d v ∧ VRs ρ h r w := by
  rw [VRs] at e; exact e
theorem VRs.of_at {ρ : Rho} {h : Heap} : ∀ {xs : List AD} {vs : List Value}, vs.length = xs.length → (∀ (i : Nat) d v, xs[i]? = some d → vs[i]? = some v → VR ρ h d v) → VRs ρ h xs vs
  | [], vs, e, _ => by rw [VRs]; exact List.length_eq_zero_iff.mp e
  | x :: xs, [], e, _ => by cases e
  | x :: xs, v :: vs, e, q => by
    rw [VRs]
    exact ⟨v, vs, rfl, q 0 x v rfl rfl, VRs.of_at (by simpa using e) fun i d u h1 h2 => q (i + 1) d u (by simpa using h1) (by simpa using h2)⟩
theorem VRs.drop {ρ : Rho} {h : Heap} : ∀ (n : Nat) {xs : List AD} {vs : List Value}, VRs ρ h xs vs → VRs ρ h (xs.drop n) (vs.drop n)
  | 0, _, _, e => e
  | n + 1, [], _, e => by rw [VRs] at e; subst e; simp [VRs]
  | n + 1, _ :: _, _, e => by rw [VRs] at e; obtain ⟨v, r, rfl, _, e2⟩ := e; exact VRs.drop n e2
theorem VRs.take {ρ : Rho} {h : Heap} : ∀ (n : Nat) {xs : List AD} {vs : List Value}, VRs ρ h xs vs → VRs ρ h (xs.take n) (vs.take n)
  | 0, _, _, _ => by simp [VRs]
  | n + 1, [], _, e => by rw [VRs] at e; subst e; simp [VRs]
  | n + 1, _ :: _, _, e => by
    rw [VRs] at e
    obtain ⟨v, r, rfl, e1, e2⟩ := e
    show VRs ρ h (_ :: List.take n _) (v :: List.take n r)
    rw [VRs]
    exact ⟨v, _, rfl, e1, VRs.take n e2⟩
structure Cx where
  prog : Program
  w : World
  h0 : Heap
  hk : Heap
  os0 : OsState
  tabs : List (Addr × Pos × Str)
noncomputable abbrev tabO (ps : Array Value) : Obj := { cls := .none, data := .fields ps }
noncomputable abbrev lamFn (name qual : Str) (params : Arguments) (body : Expr) (scope : Scope) (cl : List (Str × Addr)) (pm cdv ct : Value) : FuncData :=
  { name, qualname := qual, params, body := .expr body, scope, globals := mainGlobals, closure := cl, defaults := .none, kwdefaults := .none, doc := .none, pyModule := pm, annotations := none, code := cdv, closureTuple := ct, builtins := builtinsNs }
noncomputable abbrev lamObj (name qual : Str) (params : Arguments) (body : Expr) (scope : Scope) (cl : List (Str × Addr)) (pm : Value) (c' : Addr) (ct : Value) : Obj := { cls := .type "function", data := .func (lamFn name qual params body scope cl pm (.ref c') ct) }
noncomputable def fAddr : FN → Addr
  | .insort => 30 | .bright => 39 | .bleft => 48 | .cells => 183 | .body => 190 | .refusal => 197 | .spoilt => 204 | .port => 211 | .part => 218 | .second => 223 | .turn => 230
  | .cut => 237 | .lows => 242 | .parse => 176 | .law => 247
  | .mkacc => 128 | .push => 72 | .popfrom => 80 | .pop => 88 | .alen => 95 | .astr => 102 | .reset => 110 | .pcount => 125
noncomputable def accCls : Value := .ref 128
noncomputable def OR (ρ : Rho) (h : Heap) (p : Addr × Addr) : AO → Prop
  | .list xs => p.2 = p.1 ∧ ∃ vs, h.PlainList p.1 (List.toArray vs) ∧ VRs ρ h xs vs
  | .acc xs n => p.1 ≠ p.2 ∧ (∃ vs k, h.get? p.1 = some { cls := accCls, dict := some p.2, data := .seq (List.toArray vs) k, slots := #[] } ∧ VRs ρ h xs vs) ∧
      ∃ t, h.Ns1 p.2 (fun x => if x = "_initial_size" then some (.int n t) else Option.none)
noncomputable def isSD : Data → Bool
  | .seq .. | .dict .. => true
  | _ => false
noncomputable def isS : Data → Bool
  | .seq .. => true
  | _ => false
theorem isS_SD {d : Data} (e : isS d = true) : isSD d = true := by cases d <;> first | rfl | cases e
structure HR (C : Cx) (ρ : Rho) (σ : H) (h : Heap) : Prop where
  len : ρ.l.length = σ.length
  obs : ∀ (k : Nat) o, σ[k]? = some o → ∃ p, ρ.l[k]? = some p ∧ OR ρ h p o
  apart : ∀ (i j : Nat) p q, ρ.l[i]? = some p → ρ.l[j]? = some q → i ≠ j → p.1 ≠ q.1 ∧ p.1 ≠ q.2 ∧ p.2 ≠ q.1 ∧ p.2 ≠ q.2
  above : ∀ p ∈ ρ.l, C.h0.get? p.1 = Option.none ∧ C.h0.get? p.2 = Option.none
  zs : ∀ b, ρ.z b → (∃ o, h.get? b = some o ∧ isS o.data = true) ∧ C.h0.get? b = Option.none ∧ ∀ p ∈ ρ.l, b ≠ p.1 ∧ b ≠ p.2
noncomputable def isDict : Data → Bool
  | .dict .. => true
  | _ => false
noncomputable def isIt (o : Obj) : Bool := (o.cls == .type "list_iterator" || o.cls == .type "range_iterator") && (match o.data with | .fields vs => (match (vs[1]? : Option Value) with | some (.str _ _) => false | _ => true) | _ => false)
noncomputable def isDC : Data → Bool
  | .cell .. | .dict .. => true
  | _ => false
theorem HR.solid {C : Cx} {ρ : Rho} {σ : H} {h : Heap} (R : HR C ρ σ h) {b : Addr} (hb : Foot ρ b) : ∃ o, h.get? b = some o ∧ isSD o.data = true := by
  rcases hb with ⟨p, hp, e⟩ | hz
  case inr => exact let ⟨o, e, d⟩ := (R.zs b hz).1; ⟨o, e, isS_SD d⟩
  obtain ⟨k, hk⟩ := List.getElem?_of_mem hp
  have hlt : k < σ.length := by rw [← R.len]; exact (List.getElem?_eq_some_iff.mp hk).1
  obtain ⟨q, hq, ho⟩ := R.obs k σ[k] (List.getElem?_eq_getElem hlt)
  rw [hk] at hq; cases (hq)
  cases hs : σ[k] with
  | list xs =>
    rw [hs] at ho
    obtain ⟨e2, vs, ⟨n, h1⟩, _⟩ := ho
    have : b = p.1 := by rcases e with e | e <;> simp [e, e2]
    subst this
    exact ⟨_, h1, rfl⟩
  | acc xs n =>
    rw [hs] at ho
    obtain ⟨_, ⟨vs, k, h1, _⟩, t, ⟨o2, es, ep, h2, h3, _⟩⟩ := ho
    rcases e with rfl | rfl
    · exact ⟨_, h1, rfl⟩
    · exact ⟨_, h2, by rw [h3]; rfl⟩
theorem HR.off {C : Cx} {ρ : Rho} {σ : H} {h : Heap} (R : HR C ρ σ h) {b : Addr} {o : Obj} (e : h.get? b = some o) (n : isSD o.data = false) : ¬ Foot ρ b := fun q => by
  obtain ⟨o', e', s⟩ := R.solid q
  rw [e] at e'; cases e'
  rw [n] at s; cases s
theorem HR.lt {C : Cx} {ρ : Rho} {σ : H} {h : Heap} (R : HR C ρ σ h) {b : Addr} (hb : Foot ρ b) : b < h.objs.size := let ⟨_, e, _⟩ := R.solid hb; Heap.lt_size e
theorem HR.far {C : Cx} {ρ : Rho} {σ : H} {h : Heap} (R : HR C ρ σ h) {b : Addr} {o : Obj} (hb : C.h0.get? b = some o) : ¬ Foot ρ b := by
  rintro (⟨p, hp, e⟩ | hz)
  case inr => have := (R.zs b hz).2.1; rw [hb] at this; cases this
  have := R.above p hp
  rcases e with rfl | rfl
  · rw [hb] at this; cases this.1
  · rw [hb] at this; cases this.2
noncomputable def Tab (C : Cx) (b : Addr) : Prop := ∃ t ∈ C.tabs, b = t.1
structure Stp (C : Cx) (W : Addr → Prop) (ρ : Rho) (h : Heap) (ρ' : Rho) (h' : Heap) : Prop where
  pre : ∃ τ, ρ' = ρ.app τ ∧ ∀ p ∈ τ, h.get? p.1 = Option.none ∧ h.get? p.2 = Option.none
  keep : ∀ b o, h.get? b = some o → ¬ Foot ρ b → ¬ W b → ¬ Tab C b → ∃ sl, h'.get? b = some { o with slots := sl } ∧ (isDict o.data = false → sl = o.slots)
  dicts : ∀ b o, h.get? b = some o → isDict o.data = true → ∃ o', h'.get? b = some o' ∧ isDict o'.data = true
  alive : ∀ b o, h.get? b = some o → ∃ o', h'.get? b = some o'
  zk : ∀ b o, ρ.z b → h.get? b = some o → h'.get? b = some o
variable {C : Cx} {W W' : Addr → Prop} {ρ ρ' ρ'' : Rho} {h h' h'' : Heap} {σ σ' : H}
theorem Stp.exact (S : Stp C W ρ h ρ' h') {b : Addr} {o : Obj} (e : h.get? b = some o) (hf : ¬ Foot ρ b) (hw : ¬ W b) (ht : ¬ Tab C b) (hd : isDict o.data = false) : h'.get? b = some o := by
  obtain ⟨sl, e', k⟩ := S.keep b o e hf hw ht
  rw [e', k hd]
theorem Stp.refl : Stp C W ρ h ρ h := ⟨⟨[], by simp [Rho.app], fun _ hp => nomatch hp⟩, fun _ o e _ _ _ => ⟨o.slots, e, fun _ => rfl⟩, fun _ o e d => ⟨o, e, d⟩, fun _ o e => ⟨o, e⟩, fun _ _ _ e => e⟩
theorem foot_append {ρ : Rho} {τ : List (Addr × Addr)} {b : Addr} : Foot (ρ.app τ) b ↔ Foot ρ b ∨ ∃ p ∈ τ, b = p.1 ∨ b = p.2 := by
  constructor
  · rintro (⟨p, hp, e⟩ | hz)
    · rcases List.mem_append.mp hp with hp | hp
      · exact .inl (.inl ⟨p, hp, e⟩)
      · exact .inr ⟨p, hp, e⟩
    · exact .inl (.inr hz)
  · rintro ((⟨p, hp, e⟩ | hz) | ⟨p, hp, e⟩)
    · exact .inl ⟨p, List.mem_append_left _ hp, e⟩
    · exact .inr hz
    · exact .inl ⟨p, List.mem_append_right _ hp, e⟩
theorem Stp.off (S : Stp C W ρ h ρ' h') {b : Addr} {o : Obj} (hb : h.get? b = some o) (hf : ¬ Foot ρ b) : ¬ Foot ρ' b := by
  obtain ⟨τ, rfl, hτ⟩ := S.pre
  intro q
  rcases foot_append.mp q with q | ⟨p, hp, e⟩
  · exact hf q
  · have := hτ p hp
    rcases e with rfl | rfl
    · rw [hb] at this; cases this.1
    · rw [hb] at this; cases this.2
theorem Stp.idx (S : Stp C W ρ h ρ' h') {k : Nat} {p : Addr × Addr} (e : ρ.l[k]? = some p) : ρ'.l[k]? = some p := by
  obtain ⟨τ, rfl, _⟩ := S.pre
  have := (List.getElem?_eq_some_iff.mp e).1
  show (ρ.l ++ τ)[k]? = _
  rw [List.getElem?_append_left this]; exact e
theorem Stp.trans (S : Stp C W ρ h ρ' h') (S' : Stp C W ρ' h' ρ'' h'') : Stp C W ρ h ρ'' h'' := by
  refine ⟨?_, fun b o e hf hw ht => ?_, fun b o e d => ?_, fun b o e => let ⟨o1, e1⟩ := S.alive b o e; S'.alive b o1 e1, fun b o q e => S'.zk b o (by obtain ⟨τ, rfl, _⟩ := S.pre; exact q) (S.zk b o q e)⟩
  · obtain ⟨τ, rfl, hτ⟩ := S.pre
    obtain ⟨τ', rfl, hτ'⟩ := S'.pre
    refine ⟨τ ++ τ', by simp [Rho.app], fun p hp => ?_⟩
    rcases List.mem_append.mp hp with hp | hp
    · exact hτ p hp
    · have up : ∀ b, h'.get? b = Option.none → h.get? b = Option.none := fun b e => by
        cases q : h.get? b with
        | none => rfl
        | some o => obtain ⟨o', e'⟩ := S.alive b o q; rw [e] at e'; cases e'
      exact ⟨up _ (hτ' p hp).1, up _ (hτ' p hp).2⟩
  · obtain ⟨sl, e1, k1⟩ := S.keep b o e hf hw ht
    obtain ⟨sl', e2, k2⟩ := S'.keep b _ e1 (S.off e hf) hw ht
    exact ⟨sl', e2, fun d => (k2 d).trans (k1 d)⟩
  · obtain ⟨o1, e1, d1⟩ := S.dicts b o e d
    exact S'.dicts b o1 e1 d1
theorem Stp.weaken (S : Stp C W ρ h ρ' h') (hw : ∀ b o, W b → h.get? b = some o → W' b) : Stp C W' ρ h ρ' h' :=
  ⟨S.pre, fun b o e hf hn ht => S.keep b o e hf (fun q => hn (hw b o q e)) ht, S.dicts, S.alive, S.zk⟩
noncomputable def NoW : Addr → Prop := fun _ => False
noncomputable def WOk (W : Addr → Prop) (h : Heap) : Prop := ∀ b, W b → ∃ o, h.get? b = some o ∧ (isDC o.data || isIt o) = true
theorem WOk.no {h : Heap} : WOk NoW h := fun _ q => q.elim
theorem WOk.off {b : Addr} {o : Obj} (hW : WOk W h) (e : h.get? b = some o) (n : isDC o.data = false) (k : isIt o = false) : ¬ W b := fun q => by
  obtain ⟨o', e', s⟩ := hW b q
  rw [e] at e'; cases e'
  rw [n, k] at s; cases s
theorem notIt_cls {o : Obj} {T : String} (e : o.cls = .type T) (h : (Value.type T == .type "list_iterator" || Value.type T == .type "range_iterator") = false) : isIt o = false := by
  unfold isIt; rw [e, h]; rfl
theorem notIt_rec {o : Obj} {vs : Array Value} {q : Str} {t : Tok} (d : o.data = .fields vs) (h : vs[1]? = some (.str q t)) : isIt o = false := by
  unfold isIt; rw [d]; simp only [h]; exact Bool.and_false _
structure Tabs0 (C : Cx) (h : Heap) : Prop where
  sub : ∀ b o, C.hk.get? b = some o → C.h0.get? b = some o
  tab : ∀ t ∈ C.tabs, (∃ o, C.h0.get? t.1 = some o) ∧ C.hk.get? t.1 = Option.none
  flds : ∀ t ∈ C.tabs, ∃ vs, h.get? t.1 = some { cls := .none, data := .fields vs }
theorem Tabs0.off (T : Tabs0 C h) {b : Addr} {o : Obj} (e : h.get? b = some o) (n : o.cls ≠ .none) : ¬ Tab C b := by
  rintro ⟨t, ht, rfl⟩
  obtain ⟨vs, q⟩ := T.flds t ht
  rw [e] at q; cases q
  exact n rfl
theorem keep_list (S : Stp C W ρ h ρ' h') (hW : WOk W h) (T : Tabs0 C h) {a : Addr} {vs : Array Value} (hl : h.IsList a vs) (hf : ¬ Foot ρ a) : h'.IsList a vs := by
  obtain ⟨o, h1, h2, n, h3⟩ := hl
  exact ⟨o, S.exact h1 hf (hW.off h1 (by rw [h3]; rfl) (notIt_cls h2 (by decide))) (T.off h1 (by rw [h2]; nofun)) (by rw [h3]; rfl), h2, n, h3⟩
theorem keep_tup (S : Stp C W ρ h ρ' h') (hW : WOk W h) (T : Tabs0 C h) {a : Addr} {vs : Array Value} (hl : IsTup h a vs) (hf : ¬ Foot ρ a) : IsTup h' a vs := by
  obtain ⟨o, h1, h2, n, h3⟩ := hl
  exact ⟨o, S.exact h1 hf (hW.off h1 (by rw [h3]; rfl) (notIt_cls h2 (by decide))) (T.off h1 (by rw [h2]; nofun)) (by rw [h3]; rfl), h2, n, h3⟩
theorem keep_range (S : Stp C W ρ h ρ' h') (hW : WOk W h) (T : Tabs0 C h) {a : Addr} {x y z : Int} {t u v : Tok} (hl : IsRange h a x y z t u v) (hf : ¬ Foot ρ a) : IsRange h' a x y z t u v :=
  S.exact hl hf (hW.off hl rfl (notIt_cls rfl (by decide))) (T.off hl nofun) rfl
mutual
theorem VR.mono (S : Stp C W ρ h ρ' h') (hW : WOk W h) (T : Tabs0 C h) : ∀ (d : AD) {v : Value}, VR ρ h d v → VR ρ' h' d v
  | .none, _, e => by rw [VR] at e ⊢; exact e
  | .bool _, _, e => by rw [VR] at e ⊢; exact e
  | .int _, _, e => by rw [VR] at e ⊢; exact e
  | .str _, _, e => by rw [VR] at e ⊢; exact e
  | .ref _, _, e => by rw [VR] at e ⊢; obtain ⟨p, h1, h2⟩ := e; exact ⟨p, S.idx h1, h2⟩
  | .tup xs, _, e => by
    rw [VR] at e ⊢
    obtain ⟨a, vs, h1, h2, h3, h4⟩ := e
    exact ⟨a, vs, h1, keep_tup S hW T h2 h3, (by obtain ⟨o, q, _⟩ := h2; exact S.off q h3), VRs.mono S hW T xs h4⟩
  | .lst xs, _, e => by
    rw [VR] at e ⊢
    obtain ⟨a, vs, h1, h2, h3, h4⟩ := e
    exact ⟨a, vs, h1, keep_list S hW T h2 h3, (by obtain ⟨o, q, _⟩ := h2; exact S.off q h3), VRs.mono S hW T xs h4⟩
  | .rng lo hi, _, e => by
    rw [VR] at e ⊢
    obtain ⟨a, t, u, w, h1, h2, h3, h4⟩ := e
    exact ⟨a, t, u, w, h1, keep_range S hW T h2 h3, S.off h2 h3, h4⟩
theorem VRs.mono (S : Stp C W ρ h ρ' h') (hW : WOk W h) (T : Tabs0 C h) : ∀ (xs : List AD) {vs : List Value}, VRs ρ h xs vs → VRs ρ' h' xs vs
  | [], _, e => by rw [VRs] at e ⊢; exact e
  | x :: xs, _, e => by
    rw [VRs] at e ⊢
    obtain ⟨v, r, h1, h2, h3⟩ := e
    exact ⟨v, r, h1, VR.mono S hW T x h2, VRs.mono S hW T xs h3⟩
end
noncomputable def TabOk (C : Cx) (h : Heap) (t : Addr × Pos × Str) : Prop :=
  h.get? t.1 = some (tabO #[]) ∨ ∃ c', h.get? t.1 = some (tabO #[rawInt t.2.1.line, rawInt t.2.1.col, .ref c']) ∧ C.h0.get? c' = Option.none ∧ h.CodeRec (.ref c') t.2.2
structure COk (C : Cx) : Prop where
  sub : ∀ b o, C.hk.get? b = some o → C.h0.get? b = some o
  tab : ∀ t ∈ C.tabs, (∃ o, C.h0.get? t.1 = some o) ∧ C.hk.get? t.1 = Option.none
  uniq : ∀ t ∈ C.tabs, ∀ u ∈ C.tabs, t.1 = u.1 → t = u
structure Inv (C : Cx) (s : Shared) : Prop where
  cok : COk C
  old : OldK C.h0 s.heap
  keep : ∀ b o, C.hk.get? b = some o → s.heap.get? b = some o
  bare : AllBare s.gens
  os : s.os = C.os0
  tabs : ∀ t ∈ C.tabs, TabOk C s.heap t
theorem Inv.tabs0 {C : Cx} {s : Shared} (I : Inv C s) : Tabs0 C s.heap :=
  ⟨I.cok.sub, I.cok.tab, fun t ht => by rcases I.tabs t ht with e | ⟨_, e, _⟩ <;> exact ⟨_, e⟩⟩
theorem Inv.fresh {C : Cx} {s : Shared} (I : Inv C s) {b : Addr} (e : s.heap.get? b = Option.none) : C.h0.get? b = Option.none := by
  cases q : C.h0.get? b with
  | none => rfl
  | some o => obtain ⟨o', e'⟩ := I.old.there b o q; rw [e] at e'; cases e'
theorem get_size (h : Heap) : h.get? h.objs.size = Option.none := by
  cases q : h.get? h.objs.size with
  | none => rfl
  | some o => exact absurd (Heap.lt_size q) (Nat.lt_irrefl _)
theorem old_same {h₀ h h' : Heap} (K : OldK h₀ h) (e : ∀ b o₀, h₀.get? b = some o₀ → ∀ o, h.get? b = some o → h'.get? b = some o) : OldK h₀ h' := by
  refine ⟨fun b o eb => ?_, fun b o eb => let ⟨o', ho'⟩ := K.there b o eb; ⟨o', e b o eb _ ho'⟩⟩
  rcases K.old b o eb with x | ⟨t, hc, vs, more, hv, x⟩ | ⟨rfl, hc, ⟨o', es, n, ho', r⟩, z⟩
  · exact .inl (e b o eb _ x)
  · exact .inr (.inl ⟨t, hc, vs, more, hv, e b o eb _ x⟩)
  · exact .inr (.inr ⟨rfl, hc, ⟨o', es, n, e _ o eb _ ho', r⟩, fun key => by rw [OldK.staticOf_congr ((e _ o eb _ ho').trans ho'.symm) key]; exact z key⟩)
structure LStp (W : Addr → Prop) (ρ : Rho) (h h' : Heap) : Prop where
  keep : ∀ b o, h.get? b = some o → ¬ Foot ρ b → ¬ W b → h'.get? b = some o
  dicts : ∀ b o, h.get? b = some o → isDict o.data = true → ∃ o', h'.get? b = some o' ∧ isDict o'.data = true
  alive : ∀ b o, h.get? b = some o → ∃ o', h'.get? b = some o'
  zk : ∀ b o, ρ.z b → h.get? b = some o → h'.get? b = some o
section
variable {W W' : Addr → Prop} {ρ : Rho} {h h' : Heap}
theorem LStp.of_keeps (k : ∀ b o, h.get? b = some o → h'.get? b = some o) : LStp W ρ h h' := ⟨fun b o e _ _ => k b o e, fun b o e d => ⟨o, k b o e, d⟩, fun b o e => ⟨o, k b o e⟩, fun b o _ e => k b o e⟩
theorem LStp.weaken (S : LStp W ρ h h') (hw : ∀ b, W b → W' b) : LStp W' ρ h h' := ⟨fun b o e hf hn => S.keep b o e hf fun q => hn (hw b q), S.dicts, S.alive, S.zk⟩
theorem LStp.stp {C : Cx} (S : LStp W ρ h h') : Stp C W ρ h ρ h' := ⟨⟨[], by simp [Rho.app], fun _ hp => nomatch hp⟩, fun b o e hf hw _ => ⟨o.slots, S.keep b o e hf hw, fun _ => rfl⟩, S.dicts, S.alive, S.zk⟩
theorem LStp.stpTo {C : Cx} (S : LStp W ρ h h') {p : Addr × Addr} (h1 : h.get? p.1 = Option.none) (h2 : h.get? p.2 = Option.none) : Stp C W ρ h (ρ.app [p]) h' :=
  ⟨⟨[p], rfl, fun q hq => by rw [List.mem_singleton] at hq; subst hq; exact ⟨h1, h2⟩⟩, fun b o e hf hw _ => ⟨o.slots, S.keep b o e hf hw, fun _ => rfl⟩, S.dicts, S.alive, S.zk⟩
theorem LStp.but {a : Addr} (hs : Heap.SameBut a h h') (ha : W a ∨ Foot ρ a) (hz : ¬ ρ.z a) (hd : ∀ o, h.get? a = some o → ∃ o', h'.get? a = some o' ∧ (isDict o.data = true → isDict o'.data = true)) : LStp W ρ h h' :=
  ⟨fun b o e hf hw => hs.extBut b o (fun q => by subst q; rcases ha with x | x; exact hw x; exact hf x) e, fun b o e d => by
    by_cases q : b = a
    · subst q; obtain ⟨o', e', k⟩ := hd o e; exact ⟨o', e', k d⟩
    · exact ⟨o, hs.extBut b o q e, d⟩, fun b o e => by
    by_cases q : b = a
    · subst q; obtain ⟨o', e', _⟩ := hd o e; exact ⟨o', e'⟩
    · exact ⟨o, hs.extBut b o q e⟩, fun b o q e => hs.extBut b o (fun r => hz (r ▸ q)) e⟩
end
theorem keeps_push {h : Heap} (o : Obj) : ∀ b o', h.get? b = some o' → (h.push o).get? b = some o' := fun _ _ e => Heap.get?_push_of_some _ e
variable {C : Cx} {W : Addr → Prop} {ρ ρ' : Rho} {σ : H} {s : Shared}
theorem Inv.lstp {h' : Heap} {tk : Nat} (I : Inv C s) (R : HR C ρ σ s.heap) (hW : WOk W s.heap) (hWa : ∀ b, W b → C.h0.get? b = Option.none) (L : LStp W ρ s.heap h') :
    Inv C { s with heap := h', toks := tk } := by
  have base : ∀ b o₀, C.h0.get? b = some o₀ → ∀ o, s.heap.get? b = some o → h'.get? b = some o := fun b o₀ hb o e =>
    L.keep b o e (R.far hb) fun q => by have := hWa b q; rw [hb] at this; cases this
  refine ⟨I.cok, old_same I.old base, fun b o e => base b o (I.cok.sub b o e) o (I.keep b o e), I.bare, I.os, fun t ht => ?_⟩
  obtain ⟨o₀, ho₀⟩ := (I.cok.tab t ht).1
  rcases I.tabs t ht with e | ⟨c', e, hc, c₂, o, vs, tq, q, g, d, r⟩
  · exact .inl (base _ _ ho₀ _ e)
  · refine .inr ⟨c', base _ _ ho₀ _ e, hc, c₂, o, vs, tq, q, L.keep _ _ g (R.off g (by rw [d]; rfl)) (hW.off g (by rw [d]; rfl) (notIt_rec d r)), d, r⟩
structure St (C : Cx) (ρ : Rho) (σ : H) (s : Shared) : Prop where
  inv : Inv C s
  hr : HR C ρ σ s.heap
theorem OR.mono {h h' : Heap} (S : Stp C W ρ h ρ' h') (hW : WOk W h) (T : Tabs0 C h) {p : Addr × Addr} (k : ∀ b, b = p.1 ∨ b = p.2 → ∀ o, h.get? b = some o → h'.get? b = some o) : ∀ {o : AO}, OR ρ h p o → OR ρ' h' p o
  | .list xs, e => by
    obtain ⟨e1, vs, ⟨o, h1⟩, e3⟩ := e
    exact ⟨e1, vs, ⟨o, k _ (.inl rfl) _ h1⟩, e3.mono S hW T⟩
  | .acc xs n, e => by
    obtain ⟨e1, ⟨vs, m, h1, e3⟩, t, h2⟩ := e
    exact ⟨e1, ⟨vs, m, k _ (.inl rfl) _ h1, e3.mono S hW T⟩, t, h2.at fun o e => k _ (.inr rfl) _ e⟩
theorem HR.kept {h h' : Heap} (R : HR C ρ σ h) (S : Stp C W ρ h ρ h') (hW : WOk W h) (T : Tabs0 C h) (k : ∀ b, Foot ρ b → ∀ o, h.get? b = some o → h'.get? b = some o) : HR C ρ σ h' :=
  ⟨R.len, fun i o e => by
    obtain ⟨p, hp, ho⟩ := R.obs i o e
    exact ⟨p, hp, OR.mono S hW T (fun b hb => k b (.inl ⟨p, List.mem_of_getElem? hp, hb⟩)) ho⟩, R.apart, R.above, fun b q => let ⟨⟨o, e, d⟩, r⟩ := R.zs b q; ⟨⟨o, k b (.inr q) o e, d⟩, r⟩⟩
theorem St.lstp {h' : Heap} {tk : Nat} (X : St C ρ σ s) (hW : WOk W s.heap) (hWa : ∀ b, W b → C.h0.get? b = Option.none) (L : LStp W ρ s.heap h') (k : ∀ b, Foot ρ b → ∀ o, s.heap.get? b = some o → h'.get? b = some o) :
    St C ρ σ { s with heap := h', toks := tk } :=
  ⟨X.inv.lstp X.hr hW hWa L, X.hr.kept L.stp hW X.inv.tabs0 k⟩
theorem St.quiet {h' : Heap} {tk : Nat} (X : St C ρ σ s) (k : ∀ b o, s.heap.get? b = some o → h'.get? b = some o) :
    St C ρ σ { s with heap := h', toks := tk } :=
  X.lstp (W := NoW) WOk.no (fun _ q => q.elim) (.of_keeps k) fun b _ o e => k b o e
theorem St.toks {tk : Nat} (X : St C ρ σ s) : St C ρ σ { s with toks := tk } :=
  ⟨⟨X.inv.cok, X.inv.old, X.inv.keep, X.inv.bare, X.inv.os, X.inv.tabs⟩, X.hr⟩
theorem St.push (X : St C ρ σ s) (o : Obj) {tk : Nat} : St C ρ σ { s with heap := s.heap.push o, toks := tk } := X.quiet (keeps_push o)
theorem St.new {h' : Heap} {tk : Nat} {a : AO} {p : Addr × Addr} (X : St C ρ σ s) (k : ∀ b o, s.heap.get? b = some o → h'.get? b = some o) (h1 : s.heap.get? p.1 = Option.none) (h2 : s.heap.get? p.2 = Option.none)
    (ho : OR (ρ.app [p]) h' p a) :
    St C (ρ.app [p]) (σ ++ [a]) { s with heap := h', toks := tk } ∧ Stp C NoW ρ s.heap (ρ.app [p]) h' := by
  have S : Stp C NoW ρ s.heap (ρ.app [p]) h' := (LStp.of_keeps k).stpTo h1 h2
  refine ⟨⟨(X.quiet k).inv, ?_⟩, S⟩
  have R := X.hr
  have ne : ∀ (q : Addr × Addr) (b c : Addr), q ∈ ρ.l → (b = q.1 ∨ b = q.2) → s.heap.get? c = Option.none → b ≠ c := fun q b c hq hb hc e => by
    obtain ⟨o, g, _⟩ := R.solid (b := b) (.inl ⟨q, hq, hb⟩)
    rw [e, hc] at g; cases g
  refine ⟨by simp [Rho.app, R.len], fun i ob e => ?_, fun i j q r hq hr hij => ?_, fun q hq => ?_, fun b hz => ?_⟩
  · by_cases hk : i < σ.length
    · rw [List.getElem?_append_left hk] at e
      obtain ⟨q, hq, ho⟩ := R.obs i ob e
      exact ⟨q, S.idx hq, OR.mono S WOk.no X.inv.tabs0 (fun b _ o' e' => k b o' e') ho⟩
    · have hk' : i = σ.length := by
        have := (List.getElem?_eq_some_iff.mp e).1
        simp at this; lia
      subst hk'
      simp at e; subst e
      exact ⟨p, by show (ρ.l ++ [p])[_]? = _; rw [← R.len]; simp, ho⟩
  · have key : ∀ (i j : Nat) q r, (ρ.l ++ [p])[i]? = some q → (ρ.l ++ [p])[j]? = some r → i < j → q.1 ≠ r.1 ∧ q.1 ≠ r.2 ∧ q.2 ≠ r.1 ∧ q.2 ≠ r.2 := fun i j q r hq hr hij => by
      have hj := (List.getElem?_eq_some_iff.mp hr).1
      simp at hj
      have hi : i < ρ.l.length := by lia
      rw [List.getElem?_append_left hi] at hq
      by_cases hj' : j < ρ.l.length
      · rw [List.getElem?_append_left hj'] at hr
        exact R.apart i j q r hq hr (Nat.ne_of_lt hij)
      · have : j = ρ.l.length := by lia
        subst this
        simp at hr; subst hr
        have hm := List.mem_of_getElem? hq
        exact ⟨ne q _ _ hm (.inl rfl) h1, ne q _ _ hm (.inl rfl) h2, ne q _ _ hm (.inr rfl) h1, ne q _ _ hm (.inr rfl) h2⟩
    rcases Nat.lt_or_gt_of_ne hij with h | h
    · exact key i j q r hq hr h
    · have := key j i r q hr hq h
      exact ⟨Ne.symm this.1, Ne.symm this.2.2.1, Ne.symm this.2.1, Ne.symm this.2.2.2⟩
  · rcases List.mem_append.mp hq with hq | hq
    · exact R.above q hq
    · rw [List.mem_singleton] at hq; subst hq
      exact ⟨X.inv.fresh h1, X.inv.fresh h2⟩
  · obtain ⟨⟨o, e, d⟩, r1, r2⟩ := R.zs b hz
    refine ⟨⟨o, k b o e, d⟩, r1, fun q hq => ?_⟩
    rcases List.mem_append.mp hq with hq | hq
    · exact r2 q hq
    · rw [List.mem_singleton] at hq; subst hq
      exact ⟨fun z => (by rw [z, h1] at e; cases e), fun z => (by rw [z, h2] at e; cases e)⟩
theorem St.newList {xs : List AD} {vs : List Value} {tk : Nat} (X : St C ρ σ s) (hv : VRs ρ s.heap xs vs) :
    St C (ρ.app [(s.heap.objs.size, s.heap.objs.size)]) (σ ++ [.list xs]) { s with heap := s.heap.push { cls := .type "list", data := .seq vs.toArray }, toks := tk } ∧ Stp C NoW ρ s.heap (ρ.app [(s.heap.objs.size, s.heap.objs.size)]) (s.heap.push { cls := .type "list", data := .seq vs.toArray }) :=
  X.new (keeps_push _) (get_size _) (get_size _) ⟨rfl, vs, ⟨_, Heap.get?_push_size _ rfl⟩,
    hv.mono (W := NoW) (C := C) ((LStp.of_keeps (keeps_push _)).stpTo (get_size _) (get_size _)) WOk.no X.inv.tabs0⟩
theorem footNo {b : Addr} : ¬ Foot .no b := fun q => by rcases q with ⟨_, q, _⟩ | q; cases q; exact q
theorem St.set {k : Nat} {a b : AO} {p : Addr × Addr} {h' : Heap} {tk : Nat} (X : St C ρ σ s) (hk : σ[k]? = some a) (hp : ρ.l[k]? = some p)
    (L : LStp (fun b => b = p.1 ∨ b = p.2) .no s.heap h') (ho : Stp C NoW ρ s.heap ρ h' → OR ρ h' p b) :
    St C ρ (σ.set k b) { s with heap := h', toks := tk } ∧ Stp C NoW ρ s.heap ρ h' := by
  have R := X.hr
  have hmem := List.mem_of_getElem? hp
  have zk : ∀ b o, ρ.z b → s.heap.get? b = some o → h'.get? b = some o := fun b o q e => L.keep b o e footNo fun z => by
    have := (R.zs b q).2.2 p hmem
    rcases z with z | z
    · exact this.1 z
    · exact this.2 z
  have L' : LStp NoW ρ s.heap h' := ⟨fun b o e hf _ => L.keep b o e footNo (fun q => hf (.inl ⟨p, hmem, q⟩)), L.dicts, L.alive, zk⟩
  have S : Stp C NoW ρ s.heap ρ h' := L'.stp
  refine ⟨⟨X.inv.lstp R WOk.no (fun _ q => q.elim) L', by simp [R.len], fun i ob e => ?_, R.apart, R.above, fun b q => let ⟨⟨o, e, d⟩, r⟩ := R.zs b q; ⟨⟨o, zk b o q e, d⟩, r⟩⟩, S⟩
  by_cases hi : i = k
  · subst hi
    have hlt := (List.getElem?_eq_some_iff.mp hk).1
    rw [List.getElem?_set_self hlt] at e; cases e
    exact ⟨p, hp, ho S⟩
  · rw [List.getElem?_set_ne (Ne.symm hi)] at e
    obtain ⟨q, hq, ho⟩ := R.obs i ob e
    have ap := R.apart i k q p hq hp hi
    have kk : ∀ b, b = q.1 ∨ b = q.2 → ∀ o, s.heap.get? b = some o → h'.get? b = some o := fun b hb o' e' => L.keep b o' e' footNo fun q => by
      rcases hb with rfl | rfl <;> rcases q with q | q
      · exact ap.1 q
      · exact ap.2.1 q
      · exact ap.2.2.1 q
      · exact ap.2.2.2 q
    exact ⟨q, hq, OR.mono S WOk.no X.inv.tabs0 kk ho⟩
theorem St.setList {k : Nat} {xs ys : List AD} {vs : List Value} {p : Addr × Addr} {h' : Heap} {tk : Nat} (X : St C ρ σ s) (hk : σ[k]? = some (.list xs)) (hp : ρ.l[k]? = some p)
    (hs : Heap.SameBut p.1 s.heap h') (hl : h'.PlainList p.1 vs.toArray) (hv : VRs ρ s.heap ys vs) :
    St C ρ (σ.set k (.list ys)) { s with heap := h', toks := tk } ∧ Stp C NoW ρ s.heap ρ h' := by
  obtain ⟨p', hp', e1, us, ⟨n, g⟩, _⟩ := X.hr.obs k _ hk
  rw [hp] at hp'; cases hp'
  refine X.set hk hp (LStp.but hs (.inl (.inl rfl)) (fun q => q) fun o' e => ?_) fun S => ⟨e1, vs, hl, hv.mono S WOk.no X.inv.tabs0⟩
  rw [g] at e; cases e
  obtain ⟨o2, g2⟩ := hl
  exact ⟨_, g2, fun q => nomatch q⟩
noncomputable def fVal : FN → Value
  | .alen => .builtin "len"
  | .astr => .type "str"
  | g => .ref (fAddr g)
noncomputable def biVal : BI → Value
  | .len => .builtin "len" | .abs => .builtin "abs" | .str => .type "str" | .int => .type "int" | .ord => .builtin "ord" | .chr => .builtin "chr" | .max2 => .builtin "max" | .minl => .builtin "min" | .range => .type "range"
inductive CapAt (C : Cx) (ρ : Rho) (h : Heap) (lim : Nat) (cl : List (Str × Addr)) (y : Str) (d : AD) : Prop
  | mk (c : Addr) (v : Value) (h1 : cl.lookup y = some c) (h2 : h.IsCell c (some v)) (h3 : C.h0.get? c = Option.none) (h4 : c < lim) (h5 : VR ρ h d v) : CapAt C ρ h lim cl y d
inductive CloR (C : Cx) (ρ : Rho) (h : Heap) (lim : Nat) (b : X) (caps : List AD) (v : Value) : Prop
  | mk (a : Addr) (nm qual : Str) (q : Pos) (sc : Scope) (cl : List (Str × Addr)) (pm : Value) (c' : Addr) (ct : Value) (x : Str) (cs : List Str) (t : Sd)
    (hv : v = .ref a) (h1 : h.get? a = some (lamObj nm qual (oneArg x q) (un sc (x :: cs) b t).nd.toE sc cl pm c' ct)) (h2 : C.h0.get? c' = Option.none) (h3 : h.CodeRec (.ref c') qual) (h4 : compScopeOk sc x cs = true)
    (h5 : (un sc (x :: cs) b t).ok = true) (h6 : cs.length = caps.length) (h7 : ∀ (i : Nat) y d, cs[i]? = some y → caps[i]? = some d → CapAt C ρ h lim cl y d) : CloR C ρ h lim b caps v
noncomputable def VV (C : Cx) (ρ : Rho) (h : Heap) (lim : Nat) : AV → Value → Prop
  | .d x, v => VR ρ h x v
  | .fn g, v => v = fVal g
  | .clo b caps, v => CloR C ρ h lim b caps v
variable {C : Cx} {W : Addr → Prop} {ρ ρ' : Rho} {σ σ' : H} {s s' : Shared} {h h' : Heap}
theorem Tabs0.lt (T : Tabs0 C h) {b : Addr} (hb : C.h0.get? b = Option.none) : ¬ Tab C b := fun ⟨t, ht, e⟩ => by
  obtain ⟨o, k⟩ := (T.tab t ht).1
  rw [← e, hb] at k; cases k
theorem VV.mono (S : Stp C W ρ h ρ' h') (R : HR C ρ σ h) (hW : WOk W h) (T : Tabs0 C h) {lim lim' : Nat} (hl : ∀ c o, h'.get? c = some o → c < lim → c < lim') (hw : ∀ b, W b → lim ≤ b) : ∀ {a : AV} {v : Value}, VV C ρ h lim a v → VV C ρ' h' lim' a v
  | .d x, _, e => VR.mono S hW T x e
  | .fn _, _, e => e
  | .clo b caps, _, e => by
    obtain ⟨a, nm, qual, q, sc, cl, pm, c', ct, x, cs, t, rfl, e1, e2, ⟨c₂, o, vs, tq, e3, g, d, r⟩, e5, e6, e7, e8⟩ := e
    cases e3
    refine ⟨a, nm, qual, q, sc, cl, pm, c', ct, x, cs, t, rfl, S.exact e1 (R.off e1 rfl) (hW.off e1 rfl (notIt_cls rfl (by decide))) (T.off e1 nofun) rfl, e2,
      ⟨c', o, vs, tq, rfl, S.exact g (R.off g (by rw [d]; rfl)) (hW.off g (by rw [d]; rfl) (notIt_rec d r)) (T.lt e2) (by rw [d]; rfl), d, r⟩, e5, e6, e7, fun i y d hy hd => ?_⟩
    obtain ⟨c, v, f1, ⟨oc, f2, f3⟩, f4, f5, f6⟩ := e8 i y d hy hd
    have g' := S.exact f2 (R.off f2 (by rw [f3]; rfl)) (fun q => Nat.lt_irrefl _ (Nat.lt_of_lt_of_le f5 (hw c q))) (T.lt f4) (by rw [f3]; rfl)
    exact ⟨c, v, f1, ⟨oc, g', f3⟩, f4, hl c oc g' f5, f6.mono S hW T⟩
theorem lim_id {h : Heap} {lim : Nat} (c : Addr) (o : Obj) (_ : h.get? c = some o) (l : c < lim) : c < lim := l
theorem lim_size {h : Heap} {lim : Nat} (c : Addr) (o : Obj) (e : h.get? c = some o) (_ : c < lim) : c < h.objs.size := Heap.lt_size e
noncomputable def Look (C : Cx) (env : Env) (h : Heap) (x : Str) (o : Option Value) : Prop :=
  (env.kindOf x = some .local ∧ ∃ m, h.Ns env.locals m ∧ m x = o) ∨
  ((env.kindOf x = some .cell ∨ env.kindOf x = some .free) ∧ x ≠ "__classdict__" ∧ ∃ c, env.cells.lookup x = some c ∧ h.IsCell c o ∧ C.h0.get? c = Option.none)
noncomputable def lamCode : Addr := 236
noncomputable def lamTab : Addr := 232
noncomputable def lamQual : Str := "_law_cut.<locals>."
noncomputable def lamPos : Pos := { line := 170, col := 61, endLine := 170, endCol := 0 }
noncomputable abbrev lenPos : Pos := { line := 73, col := 19, endLine := 73, endCol := 63 }
noncomputable abbrev strPos : Pos := { line := 76, col := 32, endLine := 76, endCol := 85 }
structure EnvOk (C : Cx) (sc : Scope) (ns : List Str) (env : Env) (f : Fm) (ρ : Rho) (h : Heap) : Prop where
  kind : env.scope.kind = .function
  glob : env.globals = mainGlobals
  bi : env.builtins = builtinsNs
  kk : ∀ x k, k = .local ∨ k = .cell ∨ k = .globalImplicit → kindIs sc x k = true → env.kindOf x = some k
  len : f.length = ns.length
  slot : ∀ (i : Nat) x, ns[i]? = some x → ∃ o, Look C env h x o ∧ ∀ a, f[i]? = some (some a) → ∃ v, o = some v ∧ VV C ρ h env.locals a v
  nd : ns.Nodup
  dbg : ∀ x ∈ ns, (x == ("__debug__" : Str)) = false
  lam : ns = lamNs → env.code = .ref lamCode ∧ env.qual = lamQual
  off : ¬ Foot ρ env.locals
  big : C.h0.get? env.locals = Option.none
  lt : ∃ o, h.get? env.locals = some o
theorem ns_mono (S : Stp C W ρ h ρ' h') (T : Tabs0 C h) {L : Addr} {m : Str → Option Value} (hb : C.h0.get? L = Option.none) (hf : ¬ Foot ρ L) (hw : ¬ W L) (n : h.Ns L m) : h'.Ns L m := by
  obtain ⟨o, es, ep, e, d, k, f⟩ := n
  obtain ⟨sl, e', _⟩ := S.keep L o e hf hw (T.lt hb)
  exact ⟨_, es, ep, e', d, k, f⟩
theorem Look.mono (S : Stp C W ρ h ρ' h') (R : HR C ρ σ h) (T : Tabs0 C h) {env : Env} (hb : C.h0.get? env.locals = Option.none) (hf : ¬ Foot ρ env.locals) (hw : ¬ W env.locals) (hc : ∀ x c, env.cells.lookup x = some c → ¬ W c) {x : Str} {o : Option Value} : Look C env h x o → Look C env h' x o
  | .inl ⟨k, m, n, e⟩ => .inl ⟨k, m, ns_mono S T hb hf hw n, e⟩
  | .inr ⟨k, q, c, e, ⟨oc, f2, f3⟩, b⟩ => .inr ⟨k, q, c, e, ⟨oc, S.exact f2 (R.off f2 (by rw [f3]; rfl)) (hc x c e) (T.lt b) (by rw [f3]; rfl), f3⟩, b⟩
theorem EnvOk.mono {sc : Scope} {ns : List Str} {env : Env} {f : Fm} (V : EnvOk C sc ns env f ρ h) (S : Stp C NoW ρ h ρ' h') (R : HR C ρ σ h) (T : Tabs0 C h) : EnvOk C sc ns env f ρ' h' :=
  ⟨V.kind, V.glob, V.bi, V.kk, V.len, fun i x hx => by
    obtain ⟨o, l, k⟩ := V.slot i x hx
    refine ⟨o, l.mono S R T V.big V.off (fun q => q) (fun _ _ _ q => q), fun a ha => ?_⟩
    obtain ⟨v, hv, hr⟩ := k a ha
    exact ⟨v, hv, hr.mono S R WOk.no T lim_id fun _ q => q.elim⟩, V.nd, V.dbg, V.lam, (let ⟨_, e⟩ := V.lt; S.off e V.off), V.big, (let ⟨o, e⟩ := V.lt; S.alive _ o e)⟩
noncomputable def FrOk (C : Cx) (h : Heap) (e : Env) : Prop :=
  e.scope.kind = .function ∧ e.scope.isGenerator = false ∧ e.scope.isCoroutine = false ∧ e.builtins = builtinsNs ∧ e.globals = mainGlobals ∧
    ∃ L o, e.frame = some L ∧ C.h0.get? L = Option.none ∧ h.get? L = some o ∧ isDict o.data = true
theorem FrOk.mono (S : Stp C W ρ h ρ' h') {e : Env} (F : FrOk C h e) : FrOk C h' e := by
  obtain ⟨k1, k2, k3, k4, k5, L, o, e1, e2, e3, e4⟩ := F
  obtain ⟨o', e5, e6⟩ := S.dicts L o e3 e4
  exact ⟨k1, k2, k3, k4, k5, L, o', e1, e2, e5, e6⟩
structure AC (C : Cx) (n : Nat) (A : Around) (h : Heap) : Prop where
  hd : A.handled = none
  depth : A.depth + 4 * n + 120 ≤ 990
  units : A.units + 100 * n + 200 ≤ 9900
  fr : ∃ l, A.frames = some l ∧ ∀ e ∈ l, FrOk C h e
theorem AC.mono {n : Nat} {A : Around} (S : Stp C W ρ h ρ' h') (a : AC C n A h) : AC C n A h' :=
  ⟨a.hd, a.depth, a.units, let ⟨l, e, k⟩ := a.fr; ⟨l, e, fun x hx => (k x hx).mono S⟩⟩
structure Now (C : Cx) (n : Nat) (sc : Scope) (ns : List Str) (env : Env) (A : Around) (f : Fm) (ρ : Rho) (σ : H) (s : Shared) : Prop where
  st : St C ρ σ s
  ev : EnvOk C sc ns env f ρ s.heap
  ac : AC C n A s.heap
  ne : A.frames ≠ some []
theorem Now.step {n : Nat} {sc : Scope} {ns : List Str} {env : Env} {A : Around} {f : Fm} (N : Now C n sc ns env A f ρ σ s) (X : St C ρ' σ' s') (S : Stp C NoW ρ s.heap ρ' s'.heap) : Now C n sc ns env A f ρ' σ' s' :=
  ⟨X, N.ev.mono S N.st.hr N.st.inv.tabs0, N.ac.mono S, N.ne⟩
inductive PV (C : Cx) (ρ : Rho) (s : Shared) (σ' : H) (a : AV) (v : Value) (s' : Shared) : Prop
  | mk (ρ' : Rho) (X : St C ρ' σ' s') (S : Stp C NoW ρ s.heap ρ' s'.heap) (vv : VV C ρ' s'.heap s'.heap.objs.size a v) : PV C ρ s σ' a v s'
inductive PL (C : Cx) (ρ : Rho) (s : Shared) (σ' : H) (xs : List AD) (vs : List Value) (s' : Shared) : Prop
  | mk (ρ' : Rho) (X : St C ρ' σ' s') (S : Stp C NoW ρ s.heap ρ' s'.heap) (vv : VRs ρ' s'.heap xs vs) : PL C ρ s σ' xs vs s'
inductive PB (C : Cx) (ρ : Rho) (s : Shared) (σ' : H) (b : Bool) (v : Bool) (s' : Shared) : Prop
  | mk (ee : v = b) (ρ' : Rho) (X : St C ρ' σ' s') (S : Stp C NoW ρ s.heap ρ' s'.heap) : PB C ρ s σ' b v s'
structure CodeOk (C : Cx) (c P : Addr) (pos : Pos) (q : Str) : Prop where
  mem : (P, pos, q) ∈ C.tabs
  code : C.h0.IsCode c P #[]
  table : C.h0.TableAt c P #[]
  kept : ∃ o, C.hk.get? c = some o
  ne : P ≠ cStatics
structure TopOk (C : Cx) : Prop where
  cok : COk C
  obj : ∀ (i : Nat) {a o}, frag[i]? = some (a, o) → isTab a = false → C.hk.get? a = some o
  nam : ∀ (i : Nat) {a l}, nsTab[i]? = some (a, l) → NsAt C.hk a l
  rest : ∃ m, C.hk.Ns 127 m ∧ ∀ x, x ∉ accRest → accFns.lookup x = Option.none → m x = Option.none
  blt : ∃ mb, C.hk.Ns builtinsNs mb ∧ ∀ x : Str, x ≠ "__name__" → mb x = bootBuiltins x
  nolimit : C.hk.NoLimit
  nodigits : ∃ mc, C.hk.Ns cStatics mc ∧ mc "sys.int_max_str_digits" = Option.none
  seer : C.hk.NoSeer
  prog : C.prog = PySem.Challenge.pw_xh0014_01
  tree : C.prog.given.tree = Option.none
  lamc : CodeOk C lamCode lamTab lamPos (lamQual ++ "<lambda>")
  lenc : CodeOk C 94 90 lenPos "_Accumulator.__len__.<locals>.<genexpr>"
  strc : CodeOk C 101 97 strPos "_Accumulator.__str__.<locals>.<genexpr>"
theorem TopOk.glob (T : TopOk C) : NsAt C.hk mainGlobals gTab := T.nam 0 rfl
theorem glob_fn {mg : Str → Option Value} (v : ∀ (i : Nat) {x v}, gTab[i]? = some (x, v) → mg x = v) (g : FN) (hg : isGlob g = true) : mg (fName g) = some (fVal g) := by
  cases g <;> first | cases hg | skip
  · exact v 0 rfl
  · exact v 1 rfl
  · exact v 2 rfl
  · exact v 3 rfl
  · exact v 4 rfl
  · exact v 5 rfl
  · exact v 6 rfl
  · exact v 7 rfl
  · exact v 8 rfl
  · exact v 9 rfl
  · exact v 10 rfl
  · exact v 11 rfl
  · exact v 12 rfl
  · exact v 13 rfl
  · exact v 14 rfl
  · exact v 15 rfl
theorem glob_bi {mg : Str → Option Value} (v : ∀ (i : Nat) {x v}, gTab[i]? = some (x, v) → mg x = v) (b : BI) : mg (biName b) = Option.none := by
  cases b
  · exact v 18 rfl
  · exact v 19 rfl
  · exact v 20 rfl
  · exact v 21 rfl
  · exact v 22 rfl
  · exact v 23 rfl
  · exact v 24 rfl
  · exact v 25 rfl
  · exact v 26 rfl
theorem TopOk.lacks (T : TopOk C) {x : Str} (i : Nat) (e : gTab[i]? = some (x, Option.none)) {mg : Str → Option Value} (h : C.hk.Ns mainGlobals mg) : mg x = Option.none :=
  let ⟨_, h', v⟩ := T.glob; (h.agree h' x).trans (v i e)
noncomputable def kwL (k : Option AV) (kv : Value) : List (Str × Value) := match k with | some _ => [("key", kv)] | .none => []
noncomputable def CallP (C : Cx) (n : Nat) (g : AV) (xs : List AD) (key : Option AV) (σ : H) (r : AD) (σ' : H) : Prop :=
  ∀ (A : Around) (ρ : Rho) (s : Shared) (gv : Value) (vs : List Value) (kv : Value) (E : Value → Shared → Prop), AC C n A s.heap → St C ρ σ s → VV C ρ s.heap s.heap.objs.size g gv → VRs ρ s.heap xs vs →
    (∀ k, key = some k → VV C ρ s.heap s.heap.objs.size k kv) →
    (∀ Q, (∀ k, Q k s) → wpAny (model C.prog C.w) A (keeperOf gv) Q E s) ∧ wpAny (model C.prog C.w) A (PySem.call gv vs (kwL key kv)) (PV C ρ s σ' (.d r)) E s
noncomputable def Own (env : Env) (b : Addr) : Prop := b = env.locals ∨ ∃ x, env.cells.lookup x = some b ∧ env.kindOf x = some .cell
structure OwnOk (C : Cx) (env : Env) (ρ : Rho) (h : Heap) : Prop where
  ge : ∀ b, Own env b → env.locals ≤ b
  new : ∀ b, Own env b → C.h0.get? b = Option.none
  ok : ∀ b, Own env b → ∃ o, h.get? b = some o ∧ isDC o.data = true
  off : ∀ b, Own env b → ¬ Foot ρ b
  inj : ∀ x y c, env.cells.lookup x = some c → env.cells.lookup y = some c → x = y
  ne : ∀ x c, env.cells.lookup x = some c → c ≠ env.locals
  cell : ∀ x, env.kindOf x ≠ some .free
theorem OwnOk.wok {env : Env} (O : OwnOk C env ρ h) : WOk (Own env) h := fun b q => let ⟨o, e, d⟩ := O.ok b q; ⟨o, e, by rw [d]; rfl⟩
theorem OwnOk.mono {env : Env} (O : OwnOk C env ρ h) (S : Stp C NoW ρ h ρ' h') (T : Tabs0 C h) : OwnOk C env ρ' h' :=
  ⟨O.ge, O.new, fun b hb' => by
    obtain ⟨o, e, d⟩ := O.ok b hb'
    obtain ⟨sl, e', _⟩ := S.keep b o e (O.off b hb') (fun q => q) (T.lt (O.new b hb'))
    exact ⟨_, e', d⟩, fun b hb' => by obtain ⟨o, e, _⟩ := O.ok b hb'; exact S.off e (O.off b hb'), O.inj, O.ne, O.cell⟩
noncomputable def FlowR (ρ : Rho) (h : Heap) : FL → Flow → Prop
  | .next, .next => True
  | .ret d, .ret v => VR ρ h d v
  | _, _ => False
inductive PF (C : Cx) (sc : Scope) (ns : List Str) (env : Env) (ρ : Rho) (s : Shared) (σ' : H) (r : FL) (f' : Fm) (g : Flow) (s' : Shared) : Prop
  | mk (ρ' : Rho) (X : St C ρ' σ' s') (S : Stp C (Own env) ρ s.heap ρ' s'.heap) (V : EnvOk C sc ns env f' ρ' s'.heap) (O : OwnOk C env ρ' s'.heap) (rr : FlowR ρ' s'.heap r g) : PF C sc ns env ρ s σ' r f' g s'
noncomputable def Out (C : Cx) (sc : Scope) (ns : List Str) (nd : Nd) (env : Env) (A : Around) (ρ : Rho) (σ : H) (s : Shared) (o : O) (σ' : H) : Prop := match o with
  | .v a => ∀ E, wpAny (model C.prog C.w) A (eval nd.toE env) (PV C ρ s σ' a) E s
  | .l xs => ∀ pos E, wpAny (model C.prog C.w) A (spliced (backTo pos (starEach nd.toL env))) (PL C ρ s σ' xs) E s
  | .b b => ∀ E, wpAny (model C.prog C.w) A (isTrue nd.toE env (eval nd.toE env)) (PB C ρ s σ' b) E s
  | .bs b => ∀ E, wpAny (model C.prog C.w) A (allTrue .Or nd.toT env) (PB C ρ s σ' b) E s
  | .i b => ∀ E, wpAny (model C.prog C.w) A (forIn nd.toT true fun c r => if r = true then do let ok ← isTrue c env (eval c env); pure (ForInStep.yield ok) else pure (ForInStep.yield r)) (PB C ρ s σ' b) E s
  | .o d => ∀ E, wpAny (model C.prog C.w) A (valueOrNone (evalOpt nd.toO env)) (PV C ρ s σ' (.d (d.getD .none))) E s
  | .k .none => nd.toK = [] ∧ σ' = σ
  | .k (some a) => ∃ v p, nd.toK = [⟨some "key", v, p⟩] ∧ ∀ E, wpAny (model C.prog C.w) A (eval v env) (PV C ρ s σ' a) E s
  | .f r f' => OwnOk C env ρ s.heap → ∀ E, wpAny (model C.prog C.w) A (exec nd.toS env) (PF C sc ns env ρ s σ' r f') E s
  | .g r f' => OwnOk C env ρ s.heap → ∀ E, wpAny (model C.prog C.w) A (execs nd.toB env) (PF C sc ns env ρ s σ' r f') E s
end Mine
end
section
namespace Mine
open PySem PySem.W PyProof.Rows PySem.Calls
noncomputable def AccItem (C : Cx) : Prop := ∀ (A : Around) (n : Nat) (ρ : Rho) (σ : H) (s : Shared) (k : Nat) (p : Addr × Addr) (xs : List AD) (m : Int) (vs : List Value), AC C n A s.heap → St C ρ σ s → ρ.l[k]? = some p → σ[k]? = some (.acc xs m) → VRs ρ s.heap xs vs →
  (∃ j, s.heap.get? p.1 = some { cls := accCls, dict := some p.2, data := .seq (List.toArray vs) j, slots := #[] }) →
  (∀ E (Q : Bool → Shared → Prop), Q false s → wpAny (model C.prog C.w) A (getitemInPython (.ref p.1)) Q E s) ∧
  ∀ (i : Int) (t : Tok) (v : Value) E (Q : Value → Shared → Prop), 0 ≤ i → i < 100000 → (∃ j, seqIndex? i vs.length = some j ∧ vs[j]? = some v) → Q v s → wpAny (model C.prog C.w) A (getItem (.ref p.1) (.int i t)) Q E s
noncomputable def AccMeth (C : Cx) : Prop := ∀ (A : Around) (n : Nat) (ρ : Rho) (σ : H) (s : Shared) (k : Nat) (p : Addr × Addr) (xs : List AD) (m : Int) (g : FN) (pl : Sem Bool) (E : Value → Shared → Prop) (Q : Value × List Value → Shared → Prop), AC C n A s.heap → St C ρ σ s →
  ρ.l[k]? = some p → σ[k]? = some (.acc xs m) → isMeth g = true → Q (fVal g, [.ref p.1]) s → wpAny (model C.prog C.w) A (getMethod (.ref p.1) (fName g) pl) Q E s
noncomputable def IntTextOk (C : Cx) : Prop := ∀ (x : Str) (i : Int) (t : Tok) (A : Around) (s : Shared) (E : Value → Shared → Prop) (Q : Value → Shared → Prop), x.length ≤ 8 → intOfText x.cps.toList = some i → Q (.int i s.toks) { s with toks := s.toks + 1 } → wpAny (model C.prog C.w) A (call (.type "int") [.str x t]) Q E s
noncomputable def scopeOkB (sc : Scope) (ns : List Str) : Bool :=
  sc.kind == .function && !sc.isGenerator && !sc.isCoroutine && nodupB ns && ns.all (fun x => (kindIs sc x .local || kindIs sc x .cell) && x != "__debug__" && x != "__classdict__") && sc.names.all fun p => p.2 != .free
inductive LayT (key : Option AV) (kv : Value) : Fm → List Value → Prop
  | nil (k : Nat) : LayT key kv (List.replicate k Option.none) []
  | zero {g : Fm} {w : List Value} (t : Tok) (r : LayT key kv g w) : LayT key kv (some (.d (.int 0)) :: g) (.int 0 t :: w)
  | non {g : Fm} {w : List Value} (r : LayT key kv g w) : LayT key kv (some (.d .none) :: g) (.none :: w)
  | key {g : Fm} {w : List Value} {a : AV} (e : key = some a) (r : LayT key kv g w) : LayT key kv (some a :: g) (kv :: w)
structure FnD where
  cd : Addr
  dV : Value := .none
  kV : Value := .none
  pm : Value := .str "law_xh0014_01" 404
noncomputable def fnD : FN → FnD
  | .insort => ⟨29, .ref 22, .ref 23, .str "cpy313.bisect" 194⟩
  | .bright => ⟨38, .ref 31, .ref 32, .str "cpy313.bisect" 194⟩
  | .bleft => ⟨47, .ref 40, .ref 41, .str "cpy313.bisect" 194⟩
  | .parse => { cd := 175, pm := .str "cpy313.ftplib" 337 }
  | .cells => { cd := 182 }
  | .body => { cd := 189 }
  | .spoilt => { cd := 203 }
  | .port => { cd := 210 }
  | .part => { cd := 217 }
  | .second => { cd := 222 }
  | .turn => { cd := 229 }
  | .cut => { cd := 236 }
  | .lows => { cd := 241 }
  | _ => { cd := 246 }
noncomputable def fdOf (g : FN) : FuncData := fnR (fName g) (fName g) (argsOf g) (bodyOf g) (scopeOf g) [] (fnD g).dV (fnD g).kV (fnD g).pm (.ref (fnD g).cd) .none
inductive BindsG (g : FN) (args : List AD) (key : Option AV) (f : Fm) (s : Shared) (vs : List Value) (kv : Value) : Prop
  | mk (gs : Fm) (w : List Value) (hf : f = args.map (fun x => some (.d x)) ++ gs) (hg : LayT key kv gs w) (hl : (vs ++ w).length ≤ (slotsOf g).length) (hb : BindsTo s (fdOf g) ⟨vs, kwL key kv⟩ (((slotsOf g).take (vs ++ w).length).zip (vs ++ w))) : BindsG g args key f s vs kv
structure FnAt (C : Cx) (g : FN) : Prop where
  ho : C.hk.get? (fAddr g) = some { cls := .type "function", dict := Option.none, data := .func (fdOf g), slots := #[] }
  tx : bodyOf g = (unOf g).nd.toB
  ok : (unOf g).ok = true
  code : C.hk.CodeRec (.ref (fnD g).cd) (fName g)
  sc : scopeOkB (scopeOf g) (slotsOf g) = true
  lam : slotsOf g = lamNs → (fnD g).cd = lamCode ∧ fName g ++ ".<locals>." = lamQual
  len : ∀ {args : List AD} {key : Option AV} {f : Fm}, bindF g args key = some f → f.length = (slotsOf g).length
  bind : ∀ {args : List AD} {key : Option AV} {f : Fm}, bindF g args key = some f → ∀ (s : Shared) (vs : List Value) (kv : Value), (∀ b o, C.hk.get? b = some o → s.heap.get? b = some o) → vs.length = args.length → BindsG g args key f s vs kv
structure Hyp (C : Cx) : Prop where
  top : TopOk C
  item : AccItem C
  meth : AccMeth C
  text : IntTextOk C
  fns : ∀ g, isPrim g = false → FnAt C g
noncomputable def cx0 : Cx := ⟨PySem.Challenge.pw_xh0014_01, { draws := fun _ _ => 0, params := { strHash := fun _ => 0, shareClass := fun _ => 0, mergeTok := id, idOf := fun _ => 0, idOfShared := fun _ _ => 0, followText := fun _ => false, idOfImm := fun _ => 0 } }, {}, {}, {}, []⟩
noncomputable def LawOk (C : Cx) : Prop := ∀ xs : List Int, xs.length ≤ 63 → ∃ σ, CallP C 12 (.fn .law) [.lst (xs.map .int)] .none [] (.bool true) σ
@[irreducible] noncomputable def C : Cx := @Classical.epsilon Cx ⟨cx0⟩ fun C => TopOk C ∧ ¬ LawOk C
theorem for_all (h : TopOk C → LawOk C) {C' : Cx} (T : TopOk C') : LawOk C' := Classical.byContradiction fun q => by
  have := @Classical.epsilon_spec Cx (fun C => TopOk C ∧ ¬ LawOk C) ⟨C', T, q⟩
  unfold C at h
  exact this.2 (h this.1)
noncomputable def Ev (n : Nat) (x : X) (f : Fm) (σ : H) (o : O) (σ' : H) : Prop := Hyp C → ∀ (sc : Scope) (ns : List Str) (t : Sd) (env : Env) (A : Around) (ρ : Rho) (s : Shared), (un sc ns x t).ok = true → Now C n sc ns env A f ρ σ s → Out C sc ns (un sc ns x t).nd env A ρ σ s o σ'
noncomputable def CallS (n : Nat) (g : AV) (xs : List AD) (key : Option AV) (σ : H) (r : AD) (σ' : H) : Prop := Hyp C → CallP C n g xs key σ r σ'
end Mine
end
section
namespace Mine
open PySem PySem.W PyProof.Rows PySem.Calls
variable {n : Nat} {ρ ρ' : Rho} {σ σ' : H} {s s' : Shared} {h h' : Heap} {A : Around} {E : Value → Shared → Prop} {a b : Value} {x y r : AD} {sc : Scope} {ns : List Str} {env : Env} {f : Fm}
theorem PV.here (X : St C ρ σ s) (v : VR ρ s.heap r a) : PV C ρ s σ (.d r) a s := ⟨ρ, X, .refl, v⟩
theorem PV.int {i : Int} {t k : Nat} (X : St C ρ σ s) : PV C ρ s σ (.d (.int i)) (.int i t) { s with toks := k } := ⟨ρ, X.toks, .refl, by show VR _ _ _ _; rw [VR]; exact ⟨t, rfl⟩⟩
theorem PV.str {i : Str} {t k : Nat} (X : St C ρ σ s) : PV C ρ s σ (.d (.str i)) (.str i t) { s with toks := k } := ⟨ρ, X.toks, .refl, by show VR _ _ _ _; rw [VR]; exact ⟨t, rfl⟩⟩
theorem PV.bool {i : Bool} (X : St C ρ σ s) : PV C ρ s σ (.d (.bool i)) (.bool i) s := .here X (by rw [VR])
theorem PV.trans {g : AV} (S : Stp C NoW ρ s.heap ρ' s'.heap) : ∀ {v s₂}, PV C ρ' s' σ' g v s₂ → PV C ρ s σ' g v s₂ := fun ⟨ρ₂, X, S₂, v⟩ => ⟨ρ₂, X, S.trans S₂, v⟩
inductive I_bD {β : Type} (x : AV) (k : AD → Option β) (y : β) : Prop | mk (i : AD) (h : x = .d i) (e : k i = some y) : I_bD x k y
theorem bD_inv {β : Type} {g : AV} {k : AD → Option β} {y : β} (e : bD g k = some y) : I_bD g k y := by
  cases g <;> first | exact ⟨_, rfl, e⟩ | exact nsE e
inductive I_bB {β : Type} (x : AD) (k : Bool → Option β) (y : β) : Prop | mk (i : Bool) (h : x = .bool i) (e : k i = some y) : I_bB x k y
theorem bB_inv {β : Type} {k : Bool → Option β} {y : β} (e : bB x k = some y) : I_bB x k y := by
  cases x <;> first | exact ⟨_, rfl, e⟩ | exact nsE e
theorem str_len {x : Str} : x.length = x.cps.toList.length := by simp [Str.length]
theorem repl_flat (n : Nat) (l : Array Nat) : (List.replicate n l).foldl (· ++ ·) #[] = ((List.replicate n l.toList).flatten).toArray := by
  have key : ∀ (n : Nat) (acc : Array Nat), (List.replicate n l).foldl (· ++ ·) acc = (acc.toList ++ (List.replicate n l.toList).flatten).toArray := by
    intro n
    induction n with
    | zero => intro acc; simp
    | succ n ih => intro acc; rw [List.replicate_succ, List.foldl_cons, ih]; simp [List.replicate_succ]
  rw [key]; simp
theorem VR.ofInt {i : Int} (e : VR ρ h (.int i) a) : ∃ t, a = .int i t := by rw [VR] at e; exact e
theorem VR.ofStr {i : Str} (e : VR ρ h (.str i) a) : ∃ t, a = .str i t := by rw [VR] at e; exact e
theorem VR.ofBool {i : Bool} (e : VR ρ h (.bool i) a) : a = .bool i := by rw [VR] at e; exact e
theorem VR.ofNone (e : VR ρ h .none a) : a = .none := by rw [VR] at e; exact e
theorem str_nil_append {x y : Str} (e : (x.length == 0) = true) : x ++ y = y := by
  obtain ⟨⟨x⟩⟩ := x; obtain ⟨⟨y⟩⟩ := y
  have : x = [] := by simpa [Str.length] using e
  subst this
  show (⟨_⟩ : Str) = _
  simp
theorem str_append_nil {x y : Str} (e : (y.length == 0) = true) : x ++ y = x := by
  obtain ⟨⟨x⟩⟩ := x; obtain ⟨⟨y⟩⟩ := y
  have : y = [] := by simpa [Str.length] using e
  subst this
  show (⟨_⟩ : Str) = _
  simp
theorem add_str_ok {x y : Str} {t u : Tok} (X : St C ρ σ s) (hl : x.length + y.length ≤ 100000) : wpAny (model C.prog C.w) A (binaryOp .Add (.str x t) (.str y u)) (PV C ρ s σ (.d (.str (x ++ y)))) E s := by
  with_reducible refine P.add_str ?_
  split
  · rename_i q; rw [str_nil_append q]; exact .here X (by rw [VR]; exact ⟨_, rfl⟩)
  · split
    · rename_i q; rw [str_append_nil q]; exact .here X (by rw [VR]; exact ⟨_, rfl⟩)
    · refine ⟨?_, .str X⟩
      have : (x ++ y).length = x.length + y.length := by
        show (x.cps ++ y.cps).size = _
        simp [Str.length]
      rw [this]
      show _ ≤ 2 ^ 24
      lia
theorem mul_str_ok {x : Str} {k : Nat} {t u : Tok} (X : St C ρ σ s) (hx : x.length ≤ 10) (hk : k ≤ 1000) :
    wpAny (model C.prog C.w) A (binaryOp .Mult (.str x t) (.int (k : Int) u)) (PV C ρ s σ (.d (.str ⟨(List.replicate k x.cps.toList).flatten.toArray⟩))) E s := by
  have k0 : (decide ((k : Int) < -(2 ^ 63 : Int)) || decide ((k : Int) ≥ 2 ^ 63)) = false := by simp; lia
  with_reducible refine P.mul_str k0 (fun h1 h2 => ?_) (fun h1 h2 => ?_) ?_
  · have hk0 : (0 : Int) < k := by lia
    intro q
    have h3 : (x.length : Int) * k ≤ 10 * 1000 := by exact_mod_cast Nat.mul_le_mul hx hk
    have : (x.length : Int) ≤ (2 ^ 63 - 1) / k := Int.le_ediv_of_mul_le hk0 (by lia)
    lia
  · have : x.length * (k : Int).toNat ≤ 10 * 1000 := Nat.mul_le_mul hx (by simpa using hk)
    refine decide_eq_false fun q => ?_
    have : sizeLine = 16777216 := rfl
    lia
  · split
    · rename_i q
      have : k = 0 := by lia
      subst this
      exact ⟨by decide, .str X⟩
    · split
      · rename_i q
        refine .here X ?_
        rw [VR]
        refine ⟨t, ?_⟩
        congr 1
        rcases Bool.or_eq_true_iff.mp q with q | q
        · have : k = 1 := by have := beq_iff_eq.mp q; lia
          subst this
          simp
        · obtain ⟨⟨x⟩⟩ := x
          have : x = [] := by simpa [Str.length] using q
          subst this
          simp
      · rw [show (k : Int).toNat = k from rfl, repl_flat]
        refine ⟨?_, .str X⟩
        show (List.flatten _).toArray.size ≤ _
        simp [Str.length] at hx ⊢
        have : k * x.cps.size ≤ 1000 * 10 := Nat.mul_le_mul hk hx
        show _ ≤ 2 ^ 24
        lia
theorem Now.pylong (T : TopOk C) (N : Now C n sc ns env A f ρ σ s) : PylongRoom (model C.prog C.w) A s := by
  obtain ⟨l, e, k⟩ := N.ac.fr
  cases l with
  | nil => exact (N.ne e).elim
  | cons fe l =>
    obtain ⟨k1, k2, k3, k4, k5, _⟩ := k fe (.head _)
    refine PylongRoom.of (T.nolimit.keeps N.st.inv.keep) ?_ (SeerAt.of (T.seer.keeps N.st.inv.keep) T.tree e k2 k3 k4 k5)
    have := N.ac.depth
    show A.depth + 100 < 1000
    lia
inductive I_bI {β : Type} (x : AD) (k : Int → Option β) (y : β) : Prop | mk (i : Int) (h : x = .int i) (e : k i = some y) : I_bI x k y
theorem bI_inv {β : Type} {k : Int → Option β} {y : β} (e : bI x k = some y) : I_bI x k y := by
  cases x <;> first | exact ⟨_, rfl, e⟩ | exact nsE e
inductive I_bS {β : Type} (x : AD) (k : Str → Option β) (y : β) : Prop | mk (i : Str) (h : x = .str i) (e : k i = some y) : I_bS x k y
theorem bS_inv {β : Type} {k : Str → Option β} {y : β} (e : bS x k = some y) : I_bS x k y := by
  cases x <;> first | exact ⟨_, rfl, e⟩ | exact nsE e
inductive I_bR {β : Type} (x : AD) (k : Nat → Option β) (y : β) : Prop | mk (i : Nat) (h : x = .ref i) (e : k i = some y) : I_bR x k y
theorem bR_inv {β : Type} {k : Nat → Option β} {y : β} (e : bR x k = some y) : I_bR x k y := by
  cases x <;> first | exact ⟨_, rfl, e⟩ | exact nsE e
inductive I_bN {β : Type} (x : AD) (k : Nat → Option β) (y : β) : Prop | mk (i : Nat) (h : x = .int (i : Int)) (e : k i = some y) : I_bN x k y
theorem bN_inv {β : Type} {k : Nat → Option β} {y : β} (e : bN x k = some y) : I_bN x k y := by
  obtain ⟨i, rfl, e⟩ := bI_inv e
  cases i with
  | ofNat i => exact ⟨i, rfl, e⟩
  | negSucc i => cases e
theorem bIf_inv {β : Type} {c : Bool} {k : Option β} {y : β} (e : bIf c k = some y) : c = true ∧ k = some y := by
  cases c with
  | true => exact ⟨rfl, e⟩
  | false => cases e
inductive I_bO {β : Type} (σ : H) (r : Nat) (k : List AD → Option β) (y : β) : Prop | mk (xs : List AD) (h : σ[r]? = some (.list xs)) (e : k xs = some y) : I_bO σ r k y
theorem bO_inv {β : Type} {r : Nat} {k : List AD → Option β} {y : β} (e : bO σ r k = some y) : I_bO σ r k y := by
  unfold bO at e
  cases q : σ[r]? with
  | none => rw [q] at e; cases e
  | some o =>
    rw [q] at e
    cases o with
    | list xs => exact ⟨xs, q, e⟩
    | acc xs n => cases e
theorem bA_inv {β : Type} {r : Nat} {k : List AD → Int → Option β} {y : β} (e : bA σ r k = some y) : ∃ xs n, σ[r]? = some (.acc xs n) ∧ k xs n = some y := by
  unfold bA at e
  cases q : σ[r]? with
  | none => rw [q] at e; cases e
  | some o =>
    rw [q] at e
    cases o with
    | list xs => cases e
    | acc xs n => exact ⟨xs, n, rfl, e⟩
theorem pop1_inv {β : Type} {xs : List AD} {k : AD → List AD → Option β} {y : β} (e : pop1 xs k = some y) : ∃ x r, xs = x :: r ∧ k x r = some y := by
  cases xs with
  | nil => cases e
  | cons x r => exact ⟨x, r, rfl, e⟩
inductive I_one {β : Type} (xs : List AD) (k : AD → Option β) (y : β) : Prop | mk (x : AD) (h : xs = [x]) (e : k x = some y) : I_one xs k y
theorem one_inv {β : Type} {xs : List AD} {k : AD → Option β} {y : β} (e : one xs k = some y) : I_one xs k y := by
  cases xs with
  | nil => cases e
  | cons x r => cases r with
    | nil => exact ⟨x, rfl, e⟩
    | cons _ _ => cases e
inductive I_two {β : Type} (xs : List AD) (k : AD → AD → Option β) (y : β) : Prop | mk (x x' : AD) (h : xs = [x, x']) (e : k x x' = some y) : I_two xs k y
theorem two_inv {β : Type} {xs : List AD} {k : AD → AD → Option β} {y : β} (e : two xs k = some y) : I_two xs k y := by
  obtain ⟨x, r, rfl, e⟩ := pop1_inv e
  obtain ⟨x', rfl, e⟩ := one_inv e
  exact ⟨x, x', rfl, e⟩
theorem binI_ok {o : BO} {i j : Int} {t u : Tok} (T : TopOk C) (N : Now C n sc ns env A f ρ σ s) (e : binI o i j = some r) :
    wpAny (model C.prog C.w) A (binaryOp (bopO o) (.int i t) (.int j u)) (PV C ρ s σ (.d r)) E s := by
  cases o with
  | add => cases e; show wpAny _ _ (binaryOp .Add _ _) _ _ _; with_reducible exact P.add_int (.int N.st)
  | sub => cases e; show wpAny _ _ (binaryOp .Sub _ _) _ _ _; with_reducible exact P.sub_int (.int N.st)
  | mul =>
    obtain ⟨c, e⟩ := bIf_inv e; cases e; show wpAny _ _ (binaryOp .Mult _ _) _ _ _
    have k : i.natAbs < 2 ^ 64 := by have := of_decide_eq_true c; lia
    with_reducible exact P.mul_int (.int N.st) (IntMulOk.of_left (intBits_le k))
  | fdiv =>
    obtain ⟨c, e⟩ := bIf_inv e; cases e; show wpAny _ _ (binaryOp .FloorDiv _ _) _ _ _
    have k := bne_iff_ne.mp c
    have p := N.pylong T
    with_reducible exact PyProof.Rows.floordiv_int k (.int N.st) (.inr p)
  | mod =>
    obtain ⟨c, e⟩ := bIf_inv e; cases e; show wpAny _ _ (binaryOp .Mod _ _) _ _ _
    have k := bne_iff_ne.mp c
    with_reducible exact PyProof.Rows.mod_int' k (.int N.st)
  | pow =>
    obtain ⟨c, e⟩ := bIf_inv e; cases e; show wpAny _ _ (binaryOp .Pow _ _) _ _ _
    obtain ⟨c, c3⟩ := Bool.and_eq_true_iff.mp c
    obtain ⟨c1, c2⟩ := Bool.and_eq_true_iff.mp c
    have k1 := of_decide_eq_true c2
    have k2 : j ≤ 1000000 := by have := of_decide_eq_true c3; lia
    have k3 : i.natAbs < 2 ^ 64 := by have := of_decide_eq_true c1; lia
    with_reducible exact PyProof.Rows.pow_int_small k1 k2 k3 (.int N.st)
theorem bin_ok {o : BO} (T : TopOk C) (N : Now C n sc ns env A f ρ σ s) (e : binD o x y = some r) (ha : VR ρ s.heap x a) (hb : VR ρ s.heap y b) :
    wpAny (model C.prog C.w) A (binaryOp (bopO o) a b) (PV C ρ s σ (.d r)) E s := by
  unfold binD at e; split at e
  · obtain ⟨j, rfl, e'⟩ := bI_inv e
    obtain ⟨t, rfl⟩ := ha.ofInt; obtain ⟨u, rfl⟩ := hb.ofInt
    with_reducible exact binI_ok T N e'
  · obtain ⟨t, rfl⟩ := ha.ofStr
    cases o with
    | add =>
      obtain ⟨z, rfl, e'⟩ := bS_inv e
      obtain ⟨c, e'⟩ := bIf_inv e'; cases e'
      obtain ⟨u, rfl⟩ := hb.ofStr
      have k := of_decide_eq_true c
      show wpAny _ _ (binaryOp .Add _ _) _ _ _
      with_reducible exact add_str_ok N.st k
    | mul =>
      obtain ⟨z, rfl, e'⟩ := bN_inv e
      obtain ⟨c, e'⟩ := bIf_inv e'; cases e'
      obtain ⟨u, rfl⟩ := hb.ofInt
      obtain ⟨c1, c2⟩ := Bool.and_eq_true_iff.mp c
      have k1 := of_decide_eq_true c1
      have k2 := of_decide_eq_true c2
      show wpAny _ _ (binaryOp .Mult _ _) _ _ _
      with_reducible exact mul_str_ok N.st k1 k2
    | _ => cases e
  · cases e
end Mine
end
section
namespace Mine
open PySem PySem.W PyProof.Rows PySem.Calls
variable {n : Nat} {ρ ρ' : Rho} {σ σ' : H} {s s' : Shared} {h h' : Heap} {A : Around} {E : Value → Shared → Prop} {sc : Scope} {ns : List Str} {env : Env} {f : Fm} {x a b : X} {e : Expr} {σ₁ σ₂ : H} {d d2 z : AD} {u : AV} {xs : List AD}
theorem VV.le {lim lim' : Nat} {a : AV} {v : Value} (hl : lim ≤ lim') (N : St C ρ σ s) (e : VV C ρ s.heap lim a v) : VV C ρ s.heap lim' a v :=
  e.mono (W := NoW) .refl N.hr WOk.no N.inv.tabs0 (fun _ _ _ l => Nat.lt_of_lt_of_le l hl) fun _ q => q.elim
theorem VV.toVR {lim : Nat} {d : AD} {v : Value} (e : VV C ρ h lim (.d d) v) : VR ρ h d v := e
theorem and1 {p q : Bool} (h : (p && q) = true) : p = true := (Bool.and_eq_true_iff.mp h).1
theorem and2 {p q : Bool} (h : (p && q) = true) : q = true := (Bool.and_eq_true_iff.mp h).2
inductive PVs (C : Cx) (n : Nat) (sc : Scope) (ns : List Str) (env : Env) (A : Around) (f : Fm) (ρ : Rho) (s : Shared) (σ' : H) (a : AD) (v : Value) (s' : Shared) : Prop
  | mk (ρ' : Rho) (N : Now C n sc ns env A f ρ' σ' s') (S : Stp C NoW ρ s.heap ρ' s'.heap) (vr : VR ρ' s'.heap a v) (up : ∀ {d v'}, VR ρ s.heap d v' → VR ρ' s'.heap d v') : PVs C n sc ns env A f ρ s σ' a v s'
theorem PV.split {a : AD} {v : Value} (N : Now C n sc ns env A f ρ σ s) (p : PV C ρ s σ' (.d a) v s') : PVs C n sc ns env A f ρ s σ' a v s' :=
  let ⟨ρ', X, S, v⟩ := p
  ⟨ρ', N.step X S, S, v, fun e => e.mono S WOk.no N.st.inv.tabs0⟩
inductive PVv (C : Cx) (n : Nat) (sc : Scope) (ns : List Str) (env : Env) (A : Around) (f : Fm) (ρ : Rho) (s : Shared) (σ' : H) (a : AV) (v : Value) (s' : Shared) : Prop
  | mk (ρ' : Rho) (N : Now C n sc ns env A f ρ' σ' s') (S : Stp C NoW ρ s.heap ρ' s'.heap) (vv : VV C ρ' s'.heap s'.heap.objs.size a v) : PVv C n sc ns env A f ρ s σ' a v s'
theorem PV.splitV {a : AV} {v : Value} (N : Now C n sc ns env A f ρ σ s) (p : PV C ρ s σ' a v s') : PVv C n sc ns env A f ρ s σ' a v s' :=
  let ⟨ρ', X, S, v⟩ := p
  ⟨ρ', N.step X S, S, v⟩
theorem getD_some {i : Nat} (h : i < ns.length) : ns[i]? = some (ns.getD i Str.empty) := by simp [List.getD, List.getElem?_eq_getElem h]
theorem Now.load (N : Now C n sc ns env A f ρ σ s) {i : Nat} {a : AV} {p : Pos} (ha : f[i]? = some (some a)) : wpAny (model C.prog C.w) A (eval (nameE ns i p) env) (PV C ρ s σ a) E s := by
  have h0 : i < ns.length := by rw [← N.ev.len]; exact (List.getElem?_eq_some_iff.mp ha).1
  have h1 := getD_some h0
  obtain ⟨o, l, k⟩ := N.ev.slot i _ h1
  obtain ⟨v, rfl, hv⟩ := k a ha
  have fin : PV C ρ s σ a v s := ⟨ρ, N.st, .refl, hv.le (let ⟨_, e⟩ := N.ev.lt; Nat.le_of_lt (Heap.lt_size e)) N.st⟩
  refine wpAny_Name ?_ (N.ev.dbg _ (List.mem_of_getElem? h1))
  rcases l with ⟨l1, m, l2, l3⟩ | ⟨l1 | l1, l2, c, l3, l4, _⟩
  · exact wpAny_loadName_local N.ev.kind l1 l2 l3 fin
  · exact wpAny_loadName_cell N.ev.kind l1 l3 l4 fin
  · exact wpAny_loadName_free N.ev.kind l1 l3 l4 fin (beq_eq_false_iff_ne.mpr l2)
theorem fName_dbg : ∀ g, (fName g == ("__debug__" : Str)) = false := fun g => by cases g <;> decide
theorem boot_bi : ∀ b, bootBuiltins (biName b) = some (biVal b) ∧ biName b ≠ "__name__" ∧ (biName b == ("__debug__" : Str)) = false := fun b => by cases b <;> exact ⟨by decide +kernel, by decide +kernel, by decide +kernel⟩
theorem Now.globF (T : TopOk C) (N : Now C n sc ns env A f ρ σ s) {g : FN} {p : Pos} {Q : Value → Shared → Prop} (he : gOk sc (fName g) = true) (hg : isGlob g = true) (q : Q (fVal g) s) : wpAny (model C.prog C.w) A (eval (.Name (fName g) p) env) Q E s := by
  obtain ⟨mg, hm, v⟩ := T.glob
  exact Name_function_global N.ev.kind (N.ev.kk _ _ (.inr (.inr rfl)) he) (loadGlobal_global (by rw [N.ev.glob]; exact hm.keeps N.st.inv.keep) (glob_fn v g hg) q) (fName_dbg g)
theorem Now.globB (T : TopOk C) (N : Now C n sc ns env A f ρ σ s) {x : Str} {v : Value} {p : Pos} {Q : Value → Shared → Prop} (he : gOk sc x = true) (hx : ∀ mg, C.hk.Ns mainGlobals mg → mg x = .none) (hb : bootBuiltins x = some v ∧ x ≠ "__name__" ∧ (x == ("__debug__" : Str)) = false) (q : Q v s) :
    wpAny (model C.prog C.w) A (eval (.Name x p) env) Q E s := by
  obtain ⟨mg, hm, _⟩ := T.glob
  obtain ⟨mb, hmb, hf'⟩ := T.blt
  exact Name_function_global N.ev.kind (N.ev.kk _ _ (.inr (.inr rfl)) he) (loadGlobal_builtin (by rw [N.ev.glob]; exact hm.keeps N.st.inv.keep) (hx _ hm) (by rw [N.ev.bi]; exact hmb.keeps N.st.inv.keep) ((hf' _ hb.2.1).trans hb.1) q) hb.2.2
theorem e_c : Ev n (.c d) f σ (.v (.d d)) σ := fun Y sc ns t env A ρ s ok N => by
  intro E
  show wpAny _ _ (constValue env (constO d)) _ _ _
  cases d with
  | none => exact wpAny_pure (.here N.st (by rw [VR]))
  | bool b => exact wpAny_pure (.bool N.st)
  | int i => exact wpAny_mkInt (.int N.st)
  | str x => exact wpAny_mkText (.str N.st)
  | _ => cases ok
theorem e_v {i : Nat} (h : f[i]? = some (some u)) : Ev n (.v i) f σ (.v u) σ := fun Y sc ns t env A ρ s ok N => by
  exact fun E => N.load h
theorem e_fv {g : FN} : Ev n (.fv g) f σ (.v (.fn g)) σ := fun Y sc ns t env A ρ s ok N => by
  exact fun E => N.globF Y.top (and1 (and1 ok)) (and2 (and1 ok)) ⟨ρ, N.st, .refl, rfl⟩
theorem e_bin {o : BO} (ia : Ev n a f σ (.v (.d d)) σ₁) (ib : Ev n b f σ₁ (.v (.d d2)) σ₂) (r3 : binD o d d2 = some z) : Ev n (.bin o a b) f σ (.v (.d z)) σ₂ := fun Y sc ns t env A ρ s ok N => by
  refine fun E => wpAny_BinOp (wpAny_mono (ia Y _ _ _ _ _ _ _ (and1 ok) N E) (fun v s₁ hv => ?_) fun _ _ e => e)
  obtain ⟨ρ₁, N₁, S₁, v1, _⟩ := hv.split N
  refine wpAny_mono (ib Y _ _ _ _ _ _ _ (and2 ok) N₁ E) (fun v' s₂ hv' => ?_) fun _ _ e => e
  obtain ⟨ρ₂, N₂, S₂, v2, up⟩ := hv'.split N₁
  exact wpAny_mono (bin_ok Y.top N₂ r3 (up v1) v2) (fun _ _ q => PV.trans (S₁.trans S₂) q) fun _ _ e => e
theorem e_neg {i : Int} (ia : Ev n a f σ (.v (.d (.int i))) σ₁) : Ev n (.neg a) f σ (.v (.d (.int (-i)))) σ₁ := fun Y sc ns t env A ρ s ok N => by
  intro E
  show wpAny _ _ (eval (.UnaryOp .USub _ _) _) _ _ _
  rw [arm_eval_UnaryOp]
  refine wpAny_bind (wpAny_mono (ia Y _ _ _ _ _ _ _ ok N E) (fun v s₁ hv => wpAny_bind (wpAny_standAt (wpAny_holding ?_))) fun _ _ e => e)
  obtain ⟨ρ₁, X, S₁, v1⟩ := hv
  obtain ⟨t, rfl⟩ := v1.toVR.ofInt
  have fin : PV C ρ s σ₁ (.d (.int (-i))) (.int (-i) s₁.toks) { s₁ with toks := s₁.toks + 1 } := PV.trans S₁ (PV.int X)
  with_reducible exact P.neg_int fin
theorem isn_iff {k : Nat} (h : isn e k = true) : kE e ≠ k := bne_iff_ne.mp h
theorem starEach_cons {r : List Expr} (h : isn e 1 = true) : starEach (e :: r) env = (false, eval e env) :: starEach r env := by
  have h := isn_iff h
  cases e <;> first | rfl | exact absurd rfl h
theorem swaps_no {t : Option Expr} {l : Nat} (h : isn e 2 = true) : swapsWith e t l env = pure false := by
  have h := isn_iff h
  cases e <;> first | rfl | exact absurd rfl h
theorem notSet {op : CmpOp} (h : isn e 3 = true) : (∀ env x, foldedSetIterable e env x = pure x) ∧ behindInMarks op e = false := by
  have h := isn_iff h
  cases e <;> first | exact ⟨fun _ _ => rfl, rfl⟩ | exact absurd rfl h
theorem test_ok {Q : Bool → Shared → Prop} (h : isn e 4 = true) (w : wpAny (model C.prog C.w) A (eval e env) (fun v s' => wpAny (model C.prog C.w) A (truthy v) Q E s') E s) : wpAny (model C.prog C.w) A (isTrue e env (eval e env)) Q E s := by
  have h := isn_iff h
  have gen : ∀ p : Pos, wpAny (model C.prog C.w) A (do let v ← eval e env; standAt p; holding [v] (truthy v)) Q E s := fun p => wpAny_bind (wpAny_mono w (fun v s' q => wpAny_bind (wpAny_standAt (wpAny_holding q))) fun _ _ e => e)
  cases e with
  | UnaryOp op x p => cases op <;> first | exact gen _ | exact absurd rfl h
  | BoolOp op x p => exact absurd rfl h
  | IfExp a b c p => exact absurd rfl h
  | Compare l ops cs p =>
    have q : (ops.length == 1 && cs.length == 1) = true := by
      cases q : (ops.length == 1 && cs.length == 1) with
      | true => rfl
      | false => exact absurd (by show (bif (ops.length == 1 && cs.length == 1) then 0 else 4) = 4; rw [q]; rfl) h
    obtain ⟨op, rfl⟩ := List.length_eq_one_iff.mp (beq_iff_eq.mp (and1 q))
    obtain ⟨c, rfl⟩ := List.length_eq_one_iff.mp (beq_iff_eq.mp (and2 q))
    rw [isTrue_Compare1]
    intro Γ p' hΓ
    have w := w Γ p' hΓ
    rw [eval_Compare1] at w
    simp only [Sem.wp_bind', Sem.wp_holding, Sem.wp_cmd_standAt, Sem.wp_operate] at w ⊢
    refine Sem.wp_mono _ Γ _ (fun a p₁ s₁ h₁ => Sem.wp_mono _ Γ _ (fun b _ s₂ h₂ => Sem.wp_mono _ Γ _ (fun c p₃ s₃ h₃ => h₃ Γ p₃ hΓ) (fun _ _ _ h' => h') _ _ h₂) (fun _ _ _ h' => h') _ _ h₁) (fun _ _ _ h' => h') _ _ w
  | _ => exact gen _
theorem noStar (env : Env) (pos : Pos) : ∀ (x : X) (sc : Scope) (ns : List Str) (t : Sd), (un sc ns x t).ok = true → (backTo pos (starEach (un sc ns x t).nd.toL env)).any (·.1) = false := by
  intro x
  induction x with
  | cons a b ia ib =>
    intro sc ns t ok
    show (backTo pos (starEach (_ :: _) _)).any _ = _
    rw [starEach_cons (and2 ok)]
    exact ib _ _ _ (and2 (and1 ok))
  | _ => exact fun _ _ _ _ => rfl
theorem e_nil : Ev n .nil f σ (.l []) σ := fun Y sc ns t env A ρ s ok N => by
  exact fun pos E => spliced_nil ⟨ρ, N.st, .refl, .nil⟩
theorem e_cons (ia : Ev n a f σ (.v (.d d)) σ₁) (ib : Ev n b f σ₁ (.l xs) σ₂) : Ev n (.cons a b) f σ (.l (d :: xs)) σ₂ := fun Y sc ns t env A ρ s ok N => by
  intro pos E
  show wpAny _ _ (spliced (backTo pos (starEach (_ :: _) _))) _ _ _
  rw [starEach_cons (and2 ok)]
  refine spliced_cons (wpAny_mono (ia Y _ _ _ _ _ _ _ (and1 (and1 ok)) N E) (fun v s₁ hv => ?_) fun _ _ e => e)
  obtain ⟨ρ₁, N₁, S₁, v1, _⟩ := hv.split N
  refine wpAny_mono (ib Y _ _ _ _ _ _ _ (and2 (and1 ok)) N₁ pos E) (fun vs s₂ hv' => ?_) fun _ _ e => e
  obtain ⟨ρ₂, X, S₂, v2⟩ := hv'
  exact ⟨ρ₂, X, S₁.trans S₂, .cons (v1.mono S₂ WOk.no N₁.st.inv.tabs0) v2⟩
theorem e_non : Ev n .non f σ (.o .none) σ := fun Y sc ns t env A ρ s ok N => by
  exact fun E => wpAny_pure (.here (r := .none) N.st (by rw [VR]))
theorem e_som (ia : Ev n a f σ (.v (.d d)) σ₁) : Ev n (.som a) f σ (.o (some d)) σ₁ := fun Y sc ns t env A ρ s ok N => by
  exact ia Y _ _ _ _ _ _ _ ok N
theorem e_nok : Ev n .nok f σ (.k .none) σ := fun Y sc ns t env A ρ s ok N => by
  exact ⟨rfl, rfl⟩
theorem e_key (ia : Ev n a f σ (.v u) σ₁) : Ev n (.key a) f σ (.k (some u)) σ₁ := fun Y sc ns t env A ρ s ok N => by
  exact ⟨_, _, rfl, ia Y _ _ _ _ _ _ _ ok N⟩
theorem e_tst {B : Bool} (ia : Ev n a f σ (.v (.d (.bool B))) σ₁) : Ev n (.tst a) f σ (.b B) σ₁ := fun Y sc ns t env A ρ s ok N => by
  refine fun E => test_ok (and2 ok) (wpAny_mono (ia Y _ _ _ _ _ _ _ (and1 ok) N E) (fun v s₁ hv => ?_) fun _ _ e => e)
  obtain ⟨ρ₁, X, S₁, v1⟩ := hv
  cases v1.toVR.ofBool
  exact wpAny_truthy_bool ⟨rfl, ρ₁, X, S₁⟩
theorem e_nott {B : Bool} (ia : Ev n a f σ (.b B) σ₁) : Ev n (.nott a) f σ (.b (!B)) σ₁ := fun Y sc ns t env A ρ s ok N => by
  intro E
  show wpAny _ _ (do return !(← isTrue (un sc ns a (t.k 0)).nd.toE env (eval (un sc ns a (t.k 0)).nd.toE env))) _ _ _
  refine wpAny_bind (wpAny_mono (ia Y _ _ _ _ _ _ _ ok N E) (fun v s₁ hv => ?_) fun _ _ e => e)
  obtain ⟨rfl, ρ₁, X, S₁⟩ := hv
  exact wpAny_pure ⟨rfl, ρ₁, X, S₁⟩
theorem e_or {B : Bool} (ia : Ev n a f σ (.bs B) σ₁) : Ev n (.or a) f σ (.b B) σ₁ := fun Y sc ns t env A ρ s ok N => by
  exact ia Y _ _ _ _ _ _ _ ok N
theorem e_fls : Ev n .fls f σ (.bs false) σ := fun Y sc ns t env A ρ s ok N => by
  exact fun E => wpAny_pure ⟨rfl, ρ, N.st, .refl⟩
theorem e_orv {B : Bool} (ia : Ev n a f σ (.b false) σ₁) (ib : Ev n b f σ₁ (.bs B) σ₂) : Ev n (.orv a b) f σ (.bs B) σ₂ := fun Y sc ns t env A ρ s ok N => by
  intro E
  show wpAny _ _ (do
      match BoolOp.Or, ← isTrue (un sc ns a (t.k 0)).nd.toE env (eval (un sc ns a (t.k 0)).nd.toE env) with
      | .And, false => pure false
      | .Or, true => pure true
      | _, _ => allTrue .Or (un sc ns b (t.k 1)).nd.toT env) _ _ _
  refine wpAny_bind (wpAny_mono (ia Y _ _ _ _ _ _ _ (and1 ok) N E) (fun v s₁ hv => ?_) fun _ _ e => e)
  obtain ⟨rfl, ρ₁, X, S₁⟩ := hv
  refine wpAny_mono (ib Y _ _ _ _ _ _ _ (and2 ok) (N.step X S₁) E) (fun v s₂ hv => ?_) fun _ _ e => e
  obtain ⟨rfl, ρ₂, X₂, S₂⟩ := hv
  exact ⟨rfl, ρ₂, X₂, S₁.trans S₂⟩
theorem e_yes : Ev n .yes f σ (.i true) σ := fun Y sc ns t env A ρ s ok N => by
  exact fun E => wpAny_tests_nil ⟨rfl, ρ, N.st, .refl⟩
theorem e_cnd {B : Bool} (ia : Ev n a f σ (.b B) σ₁) : Ev n (.cnd a) f σ (.i B) σ₁ := fun Y sc ns t env A ρ s ok N => by
  exact fun E => wpAny_tests_one (ia Y _ _ _ _ _ _ _ ok N E)
theorem e_ll (ia : Ev n a f σ (.l xs) σ₁) (c : fewL xs = true) : Ev n (.ll a) f σ (.v (.d (.lst xs))) σ₁ := fun Y sc ns t env A ρ s ok N => by
  intro E
  show wpAny _ _ (do standAt t.p; newList (← spliced (backTo t.p (starEach (un sc ns a (t.k 0)).nd.toL env)))) _ _ _
  refine wpAny_bind (wpAny_standAt (wpAny_bind (wpAny_mono (ia Y _ _ _ _ _ _ _ ok N t.p E) (fun vs s₁ hv => ?_) fun _ _ e => e)))
  obtain ⟨ρ₁, X, S₁, v1⟩ := hv
  have hl : vs.length ≤ sizeLine := by rw [v1.length]; exact Nat.le_trans (of_decide_eq_true c) (by decide)
  have S₂ : Stp C NoW ρ₁ s₁.heap ρ₁ (s₁.heap.push { cls := .type "list", data := .seq vs.toArray }) := (LStp.of_keeps (keeps_push _)).stp
  refine wpAny_newList ⟨ρ₁, X.push _, S₁.trans S₂, ?_⟩ hl
  show VR _ _ _ _
  rw [VR]
  exact ⟨_, vs, rfl, ⟨_, Heap.get?_push_size _ rfl, rfl, _, rfl⟩, fun q => Nat.lt_irrefl _ (X.hr.lt q), v1.mono S₂ WOk.no X.inv.tabs0⟩
theorem e_hl (ia : Ev n a f σ (.l xs) σ₁) (c : fewL xs = true) : Ev n (.hl a) f σ (.v (.d (.ref σ₁.length))) (σ₁ ++ [.list xs]) := fun Y sc ns t env A ρ s ok N => by
  intro E
  show wpAny _ _ (do standAt t.p; newList (← spliced (backTo t.p (starEach (un sc ns a (t.k 0)).nd.toL env)))) _ _ _
  refine wpAny_bind (wpAny_standAt (wpAny_bind (wpAny_mono (ia Y _ _ _ _ _ _ _ ok N t.p E) (fun vs s₁ hv => ?_) fun _ _ e => e)))
  obtain ⟨ρ₁, X, S₁, v1⟩ := hv
  have hl : vs.length ≤ sizeLine := by rw [v1.length]; exact Nat.le_trans (of_decide_eq_true c) (by decide)
  obtain ⟨X₂, S₂⟩ := X.newList (tk := s₁.toks) v1
  refine wpAny_newList ⟨_, X₂, S₁.trans S₂, ?_⟩ hl
  show VR _ _ _ _
  rw [VR]
  exact ⟨_, by rw [← X.hr.len]; exact List.getElem?_concat_length, rfl⟩
theorem e_tp (ia : Ev n a f σ (.l xs) σ₁) (c : fewL xs = true) : Ev n (.tp a) f σ (.v (.d (.tup xs))) σ₁ := fun Y sc ns t env A ρ s ok N => by
  intro E
  show wpAny _ _ (do standAt t.p; newTuple (← spliced (backTo t.p (starEach (un sc ns a (t.k 0)).nd.toL env)))) _ _ _
  refine wpAny_bind (wpAny_standAt (wpAny_bind (wpAny_mono (ia Y _ _ _ _ _ _ _ ok N t.p E) (fun vs s₁ hv => ?_) fun _ _ e => e)))
  obtain ⟨ρ₁, X, S₁, v1⟩ := hv
  have hl : vs.length ≤ sizeLine := by rw [v1.length]; exact Nat.le_trans (of_decide_eq_true c) (by decide)
  have S₂ : Stp C NoW ρ₁ s₁.heap ρ₁ (s₁.heap.push { cls := .type "tuple", data := .seq vs.toArray }) := (LStp.of_keeps (keeps_push _)).stp
  refine wpAny_newTuple ⟨ρ₁, X.push _, S₁.trans S₂, ?_⟩ hl
  show VR _ _ _ _
  rw [VR]
  exact ⟨_, vs, rfl, ⟨_, Heap.get?_push_size _ rfl, rfl, _, rfl⟩, fun q => Nat.lt_irrefl _ (X.hr.lt q), v1.mono S₂ WOk.no X.inv.tabs0⟩
end Mine
end
section
namespace Mine
open PySem PySem.W PyProof.Rows PySem.Calls PySem.SeqAt
variable {n : Nat} {ρ ρ' : Rho} {σ σ' : H} {s s' : Shared} {h h' : Heap} {A : Around} {E : Value → Shared → Prop} {sc : Scope} {ns : List Str} {env : Env} {f : Fm} {x a b c : X} {σ₁ σ₂ σ₃ : H} {u v w : AV}
theorem eqL_spec {g : AD → AD → Option Bool} : ∀ {xs ys : List AD} {b : Bool}, eqL g xs ys = some b →
    (∀ (j : Nat) x y, xs[j]? = some x → ys[j]? = some y → ∃ q, g x y = some q ∧ (b = true → q = true)) ∧ (b = true → xs.length = ys.length) ∧
    (xs.length = ys.length → (∀ (j : Nat) x y, xs[j]? = some x → ys[j]? = some y → g x y = some true) → b = true)
  | [], ys, b, e => by
    cases e
    exact ⟨fun j x y h => by simp at h, fun h => by rw [List.isEmpty_iff.mp h], fun h _ => by cases ys with | nil => rfl | cons _ _ => cases h⟩
  | x :: xs, [], b, e => by
    cases e
    exact ⟨fun j x y _ h => by simp at h, nofun, nofun⟩
  | x :: xs, y :: ys, b, e => by
    unfold eqL at e
    cases hg : g x y with
    | none => simp only [hg] at e; cases e
    | some p =>
      cases hr : eqL g xs ys with
      | none => simp only [hg, hr] at e; cases e
      | some r =>
        simp only [hg, hr] at e; cases e
        obtain ⟨i1, i2, i3⟩ := eqL_spec hr
        refine ⟨fun j x' y' h1 h2 => ?_, fun q => by simp [i2 (and2 q)], fun hl ha => ?_⟩
        · cases j with
          | zero => simp at h1 h2; subst h1 h2; exact ⟨p, hg, and1⟩
          | succ j => simp at h1 h2; obtain ⟨q, q1, q2⟩ := i1 j x' y' h1 h2; exact ⟨q, q1, fun z => q2 (and2 z)⟩
        · have := ha 0 x y rfl rfl
          rw [hg] at this; cases this
          exact i3 (by simpa using hl) fun j x' y' h1 h2 => ha (j + 1) x' y' (by simpa using h1) (by simpa using h2)
theorem VR.kind {d : AD} {v : Value} (e : VR ρ h d v) : v = .none ∨ (∃ b, v = .bool b) ∨ (∃ i t, v = .int i t) ∨ (∃ x t, v = .str x t) ∨ ∃ a, v = .ref a := by
  cases d with
  | none => exact .inl e.ofNone
  | bool b => exact .inr (.inl ⟨b, e.ofBool⟩)
  | int i => exact .inr (.inr (.inl ⟨i, e.ofInt⟩))
  | str i => exact .inr (.inr (.inr (.inl ⟨i, e.ofStr⟩)))
  | ref k => rw [VR] at e; obtain ⟨p, _, rfl⟩ := e; exact .inr (.inr (.inr (.inr ⟨_, rfl⟩)))
  | tup k => rw [VR] at e; obtain ⟨p, _, rfl, _⟩ := e; exact .inr (.inr (.inr (.inr ⟨_, rfl⟩)))
  | lst k => rw [VR] at e; obtain ⟨p, _, rfl, _⟩ := e; exact .inr (.inr (.inr (.inr ⟨_, rfl⟩)))
  | rng k l => rw [VR] at e; obtain ⟨p, _, _, _, rfl, _⟩ := e; exact .inr (.inr (.inr (.inr ⟨_, rfl⟩)))
theorem EqAt.of_rc {d : AD} {v w : Value} {b : Bool} (hv : VR ρ h d v) (hs : v = w → b = true) (hr : RcAt A s v w b) : EqAt A s v w b := fun prog wd E Q hq => by
  unfold eqBool
  refine wpAny_holding ?_
  refine wpAny_ite_split (fun hab => ?_) (fun _ => ?_)
  · rw [hs (eq_of_beq hab)] at hq
    exact wpAny_bind (wpAny_rule (wpAny_pure hq))
  · have go := wpAny_bind (hr prog wd E (fun a s' => wpAny (model prog wd) A (truthOfDropped a) Q E s') (wpAny_truthy_bool hq))
    rcases hv.kind with rfl | ⟨b, rfl⟩ | ⟨i, t, rfl⟩ | ⟨x, t, rfl⟩ | ⟨a, rfl⟩ <;> exact go
theorem items_eq {g : AD → AD → Option Bool} {xs ys : List AD} {vs us : List Value} {b : Bool} (e : eqL g xs ys = some b) (hv : VRs ρ s.heap xs vs) (hu : VRs ρ s.heap ys us)
    (el : ∀ x y v w q, VR ρ s.heap x v → VR ρ s.heap y w → g x y = some q → EqAt A s v w q) :
    (vs.toArray.size != us.toArray.size) = true ∧ b = false ∨ vs.toArray.size = us.toArray.size ∧ ∃ e : Nat → Bool, (∀ j (h1 : j < vs.toArray.size) (h2 : j < us.toArray.size), EqAt A s vs.toArray[j] us.toArray[j] (e j)) ∧ (List.range vs.toArray.size).all e = b := by
  obtain ⟨s1, s2, s3⟩ := eqL_spec e
  have l1 := hv.length
  have l2 := hu.length
  by_cases hl : xs.length = ys.length
  · refine .inr ⟨by simp [l1, l2, hl], fun j => (match xs[j]?, ys[j]? with | some x, some y => g x y | _, _ => .none) == some true, fun j h1 h2 => ?_, ?_⟩
    · simp only [List.size_toArray] at h1 h2
      have k1 : j < xs.length := l1 ▸ h1
      have k2 : j < ys.length := l2 ▸ h2
      obtain ⟨q, q1, _⟩ := s1 j _ _ (List.getElem?_eq_getElem k1) (List.getElem?_eq_getElem k2)
      obtain ⟨v, v1, v2⟩ := hv.at (List.getElem?_eq_getElem k1)
      obtain ⟨u, u1, u2⟩ := hu.at (List.getElem?_eq_getElem k2)
      have := el _ _ _ _ _ v2 u2 q1
      rw [List.getElem?_eq_getElem h1] at v1; cases v1
      rw [List.getElem?_eq_getElem h2] at u1; cases u1
      simp only [List.getElem?_eq_getElem k1, List.getElem?_eq_getElem k2, q1, List.getElem_toArray]
      cases q <;> exact this
    · rw [Bool.eq_iff_iff, List.all_eq_true]
      constructor
      · intro hall
        refine s3 hl fun j x y h1 h2 => ?_
        have := hall j (by rw [List.mem_range, List.size_toArray, l1]; exact (List.getElem?_eq_some_iff.mp h1).1)
        simp only [h1, h2] at this
        exact beq_iff_eq.mp this
      · intro hb j hj
        rw [List.mem_range, List.size_toArray, l1] at hj
        have k2 : j < ys.length := hl ▸ hj
        obtain ⟨q, q1, q2⟩ := s1 j _ _ (List.getElem?_eq_getElem hj) (List.getElem?_eq_getElem k2)
        simp only [List.getElem?_eq_getElem hj, List.getElem?_eq_getElem k2, q1, q2 hb]
        rfl
  · refine .inl ⟨by simp [l1, l2, hl], ?_⟩
    cases b with
    | false => rfl
    | true => exact absurd (s2 rfl) hl
theorem same_items {g : AD → AD → Option Bool} (el : ∀ x y v q, VR ρ s.heap x v → VR ρ s.heap y v → g x y = some q → q = true) {xs ys : List AD} {vs : List Value} {b : Bool} (e : eqL g xs ys = some b) (hv : VRs ρ s.heap xs vs) (hu : VRs ρ s.heap ys vs) : b = true := by
  obtain ⟨s1, s2, s3⟩ := eqL_spec e
  refine s3 (by rw [← hv.length, ← hu.length]) fun j x y h1 h2 => ?_
  obtain ⟨q, q1, _⟩ := s1 j x y h1 h2
  obtain ⟨v, v1, v2⟩ := hv.at h1
  obtain ⟨u, u1, u2⟩ := hu.at h2
  rw [v1] at u1; cases u1
  rw [q1, el _ _ _ _ v2 u2 q1]
theorem eqI_same {g : AD → AD → Option Bool} (el : ∀ x y v q, VR ρ s.heap x v → VR ρ s.heap y v → g x y = some q → q = true) : ∀ x y v q, VR ρ s.heap x v → VR ρ s.heap y v → eqI g x y = some q → q = true := fun x y v q h1 h2 e => by
  unfold eqI at e
  split at e
  · obtain ⟨b, rfl, e⟩ := bR_inv e
    obtain ⟨_, e⟩ := bIf_inv e
    cases e; rfl
  · exact el x y v q h1 h2 e
theorem eqD_same : ∀ (k : Nat) (x y : AD) (v : Value) (q : Bool), VR ρ s.heap x v → VR ρ s.heap y v → eqD k x y = some q → q = true
  | 0, _, _, _, _, _, _, e => by cases e
  | k + 1, x, y, v, q, h1, h2, e => by
    unfold eqD at e
    split at e
    · obtain ⟨b, rfl, e⟩ := bI_inv e
      obtain ⟨t, rfl⟩ := h1.ofInt; obtain ⟨u, hu⟩ := h2.ofInt
      cases hu; cases e; exact beq_self_eq_true _
    · obtain ⟨b, rfl, e⟩ := bS_inv e
      obtain ⟨t, rfl⟩ := h1.ofStr; obtain ⟨u, hu⟩ := h2.ofStr
      cases hu; cases e; exact beq_self_eq_true _
    · obtain ⟨b, rfl, e⟩ := bB_inv e
      cases h1.ofBool; cases h2.ofBool; cases e; exact beq_self_eq_true _
    · split at e
      · rw [VR] at h1 h2
        obtain ⟨a1, vs, rfl, ⟨o, g1, _, m, d1⟩, _, r1⟩ := h1
        obtain ⟨a2, us, q2, ⟨o', g2, _, m', d2⟩, _, r2⟩ := h2
        cases q2
        rw [g1] at g2; cases g2
        rw [d1] at d2; cases d2
        exact same_items (eqI_same (eqD_same k)) (bIf_inv e).2 r1 r2
      · cases e
    · split at e
      · rw [VR] at h1 h2
        obtain ⟨a1, vs, rfl, ⟨o, g1, _, m, d1⟩, _, r1⟩ := h1
        obtain ⟨a2, us, q2, ⟨o', g2, _, m', d2⟩, _, r2⟩ := h2
        cases q2
        rw [g1] at g2; cases g2
        rw [d1] at d2; cases d2
        exact same_items (eqI_same (eqD_same k)) e r1 r2
      · cases e
    · cases e
theorem eqD_ok : ∀ (k : Nat) (A : Around) (x y : AD) (v w : Value) (q : Bool), A.units + k < cLine → VR ρ s.heap x v → VR ρ s.heap y w → eqD k x y = some q → RcAt A s v w q ∧ RcNeAt A s v w (!q)
  | 0, _, _, _, _, _, _, _, _, _, e => by cases e
  | k + 1, A, x, y, v, w, q, hu, h1, h2, e => by
    have hu0 : A.units < cLine := by lia
    have el : ∀ x y v w q, VR ρ s.heap x v → VR ρ s.heap y w → eqI (eqD k) x y = some q → EqAt A.in1 s v w q := fun x y v w q h1 h2 e => by
      unfold eqI at e
      split at e
      · obtain ⟨b, rfl, e⟩ := bR_inv e
        obtain ⟨c, e⟩ := bIf_inv e
        cases e
        cases beq_iff_eq.mp c
        rw [VR] at h1 h2
        obtain ⟨p, p1, rfl⟩ := h1
        obtain ⟨p', p2, rfl⟩ := h2
        rw [p1] at p2; cases p2
        exact EqAt.same _
      · exact EqAt.of_rc h1 (fun z => by subst z; exact eqD_same k _ _ _ _ h1 h2 e) (eqD_ok k A.in1 _ _ _ _ _ (by show A.units + 1 + k < cLine; lia) h1 h2 e).1
    unfold eqD at e
    split at e
    · obtain ⟨b, rfl, e⟩ := bI_inv e
      obtain ⟨t, rfl⟩ := h1.ofInt; obtain ⟨u, rfl⟩ := h2.ofInt
      cases e
      exact ⟨RcAt.int_int _ _ _ _, RcNeAt.int_int _ _ _ _⟩
    · obtain ⟨b, rfl, e⟩ := bS_inv e
      obtain ⟨t, rfl⟩ := h1.ofStr; obtain ⟨u, rfl⟩ := h2.ofStr
      cases e
      exact ⟨RcAt.str_str _ _ _ _, RcNeAt.str_str _ _ _ _⟩
    · obtain ⟨b, rfl, e⟩ := bB_inv e
      cases h1.ofBool; cases h2.ofBool; cases e
      exact ⟨RcAt.bool_bool _ _, RcNeAt.bool_bool _ _⟩
    · split at e
      · rw [VR] at h1 h2
        obtain ⟨a1, vs, rfl, g1, _, r1⟩ := h1
        obtain ⟨a2, us, rfl, g2, _, r2⟩ := h2
        obtain ⟨hl, e⟩ := bIf_inv e
        rcases items_eq (A := A.in1) e r1 r2 el with ⟨z1, _⟩ | ⟨z1, z, z2, rfl⟩
        · exact absurd z1 (by simp [r1.length, r2.length, beq_iff_eq.mp hl])
        · have q1 := RcAt.tuples g1 g2 hu0 z2
          have q2 := RcNeAt.tuples g1 g2 hu0 z2
          rw [← z1, Nat.min_self, beq_self_eq_true, Bool.and_true] at q1 q2
          exact ⟨q1, q2⟩
      · cases e
    · split at e
      · rw [VR] at h1 h2
        obtain ⟨a1, vs, rfl, g1, _, r1⟩ := h1
        obtain ⟨a2, us, rfl, g2, _, r2⟩ := h2
        rcases items_eq (A := A.in1) e r1 r2 el with ⟨z1, rfl⟩ | ⟨z1, z, z2, rfl⟩
        · exact ⟨RcAt.lists_lengths g1 g2 z1 hu0, RcNeAt.lists_lengths g1 g2 z1 hu0⟩
        · exact ⟨RcAt.lists g1 g2 z1 hu0 z2, RcNeAt.lists g1 g2 z1 hu0 z2⟩
      · cases e
    · cases e
theorem isNone_iff {a : AV} {v : Value} {lim : Nat} (hl : isLen a = false) (e : VV C ρ h lim a v) : plainIs v .none = true ∧ (v == .none) = isNone a := by
  cases a with
  | d d =>
    rcases e.toVR.kind with rfl | ⟨b, rfl⟩ | ⟨i, t, rfl⟩ | ⟨x, t, rfl⟩ | ⟨a, rfl⟩ <;> refine ⟨rfl, ?_⟩
    all_goals
      cases d with
      | none => cases e.toVR.ofNone <;> rfl
      | _ => first | rfl | (exfalso; have := e.toVR; rw [VR] at this; grind)
  | fn g =>
    cases e
    cases g <;> first | exact ⟨rfl, rfl⟩ | cases hl
  | clo b cs =>
    obtain ⟨a, _, _, _, _, _, _, _, _, _, _, _, rfl, _⟩ := e
    exact ⟨rfl, rfl⟩
theorem noneV {a : AV} {v : Value} {lim : Nat} (hn : isNone a = true) (e : VV C ρ h lim a v) : v = .none := by
  cases a with
  | d d => cases d <;> first | exact e.toVR.ofNone | cases hn
  | _ => cases hn
theorem HR.clsOf (R : HR C ρ σ h) {k : Nat} {p : Addr × Addr} (e : ρ.l[k]? = some p) : ∃ o, h.get? p.1 = some o ∧ o.cls ≠ .type "tuple" := by
  have hlt : k < σ.length := by rw [← R.len]; exact (List.getElem?_eq_some_iff.mp e).1
  obtain ⟨q, hq, ho⟩ := R.obs k σ[k] (List.getElem?_eq_getElem hlt)
  rw [e] at hq; cases hq
  cases hs : σ[k] with
  | list xs => rw [hs] at ho; obtain ⟨_, vs, ⟨o, g⟩, _⟩ := ho; exact ⟨_, g, (show Value.type "list" ≠ .type "tuple" by decide)⟩
  | acc xs m => rw [hs] at ho; obtain ⟨_, ⟨vs, k, g, _⟩, _⟩ := ho; exact ⟨_, g, nofun⟩
theorem cmp_ok {o : CO} {x y : AV} {v w : Value} {r : Bool} {lim lim' : Nat} (N : Now C n sc ns env A f ρ σ s) (e : cmpD o x y = some r) (h1 : VV C ρ s.heap lim x v) (h2 : VV C ρ s.heap lim' y w) :
    wpAny (model C.prog C.w) A (compareOp (copO o) v w) (PV C ρ s σ (.d (.bool r))) E s := by
  have hu : A.units + 4 < cLine := by have := N.ac.units; show A.units + 4 < 9900; lia
  cases o with
  | eq =>
    obtain ⟨d, rfl, e⟩ := bD_inv e
    obtain ⟨d', rfl, e⟩ := bD_inv e
    exact (eqD_ok 4 A _ _ _ _ _ hu h1.toVR h2.toVR e).1 _ _ _ _ (.bool N.st)
  | ne =>
    obtain ⟨d, rfl, e1⟩ := bD_inv e
    obtain ⟨d', rfl, e2⟩ := bD_inv e1
    cases hq : eqD 4 d d' with
    | none => rw [hq] at e2; cases e2
    | some q =>
      rw [hq] at e2; cases e2
      exact (eqD_ok 4 A _ _ _ _ _ hu h1.toVR h2.toVR hq).2 _ _ _ _ (.bool N.st)
  | lt =>
    obtain ⟨d, rfl, e⟩ := bD_inv e
    obtain ⟨d', rfl, e⟩ := bD_inv e
    obtain ⟨i, rfl, e⟩ := bI_inv e
    obtain ⟨j, rfl, e⟩ := bI_inv e
    cases e
    obtain ⟨t, rfl⟩ := h1.toVR.ofInt; obtain ⟨u, rfl⟩ := h2.toVR.ofInt
    show wpAny _ _ (compareOp .Lt _ _) _ _ _
    with_reducible exact P.lt_int (.bool N.st)
  | le =>
    obtain ⟨d, rfl, e⟩ := bD_inv e
    obtain ⟨d', rfl, e⟩ := bD_inv e
    obtain ⟨i, rfl, e⟩ := bI_inv e
    obtain ⟨j, rfl, e⟩ := bI_inv e
    cases e
    obtain ⟨t, rfl⟩ := h1.toVR.ofInt; obtain ⟨u, rfl⟩ := h2.toVR.ofInt
    show wpAny _ _ (compareOp .LtE _ _) _ _ _
    with_reducible exact P.le_int (.bool N.st)
  | is =>
    obtain ⟨c, e1⟩ := bIf_inv e
    cases e1
    obtain ⟨k1, k2⟩ := isNone_iff (by simpa using and2 c) h1
    cases noneV (and1 c) h2
    show wpAny _ _ (compareOp .Is _ _) _ _ _
    with_reducible refine wpAny_is_plain k1 ?_
    rw [k2]; exact .bool N.st
  | isnot =>
    replace e : (bif isNone y then bIf (!isLen x) (some (!isNone x)) else bD x fun x => bD y fun y => bR x fun i => bR y fun j => some (i != j)) = some r := e
    cases hn : isNone y with
    | true =>
      rw [hn] at e
      obtain ⟨c, e1⟩ := bIf_inv e
      cases e1
      obtain ⟨k1, k2⟩ := isNone_iff (by simpa using c) h1
      cases noneV hn h2
      show wpAny _ _ (compareOp .IsNot _ _) _ _ _
      with_reducible refine wpAny_isNot_plain k1 ?_
      rw [k2]; exact .bool N.st
    | false =>
      rw [hn] at e
      obtain ⟨d, rfl, e1⟩ := bD_inv e
      obtain ⟨d', rfl, e2⟩ := bD_inv e1
      obtain ⟨i, rfl, e3⟩ := bR_inv e2
      obtain ⟨j, rfl, e4⟩ := bR_inv e3
      cases e4
      have h1 := h1.toVR
      have h2 := h2.toVR
      rw [VR] at h1 h2
      obtain ⟨p, p1, rfl⟩ := h1
      obtain ⟨q, q1, rfl⟩ := h2
      show wpAny _ _ (compareOp .IsNot _ _) _ _ _
      by_cases hij : i = j
      · subst hij
        rw [p1] at q1; cases q1
        with_reducible refine wpAny_isNot_ref_self ?_
        rw [bne_self_eq_false]; exact .bool N.st
      · have ap := (N.st.hr.apart i j p q p1 q1 hij).1
        obtain ⟨o1, g1, c1⟩ := N.st.hr.clsOf p1
        obtain ⟨o2, g2, _⟩ := N.st.hr.clsOf q1
        with_reducible refine wpAny_isNot_ref_other ap g1 g2 c1 ?_
        rw [show (i != j) = true from by simpa using hij]; exact .bool N.st
theorem release_ok {vs keep : List Value} {Q : Unit → Shared → Prop} (q : Q () s) : wpAny (model C.prog C.w) A (release vs keep) Q E s := fun Γ p _ => by rw [Sem.wp_release]; exact q
theorem operate_ok {vs : List Value} {m : Sem Value} {Q : Value → Shared → Prop} (q : wpAny (model C.prog C.w) A m Q E s) : wpAny (model C.prog C.w) A (operate vs m) Q E s := fun Γ p hΓ => by rw [Sem.wp_operate]; exact q Γ p hΓ
theorem e_cmp {o : CO} {r : Bool} (ia : Ev n a f σ (.v u) σ₁) (ib : Ev n b f σ₁ (.v v) σ₂) (r3 : cmpD o u v = some r) : Ev n (.cmp o a b) f σ (.v (.d (.bool r))) σ₂ := fun Y sc ns t env A ρ s ok N => by
  refine fun E => wpAny_Compare1 (wpAny_mono (ia Y _ _ _ _ _ _ _ (and1 (and1 ok)) N E) (fun v s₁ hv => ?_) fun _ _ e => e) (notSet (and2 ok)).2
  obtain ⟨ρ₁, N₁, S₁, v1⟩ := hv.splitV N
  refine wpAny_mono (ib Y _ _ _ _ _ _ _ (and2 (and1 ok)) N₁ E) (fun v' s₂ hv' => ?_) fun _ _ e => e
  obtain ⟨ρ₂, N₂, S₂, v2⟩ := hv'.splitV N₁
  exact wpAny_mono (cmp_ok N₂ r3 (v1.mono S₂ N₁.st.hr WOk.no N₁.st.inv.tabs0 lim_id fun _ q => q.elim) v2) (fun _ _ q => PV.trans (S₁.trans S₂) q) fun _ _ e => e
theorem cmp2_head {o1 o2 : CO} {t : Sd} {q : Bool} {Q : Bool → Shared → Prop} (Y : Hyp C) (ia : Ev n a f σ (.v u) σ₁) (ib : Ev n b f σ₁ (.v v) σ₂) (hq : cmpD o1 u v = some q) (ok : (un sc ns (.cmp2 o1 o2 a b c) t).ok = true) (N : Now C n sc ns env A f ρ σ s)
    (go : ∀ rv (lim : Nat) ρ' s', Now C n sc ns env A f ρ' σ₂ s' → Stp C NoW ρ s.heap ρ' s'.heap → VV C ρ' s'.heap lim v rv → wpAny (model C.prog C.w) A (if q = true then testChain t.p rv [copO o2] [markedBehindIn (copO o2) (un sc ns c (t.k 2)).nd.toE (eval (un sc ns c (t.k 2)).nd.toE env)] else pure false) Q E s') :
    wpAny (model C.prog C.w) A (isTrue (un sc ns (.cmp2 o1 o2 a b c) t).nd.toE env (eval (un sc ns (.cmp2 o1 o2 a b c) t).nd.toE env)) Q E s := by
  show wpAny _ _ (do testChain t.p (← eval (un sc ns a (t.k 0)).nd.toE env) [copO o1, copO o2] (markedEach [copO o1, copO o2] [(un sc ns b (t.k 1)).nd.toE, (un sc ns c (t.k 2)).nd.toE] (evalEach [(un sc ns b (t.k 1)).nd.toE, (un sc ns c (t.k 2)).nd.toE] env))) _ _ _
  refine wpAny_bind (wpAny_mono (ia Y _ _ _ _ _ _ _ (and1 (and1 (and1 ok))) N E) (fun v s₁ hv => ?_) fun _ _ e => e)
  obtain ⟨ρ₁, N₁, S₁, v1⟩ := hv.splitV N
  show wpAny _ _ (do
    let rv ← holding [v] (eval (un sc ns b (t.k 1)).nd.toE env)
    standAt t.p
    let z ← holding [v, rv] (compareOp (copO o1) v rv)
    release [v, rv] [z]
    if ← holding [z, rv] (truthy z) then testChain t.p rv [copO o2] [markedBehindIn (copO o2) (un sc ns c (t.k 2)).nd.toE (eval (un sc ns c (t.k 2)).nd.toE env)] else pure false) _ _ _
  refine wpAny_bind (wpAny_holding (wpAny_mono (ib Y _ _ _ _ _ _ _ (and2 (and1 (and1 ok))) N₁ E) (fun v' s₂ hv' => ?_) fun _ _ e => e))
  obtain ⟨ρ₂, N₂, S₂, v2⟩ := hv'.splitV N₁
  refine wpAny_bind (wpAny_standAt (wpAny_bind (wpAny_holding (wpAny_mono (cmp_ok N₂ hq (v1.mono S₂ N₁.st.hr WOk.no N₁.st.inv.tabs0 lim_id fun _ q => q.elim) v2) (fun cv s₃ hc => ?_) fun _ _ e => e))))
  obtain ⟨ρ₃, N₃, S₃, v3⟩ := hc.splitV N₂
  cases v3.toVR.ofBool
  exact wpAny_bind (release_ok (wpAny_bind (wpAny_holding (wpAny_truthy_bool (go v' _ ρ₃ s₃ N₃ (S₁.trans (S₂.trans S₃)) (v2.mono S₃ N₂.st.hr WOk.no N₂.st.inv.tabs0 lim_id fun _ q => q.elim))))))
theorem e_cmp2f {o1 o2 : CO} (ia : Ev n a f σ (.v u) σ₁) (ib : Ev n b f σ₁ (.v v) σ₂) (hq : cmpD o1 u v = some false) : Ev n (.cmp2 o1 o2 a b c) f σ (.b false) σ₂ := fun Y sc ns t env A ρ s ok N E =>
  cmp2_head Y ia ib hq ok N fun rv _ ρ' s' N' S' _ => wpAny_pure ⟨rfl, ρ', N'.st, S'⟩
theorem e_cmp2t {o1 o2 : CO} {B : Bool} (ia : Ev n a f σ (.v u) σ₁) (ib : Ev n b f σ₁ (.v v) σ₂) (hq : cmpD o1 u v = some true) (ic : Ev n c f σ₂ (.v w) σ₃) (hq2 : cmpD o2 v w = some B) : Ev n (.cmp2 o1 o2 a b c) f σ (.b B) σ₃ := fun Y sc ns t env A ρ s ok N E =>
  cmp2_head Y ia ib hq ok N fun v' _ ρ₃ s₃ N₃ S' v2 => by
    show wpAny _ _ (testChain t.p v' [copO o2] [markedBehindIn (copO o2) (un sc ns c (t.k 2)).nd.toE (eval (un sc ns c (t.k 2)).nd.toE env)]) _ _ _
    rw [markedBehindIn_of_false (notSet (and2 ok)).2]
    show wpAny _ _ (do
      let rv ← holding [v'] (eval (un sc ns c (t.k 2)).nd.toE env)
      standAt t.p
      let z ← operate [v', rv] (compareOp (copO o2) v' rv)
      holding [z] (truthy z)) _ _ _
    refine wpAny_bind (wpAny_holding (wpAny_mono (ic Y _ _ _ _ _ _ _ (and2 (and1 ok)) N₃ E) (fun v4 s₄ h4 => ?_) fun _ _ e => e))
    obtain ⟨ρ₄, N₄, S₄, v5⟩ := h4.splitV N₃
    refine wpAny_bind (wpAny_standAt (wpAny_bind (operate_ok (wpAny_mono (cmp_ok N₄ hq2 (v2.mono S₄ N₃.st.hr WOk.no N₃.st.inv.tabs0 lim_id fun _ q => q.elim) v5) (fun cv s₅ h5 => ?_) fun _ _ e => e))))
    obtain ⟨ρ₅, N₅, S₅, v6⟩ := h5.splitV N₄
    cases v6.toVR.ofBool
    exact wpAny_holding (wpAny_truthy_bool ⟨rfl, ρ₅, N₅.st, S'.trans (S₄.trans S₅)⟩)
end Mine
end
section
namespace Mine
open PySem PySem.W PyProof.Rows PySem.Calls
variable {n : Nat} {ρ ρ' : Rho} {σ σ' : H} {s s' : Shared} {h h' : Heap} {A : Around} {E : Value → Shared → Prop} {sc : Scope} {ns : List Str} {env : Env} {f : Fm} {x a b c : X} {σ₁ σ₂ : H} {d d2 z : AD}
theorem subscripted_false (slice : Expr) (o i : Value) : ∃ vs, subscripted slice false o i = operate vs (getItem o i) := by
  cases slice with
  | Slice lo hi st p => cases st <;> exact ⟨_, rfl⟩
  | _ => exact ⟨_, rfl⟩
theorem sub_ok {value slice : Expr} {o i : Value} {Q : Value → Shared → Prop} (hin : ∀ (Q : Bool → Shared → Prop), Q false s → wpAny (model C.prog C.w) A (getitemInPython o) Q E s) (g : wpAny (model C.prog C.w) A (getItem o i) Q E s) :
    wpAny (model C.prog C.w) A (do let r ← subscripted slice (← getitemInPython o) o i; letTemporaryGo value o r; pure r) Q E s := by
  refine wpAny_bind (hin _ ?_)
  obtain ⟨vs, e⟩ := subscripted_false slice o i
  rw [e]
  exact wpAny_bind (operate_ok (wpAny_mono g (fun r s' q => wpAny_bind (wpAny_letTemporaryGo (wpAny_pure q))) fun _ _ e => e))
theorem in_ok {o : Value} {T id : String} (hT : s.TypeIs o T) (hl : typeLookup (.type T) "__getitem__" = pure (some (.builtin id))) (Q : Bool → Shared → Prop) (q : Q false s) : wpAny (model C.prog C.w) A (getitemInPython o) Q E s := by
  rw [getitemInPython_of_ne hT.not_modules]
  exact wpAny_bind (wpAny_specialOf hT hl (wpAny_pure q))
theorem getIdx_spec {α : Type} {xs : List α} {i : Int} {d : α} (e : getIdx xs i = some d) : ∃ j, seqIndex? i xs.length = some j ∧ xs[j]? = some d := by
  unfold getIdx at e
  split at e
  · rename_i m
    have hm := (List.getElem?_eq_some_iff.mp e).1
    refine ⟨m, ?_, e⟩
    simp [seqIndex?]
    lia
  · rename_i m
    split at e
    · rename_i hm
      refine ⟨xs.length - 1 - m, ?_, e⟩
      simp [seqIndex?]
      lia
    · cases e
theorem seqIdx_inv {i : Int} {len j : Nat} (e : seqIndex? i len = some j) : (0 ≤ i ∧ j = i.toNat) ∨ (i < 0 ∧ -(len : Int) ≤ i ∧ j = (i + len).toNat) := by
  by_cases h0 : i < 0
  · simp [seqIndex?, h0] at e
    exact .inr ⟨h0, by lia, e.2.symm⟩
  · simp [seqIndex?, h0] at e
    exact .inl ⟨by lia, e.2.symm⟩
theorem list_item {l : Addr} {vs : List Value} {i : Int} {t : Tok} {v : Value} {Q : Value → Shared → Prop} (hl : s.heap.IsList l vs.toArray) (h1 : -100000 < i) (h2 : i < 100000) (hj : ∃ j, seqIndex? i vs.length = some j ∧ vs[j]? = some v) (q : Q v s) :
    wpAny (model C.prog C.w) A (getItem (.ref l) (.int i t)) Q E s := by
  obtain ⟨j, j1, j2⟩ := hj
  rcases seqIdx_inv j1 with ⟨k1, rfl⟩ | ⟨k1, k2, rfl⟩
  · have k3 : i < 2 ^ 63 := by lia
    have k4 : vs.toArray[i.toNat]? = some v := by simpa using j2
    with_reducible exact wpAny_getItem_list hl k1 k3 k4 q
  · have k3 : -(2 ^ 63) ≤ i := by lia
    have k4 : vs.toArray[(i + vs.toArray.size).toNat]? = some v := by simpa using j2
    have k5 : -(vs.toArray.size : Int) ≤ i := by simpa using k2
    with_reducible exact wpAny_getItem_list_neg hl k1 k5 k3 k4 q
theorem smallI_iff {i : Int} (h : smallI i = true) : -100000 < i ∧ i < 100000 := ⟨of_decide_eq_true (and1 h), of_decide_eq_true (and2 h)⟩
theorem VRs.idx {ds : List AD} {vs : List Value} {j : Nat} {d : AD} (r : VRs ρ h ds vs) {i : Int} (e : getIdx ds i = some d) : ∃ v, VR ρ h d v ∧ ∃ j, seqIndex? i vs.length = some j ∧ vs[j]? = some v := by
  obtain ⟨j, j1, j2⟩ := getIdx_spec e
  obtain ⟨v, v1, v2⟩ := r.at j2
  exact ⟨v, v2, j, by rw [r.length]; exact j1, v1⟩
theorem idx_ok {value slice : Expr} {d e r : AD} {o i : Value} (P : AccItem C) (N : Now C n sc ns env A f ρ σ s) (q : idxD σ d e = some r) (h1 : VR ρ s.heap d o) (h2 : VR ρ s.heap e i) :
    wpAny (model C.prog C.w) A (do let r ← subscripted slice (← getitemInPython o) o i; letTemporaryGo value o r; pure r) (PV C ρ s σ (.d r)) E s := by
  obtain ⟨k, rfl, q1⟩ := bI_inv q
  obtain ⟨c, q2⟩ := bIf_inv q1
  clear q q1
  obtain ⟨c1, c2⟩ := smallI_iff c
  have q := q2
  clear q2
  obtain ⟨t, rfl⟩ := h2.ofInt
  split at q
  · rw [VR] at h1
    obtain ⟨l, vs, rfl, g, _, rs⟩ := h1
    obtain ⟨v, v1, v2⟩ := rs.idx (j := 0) q
    exact sub_ok (in_ok g.typeIs list_getitem_lookup) (list_item g c1 c2 v2 (.here N.st v1))
  · rw [VR] at h1
    obtain ⟨l, vs, rfl, g, _, rs⟩ := h1
    obtain ⟨v, v1, j, v2, v3⟩ := rs.idx (j := 0) q
    have k1 : -(2 ^ 63) ≤ k := by lia
    have k2 : k < 2 ^ 63 := by lia
    have k3 : seqIndex? k vs.toArray.size = some j := by simpa using v2
    have k4 : vs.toArray[j]? = some v := by simpa using v3
    refine sub_ok (in_ok g.typeIs F.slot_tuple_getitem.lookup) ?_
    with_reducible exact PyProof.Rows.getItem_tuple g k1 k2 k3 k4 (.here N.st v1)
  · rename_i x
    obtain ⟨u, rfl⟩ := h1.ofStr
    split at q
    · rename_i m hm
      cases q
      obtain ⟨j, j1, j2⟩ := getIdx_spec hm
      have k1 : (decide (k < -(2 ^ 63 : Int)) || decide (k ≥ 2 ^ 63)) = false := by simp; lia
      have k2 : (seqIndex? k x.length).bind (x.cps[·]?) = some m := by
        have e1 : seqIndex? k x.length = some j := by rw [str_len]; exact j1
        rw [e1]
        simpa using j2
      refine sub_ok (in_ok (typeIs_str s x u) F.slot_str_getitem.lookup) ?_
      with_reducible exact PySem.P.getItem_str k1 k2 (.str N.st)
    · cases q
  · rename_i r'
    rw [VR] at h1
    obtain ⟨p, p1, rfl⟩ := h1
    cases hσ : σ[r']? with
    | none => rw [hσ] at q; cases q
    | some ob =>
      rw [hσ] at q
      obtain ⟨p', p2, ho⟩ := N.st.hr.obs r' ob hσ
      rw [p1] at p2; cases (p2)
      cases ob with
      | list xs =>
        obtain ⟨_, vs, g, rs⟩ := ho
        obtain ⟨v, v1, v2⟩ := rs.idx (j := 0) q
        exact sub_ok (in_ok g.isList.typeIs list_getitem_lookup) (list_item g.isList c1 c2 v2 (.here N.st v1))
      | acc xs m =>
        obtain ⟨_, ⟨vs, j, g, rs⟩, _⟩ := ho
        obtain ⟨c0, q'⟩ := bIf_inv (k := getIdx xs k) q
        obtain ⟨v, v1, v2⟩ := rs.idx (j := 0) q'
        obtain ⟨w1, w2⟩ := P A n ρ σ s r' p xs m vs N.ac N.st p1 hσ rs ⟨j, g⟩
        exact sub_ok (w1 _) (w2 k t v _ _ (of_decide_eq_true c0) c2 v2 (.here N.st v1))
  · cases q
theorem e_idx (ia : Ev n a f σ (.v (.d d)) σ₁) (ib : Ev n b f σ₁ (.v (.d d2)) σ₂) (r3 : idxD σ₂ d d2 = some z) : Ev n (.idx a b) f σ (.v (.d z)) σ₂ := fun Y sc ns t env A ρ s ok N => by
  intro E
  show wpAny _ _ (eval (.Subscript _ _ _) _) _ _ _
  rw [arm_eval_Subscript]
  refine wpAny_bind (wpAny_mono (ia Y _ _ _ _ _ _ _ (and1 ok) N E) (fun v s₁ hv => wpAny_bind (wpAny_holding ?_)) fun _ _ e => e)
  obtain ⟨ρ₁, N₁, S₁, v1, _⟩ := hv.split N
  refine wpAny_mono (ib Y _ _ _ _ _ _ _ (and2 ok) N₁ E) (fun v' s₂ hv' => wpAny_bind (wpAny_standAt ?_)) fun _ _ e => e
  obtain ⟨ρ₂, N₂, S₂, v2, up⟩ := hv'.split N₁
  exact wpAny_mono (idx_ok Y.item N₂ r3 (up v1) v2) (fun _ _ q => PV.trans (S₁.trans S₂) q) fun _ _ e => e
theorem pick_range {α : Type} (xs : List α) (a : Nat) : ∀ m : Nat, ((List.range m).map (a + ·)).filterMap (xs[·]?) = (xs.drop a).take m
  | 0 => by simp
  | m + 1 => by
    rw [List.range_succ, List.map_append, List.filterMap_append, pick_range xs a m, List.take_add_one, List.getElem?_drop]
    cases h : xs[a + m]? <;> simp [h]
theorem sliceRange_nat (a b : Nat) : sliceRange (a : Int) (b : Int) 1 = (List.range (b - a)).map (a + ·) := by
  simp only [sliceRange, show ((1 : Int) > 0) = True from by simp, if_true]
  have : (if (a : Int) < (b : Int) then ((b : Int) - a + 1 - 1) / 1 else 0).toNat = b - a := by split <;> lia
  rw [this]
  exact List.map_congr_left fun k _ => by lia
theorem clamp_eq (i : Int) (m : Nat) : (max 0 (min (if i < 0 then i + m else i) (m : Int)) : Int) = (clampI i m : Nat) := by
  cases i with
  | ofNat k =>
    show (max 0 (min (if (k : Int) < 0 then (k : Int) + m else k) (m : Int)) : Int) = ((if k ≤ m then k else m : Nat) : Int)
    rw [if_neg (by lia)]
    split <;> lia
  | negSucc k =>
    show (max 0 (min (if Int.negSucc k < 0 then Int.negSucc k + m else Int.negSucc k) (m : Int)) : Int) = ((m - (k + 1) : Nat) : Int)
    rw [if_pos (Int.negSucc_lt_zero k)]
    lia
noncomputable def bndL (lo : Option Int) (m : Nat) : Nat := match lo with | some i => clampI i m | .none => 0
noncomputable def bndH (hi : Option Int) (m : Nat) : Nat := match hi with | some i => clampI i m | .none => m
theorem slcL_eq {α : Type} (xs : List α) (lo hi : Option Int) : slcL xs lo hi = (xs.drop (bndL lo xs.length)).take (bndH hi xs.length - bndL lo xs.length) := by
  unfold slcL bndL bndH
  cases lo <;> cases hi <;> rfl
theorem bounds_eq (lo hi : Option Int) (m : Nat) : sliceBounds lo hi .none m = ((bndL lo m : Int), (bndH hi m : Int), 1) := by
  unfold sliceBounds bndL bndH
  cases lo <;> cases hi <;> simp [clamp_eq]
theorem slicePick_eq (vs : List Value) (lo hi : Option Int) : slicePick vs.toArray lo hi .none = (slcL vs lo hi).toArray := by
  unfold slicePick
  rw [bounds_eq, sliceRange_nat, slcL_eq]
  have := pick_range vs (bndL lo vs.length) (bndH hi vs.length - bndL lo vs.length)
  simp only [List.size_toArray, List.getElem?_toArray] at this ⊢
  rw [this]
theorem strPick_eq (x : Str) (lo hi : Option Int) : (Builtin.Str.strSliceIndices lo hi 1 x.length).filterMap (x.cps[·]?) = slcL x.cps.toList lo hi := by
  have e : Builtin.Str.strSliceIndices lo hi 1 x.length = sliceRange (bndL lo x.length) (bndH hi x.length) 1 := by
    unfold Builtin.Str.strSliceIndices bndL bndH
    cases lo <;> cases hi <;> simp [clamp_eq]
  rw [e, sliceRange_nat, slcL_eq, ← str_len]
  have := pick_range x.cps.toList (bndL lo x.length) (bndH hi x.length - bndL lo x.length)
  simp only [Array.getElem?_toList] at this
  exact this
theorem VRs.slc {ds : List AD} {vs : List Value} (r : VRs ρ h ds vs) (lo hi : Option Int) : VRs ρ h (slcL ds lo hi) (slcL vs lo hi) := by
  rw [slcL_eq, slcL_eq, r.length]
  exact (r.drop _).take _
end Mine
end
section
namespace Mine
open PySem PySem.W PyProof.Rows PySem.Calls
variable {n : Nat} {ρ ρ' : Rho} {σ σ' : H} {s s' : Shared} {h h' : Heap} {A : Around} {E : Value → Shared → Prop} {sc : Scope} {ns : List Str} {env : Env} {f : Fm} {x a b c : X} {σ₁ σ₂ σ₃ : H}
theorem part_ok {y : Option AD} {l : Option Int} {v : Value} (e : partD y = some l) (r : VR ρ h (y.getD .none) v) : IsPart v l ∧ ∃ p : Option (Int × Tok), v = partValue p ∧ p.map (·.1) = l := by
  cases y with
  | none =>
    cases e
    cases r.ofNone
    exact ⟨.none, .none, rfl, rfl⟩
  | some d =>
    obtain ⟨i, rfl, e1⟩ := bI_inv e
    obtain ⟨_, e2⟩ := bIf_inv e1
    cases e2
    obtain ⟨t, rfl⟩ := VR.ofInt r
    exact ⟨.int i t, some (i, t), rfl, rfl⟩
theorem bndH_le (hi : Option Int) (m : Nat) : bndH hi m ≤ m := by
  unfold bndH
  cases hi with
  | none => exact Nat.le_refl _
  | some i =>
    cases i with
    | ofNat k => show (if k ≤ m then k else m) ≤ m; split <;> lia
    | negSucc k => show m - (k + 1) ≤ m; lia
theorem strIdx_eq (x : Str) (lo hi : Option Int) : Builtin.Str.strSliceIndices lo hi 1 x.length = (List.range (bndH hi x.length - bndL lo x.length)).map (bndL lo x.length + ·) := by
  have e : Builtin.Str.strSliceIndices lo hi 1 x.length = sliceRange (bndL lo x.length) (bndH hi x.length) 1 := by
    unfold Builtin.Str.strSliceIndices bndL bndH
    cases lo <;> cases hi <;> simp [clamp_eq]
  rw [e, sliceRange_nat]
theorem VR.newLst {xs : List AD} {vs : List Value} {o : Obj} (X : St C ρ σ s) (r : VRs ρ s.heap xs vs) (hc : o.cls = .type "list") {m : Nat} (hd : o.data = .seq vs.toArray m) {k : Nat} : PV C ρ s σ (.d (.lst xs)) (.ref s.heap.objs.size) { s with heap := s.heap.push o, toks := k } := by
  have S : Stp C NoW ρ s.heap ρ (s.heap.push o) := (LStp.of_keeps (keeps_push _)).stp
  refine ⟨ρ, X.push _, S, ?_⟩
  show VR _ _ _ _
  rw [VR]
  exact ⟨_, vs, rfl, ⟨o, Heap.get?_push_size _ (by obtain ⟨a, b, c, d⟩ := o; simp at hd; subst hd; rfl), hc, m, hd⟩, fun q => Nat.lt_irrefl _ (X.hr.lt q), r.mono S WOk.no X.inv.tabs0⟩
theorem list_slc {l sl : Addr} {xs : List AD} {vs : List Value} {vl vu : Value} {lo hi : Option Int} (X : St C ρ σ s) (g : s.heap.IsList l vs.toArray) (r : VRs ρ s.heap xs vs) (hs : s.heap.IsSliceOf sl vl vu .none) (p1 : IsPart vl lo) (p2 : IsPart vu hi) (hf : fewL xs = true) :
    wpAny (model C.prog C.w) A (getItem (.ref l) (.ref sl)) (PV C ρ s σ (.d (.lst (slcL xs lo hi)))) E s := by
  have hsz : vs.toArray.size ≤ sizeLine := by
    rw [List.size_toArray, r.length]
    exact Nat.le_trans (of_decide_eq_true hf) (by decide)
  refine wpAny_getItem_list_slice g hs p1 p2 .none nofun ?_ hsz
  rw [slicePick_eq]
  exact VR.newLst X (r.slc lo hi) rfl rfl
theorem slc_ok {value slice : Expr} {d r : AD} {o vl vu : Value} {sl : Addr} {lo hi : Option Int} (N : Now C n sc ns env A f ρ σ s) (q : slcD σ d lo hi = some r) (h1 : VR ρ s.heap d o) (hs : s.heap.IsSliceOf sl vl vu .none)
    (p1 : IsPart vl lo ∧ ∃ p : Option (Int × Tok), vl = partValue p ∧ p.map (·.1) = lo) (p2 : IsPart vu hi ∧ ∃ p : Option (Int × Tok), vu = partValue p ∧ p.map (·.1) = hi) :
    wpAny (model C.prog C.w) A (do let r ← subscripted slice (← getitemInPython o) o (.ref sl); letTemporaryGo value o r; pure r) (PV C ρ s σ (.d r)) E s := by
  unfold slcD at q
  split at q
  · rename_i x
    obtain ⟨hx, q1⟩ := bIf_inv q
    cases q1
    obtain ⟨t, rfl⟩ := h1.ofStr
    refine sub_ok (in_ok (typeIs_str s x t) F.slot_str_getitem.lookup) ?_
    obtain ⟨p, rfl, rfl⟩ := p1.2
    obtain ⟨p', rfl, rfl⟩ := p2.2
    refine wpAny_getItem_str_slice (l := p) (u := p') (st := .none) hs rfl ?_
    unfold sliceMade slicePicked
    split
    · rename_i hw
      have hw := beq_iff_eq.mp (and2 hw)
      have e := strPick_eq x (p.map (·.1)) (p'.map (·.1))
      refine .here N.st ?_
      rw [VR]
      refine ⟨t, ?_⟩
      have : slcL x.cps.toList (p.map (·.1)) (p'.map (·.1)) = x.cps.toList := by
        rw [slcL_eq] at e ⊢
        have hl := congrArg List.length (strIdx_eq x (p.map (·.1)) (p'.map (·.1)))
        rw [List.length_map, List.length_range] at hl
        have h2 : bndH (p'.map (·.1)) x.length ≤ x.length := bndH_le _ _
        have h3 : x.length = bndH (p'.map (·.1)) x.length - bndL (p.map (·.1)) x.length := hw.symm.trans hl
        rw [str_len] at h2 h3
        rw [← h3, List.take_of_length_le (by simp)]
        by_cases h0 : x.cps.toList.length = 0
        · rw [List.length_eq_zero_iff.mp h0]; simp
        · rw [show bndL (p.map (·.1)) x.cps.toList.length = 0 by lia]; rfl
      rw [this]
    · refine ⟨?_, ?_⟩
      · show (List.toArray _).size ≤ _
        rw [show ((Option.map (·.1) (none : Option (Int × Tok))).getD 1) = 1 from rfl, strPick_eq, List.size_toArray, slcL_eq, List.length_take, List.length_drop, ← str_len]
        have := of_decide_eq_true hx
        have : sizeLine = 16777216 := rfl
        lia
      · rw [show ((Option.map (·.1) (none : Option (Int × Tok))).getD 1) = 1 from rfl, strPick_eq]
        exact .str N.st
  · unfold bQ at q
    split at q
    · obtain ⟨hf, q1⟩ := bIf_inv q
      cases q1
      rw [VR] at h1
      obtain ⟨l, vs, rfl, g, _, rs⟩ := h1
      exact sub_ok (in_ok g.typeIs list_getitem_lookup) (list_slc N.st g rs hs p1.1 p2.1 hf)
    · obtain ⟨xs, hσ, q1⟩ := bO_inv q
      obtain ⟨hf, q2⟩ := bIf_inv q1
      cases q2
      rw [VR] at h1
      obtain ⟨p, hp, rfl⟩ := h1
      obtain ⟨p', hp', _, vs, g₀, rs⟩ := N.st.hr.obs _ _ hσ
      have g := g₀.isList
      rw [hp] at hp'; cases hp'
      exact sub_ok (in_ok g.typeIs list_getitem_lookup) (list_slc N.st g rs hs p1.1 p2.1 hf)
    · cases q
theorem e_slc {y z : Option AD} {lo hi : Option Int} {d r : AD} (ia : Ev n a f σ (.v (.d d)) σ₁) (ib : Ev n b f σ₁ (.o y) σ₂) (ic : Ev n c f σ₂ (.o z) σ₃) (hl : partD y = some lo) (hh : partD z = some hi) (r4 : slcD σ₃ d lo hi = some r) : Ev n (.slc a b c) f σ (.v (.d r)) σ₃ := fun Y sc ns t env A ρ s ok N => by
  intro E
  show wpAny _ _ (eval (.Subscript _ (.Slice _ _ .none _) _) _) _ _ _
  rw [arm_eval_Subscript]
  refine wpAny_bind (wpAny_mono (ia Y _ _ _ _ _ _ _ (and1 (and1 ok)) N E) (fun v s₁ hv => wpAny_bind (wpAny_holding ?_)) fun _ _ e => e)
  obtain ⟨ρ₁, N₁, S₁, v1, _⟩ := hv.split N
  rw [arm_eval_Slice]
  refine wpAny_bind (wpAny_mono (ib Y _ _ _ _ _ _ _ (and2 (and1 ok)) N₁ E) (fun vl s₂ hv => wpAny_bind (wpAny_holding ?_)) fun _ _ e => e)
  obtain ⟨ρ₂, N₂, S₂, v2, up2⟩ := hv.split N₁
  refine wpAny_mono (ic Y _ _ _ _ _ _ _ (and2 ok) N₂ E) (fun vu s₃ hv => ?_) fun _ _ e => e
  obtain ⟨ρ₃, N₃, S₃, v3, up3⟩ := hv.split N₂
  refine wpAny_bind (wpAny_holding (wpAny_pure (wpAny_newObj_type (wpAny_bind (wpAny_standAt ?_)))))
  have S₄ : Stp C NoW ρ₃ s₃.heap ρ₃ (s₃.heap.push { cls := .type "slice", data := .fields #[vl, vu, .none] }) := (LStp.of_keeps (keeps_push _)).stp
  have N₄ := N₃.step (s' := { s₃ with heap := s₃.heap.push { cls := .type "slice", data := .fields #[vl, vu, .none] } }) (N₃.st.push _) S₄
  exact wpAny_mono (slc_ok N₄ r4 ((up3 (up2 v1)).mono S₄ WOk.no N₃.st.inv.tabs0) (Heap.IsSliceOf.new ..) (part_ok hl (up3 v2)) (part_ok hh v3)) (fun _ _ q => PV.trans (S₁.trans (S₂.trans (S₃.trans S₄))) q) fun _ _ e => e
end Mine
end
section
namespace Mine
open PySem PySem.W PyProof.Rows PySem.Calls
variable {n : Nat} {ρ ρ' : Rho} {σ σ' : H} {s s' : Shared} {h h' : Heap} {A : Around} {E : Value → Shared → Prop} {sc : Scope} {ns : List Str} {env : Env} {f : Fm} {x a b c : X} {σ₁ σ₂ σ₃ : H} {xs : List AD} {d z : AD} {u : AV}
theorem callWith_ok {pos : Pos} {f : Value} {first : List Value} {args : List (Bool × Sem Value)} {kws : List (Option Str × Sem Value)} {Q : Value → Shared → Prop} (h1 : args.any (·.1) = false) (h2 : kws.any (·.1.isNone) = false)
    (h : wpAny (model C.prog C.w) A (evalArgs f true args kws) (fun x s₁ => (∀ Q, (∀ k, Q k s₁) → wpAny (model C.prog C.w) A (keeperOf f) Q E s₁) ∧ wpAny (model C.prog C.w) A (PySem.call f (first ++ x.pos) x.kw) Q E s₁) E s) :
    wpAny (model C.prog C.w) A (callWith pos f first args kws) Q E s := by
  unfold callWith
  refine wpAny_bind (wpAny_holding (wpAny_mono h (fun x s₁ h₁ => wpAny_bind (wpAny_standAt ?_)) fun _ _ x => x))
  have tail : ∀ {t : Sem Value}, wpAny (model C.prog C.w) A t Q E s₁ → wpAny (model C.prog C.w) A (t >>= fun r => holding [r] point >>= fun _ => pure r) Q E s₁ :=
    fun ht => wpAny_bind (wpAny_mono ht (fun r s₂ hr => wpAny_bind (wpAny_holding (wpAny_point (wpAny_pure hr)))) fun _ _ x => x)
  simp only [h1, h2, Bool.or_false]
  refine wpAny_bind (h₁.1 _ fun k => ?_)
  cases k
  · simp only
    split
    · exact tail h₁.2
    · exact tail (by unfold callMarked; exact wpAny_keep h₁.2)
  · simp only
    split
    · exact tail h₁.2
    · exact tail (by unfold callMarked; exact wpAny_keep h₁.2)
  · exact tail h₁.2
  · exact tail (operate_ok h₁.2)
theorem evalArgs_ok {f : Value} {args : List (Bool × Sem Value)} {kws : List (Option Str × Sem Value)} {Q : Args → Shared → Prop} (h1 : args.any (·.1) = false) (h2 : kws.all (·.1.isSome) = true)
    (h : wpAny (model C.prog C.w) A (spliced args) (fun vs s₁ => wpAny (model C.prog C.w) A (evalAll (kws.map (·.2))) (fun kvs s₂ => Q ⟨vs, (kws.filterMap (·.1)).zip kvs⟩ s₂) E s₁) E s) : wpAny (model C.prog C.w) A (evalArgs f true args kws) Q E s := by
  cases args with
  | nil =>
    unfold evalArgs
    show wpAny _ A (spliced [] >>= _) Q E s
    refine wpAny_bind (wpAny_mono h (fun vs s₁ h₁ => ?_) fun _ _ x => x)
    refine wpAny_holding ?_
    simp only [h2, if_true]
    exact wpAny_bind (wpAny_mono h₁ (fun kvs s₂ h₂ => wpAny_bind (wpAny_pure (wpAny_pure h₂))) fun _ _ x => x)
  | cons p r =>
    obtain ⟨st, x⟩ := p
    cases st with
    | true => cases h1
    | false =>
      unfold evalArgs
      show wpAny _ A (spliced ((false, x) :: r) >>= _) Q E s
      refine wpAny_bind (wpAny_mono h (fun vs s₁ h₁ => ?_) fun _ _ x => x)
      refine wpAny_holding ?_
      simp only [h2, if_true]
      exact wpAny_bind (wpAny_mono h₁ (fun kvs s₂ h₂ => wpAny_bind (wpAny_pure (wpAny_pure h₂))) fun _ _ x => x)
theorem keyShape (x : X) (sc : Scope) (ns : List Str) (t : Sd) : (un sc ns x t).nd.toK = [] ∨ ∃ v p, (un sc ns x t).nd.toK = [⟨some "key", v, p⟩] := by
  cases x <;> first | exact .inl rfl | exact .inr ⟨_, _, rfl⟩
theorem key_ok {pos : Pos} {fv : Value} {first : List Value} {args : List (Bool × Sem Value)} {xs : List AD} {k : Option AV} {σ₀ σ₁ σ₂ σ₃ : H} {r : AD} {t : Sd} (N : Now C n sc ns env A f ρ σ₀ s) (ok : (un sc ns x t).ok = true) (Y : Hyp C) (ib : Ev n x f σ₁ (.k k) σ₂)
    (hst : args.any (·.1) = false) (ha : wpAny (model C.prog C.w) A (spliced args) (PL C ρ s σ₁ xs) E s)
    (hc : ∀ ρ' s' vs kv, Now C n sc ns env A f ρ' σ₂ s' → VRs ρ' s'.heap xs vs → (∀ q, k = some q → VV C ρ' s'.heap s'.heap.objs.size q kv) → Stp C NoW ρ s.heap ρ' s'.heap →
      (∀ Q, (∀ k, Q k s') → wpAny (model C.prog C.w) A (keeperOf fv) Q E s') ∧ wpAny (model C.prog C.w) A (PySem.call fv (first ++ vs) (kwL k kv)) (PV C ρ' s' σ₃ (.d r)) E s') :
    wpAny (model C.prog C.w) A (callWith pos fv first args (backToKw pos (keywordEach (un sc ns x t).nd.toK env))) (PV C ρ s σ₃ (.d r)) E s := by
  have go : ∀ kws : List (Option Str × Sem Value), kws = backToKw pos (keywordEach (un sc ns x t).nd.toK env) → kws.any (·.1.isNone) = false → kws.all (·.1.isSome) = true →
      (∀ ρ₁ s₁ vs, Now C n sc ns env A f ρ₁ σ₁ s₁ → Stp C NoW ρ s.heap ρ₁ s₁.heap → VRs ρ₁ s₁.heap xs vs → wpAny (model C.prog C.w) A (evalAll (kws.map (·.2))) (fun kvs s₂ => (∀ Q, (∀ k, Q k s₂) → wpAny (model C.prog C.w) A (keeperOf fv) Q E s₂) ∧
        wpAny (model C.prog C.w) A (PySem.call fv (first ++ vs) ((kws.filterMap (·.1)).zip kvs)) (PV C ρ s σ₃ (.d r)) E s₂) E s₁) →
      wpAny (model C.prog C.w) A (callWith pos fv first args (backToKw pos (keywordEach (un sc ns x t).nd.toK env))) (PV C ρ s σ₃ (.d r)) E s := fun kws e k1 k2 w => by
    rw [← e]
    refine callWith_ok hst k1 (evalArgs_ok hst k2 (wpAny_mono ha (fun vs s₁ hv => ?_) fun _ _ e => e))
    obtain ⟨ρ₁, X, S, v⟩ := hv
    exact w ρ₁ s₁ vs (N.step X S) S v
  rcases keyShape x sc ns t with hs | ⟨v, p, hs⟩
  · refine go [] (by rw [hs]; rfl) rfl rfl fun ρ₁ s₁ vs N₁ S₁ v1 => wpAny_pure ?_
    have out := ib Y sc ns t env A ρ₁ s₁ ok N₁
    cases k with
    | none =>
      obtain ⟨_, rfl⟩ := out
      obtain ⟨w1, w2⟩ := hc ρ₁ s₁ vs .none N₁ v1 nofun S₁
      exact ⟨w1, wpAny_mono w2 (fun _ _ q => PV.trans S₁ q) fun _ _ e => e⟩
    | some a =>
      obtain ⟨v, p, q, _⟩ := out
      rw [hs] at q; cases q
  · refine go [(some "key", do let v ← eval v env; standAt pos; pure v)] (by rw [hs]; rfl) rfl rfl fun ρ₁ s₁ vs N₁ S₁ v1 => ?_
    have out := ib Y sc ns t env A ρ₁ s₁ ok N₁
    cases k with
    | none =>
      obtain ⟨q, _⟩ := out
      rw [hs] at q; cases q
    | some a =>
      obtain ⟨v', p', q, w⟩ := out
      rw [hs] at q; cases q
      show wpAny _ _ (evalAll [do let v ← eval v env; standAt pos; pure v]) _ _ _
      refine wpAny_bind (wpAny_bind (wpAny_mono (w E) (fun kv s₂ hv => wpAny_bind (wpAny_standAt (wpAny_pure ?_))) fun _ _ e => e))
      obtain ⟨ρ₂, N₂, S₂, v2⟩ := hv.splitV N₁
      refine wpAny_bind (wpAny_holding (wpAny_pure (wpAny_pure ?_)))
      obtain ⟨w1, w2⟩ := hc ρ₂ s₂ vs kv N₂ (v1.mono S₂ WOk.no N₁.st.inv.tabs0) (fun _ q => by cases q; exact v2) (S₁.trans S₂)
      exact ⟨w1, wpAny_mono w2 (fun _ _ q => PV.trans (S₁.trans S₂) q) fun _ _ e => e⟩
theorem e_fc {g : FN} {k : Option AV} (ia : Ev n a f σ (.l xs) σ₁) (ib : Ev n b f σ₁ (.k k) σ₂) (K : CallS n (.fn g) xs k σ₂ z σ₃) : Ev n (.fc g a b) f σ (.v (.d z)) σ₃ := fun Y sc ns t env A ρ s ok N => by
  intro E
  show wpAny _ _ (do callWith t.p (← eval (.Name (fName g) t.q) env) [] (backTo t.p (starEach (un sc ns a (t.k 0)).nd.toL env)) (backToKw t.p (keywordEach (un sc ns b (t.k 1)).nd.toK env))) _ _ _
  refine wpAny_bind (N.globF Y.top (and2 (and1 ok)) (and2 ok) ?_)
  refine key_ok N (and2 (and1 (and1 ok))) Y ib (noStar env t.p a _ _ _ (and1 (and1 (and1 ok)))) (ia Y _ _ _ _ _ _ _ (and1 (and1 (and1 ok))) N t.p E) fun ρ' s' vs kv N' v1 v2 S => ?_
  exact K Y A ρ' s' _ vs kv E N'.ac N'.st rfl v1 v2
theorem e_cv {i : Nat} (h1 : f[i]? = some (some u)) (ia : Ev n a f σ (.l xs) σ₁) (K : CallS n u xs .none σ₁ z σ₃) : Ev n (.cv i a) f σ (.v (.d z)) σ₃ := fun Y sc ns t env A ρ s ok N => by
  intro E
  show wpAny _ _ (do callWith t.p (← eval (nameE ns i t.q) env) [] (backTo t.p (starEach (un sc ns a (t.k 0)).nd.toL env)) []) _ _ _
  refine wpAny_bind (wpAny_mono (N.load h1) (fun gv s₁ hg => ?_) fun _ _ e => e)
  obtain ⟨ρ₁, N₁, S₁, g1⟩ := hg.splitV N
  refine callWith_ok (noStar env t.p a _ _ _ (and1 ok)) rfl (evalArgs_ok (noStar env t.p a _ _ _ (and1 ok)) rfl (wpAny_mono (ia Y _ _ _ _ _ _ _ (and1 ok) N₁ t.p E) (fun vs s₂ hv => wpAny_pure ?_) fun _ _ e => e))
  obtain ⟨ρ₂, X, S₂, v2⟩ := hv
  obtain ⟨w1, w2⟩ := K Y A ρ₂ s₂ gv vs .none E (N₁.ac.mono S₂) X (g1.mono S₂ N₁.st.hr WOk.no N₁.st.inv.tabs0 lim_size fun _ q => q.elim) v2 nofun
  exact ⟨w1, wpAny_mono w2 (fun _ _ q => PV.trans (S₁.trans S₂) q) fun _ _ e => e⟩
theorem e_ask {g : FN} (ia : Ev n a f σ (.v (.d d)) σ₁) (K : CallS n (.fn g) [d] .none σ₁ z σ₃) : Ev n (.ask g a) f σ (.v (.d z)) σ₃ := fun Y sc ns t env A ρ s ok N => by
  intro E
  have hg := and2 (and1 ok)
  have nm : ∀ mg, C.hk.Ns mainGlobals mg → mg (fName g) = .none := fun mg hm => by
    cases g <;> first | exact absurd hg (by decide) | exact Y.top.lacks 18 rfl hm | exact Y.top.lacks 20 rfl hm
  have bt : bootBuiltins (fName g) = some (fVal g) ∧ fName g ≠ "__name__" ∧ (fName g == ("__debug__" : Str)) = false := by
    cases g <;> first | exact absurd hg (by decide) | exact ⟨by decide +kernel, by decide +kernel, by decide +kernel⟩
  have hst : (backTo t.p (starEach [(un sc ns a ((t.k 0).k 0)).nd.toE] env)).any (·.1) = false := by rw [starEach_cons (and2 (and1 (and1 ok)))]; rfl
  show wpAny _ _ (do callWith t.p (← eval (.Name (fName g) t.q) env) [] (backTo t.p (starEach [(un sc ns a ((t.k 0).k 0)).nd.toE] env)) []) _ _ _
  refine wpAny_bind (N.globB Y.top (and2 ok) nm bt ?_)
  refine callWith_ok hst rfl (evalArgs_ok hst rfl ?_)
  rw [starEach_cons (and2 (and1 (and1 ok)))]
  refine spliced_cons (wpAny_mono (ia Y _ _ _ _ _ _ _ (and1 (and1 (and1 ok))) N E) (fun v s₁ hv => spliced_nil (wpAny_pure ?_)) fun _ _ e => e)
  obtain ⟨ρ₁, N₁, S₁, v1, _⟩ := hv.split N
  obtain ⟨w1, w2⟩ := K Y A ρ₁ s₁ (fVal g) [v] .none E N₁.ac N₁.st rfl (.cons v1 .nil) nofun
  exact ⟨w1, wpAny_mono w2 (fun _ _ q => PV.trans S₁ q) fun _ _ e => e⟩
end Mine
end
section
namespace Mine
open PySem PySem.W PyProof.Rows PySem.Calls
variable {n : Nat} {ρ ρ' : Rho} {σ σ' : H} {s s' : Shared} {h h' : Heap} {A : Around} {E : Value → Shared → Prop} {sc : Scope} {ns : List Str} {env : Env} {f : Fm} {x a b c : X} {σ₁ σ₂ σ₃ : H} {d : AD} {f₁ f₂ : Fm}
theorem own_step {b : Addr} {tk : Nat} (N : Now C n sc ns env A f ρ σ s) (O : OwnOk C env ρ s.heap) (hb : Own env b) (hs : Heap.SameBut b s.heap h') (hd : ∃ o, h'.get? b = some o ∧ isDC o.data = true) (hk : ∀ o, s.heap.get? b = some o → ∃ o', h'.get? b = some o' ∧ (isDict o.data = true → isDict o'.data = true)) :
    St C ρ σ { s with heap := h', toks := tk } ∧ Stp C (Own env) ρ s.heap ρ h' ∧ OwnOk C env ρ h' := by
  have L : LStp (Own env) ρ s.heap h' := .but hs (.inl hb) (fun q => O.off b hb (.inr q)) hk
  refine ⟨N.st.lstp O.wok O.new L fun b' q o e => hs.extBut b' o (fun z => O.off b hb (z ▸ q)) e, L.stp, O.ge, O.new, fun b' q => ?_, O.off, O.inj, O.ne, O.cell⟩
  by_cases z : b' = b
  · subst z; exact hd
  · obtain ⟨o, e, k⟩ := O.ok b' q
    exact ⟨o, hs.extBut b' o z e, k⟩
theorem Now.store {i : Nat} {d : AD} {v : Value} {Q : Unit → Shared → Prop} (N : Now C n sc ns env A f ρ σ s) (O : OwnOk C env ρ s.heap) (hi : i < f.length) (hv : VR ρ s.heap d v)
    (q : ∀ s', St C ρ σ s' → Stp C (Own env) ρ s.heap ρ s'.heap → OwnOk C env ρ s'.heap → EnvOk C sc ns env (setF f i (.d d)) ρ s'.heap → Q () s') : wpAny (model C.prog C.w) A (storeName env (ns.getD i Str.empty) v) Q E s := by
  have h0 : i < ns.length := by rw [← N.ev.len]; exact hi
  have h1 := getD_some h0
  generalize hx : ns.getD i Str.empty = x at h1
  obtain ⟨o, l, _⟩ := N.ev.slot i x h1
  have T := N.st.inv.tabs0
  have other : ∀ (j : Nat) y, ns[j]? = some y → j ≠ i → y ≠ x := fun j y hy hj e => by
    subst e
    have hj' := (List.getElem?_eq_some_iff.mp hy).1
    exact hj ((List.getElem?_inj hj' N.ev.nd).mp (hy.trans h1.symm))
  have fin : ∀ (h' : Heap), Stp C (Own env) ρ s.heap ρ h' → Look C env h' x (some v) → (∀ y o, y ≠ x → Look C env s.heap y o → Look C env h' y o) → EnvOk C sc ns env (setF f i (.d d)) ρ h' := fun h' S l1 l2 =>
    ⟨N.ev.kind, N.ev.glob, N.ev.bi, N.ev.kk, by rw [setF, List.length_set]; exact N.ev.len, fun j y hy => by
      by_cases hj : j = i
      · subst hj
        rw [h1] at hy; cases hy
        refine ⟨some v, l1, fun a ha => ?_⟩
        rw [setF, List.getElem?_set_self hi] at ha
        cases ha
        exact ⟨v, rfl, hv.mono S O.wok T⟩
      · obtain ⟨o, l, k⟩ := N.ev.slot j y hy
        refine ⟨o, l2 y o (other j y hy hj) l, fun a ha => ?_⟩
        rw [setF, List.getElem?_set_ne (Ne.symm hj)] at ha
        obtain ⟨u, hu, hr⟩ := k a ha
        exact ⟨u, hu, hr.mono S N.st.hr O.wok T lim_id O.ge⟩, N.ev.nd, N.ev.dbg, N.ev.lam, N.ev.off, N.ev.big, (let ⟨o, e⟩ := N.ev.lt; S.alive _ o e)⟩
  rcases l with ⟨l1, m, l2, l3⟩ | ⟨l1 | l1, l2, c, l3, l4, l5⟩
  · refine wpAny_storeName_local l1 l2 (fun h' hn hs => ?_) (by rw [N.ev.kind]; rfl)
    obtain ⟨X, S, O'⟩ := own_step (tk := s.toks + 1) N O (.inl rfl) hs (by obtain ⟨o, es, ep, e, dd, _⟩ := hn; exact ⟨o, e, by rw [dd]; rfl⟩) (fun _ _ => by obtain ⟨o, es, ep, e, dd, _⟩ := hn; exact ⟨o, e, fun _ => by rw [dd]; rfl⟩)
    refine q _ X S O' (fin h' S (.inl ⟨l1, _, hn, by rw [if_pos rfl]⟩) fun y o hy l => ?_)
    rcases l with ⟨k1, m', k2, k3⟩ | ⟨k1, k2, c, k3, ⟨oc, k4, k6⟩, k5⟩
    · exact .inl ⟨k1, _, hn, by rw [if_neg hy, l2.agree k2]; exact k3⟩
    · exact .inr ⟨k1, k2, c, k3, ⟨oc, hs.extBut c oc (O.ne y c k3) k4, k6⟩, k5⟩
  · refine wpAny_storeName_cell N.ev.kind l1 l3 l4 fun h' hc hs => ?_
    obtain ⟨X, S, O'⟩ := own_step (tk := s.toks) N O (.inr ⟨x, l3, l1⟩) hs (by obtain ⟨o, e, dd⟩ := hc; exact ⟨o, e, by rw [dd]; rfl⟩) (fun o e => by obtain ⟨oc, e', k⟩ := l4; rw [e'] at e; cases e; obtain ⟨o2, e2, _⟩ := hc; exact ⟨o2, e2, fun dd => by rw [k] at dd; cases dd⟩)
    refine q _ X S O' (fin h' S (.inr ⟨.inl l1, l2, c, l3, hc, l5⟩) fun y o hy l => ?_)
    rcases l with ⟨k1, m', k2, k3⟩ | ⟨k1, k2, c', k3, ⟨oc, k4, k6⟩, k5⟩
    · exact .inl ⟨k1, m', k2.sameBut hs (Ne.symm (O.ne x c l3)), k3⟩
    · exact .inr ⟨k1, k2, c', k3, ⟨oc, hs.extBut c' oc (fun z => hy (O.inj y x c (z ▸ k3) l3)) k4, k6⟩, k5⟩
  · exact (O.cell x l1).elim
theorem Now.stepF {f' : Fm} (N : Now C n sc ns env A f ρ σ s) (X : St C ρ' σ' s') (S : Stp C (Own env) ρ s.heap ρ' s'.heap) (V : EnvOk C sc ns env f' ρ' s'.heap) : Now C n sc ns env A f' ρ' σ' s' := ⟨X, V, N.ac.mono S, N.ne⟩
theorem Stp.own {W : Addr → Prop} (S : Stp C NoW ρ h ρ' h') : Stp C W ρ h ρ' h' := S.weaken fun _ _ q _ => q.elim
theorem PF.trans {r : FL} {f' : Fm} {g : Flow} {s₂ : Shared} (S : Stp C (Own env) ρ s.heap ρ' s'.heap) (p : PF C sc ns env ρ' s' σ' r f' g s₂) : PF C sc ns env ρ s σ' r f' g s₂ := let ⟨ρ₁, X, S₂, q, q1, q2⟩ := p; ⟨ρ₁, X, S.trans S₂, q, q1, q2⟩
theorem swaps_cell {e : Expr} {y : Str} {p : Pos} {l : Nat} (h : env.kindOf y = some .cell) : swapsWith e (some (.Name y p)) l env = pure false := by
  have h' : (env.kindOf y == some NameKind.local) = false := by rw [h]; rfl
  cases e <;> first | rfl | (unfold swapsWith; simp [h'])
theorem e_asg {i : Nat} (ia : Ev n a f σ (.v (.d d)) σ₁) (hi : i < f.length) : Ev n (.asg i a) f σ (.f .next (setF f i (.d d))) σ₁ := fun Y sc ns t env A ρ s ok N => by
  intro O E
  have sw : swapsWith (un sc ns a (t.k 0)).nd.toE (some (nameE ns i t.q)) t.p.line env = pure false := by
    cases h : isn (un sc ns a (t.k 0)).nd.toE 2 with
    | true => exact swaps_no h
    | false =>
      have := and2 ok
      rw [h] at this
      exact swaps_cell (N.ev.kk _ _ (.inr (.inl rfl)) this)
  show wpAny _ _ (exec (.Assign [.Name (ns.getD i Str.empty) t.q] (un sc ns a (t.k 0)).nd.toE t.p) env) _ _ _
  refine wpAny_Assign_Name (wpAny_mono (ia Y _ _ _ _ _ _ _ (and1 (and1 ok)) N E) (fun v s₁ hv => ?_) fun _ _ e => e) sw
  obtain ⟨ρ₁, N₁, S₁, v1, _⟩ := hv.split N
  have O₁ := O.mono S₁ N.st.inv.tabs0
  exact N₁.store O₁ hi v1 fun s₂ X S O₂ V => ⟨ρ₁, X, S₁.own.trans S, V, O₂, trivial⟩
theorem e_ex (ia : Ev n a f σ (.v (.d .none)) σ₁) : Ev n (.ex a) f σ (.f .next f) σ₁ := fun Y sc ns t env A ρ s ok N => by
  intro O E
  show wpAny _ _ (exec (.Expr (un sc ns a (t.k 0)).nd.toE t.p) env) _ _ _
  refine wpAny_Expr (wpAny_mono (ia Y _ _ _ _ _ _ _ (and1 ok) N E) (fun v s₁ hv => ?_) fun _ _ e => e) (by unfold interactive; simp [N.ev.kind]) (swaps_no (and2 ok))
  obtain ⟨ρ₁, N₁, S₁, v1⟩ := hv.splitV N
  cases noneV (a := .d .none) rfl v1
  exact ⟨ρ₁, N₁.st, S₁.own, N₁.ev, O.mono S₁ N.st.inv.tabs0, trivial⟩
theorem e_ret (ia : Ev n a f σ (.v (.d d)) σ₁) : Ev n (.ret a) f σ (.f (.ret d) f) σ₁ := fun Y sc ns t env A ρ s ok N => by
  intro O E
  show wpAny _ _ (exec (.Return (some (un sc ns a (t.k 0)).nd.toE) t.p) env) _ _ _
  refine wpAny_Return_some (wpAny_mono (ia Y _ _ _ _ _ _ _ ok N E) (fun v s₁ hv => ?_) fun _ _ e => e)
  obtain ⟨ρ₁, N₁, S₁, v1, _⟩ := hv.split N
  exact ⟨ρ₁, N₁.st, S₁.own, N₁.ev, O.mono S₁ N.st.inv.tabs0, v1⟩
theorem e_sn : Ev n .sn f σ (.g .next f) σ := fun Y sc ns t env A ρ s ok N => by
  exact fun O E => wpAny_execs_nil ⟨ρ, N.st, .refl, N.ev, O, trivial⟩
theorem e_sc {q : FL} (ia : Ev n a f σ (.f .next f₁) σ₁) (ib : Ev n b f₁ σ₁ (.g q f₂) σ₂) : Ev n (.sc a b) f σ (.g q f₂) σ₂ := fun Y sc ns t env A ρ s ok N => by
  intro O E
  show wpAny _ _ (execs ((un sc ns a (t.k 0)).nd.toS :: (un sc ns b (t.k 1)).nd.toB) env) _ _ _
  refine wpAny_execs_cons (wpAny_mono (ia Y _ _ _ _ _ _ _ (and1 ok) N O E) (fun g s₁ hg => ?_) fun _ _ e => e)
  obtain ⟨ρ₁, X, S, V, O₁, fl⟩ := hg
  cases g <;> first | exact fl.elim | skip
  exact wpAny_mono (ib Y _ _ _ _ _ _ _ (and2 ok) (N.stepF X S V) O₁ E) (fun _ _ q => PF.trans S q) fun _ _ e => e
theorem e_sret (ia : Ev n a f σ (.f (.ret d) f₁) σ₁) : Ev n (.sc a b) f σ (.g (.ret d) f₁) σ₁ := fun Y sc ns t env A ρ s ok N => by
  intro O E
  show wpAny _ _ (execs ((un sc ns a (t.k 0)).nd.toS :: (un sc ns b (t.k 1)).nd.toB) env) _ _ _
  refine wpAny_execs_cons (wpAny_mono (ia Y _ _ _ _ _ _ _ (and1 ok) N O E) (fun g s₁ hg => ?_) fun _ _ e => e)
  obtain ⟨ρ₁, X, S, V, O₁, fl⟩ := hg
  cases g <;> first | exact fl.elim | skip
  exact ⟨ρ₁, X, S, V, O₁, fl⟩
theorem ife_ok {t : Sd} {q : Bool} {Q : Flow → Shared → Prop} (Y : Hyp C) (ia : Ev n a f σ (.b q) σ₁) (ok : (un sc ns (.ife a b c) t).ok = true) (N : Now C n sc ns env A f ρ σ s) (go : ∀ ρ₁ s₁, Now C n sc ns env A f ρ₁ σ₁ s₁ → Stp C NoW ρ s.heap ρ₁ s₁.heap → wpAny (model C.prog C.w) A (execs (if q then (un sc ns b (t.k 1)).nd.toB else (un sc ns c (t.k 2)).nd.toB) env) Q E s₁) :
    wpAny (model C.prog C.w) A (exec (un sc ns (.ife a b c) t).nd.toS env) Q E s := by
  show wpAny _ _ (exec (.If (un sc ns a (t.k 0)).nd.toE (un sc ns b (t.k 1)).nd.toB (un sc ns c (t.k 2)).nd.toB t.p) env) _ _ _
  refine wpAny_If (wpAny_mono (ia Y _ _ _ _ _ _ _ (and1 (and1 ok)) N E) (fun v s₁ hv => ?_) fun _ _ e => e)
  obtain ⟨rfl, ρ₁, X, S₁⟩ := hv
  have w := go ρ₁ s₁ (N.step X S₁) S₁
  cases v <;> exact w
theorem e_ife_t {q : FL} (ia : Ev n a f σ (.b true) σ₁) (ib : Ev n b f σ₁ (.g q f₁) σ₂) : Ev n (.ife a b c) f σ (.f q f₁) σ₂ := fun Y sc ns t env A ρ s ok N => by
  exact fun O E => ife_ok Y ia ok N fun ρ₁ s₁ N₁ S₁ => wpAny_mono (ib Y _ _ _ _ _ _ _ (and2 (and1 ok)) N₁ (O.mono S₁ N.st.inv.tabs0) E) (fun _ _ q => PF.trans S₁.own q) fun _ _ e => e
theorem e_ife_f {q : FL} (ia : Ev n a f σ (.b false) σ₁) (ic : Ev n c f σ₁ (.g q f₁) σ₂) : Ev n (.ife a b c) f σ (.f q f₁) σ₂ := fun Y sc ns t env A ρ s ok N => by
  exact fun O E => ife_ok Y ia ok N fun ρ₁ s₁ N₁ S₁ => wpAny_mono (ic Y _ _ _ _ _ _ _ (and2 ok) N₁ (O.mono S₁ N.st.inv.tabs0) E) (fun _ _ q => PF.trans S₁.own q) fun _ _ e => e
theorem e_pass (ia : Ev n a f σ (.b false) σ₁) : Ev n (.ife a b .sn) f σ (.f .next f) σ₁ := e_ife_f ia e_sn
end Mine
end
section
namespace Mine
open PySem PySem.W PyProof.Rows PySem.Calls
variable {n : Nat} {ρ ρ' : Rho} {σ σ' : H} {s s' : Shared} {h h' : Heap} {A : Around} {E : Value → Shared → Prop} {sc : Scope} {ns : List Str} {env : Env} {f : Fm} {x a b c : X}
noncomputable def TurnQ (I : Nat → Shared → Prop) (Q : Flow → Shared → Prop) (n : Nat) (f : Flow) (s : Shared) : Prop := match f with
  | .next => ∃ m, m < n ∧ I m s
  | .cont => ∃ m, m < n ∧ I m s
  | .brk => Q .next s
  | .ret v => Q (.ret v) s
theorem my_while {test : Expr} {body : List Stmt} {pos : Pos} {Q : Flow → Shared → Prop} (I : Nat → Shared → Prop)
    (turn : ∀ n s, I n s → ∀ (QF QT : Shared → Prop) (E : Value → Shared → Prop), (∀ s, Q .next s → QF s) → (∀ s, (∀ E, wpAny (model C.prog C.w) A (execs body env) (TurnQ I Q n) E s) → QT s) → wpAny (model C.prog C.w) A (isTrue test env (eval test env)) (fun b s => if b then QT s else QF s) E s)
    (n : Nat) (h : I n s) : wpAny (model C.prog C.w) A (exec (.While test body [] pos) env) Q E s :=
  wpAny_While (codeAny_whileLoop I (fun n s hI => turn n s hI _ _ _ (fun _ q => wpAny_execs_nil q) fun _ q => wpAny_mono (q _) (fun f s' q => by cases f <;> exact q) fun _ _ e => e) n h)
noncomputable abbrev whT (n : Nat) (a : X) : Fm → H → Bool → H → Prop := fun f σ b σ' => Ev n a f σ (.b b) σ'
noncomputable abbrev whS (n : Nat) (b : X) : Fm → H → FL → Fm → H → Prop := fun f σ l f' σ' => Ev n b f σ (.g l f') σ'
inductive WhI (n : Nat) (sc : Scope) (ns : List Str) (env : Env) (A : Around) (a b : X) (ρ : Rho) (h : Heap) (l : FL) (f' : Fm) (σ' : H) (k : Nat) (s' : Shared) : Prop
  | mk (f₁ : Fm) (ρ₁ : Rho) (σ₁ : H) (N : Now C n sc ns env A f₁ ρ₁ σ₁ s') (O : OwnOk C env ρ₁ s'.heap) (S : Stp C (Own env) ρ h ρ₁ s'.heap) (e : LW (whT n a) (whS n b) k f₁ σ₁ l f' σ') : WhI n sc ns env A a b ρ h l f' σ' k s'
theorem e_wh {l : FL} {f' : Fm} (e : LW (whT n a) (whS n b) 64 f σ l f' σ') : Ev n (.wh a b) f σ (.f l f') σ' := fun Y sc ns t env A ρ s ok N O E => by
  refine my_while (WhI n sc ns env A a b ρ s.heap l f' σ') (fun k s₁ I QF QT E₁ qF qT => ?_) 64 ⟨f, ρ, σ, N, O, .refl, e⟩
  refine shut fun G kk => ?_
  obtain ⟨f₁, ρ₁, σ₁, N₁, O₁, S₁, hl⟩ := I
  have run : ∀ {b σ₂}, whT n a f₁ σ₁ b σ₂ → (∀ {ρ₂ s₂}, Now C n sc ns env A f₁ ρ₂ σ₂ s₂ → OwnOk C env ρ₂ s₂.heap → Stp C (Own env) ρ s.heap ρ₂ s₂.heap → if b then QT s₂ else QF s₂) → G := fun ht q => kk (wpAny_mono (ht Y _ _ _ _ _ _ _ (and1 ok) N₁ _) (fun v s₂ hv => by
    obtain ⟨rfl, ρ₂, X₂, S₂⟩ := hv
    exact q (N₁.step X₂ S₂) (O₁.mono S₂ N₁.st.inv.tabs0) (S₁.trans S₂.own)) fun _ _ e => e)
  cases hl with
  | stop h => exact run h fun N₂ O₂ S₂ => qF _ ⟨_, N₂.st, S₂, N₂.ev, O₂, trivial⟩
  | go h h2 h3 =>
    refine run h fun N₂ O₂ S₂ => qT _ fun E₂ => wpAny_mono (h2 Y _ _ _ _ _ _ _ (and2 ok) N₂ O₂ _) (fun g s₃ hg => ?_) fun _ _ e => e
    obtain ⟨ρ₃, X₃, S₃, V₃, O₃, fl⟩ := hg
    cases g <;> first | exact fl.elim | skip
    exact ⟨_, Nat.lt_succ_self _, _, ρ₃, _, N₂.stepF X₃ S₃ V₃, O₃, S₂.trans S₃, h3⟩
  | ret h h2 =>
    refine run h fun N₂ O₂ S₂ => qT _ fun E₂ => wpAny_mono (h2 Y _ _ _ _ _ _ _ (and2 ok) N₂ O₂ _) (fun g s₃ hg => ?_) fun _ _ e => e
    obtain ⟨ρ₃, X₃, S₃, V₃, O₃, fl⟩ := hg
    cases g <;> first | exact fl.elim | skip
    exact ⟨ρ₃, X₃, S₂.trans S₃, V₃, O₃, fl⟩
noncomputable def ItR (C : Cx) (ρ : Rho) (h : Heap) (I : Addr) (d : AD) (i : Nat) : Prop := C.h0.get? I = Option.none ∧ match d with
  | .lst xs => ∃ l vs, h.IsListIter I l i ∧ h.IsList l vs.toArray ∧ ¬ Foot ρ l ∧ VRs ρ h xs vs
  | .ref k => ∃ p, ρ.l[k]? = some p ∧ h.IsListIter I p.1 i
  | .rng lo hi => IsRangeIter h I (lo + i) (((hi - lo).toNat : Int) - i) 1 ∧ -5000 < lo
  | _ => False
theorem ItR.cls {I : Addr} {d : AD} {i : Nat} (t : ItR C ρ h I d i) : ∃ o vs, h.get? I = some o ∧ o.data = .fields vs ∧ isIt o = true := by
  obtain ⟨_, t⟩ := t
  cases d with
  | lst xs => obtain ⟨l, vs, ⟨o, e, c, k⟩, _⟩ := t; exact ⟨o, _, e, k, by unfold isIt; rw [c, k]; rfl⟩
  | ref k => obtain ⟨p, _, ⟨o, e, c, k⟩⟩ := t; exact ⟨o, _, e, k, by unfold isIt; rw [c, k]; rfl⟩
  | rng lo hi => exact ⟨_, _, t.1, rfl, rfl⟩
  | _ => exact t.elim
theorem ItR.mono {W : Addr → Prop} {I : Addr} {d : AD} {i : Nat} (t : ItR C ρ h I d i) (S : Stp C W ρ h ρ' h') (R : HR C ρ σ h) (hW : WOk W h) (hI : ¬ W I) (T : Tabs0 C h) : ItR C ρ' h' I d i := by
  obtain ⟨o, vs, e, k, _⟩ := t.cls
  have e' := S.exact e (R.off e (by rw [k]; rfl)) hI (T.lt t.1) (by rw [k]; rfl)
  have up : ∀ o', h.get? I = some o' → h'.get? I = some o' := fun o' q => by rw [e] at q; cases q; exact e'
  refine ⟨t.1, ?_⟩
  have t := t.2
  cases d with
  | lst xs =>
    obtain ⟨l, us, ⟨o1, g1, g2⟩, l1, l2, l3⟩ := t
    exact ⟨l, us, ⟨o1, up _ g1, g2⟩, keep_list S hW T l1 l2, (by obtain ⟨o, q, _⟩ := l1; exact S.off q l2), l3.mono S hW T⟩
  | ref k => obtain ⟨p, p1, ⟨o1, g1, g2⟩⟩ := t; exact ⟨p, S.idx p1, ⟨o1, up _ g1, g2⟩⟩
  | rng lo hi => exact ⟨up _ t.1, t.2⟩
  | _ => exact t.elim
theorem it_step {I : Addr} {tk : Nat} {d : AD} {i : Nat} (X : St C ρ σ s) (t : ItR C ρ s.heap I d i) (hx : Heap.ExtBut I s.heap h') (hal : ∃ o, h'.get? I = some o) :
    WOk (fun b => b = I) s.heap ∧ St C ρ σ { s with heap := h', toks := tk } ∧ Stp C (fun b => b = I) ρ s.heap ρ h' := by
  obtain ⟨o, vs, e, k, ki⟩ := t.cls
  have hf : ¬ Foot ρ I := X.hr.off e (by rw [k]; rfl)
  have L : LStp (fun b => b = I) ρ s.heap h' := ⟨fun b o' e' _ hw => hx b o' hw e', fun b o' e' d => by
    by_cases q : b = I
    · subst q; rw [e] at e'; cases e'; rw [k] at d; cases d
    · exact ⟨o', hx b o' q e', d⟩, fun b o' e' => by
    by_cases q : b = I
    · subst q; exact hal
    · exact ⟨o', hx b o' q e'⟩, fun b o' z e' => hx b o' (fun q => hf (.inr (q ▸ z))) e'⟩
  have hW : WOk (fun b => b = I) s.heap := fun b q => ⟨o, by rw [q]; exact e, by rw [ki]; exact Bool.or_true _⟩
  exact ⟨hW, X.lstp hW (fun b q => by rw [q]; exact t.1) L fun b q o' e' => hx b o' (fun z => hf (z ▸ q)) e', L.stp⟩
theorem iter_ok {d : AD} {v : Value} {Q : Value → Shared → Prop} (X : St C ρ σ s) (hv : VR ρ s.heap d v) (hc : cntOf d σ ≠ 0)
    (q : ∀ I s', St C ρ σ s' → Stp C NoW ρ s.heap ρ s'.heap → ItR C ρ s'.heap I d 0 → I = s.heap.objs.size → Q (.ref I) s') : wpAny (model C.prog C.w) A (pyIter v) Q E s := by
  have S : ∀ o : Obj, Stp C NoW ρ s.heap ρ (s.heap.push o) := fun o => (LStp.of_keeps (keeps_push _)).stp
  have hn := X.inv.fresh (get_size s.heap)
  cases d with
  | lst xs =>
    rw [VR] at hv
    obtain ⟨l, vs, rfl, g, hf, rs⟩ := hv
    refine wpAny_pyIter_list g (q _ _ (X.push _) (S _) ⟨hn, l, vs, ⟨_, Heap.get?_push_size _ rfl, rfl, rfl⟩, g.push _, hf, rs.mono (S _) WOk.no X.inv.tabs0⟩ rfl)
  | ref k =>
    rw [VR] at hv
    obtain ⟨p, hp, rfl⟩ := hv
    cases hσ : σ[k]? with
    | none => exact absurd (by simp [cntOf, bQ, bO, hσ]) hc
    | some o =>
      cases o with
      | acc xs m => exact absurd (by simp [cntOf, bQ, bO, hσ]) hc
      | list xs =>
        obtain ⟨p', hp', _, vs, g, rs⟩ := X.hr.obs k _ hσ
        rw [hp] at hp'; cases (hp')
        exact wpAny_pyIter_list g.isList (q _ _ (X.push _) (S _) ⟨hn, p, hp, ⟨_, Heap.get?_push_size _ rfl, rfl, rfl⟩⟩ rfl)
  | rng lo hi =>
    rw [VR] at hv
    obtain ⟨r, t, u, w, rfl, g, hf, b1, b2, b3, b4⟩ := hv
    have hsz : Builtin.Range.rangeSize lo hi 1 = ((hi - lo).toNat : Int) := by rw [rangeSize_one]; split <;> lia
    refine wpAny_pyIter_range g (small_one (by lia) (by lia) (by lia) (by lia)) (q _ _ (X.push _) (S _) ⟨hn, ?_, b1⟩ rfl)
    have e1 : lo + ((0 : Nat) : Int) = lo := by simp
    have e2 : (((hi - lo).toNat : Int) - ((0 : Nat) : Int)) = Builtin.Range.rangeSize lo hi 1 := by rw [hsz]; simp
    show IsRangeIter _ _ (lo + ((0 : Nat) : Int)) (((hi - lo).toNat : Int) - ((0 : Nat) : Int)) 1
    rw [e1, e2]
    exact Heap.get?_push_size _ rfl
  | _ => exact absurd rfl hc
end Mine
end
section
namespace Mine
open PySem PySem.W PyProof.Rows PySem.Calls
variable {n : Nat} {ρ ρ' ρ₀ : Rho} {σ σ' : H} {s s' : Shared} {h h' h₀ : Heap} {A : Around} {E : Value → Shared → Prop} {sc : Scope} {ns : List Str} {env : Env} {f : Fm} {x a b c : X} {W : Addr → Prop}
mutual
theorem VR.ext {I : Addr} (hx : ∀ b o, b ≠ I → h.get? b = some o → h'.get? b = some o) {o₁ : Obj} (e₁ : h.get? I = some o₁) (n₁ : isSD o₁.data = false) (c₁ : o₁.cls ≠ .type "range") : ∀ (d : AD) {v : Value}, VR ρ h d v → VR ρ h' d v
  | .none, _, e => by rw [VR] at e ⊢; exact e
  | .bool _, _, e => by rw [VR] at e ⊢; exact e
  | .int _, _, e => by rw [VR] at e ⊢; exact e
  | .str _, _, e => by rw [VR] at e ⊢; exact e
  | .ref _, _, e => by rw [VR] at e ⊢; exact e
  | .tup xs, _, e => by
    rw [VR] at e ⊢
    obtain ⟨a, vs, h1, ⟨o, g, c, m, k⟩, h3, h4⟩ := e
    exact ⟨a, vs, h1, ⟨o, hx a o (fun z => by rw [z, e₁] at g; cases g; rw [k] at n₁; cases n₁) g, c, m, k⟩, h3, VRs.ext hx e₁ n₁ c₁ xs h4⟩
  | .lst xs, _, e => by
    rw [VR] at e ⊢
    obtain ⟨a, vs, h1, ⟨o, g, c, m, k⟩, h3, h4⟩ := e
    exact ⟨a, vs, h1, ⟨o, hx a o (fun z => by rw [z, e₁] at g; cases g; rw [k] at n₁; cases n₁) g, c, m, k⟩, h3, VRs.ext hx e₁ n₁ c₁ xs h4⟩
  | .rng lo hi, _, e => by
    rw [VR] at e ⊢
    obtain ⟨a, t, u, w, h1, h2, h3⟩ := e
    exact ⟨a, t, u, w, h1, hx a _ (fun z => by subst z; have q := e₁.symm.trans h2; cases q; exact c₁ rfl) h2, h3⟩
theorem VRs.ext {I : Addr} (hx : ∀ b o, b ≠ I → h.get? b = some o → h'.get? b = some o) {o₁ : Obj} (e₁ : h.get? I = some o₁) (n₁ : isSD o₁.data = false) (c₁ : o₁.cls ≠ .type "range") : ∀ (xs : List AD) {vs : List Value}, VRs ρ h xs vs → VRs ρ h' xs vs
  | [], _, e => by rw [VRs] at e ⊢; exact e
  | x :: xs, _, e => by
    rw [VRs] at e ⊢
    obtain ⟨v, r, h1, h2, h3⟩ := e
    exact ⟨v, r, h1, VR.ext hx e₁ n₁ c₁ x h2, VRs.ext hx e₁ n₁ c₁ xs h3⟩
end
theorem it_end {I : Addr} {tk : Nat} {d : AD} {i : Nat} (X : St C ρ σ s) (t : ItR C ρ s.heap I d i) (hx : Heap.ExtBut I s.heap h') (h0 : h₀.get? I = Option.none) (S : Stp C W ρ₀ h₀ ρ s.heap) (hW : ∀ b, W b → ∃ o, h₀.get? b = some o) :
    St C ρ σ { s with heap := h', toks := tk } ∧ Stp C W ρ₀ h₀ ρ h' := by
  obtain ⟨o, vs, e, k, ki⟩ := t.cls
  have hf : ¬ Foot ρ I := X.hr.off e (by rw [k]; rfl)
  have kf : ∀ b, Foot ρ b → ∀ o, s.heap.get? b = some o → h'.get? b = some o := fun b q o e' => hx b o (fun z => hf (z ▸ q)) e'
  have ne : ∀ b o, h₀.get? b = some o → b ≠ I := fun b o e q => by rw [q, h0] at e; cases e
  refine ⟨⟨⟨X.inv.cok, old_same X.inv.old fun b o₀ eb o e => hx b o (fun z => by rw [z, t.1] at eb; cases eb) e, fun b o e => hx b o (fun z => by have := X.inv.cok.sub b o e; rw [z, t.1] at this; cases this) (X.inv.keep b o e), X.inv.bare, X.inv.os, fun q hq => ?_⟩, ?_⟩,
    ⟨S.pre, fun b o e' h1 h2 h3 => let ⟨sl, g, r⟩ := S.keep b o e' h1 h2 h3; ⟨sl, hx _ _ (ne b o e') g, r⟩, fun b o e' d => let ⟨o', g, r⟩ := S.dicts b o e' d; ⟨o', hx _ _ (ne b o e') g, r⟩, fun b o e' => let ⟨o', g⟩ := S.alive b o e'; ⟨o', hx _ _ (ne b o e') g⟩, fun b o q e' => hx _ _ (ne b o e') (S.zk b o q e')⟩⟩
  · have nt : q.1 ≠ I := fun z => by obtain ⟨o, eo⟩ := (X.inv.cok.tab q hq).1; rw [z, t.1] at eo; cases eo
    rcases X.inv.tabs q hq with e' | ⟨c', e', hc, c₂, oc, us, tq, qe, g, d', r⟩
    · exact .inl (hx _ _ nt e')
    · refine .inr ⟨c', hx _ _ nt e', hc, c₂, oc, us, tq, qe, hx _ _ (fun z => ?_) g, d', r⟩
      rw [z, e] at g; cases g
      rw [notIt_rec d' r] at ki; cases ki
  · have nr : o.cls ≠ .type "range" := fun z => by unfold isIt at ki; rw [z] at ki; cases ki
    refine ⟨X.hr.len, fun j ob eo => ?_, X.hr.apart, X.hr.above, fun b q => let ⟨⟨o, e, d⟩, r⟩ := X.hr.zs b q; ⟨⟨o, kf b (.inr q) o e, d⟩, r⟩⟩
    obtain ⟨p, hp, ho⟩ := X.hr.obs j ob eo
    have hm := List.mem_of_getElem? hp
    have k1 := kf p.1 (.inl ⟨p, hm, .inl rfl⟩)
    have k2 := kf p.2 (.inl ⟨p, hm, .inr rfl⟩)
    refine ⟨p, hp, ?_⟩
    cases ob with
    | list xs =>
      obtain ⟨e1, vs, ⟨o2, g⟩, e3⟩ := ho
      exact ⟨e1, vs, ⟨o2, k1 _ g⟩, e3.ext hx e (by rw [k]; rfl) nr⟩
    | acc xs m =>
      obtain ⟨e1, ⟨vs, j, g, e3⟩, t, g2⟩ := ho
      exact ⟨e1, ⟨vs, j, k1 _ g, e3.ext hx e (by rw [k]; rfl) nr⟩, t, g2.at k2⟩
theorem next_ok {d : AD} {i : Nat} {I : Addr} {o : Option AD} {Q : Option Value → Shared → Prop} (X : St C ρ σ s) (hh : A.handled = none) (t : ItR C ρ s.heap I d i) (e : itemAt d σ i = some o)
    (q : ∀ y v s', o = some y → St C ρ σ s' → Stp C (fun b => b = I) ρ s.heap ρ s'.heap → WOk (fun b => b = I) s.heap → VR ρ s'.heap y v → ItR C ρ s'.heap I d (i + 1) → Heap.ExtBut I s.heap s'.heap → Q (some v) s')
    (qe : ∀ h', o = Option.none → Heap.ExtBut I s.heap h' → Q Option.none { s with heap := h' }) :
    wpAny (model C.prog C.w) A (pyNext (.ref I)) Q E s := by
  have T := X.inv.tabs0
  cases d with
  | lst xs =>
    have t' := t
    obtain ⟨hn, l, vs, it, g, hf, rs⟩ := t
    cases e
    cases hx : xs[i]? with
    | none => exact wpAny_pyNext_list_end hh it g (by simpa using rs.none hx) fun h' hx' => qe h' hx hx'
    | some y =>
      obtain ⟨v, v1, v2⟩ := rs.at hx
      refine wpAny_pyNext_list_item it g (by simpa using v1) fun h' it' hs => ?_
      obtain ⟨hW, X', S⟩ := it_step (tk := s.toks) X t' hs.extBut (by obtain ⟨o', e', _⟩ := it'; exact ⟨o', e'⟩)
      exact q y _ _ hx X' S hW (v2.mono S hW T) ⟨hn, l, vs, it', keep_list S hW T g hf, (by obtain ⟨o', e', _⟩ := g; exact S.off e' hf), rs.mono S hW T⟩ hs.extBut
  | ref k =>
    have t' := t
    obtain ⟨hn, p, hp, it⟩ := t
    obtain ⟨xs, hσ, e'⟩ := bO_inv (k := fun xs => some xs[i]?) e
    cases e'
    obtain ⟨p', hp', _, vs, g₀, rs⟩ := X.hr.obs k _ hσ
    have g := g₀.isList
    rw [hp] at hp'; cases (hp')
    cases hx : xs[i]? with
    | none => exact wpAny_pyNext_list_end hh it g (by simpa using rs.none hx) fun h' hx' => qe h' hx hx'
    | some y =>
      obtain ⟨v, v1, v2⟩ := rs.at hx
      refine wpAny_pyNext_list_item it g (by simpa using v1) fun h' it' hs => ?_
      obtain ⟨hW, X', S⟩ := it_step (tk := s.toks) X t' hs.extBut (by obtain ⟨o', e', _⟩ := it'; exact ⟨o', e'⟩)
      exact q y _ _ hx X' S hW (v2.mono S hW T) ⟨hn, p, S.idx hp, it'⟩ hs.extBut
  | rng lo hi =>
    have t' := t
    obtain ⟨hn, it, hlo⟩ := t
    by_cases hl : lo + (i : Int) < hi
    · have eo : o = some (.int (lo + i)) := by
        have e' : some (bif decide (lo + (i : Int) < hi) then some (AD.int (lo + i)) else Option.none) = some o := e
        rw [decide_eq_true hl] at e'; cases e'; rfl
      refine wpAny_pyNext_range_item it (by lia) fun h' it' hs => ?_
      obtain ⟨hW, X', S⟩ := it_step (tk := s.toks + 1) X t' hs.extBut ⟨_, it'⟩
      refine q _ _ _ eo X' S hW (by rw [VR]; exact ⟨_, rfl⟩) ⟨hn, ?_, hlo⟩ hs.extBut
      have e1 : lo + ((i + 1 : Nat) : Int) = lo + (i : Int) + 1 := by push_cast; lia
      have e2 : (((hi - lo).toNat : Int) - ((i + 1 : Nat) : Int)) = ((hi - lo).toNat : Int) - (i : Int) - 1 := by push_cast; lia
      show IsRangeIter _ _ (lo + ((i + 1 : Nat) : Int)) (((hi - lo).toNat : Int) - ((i + 1 : Nat) : Int)) 1
      rw [e1, e2]
      exact it'
    · have eo : o = Option.none := by
        have e' : some (bif decide (lo + (i : Int) < hi) then some (AD.int (lo + i)) else Option.none) = some o := e
        rw [decide_eq_false hl] at e'; cases e'; rfl
      exact wpAny_pyNext_range_end hh it (by lia) fun h' hx' => qe h' eo hx'
  | _ => exact t.2.elim
theorem EnvOk.monoW (V : EnvOk C sc ns env f ρ h) (S : Stp C W ρ h ρ' h') (R : HR C ρ σ h) (hW : WOk W h) (T : Tabs0 C h) (hl : ¬ W env.locals) (hc : ∀ b o, W b → h.get? b = some o → isDC o.data = false) (hw : ∀ b, W b → env.locals ≤ b) : EnvOk C sc ns env f ρ' h' :=
  ⟨V.kind, V.glob, V.bi, V.kk, V.len, fun i x hx => by
    obtain ⟨o, l, k⟩ := V.slot i x hx
    have l' : Look C env h' x o := by
      rcases l with ⟨k1, m, k2, k3⟩ | ⟨k1, k2, c, k3, ⟨oc, k4, k6⟩, k5⟩
      · exact .inl ⟨k1, m, ns_mono S T V.big V.off hl k2, k3⟩
      · exact .inr ⟨k1, k2, c, k3, ⟨oc, S.exact k4 (R.off k4 (by rw [k6]; rfl)) (fun q => by have := hc c oc q k4; rw [k6] at this; cases this) (T.lt k5) (by rw [k6]; rfl), k6⟩, k5⟩
    refine ⟨o, l', fun a ha => ?_⟩
    obtain ⟨v, hv, hr⟩ := k a ha
    exact ⟨v, hv, hr.mono S R hW T lim_id hw⟩, V.nd, V.dbg, V.lam, (let ⟨_, e⟩ := V.lt; S.off e V.off), V.big, (let ⟨o, e⟩ := V.lt; S.alive _ o e)⟩
theorem ItR.noDC {I : Addr} {d : AD} {i : Nat} (t : ItR C ρ h I d i) {o : Obj} (e : h.get? I = some o) : isDC o.data = false := by
  obtain ⟨o', vs, e', k, _⟩ := t.cls
  rw [e'] at e; cases e; rw [k]; rfl
theorem OwnOk.monoI (O : OwnOk C env ρ h) (S : Stp C W ρ h ρ' h') (T : Tabs0 C h) (hc : ∀ b o, W b → h.get? b = some o → isDC o.data = false) : OwnOk C env ρ' h' :=
  ⟨O.ge, O.new, fun b hb' => by
    obtain ⟨o, e, d⟩ := O.ok b hb'
    obtain ⟨sl, e', _⟩ := S.keep b o e (O.off b hb') (fun q => by have := hc b o q e; rw [d] at this; cases this) (T.lt (O.new b hb'))
    exact ⟨_, e', d⟩, fun b hb' => by obtain ⟨o, e, _⟩ := O.ok b hb'; exact S.off e (O.off b hb'), O.inj, O.ne, O.cell⟩
section
variable {I : Addr} {o₁ : Obj} {vs₁ : Array Value}
theorem VV.ext (hx : ∀ b o, b ≠ I → h.get? b = some o → h'.get? b = some o) (e₁ : h.get? I = some o₁) (k₁ : o₁.data = .fields vs₁) (i₁ : isIt o₁ = true) {lim : Nat} : ∀ {a : AV} {v : Value}, VV C ρ h lim a v → VV C ρ h' lim a v
  | .d x, _, e => VR.ext hx e₁ (by rw [k₁]; rfl) (fun z => by unfold isIt at i₁; rw [z] at i₁; cases i₁) x e
  | .fn _, _, e => e
  | .clo b caps, _, e => by
    obtain ⟨a, nm, qual, q, sc, cl, pm, c', ct, x, cs, t, rfl, e1, e2, ⟨c₂, o, vs, tq, e3, g, d, r⟩, e5, e6, e7, e8⟩ := e
    cases e3
    refine ⟨a, nm, qual, q, sc, cl, pm, c', ct, x, cs, t, rfl, hx _ _ (fun z => by rw [z, e₁] at e1; cases e1; cases k₁) e1, e2,
      ⟨c', o, vs, tq, rfl, hx _ _ (fun z => by rw [z, e₁] at g; cases g; rw [notIt_rec d r] at i₁; cases i₁) g, d, r⟩, e5, e6, e7, fun i y d hy hd => ?_⟩
    obtain ⟨c, v, f1, ⟨oc, f2, f3⟩, f4, f5, f6⟩ := e8 i y d hy hd
    exact ⟨c, v, f1, ⟨oc, hx _ _ (fun z => by rw [z, e₁] at f2; cases f2; rw [k₁] at f3; cases f3) f2, f3⟩, f4, f5, f6.ext hx e₁ (by rw [k₁]; rfl) (fun z => by unfold isIt at i₁; rw [z] at i₁; cases i₁)⟩
theorem EnvOk.ext (V : EnvOk C sc ns env f ρ h) (hx : ∀ b o, b ≠ I → h.get? b = some o → h'.get? b = some o) (e₁ : h.get? I = some o₁) (k₁ : o₁.data = .fields vs₁) (i₁ : isIt o₁ = true) (hl : env.locals ≠ I) : EnvOk C sc ns env f ρ h' :=
  ⟨V.kind, V.glob, V.bi, V.kk, V.len, fun i x hx' => by
    obtain ⟨o, l, k⟩ := V.slot i x hx'
    refine ⟨o, ?_, fun a ha => let ⟨v, hv, hr⟩ := k a ha; ⟨v, hv, hr.ext hx e₁ k₁ i₁⟩⟩
    rcases l with ⟨l1, m, ⟨oo, es, ep, g, d⟩, l3⟩ | ⟨l1, l2, c, l3, ⟨oc, l4, l6⟩, l5⟩
    · exact .inl ⟨l1, m, ⟨oo, es, ep, hx _ _ hl g, d⟩, l3⟩
    · exact .inr ⟨l1, l2, c, l3, ⟨oc, hx _ _ (fun z => by rw [z, e₁] at l4; cases l4; rw [k₁] at l6; cases l6) l4, l6⟩, l5⟩, V.nd, V.dbg, V.lam, V.off, V.big, let ⟨o, e⟩ := V.lt; ⟨o, hx _ _ hl e⟩⟩
theorem OwnOk.ext (O : OwnOk C env ρ h) (hx : ∀ b o, b ≠ I → h.get? b = some o → h'.get? b = some o) (e₁ : h.get? I = some o₁) (k₁ : o₁.data = .fields vs₁) : OwnOk C env ρ h' :=
  ⟨O.ge, O.new, fun b hb' => by
    obtain ⟨o, e, d⟩ := O.ok b hb'
    exact ⟨o, hx _ _ (fun z => by rw [z, e₁] at e; cases e; rw [k₁] at d; cases d) e, d⟩, O.off, O.inj, O.ne, O.cell⟩
end
theorem Stp.before {b : Addr} (S : Stp C W ρ₀ h₀ ρ h) (e : h.get? b = Option.none) : h₀.get? b = Option.none := by
  cases z : h₀.get? b with
  | none => rfl
  | some o =>
    obtain ⟨o', e'⟩ := S.alive _ _ z
    rw [e] at e'; cases e'
theorem my_for {target : Expr} {it : Value} {body : List Stmt} {Q : Flow → Shared → Prop} (I : Nat → Shared → Prop)
    (turn : ∀ n s, I n s → ∀ (QN : Shared → Prop) (QA : Value → Shared → Prop) (E : Value → Shared → Prop), (∀ s, Q .next s → QN s) →
      (∀ v s, (∀ E, wpAny (model C.prog C.w) A (assign target env v) (fun _ s => ∀ E, wpAny (model C.prog C.w) A (execs body env) (TurnQ I Q n) E s) E s) → QA v s) → wpAny (model C.prog C.w) A (pyNext it) (fun r s => match r with | .none => QN s | some v => QA v s) E s)
    (n : Nat) (h : I n s) (ht : ∀ v, letOwnedTupleGo target it v = pure () := by intro _; rfl) : codeAny (model C.prog C.w) A (.forLoop target it body [] env) (fun r s' => match r with | .ok f => Q f s' | .error e => cameBackBy (model C.prog C.w) A env E e s') s :=
  codeAny_forLoop I (fun n s hI => wpAny_mono (turn n s hI (fun s => Q .next s) (fun v s => ∀ E, wpAny (model C.prog C.w) A (assign target env v) (fun _ s => ∀ E, wpAny (model C.prog C.w) A (execs body env) (TurnQ I Q n) E s) E s) _ (fun _ q => q) fun _ _ q => q)
    (fun r s q => by
      cases r with
      | none => exact wpAny_execs_nil q
      | some v => exact wpAny_mono (q _) (fun _ s q => wpAny_mono (q _) (fun f s' q => by cases f <;> exact q) fun _ _ e => e) fun _ _ e => e) fun _ _ e => e) n h ht
noncomputable abbrev frS (n : Nat) (b : X) (i : Nat) : AD → Fm → H → FL → Fm → H → Prop := fun x f σ l f' σ' => Ev n b (setF f i (.d x)) σ (.g l f') σ'
inductive FrI (n : Nat) (sc : Scope) (ns : List Str) (env : Env) (A : Around) (b : X) (i : Nat) (ρ : Rho) (h : Heap) (I : Addr) (d : AD) (len : Nat) (l : FL) (f' : Fm) (σ' : H) (k : Nat) (s' : Shared) : Prop
  | mk (f₁ : Fm) (ρ₁ : Rho) (σ₁ : H) (j : Nat) (N : Now C n sc ns env A f₁ ρ₁ σ₁ s') (O : OwnOk C env ρ₁ s'.heap) (S : Stp C (fun b => Own env b ∨ b = I) ρ h ρ₁ s'.heap) (t : ItR C ρ₁ s'.heap I d j) (hl : f₁.length = len)
      (e : LF (frS n b i) d k j f₁ σ₁ l f' σ') : FrI n sc ns env A b i ρ h I d len l f' σ' k s'
theorem ItR.notOwn {I : Addr} {d : AD} {j : Nat} (t : ItR C ρ h I d j) (O : OwnOk C env ρ h) : ¬ Own env I := fun q => by
  obtain ⟨o, e, dd⟩ := O.ok _ q
  rw [t.noDC e] at dd; cases dd
inductive FrT (C : Cx) (n : Nat) (sc : Scope) (ns : List Str) (env : Env) (A : Around) (f : Fm) (σ : H) (ρ : Rho) (h : Heap) (I : Addr) (d : AD) (j : Nat) (i : Nat) (y : AD) (s' : Shared) : Prop
  | mk (ρ' : Rho) (N : Now C n sc ns env A (setF f i (.d y)) ρ' σ s') (O : OwnOk C env ρ' s'.heap) (S : Stp C (fun b => Own env b ∨ b = I) ρ h ρ' s'.heap) (t : ItR C ρ' s'.heap I d (j + 1)) : FrT C n sc ns env A f σ ρ h I d j i y s'
theorem fr_turn {I : Addr} {d y : AD} {i j : Nat} {q : Pos} {Q : Shared → Prop} {QN : Shared → Prop} {QA : Value → Shared → Prop} (N : Now C n sc ns env A f ρ σ s) (O : OwnOk C env ρ s.heap) (S : Stp C (fun b => Own env b ∨ b = I) ρ₀ h₀ ρ s.heap) (t : ItR C ρ s.heap I d j) (hI : env.locals ≤ I) (hi : i < f.length)
    (hit : itemAt d σ j = some (some y)) (hQ : ∀ s', FrT C n sc ns env A f σ ρ₀ h₀ I d j i y s' → Q s') (hA : ∀ v s, (∀ E, wpAny (model C.prog C.w) A (assign (nameE ns i q) env v) (fun _ s => Q s) E s) → QA v s) :
    wpAny (model C.prog C.w) A (pyNext (.ref I)) (fun r s => match r with | .none => QN s | some v => QA v s) E s := by
  refine next_ok N.st N.ac.hd t hit (fun z v s₄ ho X₄ S₄ hW v4 t₄ _ => hA v s₄ fun E' => ?_) fun _ ho _ => snE ho
  cases ho
  have hcI : ∀ b o, b = I → s.heap.get? b = some o → isDC o.data = false := fun b o q e => by subst q; exact t.noDC e
  have O₄ := O.monoI S₄ N.st.inv.tabs0 hcI
  have N₄ : Now C n sc ns env A f ρ σ s₄ := ⟨X₄, N.ev.monoW S₄ N.st.hr hW N.st.inv.tabs0 (fun z => t.notOwn O (.inl z.symm)) hcI fun b q => by rw [q]; exact hI, N.ac.mono S₄, N.ne⟩
  refine wpAny_assign_Name (N₄.store O₄ hi v4 fun s₅ X₅ S₅ O₅ V₅ => hQ _ ⟨ρ, N₄.stepF X₅ S₅ V₅, O₅, (S.trans (S₄.weaken fun b o q _ => .inr q)).trans (S₅.weaken fun b o q _ => .inl q), t₄.mono S₅ N₄.st.hr O₄.wok (t₄.notOwn O₄) N₄.st.inv.tabs0⟩)
theorem e_fr {i : Nat} {d : AD} {σ₁ : H} {l : FL} {f' : Fm} (ia : Ev n a f σ (.v (.d d)) σ₁) (hi : i < f.length) (r0 : LF (frS n b i) d (cntOf d σ₁) 0 f σ₁ l f' σ') : Ev n (.fr i a b) f σ (.f l f') σ' := fun Y sc ns t env A ρ s ok N O E => by
  have hc0 : cntOf d σ₁ ≠ 0 := fun z => by rewrite [z] at r0; cases r0
  have okB := and2 (and1 (and1 ok))
  show wpAny _ _ (exec (.For (nameE ns i t.q) (un sc ns a (t.k 0)).nd.toE (un sc ns b (t.k 1)).nd.toB [] t.p) env) _ _ _
  refine wpAny_For (wpAny_mono (ia Y _ _ _ _ _ _ _ (and1 (and1 (and1 ok))) N E) (fun v s₁ hv => ?_) fun _ _ e => e) ((notSet (op := .In) (and2 ok)).1 env)
  obtain ⟨ρ₁, N₁, S₁, v1, _⟩ := hv.split N
  have O₁ := O.mono S₁ N.st.inv.tabs0
  refine iter_ok N₁.st v1 hc0 fun I s₂ X₂ S₂ t₂ hI => ?_
  have hIl : env.locals ≤ I := by
    obtain ⟨o, e⟩ := N₁.ev.lt
    rw [hI]; exact Nat.le_of_lt (Heap.lt_size e)
  have hI0 : s.heap.get? I = Option.none := S₁.before (by rw [hI]; exact get_size _)
  have hOwn : ∀ b, Own env b → ∃ o, s.heap.get? b = some o := fun b q => let ⟨o, e, _⟩ := O.ok b q; ⟨o, e⟩
  have fin : ∀ {ρ₃ h₃}, Stp C (fun b => Own env b ∨ b = I) ρ s.heap ρ₃ h₃ → Stp C (Own env) ρ s.heap ρ₃ h₃ := fun S => S.weaken fun b o q e => by
    rcases q with q | q
    · exact q
    · rewrite [q, hI0] at e; cases e
  refine my_for (FrI n sc ns env A b i ρ s.heap I d f.length l f' σ') (fun k s₃ F QN QA E₁ qN qA => ?_) _ ⟨f, ρ₁, σ₁, 0, N₁.step X₂ S₂, O₁.mono S₂ N₁.st.inv.tabs0, (S₁.trans S₂).own, t₂, rfl, r0⟩
  refine shut fun G kk => ?_
  obtain ⟨f₃, ρ₃, σ₃, j, N₃, O₃, S₃, t₃, hfl, hl⟩ := F
  rewrite [← hfl] at hi
  cases hl with
  | done h =>
    refine kk (next_ok N₃.st N₃.ac.hd t₃ h (fun _ _ _ ho => nsE ho) fun h₄ _ hx => qN _ ?_)
    obtain ⟨o, vs, e, k, ki⟩ := t₃.cls
    obtain ⟨X₄, S₄⟩ := it_end (tk := s₃.toks) N₃.st t₃ hx hI0 (fin S₃) hOwn
    exact ⟨ρ₃, X₄, S₄, N₃.ev.ext hx e k ki (fun z => t₃.notOwn O₃ (.inl z.symm)), O₃.ext hx e k, trivial⟩
  | go h h2 h3 =>
    refine kk (fr_turn N₃ O₃ S₃ t₃ hIl hi h (fun s₅ T E₂ => ?_) qA)
    obtain ⟨ρ₅, N₅, O₅, S₅, t₅⟩ := T
    refine wpAny_mono (h2 Y _ _ _ _ _ _ _ okB N₅ O₅ _) (fun g s₆ hg => ?_) fun _ _ e => e
    obtain ⟨ρ₆, X₆, S₆, V₆, O₆, fl⟩ := hg
    cases g <;> first | exact fl.elim | skip
    exact ⟨_, Nat.lt_succ_self _, _, ρ₆, _, j + 1, N₅.stepF X₆ S₆ V₆, O₆, S₅.trans (S₆.weaken fun b o q _ => .inl q), t₅.mono S₆ N₅.st.hr O₅.wok (t₅.notOwn O₅) N₅.st.inv.tabs0, by rw [V₆.len, N.ev.len], h3⟩
  | ret h h2 =>
    refine kk (fr_turn N₃ O₃ S₃ t₃ hIl hi h (fun s₅ T E₂ => ?_) qA)
    obtain ⟨ρ₅, N₅, O₅, S₅, t₅⟩ := T
    refine wpAny_mono (h2 Y _ _ _ _ _ _ _ okB N₅ O₅ _) (fun g s₆ hg => ?_) fun _ _ e => e
    obtain ⟨ρ₆, X₆, S₆, V₆, O₆, fl⟩ := hg
    cases g <;> first | exact fl.elim | skip
    exact ⟨ρ₆, X₆, fin (S₅.trans (S₆.weaken fun b o q _ => .inl q)), V₆, O₆, fl⟩
noncomputable def solid (o : Obj) : Bool := (match o.data with | .seq .. => true | .func _ => true | .cell _ => true | .fields vs => (match (vs[1]? : Option Value) with | some (.str _ _) => true | _ => false) || o.cls == .type "range" | _ => false)
structure Hold (C : Cx) (ρ : Rho) (h h' : Heap) : Prop where
  top : ∀ b o₀, C.h0.get? b = some o₀ → ∀ o, h.get? b = some o → h'.get? b = some o
  sol : ∀ b o, solid o = true → ¬ Foot ρ b → h.get? b = some o → h'.get? b = some o
  ent : ∀ p ∈ ρ.l, ∀ b, b = p.1 ∨ b = p.2 → ∀ o, h.get? b = some o → h'.get? b = some o
  zs : ∀ b, ρ.z b → ∀ o, h.get? b = some o → isS o.data = true → ∃ o', h'.get? b = some o' ∧ isS o'.data = true
theorem solid_seq {o : Obj} {vs : Array Value} {k : Nat} (e : o.data = .seq vs k) : solid o = true := by unfold solid; rw [e]
theorem solid_cell {o : Obj} {v : Option Value} (e : o.data = .cell v) : solid o = true := by unfold solid; rw [e]
theorem solid_rec {o : Obj} {vs : Array Value} {q : Str} {t : Tok} (e : o.data = .fields vs) (r : vs[1]? = some (.str q t)) : solid o = true := by unfold solid; rw [e]; simp only [r]; rfl
theorem Hold.but {I : Addr} (hx : Heap.ExtBut I h h') (n0 : C.h0.get? I = Option.none) (hs : (∀ o, h.get? I = some o → solid o = false) ∨ ρ.z I) (nf : ∀ p ∈ ρ.l, I ≠ p.1 ∧ I ≠ p.2)
    (hz : ρ.z I → ∀ o, h.get? I = some o → ∃ o', h'.get? I = some o' ∧ isS o'.data = true) : Hold C ρ h h' :=
  ⟨fun b o₀ e o e' => hx b o (fun z => by rw [z, n0] at e; cases e) e', fun b o k q e => hx b o (fun z => by
      subst z
      rcases hs with hs | hs
      · rw [hs o e] at k; cases k
      · exact q (.inr hs)) e, fun p hp b hb o e => hx b o (fun z => by
      subst z
      rcases hb with hb | hb
      · exact (nf p hp).1 hb
      · exact (nf p hp).2 hb) e, fun b q o e d => by
      by_cases z : b = I
      · subst z; exact hz q o e
      · exact ⟨o, hx b o z e, d⟩⟩
mutual
theorem VR.hold (K : Hold C ρ h h') : ∀ (d : AD) {v : Value}, VR ρ h d v → VR ρ h' d v
  | .none, _, e => by rw [VR] at e ⊢; exact e
  | .bool _, _, e => by rw [VR] at e ⊢; exact e
  | .int _, _, e => by rw [VR] at e ⊢; exact e
  | .str _, _, e => by rw [VR] at e ⊢; exact e
  | .ref _, _, e => by rw [VR] at e ⊢; exact e
  | .tup xs, _, e => by
    rw [VR] at e ⊢
    obtain ⟨a, vs, h1, ⟨o, g, c, m, k⟩, h3, h4⟩ := e
    exact ⟨a, vs, h1, ⟨o, K.sol a o (solid_seq k) h3 g, c, m, k⟩, h3, VRs.hold K xs h4⟩
  | .lst xs, _, e => by
    rw [VR] at e ⊢
    obtain ⟨a, vs, h1, ⟨o, g, c, m, k⟩, h3, h4⟩ := e
    exact ⟨a, vs, h1, ⟨o, K.sol a o (solid_seq k) h3 g, c, m, k⟩, h3, VRs.hold K xs h4⟩
  | .rng lo hi, _, e => by
    rw [VR] at e ⊢
    obtain ⟨a, t, u, w, h1, h2, h3, h4⟩ := e
    exact ⟨a, t, u, w, h1, K.sol a _ rfl h3 h2, h3, h4⟩
theorem VRs.hold (K : Hold C ρ h h') : ∀ (xs : List AD) {vs : List Value}, VRs ρ h xs vs → VRs ρ h' xs vs
  | [], _, e => by rw [VRs] at e ⊢; exact e
  | x :: xs, _, e => by
    rw [VRs] at e ⊢
    obtain ⟨v, r, h1, h2, h3⟩ := e
    exact ⟨v, r, h1, VR.hold K x h2, VRs.hold K xs h3⟩
end
theorem VV.hold (K : Hold C ρ h h') (R : HR C ρ σ h) {lim : Nat} : ∀ {a : AV} {v : Value}, VV C ρ h lim a v → VV C ρ h' lim a v
  | .d x, _, e => VR.hold K x e
  | .fn _, _, e => e
  | .clo b caps, _, e => by
    obtain ⟨a, nm, qual, q, sc, cl, pm, c', ct, x, cs, t, rfl, e1, e2, ⟨c₂, o, vs, tq, e3, g, d, r⟩, e5, e6, e7, e8⟩ := e
    cases e3
    refine ⟨a, nm, qual, q, sc, cl, pm, c', ct, x, cs, t, rfl, K.sol _ _ rfl (R.off e1 rfl) e1, e2,
      ⟨c', o, vs, tq, rfl, K.sol _ _ (solid_rec d r) (R.off g (by rw [d]; rfl)) g, d, r⟩, e5, e6, e7, fun i y d hy hd => ?_⟩
    obtain ⟨c, v, f1, ⟨oc, f2, f3⟩, f4, f5, f6⟩ := e8 i y d hy hd
    exact ⟨c, v, f1, ⟨oc, K.sol _ _ (solid_cell f3) (R.off f2 (by rw [f3]; rfl)) f2, f3⟩, f4, f5, f6.hold K⟩
theorem Look.hold (K : Hold C ρ h h') (R : HR C ρ σ h) (hl : ∀ o, h.get? env.locals = some o → h'.get? env.locals = some o) {x : Str} {o : Option Value} : Look C env h x o → Look C env h' x o
  | .inl ⟨k, m, ⟨oo, es, ep, g, d⟩, e⟩ => .inl ⟨k, m, ⟨oo, es, ep, hl _ g, d⟩, e⟩
  | .inr ⟨k, q, c, e, ⟨oc, f2, f3⟩, b⟩ => .inr ⟨k, q, c, e, ⟨oc, K.sol _ _ (solid_cell f3) (R.off f2 (by rw [f3]; rfl)) f2, f3⟩, b⟩
theorem EnvOk.hold (K : Hold C ρ h h') (R : HR C ρ σ h) (V : EnvOk C sc ns env f ρ h) (hl : ∀ o, h.get? env.locals = some o → h'.get? env.locals = some o) : EnvOk C sc ns env f ρ h' :=
  ⟨V.kind, V.glob, V.bi, V.kk, V.len, fun i x hx => by
    obtain ⟨o, l, k⟩ := V.slot i x hx
    exact ⟨o, l.hold K R hl, fun a ha => let ⟨v, hv, hr⟩ := k a ha; ⟨v, hv, hr.hold K R⟩⟩, V.nd, V.dbg, V.lam, V.off, V.big, let ⟨o, e⟩ := V.lt; ⟨o, hl o e⟩⟩
theorem ItR.hold (K : Hold C ρ h h') {I : Addr} {d : AD} {i : Nat} (t : ItR C ρ h I d i) (up : ∀ o, h.get? I = some o → h'.get? I = some o) : ItR C ρ h' I d i := by
  refine ⟨t.1, ?_⟩
  have t := t.2
  cases d with
  | lst xs =>
    obtain ⟨l, us, ⟨o1, g1, g2⟩, ⟨o, g, c, m, k⟩, l2, l3⟩ := t
    exact ⟨l, us, ⟨o1, up _ g1, g2⟩, ⟨o, K.sol _ _ (solid_seq k) l2 g, c, m, k⟩, l2, l3.hold K⟩
  | ref k => obtain ⟨p, p1, ⟨o1, g1, g2⟩⟩ := t; exact ⟨p, p1, ⟨o1, up _ g1, g2⟩⟩
  | rng lo hi => exact ⟨up _ t.1, t.2⟩
  | _ => exact t.elim
theorem ItR.notSolid {I : Addr} {d : AD} {i : Nat} (t : ItR C ρ h I d i) : ∀ o, h.get? I = some o → solid o = false := fun o e => by
  have key : ∀ o, h.get? I = some o → ∀ vs, o.data = .fields vs → (∀ q t, vs[1]? ≠ some (.str q t)) → o.cls ≠ .type "range" → solid o = false := fun o _ vs d r c => by
    unfold solid
    rw [d, beq_eq_false_iff_ne.mpr c]
    show ((match (vs[1]? : Option Value) with | some (.str _ _) => true | _ => false) || false) = false
    cases z : (vs[1]? : Option Value) with
    | none => rfl
    | some v => cases v <;> first | rfl | exact absurd z (r _ _)
  obtain ⟨_, t⟩ := t
  cases d with
  | lst xs => obtain ⟨l, vs, ⟨o', e', c, k⟩, _⟩ := t; rw [e'] at e; cases e; exact key _ e' _ k (fun _ _ => by simp) (by rw [c]; decide)
  | ref k => obtain ⟨p, _, ⟨o', e', c, k⟩⟩ := t; rw [e'] at e; cases e; exact key _ e' _ k (fun _ _ => by simp) (by rw [c]; decide)
  | rng lo hi => have e' := t.1; unfold IsRangeIter at e'; rw [e'] at e; cases e; exact key _ e' _ rfl (fun _ _ z => nomatch z) (show Value.type "range_iterator" ≠ .type "range" by decide)
  | _ => exact t.elim
theorem OwnOk.hold (O : OwnOk C env ρ h) (hl : ∀ b o, Own env b → h.get? b = some o → h'.get? b = some o) : OwnOk C env ρ h' :=
  ⟨O.ge, O.new, fun b q => let ⟨o, e, d⟩ := O.ok b q; ⟨o, hl b o q e, d⟩, O.off, O.inj, O.ne, O.cell⟩
theorem St.hold {tk : Nat} (K : Hold C ρ s.heap h') (X : St C ρ σ s) : St C ρ σ { s with heap := h', toks := tk } := by
  refine ⟨⟨X.inv.cok, old_same X.inv.old fun b o₀ eb o e => K.top b o₀ eb o e, fun b o e => K.top b o (X.inv.cok.sub b o e) o (X.inv.keep b o e), X.inv.bare, X.inv.os, fun q hq => ?_⟩, X.hr.len, fun j ob eo => ?_, X.hr.apart, X.hr.above, fun b q => ?_⟩
  · obtain ⟨o₀, ho₀⟩ := (X.inv.cok.tab q hq).1
    rcases X.inv.tabs q hq with e' | ⟨c', e', hc, c₂, oc, us, tq, qe, g, d', r⟩
    · exact .inl (K.top _ _ ho₀ _ e')
    · exact .inr ⟨c', K.top _ _ ho₀ _ e', hc, c₂, oc, us, tq, qe, K.sol _ _ (solid_rec d' r) (X.hr.off g (by rw [d']; rfl)) g, d', r⟩
  · obtain ⟨p, hp, ho⟩ := X.hr.obs j ob eo
    have kf := K.ent p (List.mem_of_getElem? hp)
    refine ⟨p, hp, ?_⟩
    cases ob with
    | list xs =>
      obtain ⟨e1, vs, ⟨o2, g⟩, e3⟩ := ho
      exact ⟨e1, vs, ⟨o2, kf _ (.inl rfl) _ g⟩, e3.hold K⟩
    | acc xs m =>
      obtain ⟨e1, ⟨vs, j, g, e3⟩, t, g2⟩ := ho
      exact ⟨e1, ⟨vs, j, kf _ (.inl rfl) _ g, e3.hold K⟩, t, g2.at fun o e => kf _ (.inr rfl) _ e⟩
  · obtain ⟨⟨o, e, d⟩, r⟩ := X.hr.zs b q
    exact ⟨K.zs b q o e d, r⟩
noncomputable def Rho.hide (ρ : Rho) (D : Addr) : Rho := ⟨ρ.l, fun b => ρ.z b ∨ b = D⟩
theorem foot_hide {D b : Addr} : Foot (ρ.hide D) b ↔ Foot ρ b ∨ b = D := by
  constructor
  · rintro (q | q | q)
    · exact .inl (.inl q)
    · exact .inl (.inr q)
    · exact .inr q
  · rintro ((q | q) | q)
    · exact .inl q
    · exact .inr (.inl q)
    · exact .inr (.inr q)
theorem ne_of_none {D a : Addr} {o : Obj} (hn : h.get? D = Option.none) (g : h.get? a = some o) : a ≠ D := fun z => by rw [z, hn] at g; cases g
section
variable {D : Addr}
mutual
theorem VR.hide (hn : h.get? D = Option.none) (k : ∀ b o, h.get? b = some o → h'.get? b = some o) : ∀ (d : AD) {v : Value}, VR ρ h d v → VR (ρ.hide D) h' d v
  | .none, _, e => by rw [VR] at e ⊢; exact e
  | .bool _, _, e => by rw [VR] at e ⊢; exact e
  | .int _, _, e => by rw [VR] at e ⊢; exact e
  | .str _, _, e => by rw [VR] at e ⊢; exact e
  | .ref _, _, e => by rw [VR] at e ⊢; exact e
  | .tup xs, _, e => by
    rw [VR] at e ⊢
    obtain ⟨a, vs, h1, ⟨o, g, c⟩, h3, h4⟩ := e
    exact ⟨a, vs, h1, ⟨o, k _ _ g, c⟩, fun q => (foot_hide.mp q).elim h3 (ne_of_none hn g), VRs.hide hn k xs h4⟩
  | .lst xs, _, e => by
    rw [VR] at e ⊢
    obtain ⟨a, vs, h1, ⟨o, g, c⟩, h3, h4⟩ := e
    exact ⟨a, vs, h1, ⟨o, k _ _ g, c⟩, fun q => (foot_hide.mp q).elim h3 (ne_of_none hn g), VRs.hide hn k xs h4⟩
  | .rng lo hi, _, e => by
    rw [VR] at e ⊢
    obtain ⟨a, t, u, w, h1, h2, h3, h4⟩ := e
    exact ⟨a, t, u, w, h1, k _ _ h2, fun q => (foot_hide.mp q).elim h3 (ne_of_none hn h2), h4⟩
theorem VRs.hide (hn : h.get? D = Option.none) (k : ∀ b o, h.get? b = some o → h'.get? b = some o) : ∀ (xs : List AD) {vs : List Value}, VRs ρ h xs vs → VRs (ρ.hide D) h' xs vs
  | [], _, e => by rw [VRs] at e ⊢; exact e
  | x :: xs, _, e => by
    rw [VRs] at e ⊢
    obtain ⟨v, r, h1, h2, h3⟩ := e
    exact ⟨v, r, h1, VR.hide hn k x h2, VRs.hide hn k xs h3⟩
end
mutual
theorem VR.less (hl : ρ.l = ρ'.l) (hz : ∀ b, ρ'.z b → ρ.z b) : ∀ (d : AD) {v : Value}, VR ρ h d v → VR ρ' h d v
  | .none, _, e => by rw [VR] at e ⊢; exact e
  | .bool _, _, e => by rw [VR] at e ⊢; exact e
  | .int _, _, e => by rw [VR] at e ⊢; exact e
  | .str _, _, e => by rw [VR] at e ⊢; exact e
  | .ref _, _, e => by rw [VR] at e ⊢; rw [← hl]; exact e
  | .tup xs, _, e => by
    rw [VR] at e ⊢
    obtain ⟨a, vs, h1, h2, h3, h4⟩ := e
    exact ⟨a, vs, h1, h2, fun q => h3 (by rcases q with q | q; exact .inl (hl ▸ q); exact .inr (hz _ q)), VRs.less hl hz xs h4⟩
  | .lst xs, _, e => by
    rw [VR] at e ⊢
    obtain ⟨a, vs, h1, h2, h3, h4⟩ := e
    exact ⟨a, vs, h1, h2, fun q => h3 (by rcases q with q | q; exact .inl (hl ▸ q); exact .inr (hz _ q)), VRs.less hl hz xs h4⟩
  | .rng lo hi, _, e => by
    rw [VR] at e ⊢
    obtain ⟨a, t, u, w, h1, h2, h3, h4⟩ := e
    exact ⟨a, t, u, w, h1, h2, fun q => h3 (by rcases q with q | q; exact .inl (hl ▸ q); exact .inr (hz _ q)), h4⟩
theorem VRs.less (hl : ρ.l = ρ'.l) (hz : ∀ b, ρ'.z b → ρ.z b) : ∀ (xs : List AD) {vs : List Value}, VRs ρ h xs vs → VRs ρ' h xs vs
  | [], _, e => by rw [VRs] at e ⊢; exact e
  | x :: xs, _, e => by
    rw [VRs] at e ⊢
    obtain ⟨v, r, h1, h2, h3⟩ := e
    exact ⟨v, r, h1, VR.less hl hz x h2, VRs.less hl hz xs h3⟩
end
theorem OR.hide {p : Addr × Addr} (hn : h.get? D = Option.none) (k : ∀ b o, h.get? b = some o → h'.get? b = some o) : ∀ {o : AO}, OR ρ h p o → OR (ρ.hide D) h' p o
  | .list xs, e => by
    obtain ⟨e1, vs, ⟨o, h1⟩, e3⟩ := e
    exact ⟨e1, vs, ⟨o, k _ _ h1⟩, e3.hide hn k⟩
  | .acc xs n, e => by
    obtain ⟨e1, ⟨vs, m, h1, e3⟩, t, h2⟩ := e
    exact ⟨e1, ⟨vs, m, k _ _ h1, e3.hide hn k⟩, t, h2.at fun o e => k _ _ e⟩
theorem OR.less {p : Addr × Addr} (hl : ρ.l = ρ'.l) (hz : ∀ b, ρ'.z b → ρ.z b) : ∀ {o : AO}, OR ρ h p o → OR ρ' h p o
  | .list xs, e => by
    obtain ⟨e1, vs, h1, e3⟩ := e
    exact ⟨e1, vs, h1, e3.less hl hz⟩
  | .acc xs n, e => by
    obtain ⟨e1, ⟨vs, m, h1, e3⟩, r⟩ := e
    exact ⟨e1, ⟨vs, m, h1, e3.less hl hz⟩, r⟩
theorem St.hide {tk : Nat} (X : St C ρ σ s) (hn : s.heap.get? D = Option.none) (k : ∀ b o, s.heap.get? b = some o → h'.get? b = some o) (hD : ∃ o, h'.get? D = some o ∧ isS o.data = true) : St C (ρ.hide D) σ { s with heap := h', toks := tk } := by
  have R := X.hr
  refine ⟨(X.quiet k).inv, R.len, fun i o e => let ⟨p, hp, ho⟩ := R.obs i o e; ⟨p, hp, ho.hide hn k⟩, R.apart, R.above, fun b q => ?_⟩
  rcases q with q | rfl
  · obtain ⟨⟨o, e, d⟩, r⟩ := R.zs b q
    exact ⟨⟨o, k _ _ e, d⟩, r⟩
  · exact ⟨hD, X.inv.fresh hn, fun p hp => ⟨fun z => (let ⟨_, e, _⟩ := R.solid (b := b) (.inl ⟨p, hp, .inl z⟩); ne_of_none hn e rfl), fun z => (let ⟨_, e, _⟩ := R.solid (b := b) (.inl ⟨p, hp, .inr z⟩); ne_of_none hn e rfl)⟩⟩
theorem St.less (X : St C ρ σ s) (hl : ρ.l = ρ'.l) (hz : ∀ b, ρ'.z b → ρ.z b) : St C ρ' σ s :=
  have R := X.hr
  ⟨X.inv, by rw [← hl]; exact R.len, fun i o e => by rw [← hl]; obtain ⟨p, hp, ho⟩ := R.obs i o e; exact ⟨p, hp, ho.less hl hz⟩, by rw [← hl]; exact R.apart, by rw [← hl]; exact R.above, fun b q => by rw [← hl]; exact R.zs b (hz b q)⟩
theorem Stp.transH {τ : List (Addr × Addr)} {h₁ h₂ : Heap} (S : Stp C NoW ρ h (ρ.app τ) h₁) (S' : Stp C NoW ((ρ.hide D).app τ) h₁ ρ' h₂) (hD : h.get? D = Option.none) :
    ∃ τ', ρ' = (ρ.hide D).app τ' ∧ Stp C NoW ρ h (ρ.app τ') h₂ := by
  obtain ⟨τ₀, rfl, hτ⟩ := S'.pre
  have ne : ∀ b o, h.get? b = some o → b ≠ D := fun b o e z => by rw [z, hD] at e; cases e
  have nf : ∀ b o, h.get? b = some o → ¬ Foot (ρ.app τ) b → ¬ Foot ((ρ.hide D).app τ) b := fun b o e q z => by
    rcases z with z | z | z
    · exact q (.inl z)
    · exact q (.inr z)
    · exact ne b o e z
  refine ⟨τ ++ τ₀, by simp [Rho.app, Rho.hide], ⟨τ ++ τ₀, rfl, fun p hp => ?_⟩, fun b o e hf hw ht => ?_, fun b o e d => ?_, fun b o e => let ⟨o1, e1⟩ := S.alive b o e; S'.alive b o1 e1, fun b o q e => S'.zk b o (.inl q) (S.zk b o q e)⟩
  · obtain ⟨τ₁, e1, hτ₁⟩ := S.pre
    have : τ₁ = τ := by have q := congrArg Rho.l e1; simp [Rho.app] at q; exact q.symm
    subst this
    rcases List.mem_append.mp hp with hp | hp
    · exact hτ₁ p hp
    · have up : ∀ b, h₁.get? b = Option.none → h.get? b = Option.none := fun b e => by
        cases q : h.get? b with
        | none => rfl
        | some o => obtain ⟨o', e'⟩ := S.alive b o q; rw [e] at e'; cases e'
      exact ⟨up _ (hτ p hp).1, up _ (hτ p hp).2⟩
  · obtain ⟨sl, e1, k1⟩ := S.keep b o e hf hw ht
    obtain ⟨sl', e2, k2⟩ := S'.keep b _ e1 (nf b o e (S.off e hf)) hw ht
    exact ⟨sl', e2, fun d => (k2 d).trans (k1 d)⟩
  · obtain ⟨o1, e1, d1⟩ := S.dicts b o e d
    exact S'.dicts b o1 e1 d1
end
theorem Stp.ext {I : Addr} (S : Stp C W ρ₀ h₀ ρ h) (hx : Heap.ExtBut I h h') (h0 : h₀.get? I = Option.none) : Stp C W ρ₀ h₀ ρ h' := by
  have ne : ∀ b o, h₀.get? b = some o → b ≠ I := fun b o e q => by rw [q, h0] at e; cases e
  exact ⟨S.pre, fun b o e' h1 h2 h3 => let ⟨sl, g, r⟩ := S.keep b o e' h1 h2 h3; ⟨sl, hx _ _ (ne b o e') g, r⟩, fun b o e' d => let ⟨o', g, r⟩ := S.dicts b o e' d; ⟨o', hx _ _ (ne b o e') g, r⟩,
    fun b o e' => let ⟨o', g⟩ := S.alive b o e'; ⟨o', hx _ _ (ne b o e') g⟩, fun b o q e' => hx _ _ (ne b o e') (S.zk b o q e')⟩
theorem ItR.foot {I : Addr} {d : AD} {i : Nat} (t : ItR C ρ h I d i) (R : HR C ρ σ h) : ¬ Foot ρ I := by
  obtain ⟨o, vs, e, k, _⟩ := t.cls
  exact R.off e (by rw [k]; rfl)
theorem ItR.holds {I : Addr} {d : AD} {i : Nat} (t : ItR C ρ h I d i) (R : HR C ρ σ h) (hx : Heap.ExtBut I h h') : Hold C ρ h h' :=
  have nf := t.foot R
  .but hx t.1 (.inl t.notSolid) (fun p hp => ⟨fun z => nf (.inl ⟨p, hp, .inl z⟩), fun z => nf (.inl ⟨p, hp, .inr z⟩)⟩) fun q => (nf (.inr q)).elim
theorem Hold.dict {L : Addr} {m : Str → Option Value} (hn : h.Ns L m) (nf : ¬ Foot ρ L) (n0 : C.h0.get? L = Option.none) (hx : Heap.ExtBut L h h') : Hold C ρ h h' :=
  .but hx n0 (.inl fun o e => by
    obtain ⟨o', es, ep, e', d, _⟩ := hn
    rw [e'] at e; cases e
    unfold solid
    rw [d]) (fun p hp => ⟨fun z => nf (.inl ⟨p, hp, .inl z⟩), fun z => nf (.inl ⟨p, hp, .inr z⟩)⟩) fun q => (nf (.inr q)).elim
theorem closure_loop {g : Str × NameKind → List (Str × Addr) → Sem (ForInStep (List (Str × Addr)))} (hg : ∀ y k cs, g (y, k) cs = if (k == .free) = true then cellOf env y >>= fun c => pure (.yield ((y, c) :: cs)) else pure (.yield cs)) :
    ∀ (l : List (Str × NameKind)) (cs : List (Str × Addr)), (∀ y, (y, NameKind.free) ∈ l → ∃ c, env.cells.lookup y = some c) → (∀ y c, cs.lookup y = some c → env.cells.lookup y = some c) →
      ∃ cl, forIn l cs g = pure cl ∧ (∀ y c, cl.lookup y = some c → env.cells.lookup y = some c) ∧ ∀ y, ((y, NameKind.free) ∈ l ∨ (cs.lookup y).isSome = true) → (cl.lookup y).isSome = true
  | [], cs, _, h2 => ⟨cs, rfl, h2, fun y q => q.elim nofun id⟩
  | (y, k) :: l, cs, h1, h2 => by
    cases hk : (k == NameKind.free) with
    | false =>
      obtain ⟨cl, e, q1, q2⟩ := closure_loop hg l cs (fun z hz => h1 z (List.mem_cons_of_mem _ hz)) h2
      refine ⟨cl, by rw [List.forIn_cons, hg, hk]; exact e, q1, fun z hz => q2 z (hz.imp_left fun m => ?_)⟩
      rcases List.mem_cons.mp m with m | m
      · cases m; cases hk
      · exact m
    | true =>
      obtain ⟨c, hc⟩ := h1 y (by rw [eq_of_beq hk]; exact .head _)
      have hco : cellOf env y = pure c := by unfold cellOf; rw [hc]
      obtain ⟨cl, e, q1, q2⟩ := closure_loop hg l ((y, c) :: cs) (fun z hz => h1 z (List.mem_cons_of_mem _ hz)) (fun z d hz => by
        rw [List.lookup_cons] at hz
        cases q : (z == y) with
        | true => rw [q] at hz; cases hz; rw [eq_of_beq q]; exact hc
        | false => rw [q] at hz; exact h2 z d hz)
      refine ⟨cl, by rw [List.forIn_cons, hg, hk, hco]; exact e, q1, fun z hz => q2 z ?_⟩
      by_cases q : z = y
      · subst q; right; rw [List.lookup_cons_self]; rfl
      · rcases hz with m | m
        · rcases List.mem_cons.mp m with m | m
          · cases m; exact absurd rfl q
          · exact .inl m
        · right; rw [List.lookup_cons, beq_eq_false_iff_ne.mpr q]; exact m
theorem closure_ok {scope : Scope} (hh : ∀ y, (y, NameKind.free) ∈ scope.names → ∃ c, env.cells.lookup y = some c) :
    ∃ cl, closureFor scope env = pure cl ∧ ∀ y c, (y, NameKind.free) ∈ scope.names → env.cells.lookup y = some c → cl.lookup y = some c := by
  obtain ⟨cl, e, q1, q2⟩ := closure_loop (env := env) (g := fun x r => match x with | (name, kind) => if (kind == .free) = true then cellOf env name >>= fun c => pure (.yield ((name, c) :: r)) else pure (.yield r)) (fun _ _ _ => rfl) scope.names [] hh nofun
  refine ⟨cl, ?_, fun y c m hc => ?_⟩
  · have : closureFor scope env = (forIn scope.names [] (fun x r => match x with | (name, kind) => if (kind == .free) = true then cellOf env name >>= fun c => pure (.yield ((name, c) :: r)) else pure (.yield r)) >>= pure) := rfl
    rw [this, e]; rfl
  · have := q2 y (.inl m)
    cases q : cl.lookup y with
    | none => rw [q] at this; cases this
    | some d => have := q1 y d q; rw [hc] at this; cases this; rfl
theorem mem_of_lookup {α : Type} {k : NameKind} : ∀ {l : List (Str × NameKind)} {y : Str}, l.lookup y = some k → (y, k) ∈ l
  | [], _, e => by cases e
  | (z, j) :: l, y, e => by
    rw [List.lookup_cons] at e
    cases q : (y == z) with
    | true => rw [q] at e; cases e; rw [eq_of_beq q]; exact .head _
    | false => rw [q] at e; exact List.mem_cons_of_mem _ (mem_of_lookup (α := α) e)
theorem lookup_relabel {k : NameKind} (hk : k ≠ .free) : ∀ {names : List (Str × NameKind)} {x : Str}, names.lookup x = some k →
    (names.map fun (n, k) => if (k == NameKind.free && env.scope.kind == .function && env.kindOf n == some .cell) then (n, NameKind.cell) else (n, k)).lookup x = some k
  | [], _, h => by simp at h
  | (n, j) :: r, x, h => by
    have ih := @lookup_relabel k hk r x
    show List.lookup x ((if (j == NameKind.free && env.scope.kind == .function && env.kindOf n == some .cell) = true then (n, NameKind.cell) else (n, j)) :: _) = _
    cases hx : x == n with
    | true =>
      simp only [List.lookup_cons, hx] at h
      cases h
      simp [List.lookup_cons, hx, hk]
    | false =>
      simp only [List.lookup_cons, hx] at h
      by_cases hc : (j == NameKind.free && env.scope.kind == .function && env.kindOf n == some .cell) = true
      · rw [if_pos hc]; simp only [List.lookup_cons, hx]; exact ih h
      · rw [if_neg hc]; simp only [List.lookup_cons, hx]; exact ih h
theorem lookup_relabel_free : ∀ {names : List (Str × NameKind)} {x : Str}, names.lookup x = some .free →
    (names.map fun (n, k) => if (k == NameKind.free && env.scope.kind == .function && env.kindOf n == some .cell) then (n, NameKind.cell) else (n, k)).lookup x = some .cell ∨
    (names.map fun (n, k) => if (k == NameKind.free && env.scope.kind == .function && env.kindOf n == some .cell) then (n, NameKind.cell) else (n, k)).lookup x = some .free
  | [], _, h => by simp at h
  | (n, j) :: r, x, h => by
    have ih := @lookup_relabel_free r x
    show List.lookup x ((if (j == NameKind.free && env.scope.kind == .function && env.kindOf n == some .cell) = true then (n, NameKind.cell) else (n, j)) :: _) = _ ∨ List.lookup x ((if (j == NameKind.free && env.scope.kind == .function && env.kindOf n == some .cell) = true then (n, NameKind.cell) else (n, j)) :: _) = _
    cases hx : x == n with
    | true =>
      simp only [List.lookup_cons, hx] at h
      cases h
      by_cases hc : (NameKind.free == NameKind.free && env.scope.kind == .function && env.kindOf n == some .cell) = true
      · rw [if_pos hc]; simp [List.lookup_cons, hx]
      · rw [if_neg hc]; simp [List.lookup_cons, hx]
    | false =>
      simp only [List.lookup_cons, hx] at h
      by_cases hc : (j == NameKind.free && env.scope.kind == .function && env.kindOf n == some .cell) = true
      · rw [if_pos hc]; simp only [List.lookup_cons, hx]; exact ih h
      · rw [if_neg hc]; simp only [List.lookup_cons, hx]; exact ih h
structure CompSc (scope : Scope) (x : Str) (cs : List Str) : Prop where
  kind : scope.kind = .function
  gen : scope.isGenerator = false
  co : scope.isCoroutine = false
  loc : scope.names.lookup x = some .local
  cell : ∀ y ∈ scope.names, y.2 ≠ .cell
  nm : ∀ y ∈ scope.names, y.2 = .local → scope.names.lookup y.1 = some .local
  fr : ∀ y ∈ cs, scope.names.lookup y = some .free
  ok : ∀ y ∈ cs, y ≠ "__debug__" ∧ y ≠ "__classdict__"
  only : ∀ y, (y, NameKind.free) ∈ scope.names → y ∈ cs
  nx : x ∉ cs
  nd : cs.Nodup
  n1 : x ≠ "pile"
  n2 : x ≠ "__debug__"
theorem nodupB_ok : ∀ {l : List Str}, nodupB l = true → l.Nodup
  | [], _ => List.nodup_nil
  | x :: r, e => by
    have h1 := and1 e
    rw [List.nodup_cons]
    refine ⟨fun m => ?_, nodupB_ok (and2 e)⟩
    rw [List.contains_iff_mem.mpr m] at h1; cases h1
theorem kindIs_ok {x : Str} {k : NameKind} (e : kindIs sc x k = true) : sc.names.lookup x = some k := eq_of_beq e
theorem CompSc.of {scope : Scope} {x : Str} {cs : List Str} (e : compScopeOk scope x cs = true) : CompSc scope x cs := by
  unfold compScopeOk at e
  simp only [Bool.and_eq_true, List.all_eq_true, bne_iff_ne, ne_eq, Bool.not_eq_true', Bool.or_eq_true] at e
  obtain ⟨⟨⟨⟨⟨⟨⟨⟨⟨⟨⟨⟨⟨h1, h2⟩, h3⟩, h4⟩, h5⟩, h6⟩, h7⟩, h8⟩, h9⟩, h10⟩, h11⟩, h12⟩, h13⟩, h14⟩ := e
  exact ⟨eq_of_beq h1, h2, h3, kindIs_ok h4, h5, fun y hy q => (h6 y hy).elim (fun z => absurd q z) kindIs_ok, fun y hy => kindIs_ok (h7 y hy).1.1, fun y hy => ⟨(h7 y hy).1.2, (h7 y hy).2⟩, fun y hy => by
    rw [← eq_of_beq h8]
    exact List.mem_map.mpr ⟨(y, .free), List.mem_filter.mpr ⟨hy, rfl⟩, rfl⟩, fun m => (by rw [List.contains_iff_mem.mpr m] at h9; cases h9), nodupB_ok h10, h11, h12⟩
end Mine
end
section
namespace Mine
open PySem PySem.W PyProof.Rows PySem.Calls
variable {n : Nat} {ρ ρ' ρ₀ : Rho} {σ σ' : H} {s s' : Shared} {h h' h₀ : Heap} {A : Around} {E : Value → Shared → Prop} {sc : Scope} {ns : List Str} {env : Env} {f : Fm} {a b c : X} {W : Addr → Prop}
theorem capsD_inv : ∀ {cs : List Nat} {xs : List AD}, capsD f cs = some xs → xs.length = cs.length ∧ ∀ (j i : Nat), cs[j]? = some i → ∃ d, xs[j]? = some d ∧ f[i]? = some (some (.d d))
  | [], xs, e => by cases e; exact ⟨rfl, fun j i q => by simp at q⟩
  | i :: r, xs, e => by
    unfold capsD at e
    cases h1 : f[i]? with
    | none => rw [h1] at e; cases e
    | some o =>
      rw [h1] at e
      cases o with
      | none => cases e
      | some a =>
        cases a with
        | d d =>
          cases hr : capsD f r with
          | none => simp only [hr] at e; cases e
          | some ys =>
            simp only [hr] at e
            replace e : some (d :: ys) = some xs := e
            cases e
            obtain ⟨k1, k2⟩ := capsD_inv hr
            refine ⟨by simp [k1], fun j i' q => ?_⟩
            cases j with
            | zero => simp at q; subst q; exact ⟨d, rfl, h1⟩
            | succ j => simp at q; simpa using k2 j i' q
        | _ => cases e
structure Caps (C : Cx) (env : Env) (ρ : Rho) (h : Heap) (cs : List Str) (xs : List AD) (cl : List (Str × Addr)) : Prop where
  len : xs.length = cs.length
  at_ : ∀ (j : Nat) y d, cs[j]? = some y → xs[j]? = some d → ∃ c v, cl.lookup y = some c ∧ h.IsCell c (some v) ∧ C.h0.get? c = Option.none ∧ VR ρ h d v ∧ y ≠ "__classdict__" ∧ y ≠ "__debug__" ∧ env.kindOf y = some .cell ∧ ∃ o, h.get? c = some o
theorem caps_ok {cs : List Nat} {xs : List AD} {scope : Scope} {x : Str} (N : Now C n sc ns env A f ρ σ s) (S : CompSc scope x (caps ns cs)) (hcap : capOk sc (caps ns cs) = true) (hin : inn ns cs = true) (hx : capsD f cs = some xs) :
    ∃ cl, closureFor scope env = pure cl ∧ Caps C env ρ s.heap (caps ns cs) xs cl := by
  obtain ⟨e1, e2⟩ := capsD_inv hx
  have look : ∀ (j : Nat) y, (caps ns cs)[j]? = some y → ∃ d c v, xs[j]? = some d ∧ env.cells.lookup y = some c ∧ s.heap.IsCell c (some v) ∧ C.h0.get? c = Option.none ∧ VR ρ s.heap d v ∧ y ≠ "__classdict__" ∧ y ≠ "__debug__" ∧ env.kindOf y = some .cell := fun j y hy => by
    unfold caps at hy
    rw [List.getElem?_map] at hy
    cases hj : cs[j]? with
    | none => rw [hj] at hy; cases hy
    | some i =>
      rw [hj] at hy; cases hy
      obtain ⟨d, d1, d2⟩ := e2 j i hj
      have hi : i < ns.length := by
        unfold inn at hin
        exact of_decide_eq_true (List.all_eq_true.mp hin i (List.mem_of_getElem? hj))
      have hi' := getD_some hi
      obtain ⟨o, l, k⟩ := N.ev.slot i _ hi'
      obtain ⟨v, rfl, hv⟩ := k _ d2
      have hm : ns.getD i Str.empty ∈ caps ns cs := List.mem_map.mpr ⟨i, List.mem_of_getElem? hj, rfl⟩
      have kc : env.kindOf (ns.getD i Str.empty) = some .cell := N.ev.kk _ _ (.inr (.inl rfl)) (List.all_eq_true.mp hcap _ hm)
      rcases l with ⟨l1, _⟩ | ⟨l1, l2, c, l3, l4, l5⟩
      · rw [kc] at l1; cases l1
      · exact ⟨d, c, v, d1, l3, l4, l5, hv, l2, beq_eq_false_iff_ne.mp (N.ev.dbg _ (List.mem_of_getElem? hi')), kc⟩
  obtain ⟨cl, c1, c2⟩ := closure_ok (env := env) (scope := scope) fun y hy => by
    obtain ⟨j, hj⟩ := List.getElem?_of_mem (S.only y hy)
    obtain ⟨_, c, _, _, hc, _⟩ := look j y hj
    exact ⟨c, hc⟩
  refine ⟨cl, c1, by rw [e1]; unfold caps; simp, fun j y d hy hd => ?_⟩
  obtain ⟨d', c, v, d1, k1, ⟨oc, k2, k2'⟩, k3, k4, k5, k6, k7⟩ := look j y hy
  rw [hd] at d1; cases d1
  exact ⟨c, v, c2 y c (mem_of_lookup (α := Unit) (S.fr y (List.mem_of_getElem? hy))) k1, ⟨oc, k2, k2'⟩, k3, k4, k5, k6, k7, oc, k2⟩
theorem compEnv_ok {cs : List Str} {xs : List AD} {scope : Scope} {x : Str} {cl : List (Str × Addr)} {L : Addr} {m : Str → Option Value} (V : EnvOk C sc ns env f ρ h) (S : CompSc scope x cs) (K : Caps C env ρ h cs xs cl)
    (tr : ∀ {d v}, VR ρ h d v → VR ρ' h' d v) (ck : ∀ b o, h.get? b = some o → h'.get? b = some o) (hL : h'.Ns L m) (n0 : C.h0.get? L = Option.none) (nf : ¬ Foot ρ' L) :
    EnvOk C scope (x :: cs) (compEnvC scope cl L env) (Option.none :: xs.map fun y => some (.d y)) ρ' h' where
  kind := S.kind
  glob := V.glob
  bi := V.bi
  kk := fun y k hk e => lookup_relabel (env := env) (by rintro rfl; rcases hk with hk | hk | hk <;> cases hk) (kindIs_ok e)
  len := by simp [K.len]
  slot := fun i y hy => by
    cases i with
    | zero =>
      simp at hy; subst hy
      exact ⟨m _, .inl ⟨lookup_relabel (env := env) (k := .local) (by decide) S.loc, m, hL, rfl⟩, fun a ha => by simp at ha⟩
    | succ i =>
      simp at hy
      have hi : i < xs.length := by rw [K.len]; exact (List.getElem?_eq_some_iff.mp hy).1
      obtain ⟨c, v, k1, ⟨oc, k2, k3⟩, k4, k5, k6, k7, k8, _⟩ := K.at_ i y _ hy (List.getElem?_eq_getElem hi)
      refine ⟨some v, .inr ⟨lookup_relabel_free (env := env) (S.fr y (List.mem_of_getElem? hy)), k6, c, k1, ⟨oc, ck _ _ k2, k3⟩, k4⟩, fun a ha => ⟨v, rfl, ?_⟩⟩
      simp [List.getElem?_eq_getElem hi] at ha
      subst ha
      exact tr k5
  nd := List.nodup_cons.mpr ⟨S.nx, S.nd⟩
  dbg := fun y hy => by
    rcases List.mem_cons.mp hy with rfl | hy
    · exact beq_eq_false_iff_ne.mpr S.n2
    · obtain ⟨j, hj⟩ := List.getElem?_of_mem hy
      have hi : j < xs.length := by rw [K.len]; exact (List.getElem?_eq_some_iff.mp hj).1
      obtain ⟨c, v, k1, k2, k4, k5, k6, k7, k8, _⟩ := K.at_ j y _ hj (List.getElem?_eq_getElem hi)
      exact beq_eq_false_iff_ne.mpr k7
  lam := fun e => by unfold lamNs at e; cases e; exact absurd rfl S.n1
  off := nf
  big := n0
  lt := by obtain ⟨o, es, ep, e, _⟩ := hL; exact ⟨o, e⟩
theorem EnvOk.forget {f' : Fm} (V : EnvOk C sc ns env f ρ h) (hl : f'.length = f.length) (hk : ∀ (i : Nat) a, f'[i]? = some (some a) → f[i]? = some (some a)) : EnvOk C sc ns env f' ρ h :=
  ⟨V.kind, V.glob, V.bi, V.kk, hl.trans V.len, fun i x hx => let ⟨o, l, k⟩ := V.slot i x hx; ⟨o, l, fun a ha => k a (hk i a ha)⟩, V.nd, V.dbg, V.lam, V.off, V.big, V.lt⟩
theorem EnvOk.first {x : Str} {ns : List Str} {d : AD} {v : Value} {r : List (Option AV)} {o : Option AV} {m : Str → Option Value} (V : EnvOk C sc (x :: ns) env (o :: r) ρ h) (K : Hold C ρ h h') (R : HR C ρ σ h) (hk : env.kindOf x = some .local)
    (hm : h.Ns env.locals m) (hn : h'.Ns env.locals (fun y => if y = x then some v else m y)) (hv : VR ρ h' d v) : EnvOk C sc (x :: ns) env (some (.d d) :: r) ρ h' :=
  ⟨V.kind, V.glob, V.bi, V.kk, V.len, fun i y hy => by
    cases i with
    | zero =>
      simp at hy; subst hy
      exact ⟨some v, .inl ⟨hk, _, hn, by rw [if_pos rfl]⟩, fun a ha => by simp at ha; subst ha; exact ⟨v, rfl, hv⟩⟩
    | succ i =>
      obtain ⟨o, l, k⟩ := V.slot (i + 1) y hy
      refine ⟨o, ?_, fun a ha => let ⟨v, hv, hr⟩ := k a ha; ⟨v, hv, hr.hold K R⟩⟩
      have ne : y ≠ x := fun q => by
        simp at hy
        have := V.nd
        rw [List.nodup_cons] at this
        exact this.1 (q ▸ List.mem_of_getElem? hy)
      rcases l with ⟨l1, m', l2, l3⟩ | ⟨l1, l2, c, l3, ⟨oc, f2, f3⟩, l5⟩
      · exact .inl ⟨l1, _, hn, by rw [if_neg ne, hm.agree l2]; exact l3⟩
      · exact .inr ⟨l1, l2, c, l3, ⟨oc, K.sol _ _ (solid_cell f3) (R.off f2 (by rw [f3]; rfl)) f2, f3⟩, l5⟩, V.nd, V.dbg, V.lam, V.off, V.big, let ⟨o, es, ep, e, _⟩ := hn; ⟨o, e⟩⟩
theorem VR.rngLe {lo hi : Int} {v : Value} (e : VR ρ h (.rng lo hi) v) : (hi - lo).toNat ≤ 10000 := by
  rw [VR] at e
  obtain ⟨a, t, u, w, _, _, _, b1, b2, b3, b4⟩ := e
  lia
theorem cntOf_le {d : AD} {v : Value} (e : VR ρ h d v) : cntOf d σ ≤ 10001 := by
  have key : ∀ d : AD, (∀ lo hi, d ≠ .rng lo hi) → cntOf d σ ≤ 10001 := fun d nr => by
    have : cntOf d σ = (match bQ σ d fun xs => bIf (fewL xs) (some xs.length) with | some n => n + 1 | .none => 0) := by cases d <;> first | rfl | exact absurd rfl (nr _ _)
    rw [this]
    cases q : (bQ σ d fun xs => bIf (fewL xs) (some xs.length)) with
    | none => exact Nat.zero_le _
    | some k =>
      have hk : ∀ xs : List AD, bIf (fewL xs) (some xs.length) = some k → k + 1 ≤ 10001 := fun xs e => by
        obtain ⟨c, e⟩ := bIf_inv e
        cases e
        have := of_decide_eq_true c
        lia
      cases d with
      | lst xs => exact hk xs q
      | ref r => obtain ⟨xs, _, e⟩ := bO_inv (k := fun xs => bIf (fewL xs) (some xs.length)) q; exact hk xs e
      | _ => cases q
  cases d with
  | rng lo hi => have := VR.rngLe e; show (hi - lo).toNat + 1 ≤ 10001; lia
  | _ => exact key _ (fun _ _ => nofun)
theorem Ns_at {L : Addr} {m : Str → Option Value} (x : h.Ns L m) (k : ∀ o, h.get? L = some o → h'.get? L = some o) : h'.Ns L m := let ⟨o, es, ep, e, dd⟩ := x; ⟨o, es, ep, k o e, dd⟩
theorem IsList_at {L : Addr} {vs : Array Value} (x : h.IsList L vs) (k : ∀ o, h.get? L = some o → h'.get? L = some o) : h'.IsList L vs := let ⟨o, e, dd⟩ := x; ⟨o, k o e, dd⟩
theorem ItR.neNs {I L : Addr} {d : AD} {j : Nat} {m : Str → Option Value} (t : ItR C ρ h I d j) (x : h.Ns L m) : L ≠ I := fun z => by
  obtain ⟨o, es, ep, e, dd, _⟩ := x
  obtain ⟨o', _, e', k', _⟩ := t.cls
  rw [z, e'] at e; cases e; rw [k'] at dd; cases dd
theorem ItR.neList {I L : Addr} {d : AD} {j : Nat} {vs : Array Value} (t : ItR C ρ h I d j) (x : h.IsList L vs) : L ≠ I := fun z => by
  obtain ⟨o, e, _, _, dd⟩ := x
  obtain ⟨o', _, e', k', _⟩ := t.cls
  rw [z, e'] at e; cases e; rw [k'] at dd; cases dd
noncomputable abbrev cC (n : Nat) (cond : X) (ys : List AD) (d : AD) (σ : H) (b : Bool) (σ' : H) : Prop := Ev n cond (frameC d ys) σ (.i b) σ'
noncomputable abbrev cE (n : Nat) (elt : X) (ys : List AD) (d : AD) (σ : H) (y : AD) (σ' : H) : Prop := Ev n elt (frameC d ys) σ (.v (.d y)) σ'
structure CB (n : Nat) (env : Env) (A : Around) (ρ : Rho) (h : Heap) (D I : Addr) : Prop where
  ac : AC C n A h
  nz : ¬ ρ.z D
  hD : h.get? D = Option.none
  hL : h.get? env.locals = Option.none
  hI : h.get? I = Option.none
  dl : D ≠ env.locals
  nD : C.h0.get? D = Option.none
  nL : C.h0.get? env.locals = Option.none
inductive CSt (n : Nat) (sc : Scope) (ns : List Str) (env : Env) (A : Around) (f : Fm) (ρ : Rho) (h : Heap) (D I : Addr) (d : AD) (τ : List (Addr × Addr)) (σ : H) (j : Nat) (zs : List AD) (s' : Shared) : Prop
  | mk (vs : List Value) (m : Str → Option Value) (N : Now C n sc ns env A f ((ρ.hide D).app τ) σ s') (t : ItR C ((ρ.hide D).app τ) s'.heap I d j)
    (l : s'.heap.IsList D (List.toArray vs)) (v : VRs ((ρ.hide D).app τ) s'.heap zs vs) (S : Stp C NoW ρ h (ρ.app τ) s'.heap) (k : s'.heap.Ns env.locals m) : CSt n sc ns env A f ρ h D I d τ σ j zs s'
section
variable {D I : Addr} {d : AD} {τ : List (Addr × Addr)} {j : Nat} {zs : List AD}
theorem CSt.run (B : CB n env A ρ h D I) (K : CSt n sc ns env A f ρ h D I d τ σ j zs s) (X : St C ρ' σ' s') (S' : Stp C NoW ((ρ.hide D).app τ) s.heap ρ' s'.heap) : ∃ τ', ρ' = (ρ.hide D).app τ' ∧ CSt n sc ns env A f ρ h D I d τ' σ' j zs s' := by
  obtain ⟨vs, m, N, t, l, v, S, k⟩ := K
  obtain ⟨τ', rfl, S₂⟩ := S.transH S' B.hD
  have T := N.st.inv.tabs0
  exact ⟨τ', rfl, vs, m, N.step X S', t.mono S' N.st.hr WOk.no (fun q => q) T, IsList_at l fun o e => S'.zk D o (.inr rfl) e, v.mono S' WOk.no T, S₂, ns_mono S' T B.nL N.ev.off (fun q => q) k⟩
theorem CSt.fin (B : CB n env A ρ h D I) (K : CSt n sc ns env A f ρ h D I d τ σ j zs s) {h' : Heap} (hx : Heap.ExtBut I s.heap h') {P : Shared → Prop}
    (hR : ∀ ρ' s' m, s'.heap.Ns env.locals m → St C ρ' σ s' → Stp C NoW ρ h ρ' s'.heap → VR ρ' s'.heap (.lst zs) (.ref D) → ¬ Foot ρ' env.locals → P s') : P { s with heap := h' } := by
  obtain ⟨vs, m, N, t, l, v, S, k⟩ := K
  have K₄ := t.holds N.st.hr hx
  refine hR (ρ.app τ) { s with heap := h' } m (Ns_at k fun o e => hx _ _ (t.neNs k) e) ((N.st.hold (tk := s.toks) K₄).less rfl fun b q => Or.inl q) (S.ext hx B.hI) ?_ fun z => N.ev.off (by
    rcases z with z | z
    · exact .inl z
    · exact .inr (.inl z))
  rw [VR]
  refine ⟨D, vs, rfl, l.extBut hx (t.neList l), fun z => ?_, by
    have := VRs.less (ρ := (ρ.hide D).app τ) (ρ' := ρ.app τ) rfl (fun b q => Or.inl q) _ (v.hold K₄)
    simpa using this⟩
  have nf := (N.st.hr.zs D (.inr rfl)).2.2
  rcases z with ⟨p, hp, z⟩ | z
  · rcases z with z | z
    · exact (nf p hp).1 z
    · exact (nf p hp).2 z
  · exact B.nz z
theorem CSt.item (B : CB n env A ρ h D I) (K : CSt n sc ns env A f ρ h D I d τ σ j zs s) {o : Option AD} (e : itemAt d σ j = some o) {Q : Option Value → Shared → Prop}
    (q : ∀ y v s', o = some y → CSt n sc ns env A f ρ h D I d τ σ (j + 1) zs s' → VR ((ρ.hide D).app τ) s'.heap y v → Q (some v) s')
    (qe : ∀ h', o = Option.none → Heap.ExtBut I s.heap h' → Q Option.none { s with heap := h' }) : wpAny (model C.prog C.w) A (pyNext (.ref I)) Q E s := by
  obtain ⟨vs, m, N, t, l, v, S, k⟩ := K
  refine next_ok N.st N.ac.hd t e (fun y u s' ho X _ _ v4 t' hx => q y u s' ho ?_ v4) qe
  have K₄ := t.holds N.st.hr hx
  have S' := S.ext hx B.hI
  exact ⟨vs, m, ⟨X, N.ev.hold K₄ N.st.hr (fun o e => hx _ _ (t.neNs k) e), B.ac.mono S', N.ne⟩, t', l.extBut hx (t.neList l), v.hold K₄, S', Ns_at k fun o e => hx _ _ (t.neNs k) e⟩
theorem CSt.store {x : Str} {q : Pos} {y : AD} {u : Value} {r : Fm} {o : Option AV} {Q : Unit → Shared → Prop} (B : CB n env A ρ h D I) (K : CSt n sc (x :: ns) env A (o :: r) ρ h D I d τ σ j zs s) (hv : VR ((ρ.hide D).app τ) s.heap y u) (kx : env.kindOf x = some .local) (hf : env.scope.kind = .function)
    (hq : ∀ s', CSt n sc (x :: ns) env A (some (.d y) :: r) ρ h D I d τ σ j zs s' → Q () s') : wpAny (model C.prog C.w) A (assign (.Name x q) env u) Q E s := by
  obtain ⟨vs, m, N, t, l, v, S, k⟩ := K
  refine wpAny_assign_Name (wpAny_storeName_local kx k (fun h₅ hn₅ hs₅ => hq _ ?_) (by simp [hf]))
  have K₅ : Hold C ((ρ.hide D).app τ) s.heap h₅ := .dict k N.ev.off B.nL hs₅.extBut
  have S' := S.ext hs₅.extBut B.hL
  exact ⟨vs, _, ⟨N.st.hold (tk := s.toks + 1) K₅, N.ev.first K₅ N.st.hr kx k hn₅ (hv.hold K₅), B.ac.mono S', N.ne⟩, t.hold K₅ fun o e => hs₅.extBut _ _ (Ne.symm (t.neNs k)) e, l.extBut hs₅.extBut B.dl, v.hold K₅, S', hn₅⟩
theorem CSt.forget {f' : Fm} (K : CSt n sc ns env A f ρ h D I d τ σ j zs s) (hl : f'.length = f.length) (hk : ∀ (i : Nat) a, f'[i]? = some (some a) → f[i]? = some (some a)) : CSt n sc ns env A f' ρ h D I d τ σ j zs s :=
  let ⟨vs, m, N, t, l, v, S, k⟩ := K; ⟨vs, m, ⟨N.st, N.ev.forget hl hk, N.ac, N.ne⟩, t, l, v, S, k⟩
theorem CSt.append {y : AD} {u : Value} {Q : Value → Shared → Prop} (B : CB n env A ρ h D I) (K : CSt n sc ns env A f ρ h D I d τ σ j zs s) (hv : VR ((ρ.hide D).app τ) s.heap y u) (hb : zs.length ≤ 10001)
    (hq : ∀ v s', CSt n sc ns env A f ρ h D I d τ σ j (zs ++ [y]) s' → Q v s') : wpAny (model C.prog C.w) A (call (.builtin "list.append") [.ref D, u]) Q E s := by
  obtain ⟨vs, m, N, t, l, v, S, k⟩ := K
  refine wpAny_list_append l (fun h₈ l₈ hs₈ => hq _ _ ?_) (by
    have := v.length
    simp only [List.size_toArray, sizeLine]; lia)
  have K₈ : Hold C ((ρ.hide D).app τ) s.heap h₈ := .but hs₈.extBut B.nD (.inr (.inr rfl)) (N.st.hr.zs D (.inr rfl)).2.2 fun _ o e => let ⟨o', e', _, _, dd⟩ := l₈; ⟨o', e', by rw [dd]; rfl⟩
  have S' := S.ext hs₈.extBut B.hD
  exact ⟨vs ++ [u], m, ⟨N.st.hold (tk := s.toks) K₈, N.ev.hold K₈ N.st.hr fun o e => hs₈.extBut _ _ (Ne.symm B.dl) e, B.ac.mono S', N.ne⟩, t.hold K₈ fun o e => hs₈.extBut _ _ (Ne.symm (t.neList l)) e, by simpa using l₈, (v.append (.cons hv .nil)).hold K₈, S', k.sameBut hs₈ (Ne.symm B.dl)⟩
end
inductive CInv (n : Nat) (sc : Scope) (ns : List Str) (env : Env) (A : Around) (ρ : Rho) (h : Heap) (D I : Addr) (d : AD) (cond elt : X) (ys xs : List AD) (σ' : H) (k : Nat) (s' : Shared) : Prop
  | mk (τ : List (Addr × Addr)) (σ₁ : H) (j : Nat) (zs r : List AD) (K : CSt n sc ns env A (Option.none :: ys.map fun y => some (.d y)) ρ h D I d τ σ₁ j zs s') (b : zs.length + k ≤ 10001)
    (hl : LC (cC n cond ys) (cE n elt ys) d k j σ₁ r σ') (hx : zs ++ r = xs)
theorem comp_turn {D I : Addr} {d : AD} {k : Nat} {elt cond : X} {te tc : Sd} {x : Str} {q : Pos} {xs ys : List AD} {P : Shared → Prop} {EE : Value → Shared → Prop} (Y : Hyp C) (B : CB n env A ρ h D I) (oke : (un sc (x :: ns) elt te).ok = true) (okc : (un sc (x :: ns) cond tc).ok = true) (kx : env.kindOf x = some .local) (hf : env.scope.kind = .function)
    (K : CInv n sc (x :: ns) env A ρ h D I d cond elt ys xs σ' k s) (hR : ∀ ρ' s' m, s'.heap.Ns env.locals m → St C ρ' σ' s' → Stp C NoW ρ h ρ' s'.heap → VR ρ' s'.heap (.lst xs) (.ref D) → ¬ Foot ρ' env.locals → P s') :
    wpAny (model C.prog C.w) A (pyNext (.ref I)) (fun r s₁ => match r with
      | none => P s₁
      | some v => wpAny (model C.prog C.w) A (assign (.Name x q) env v) (fun _ s₂ =>
          wpAny (model C.prog C.w) A (forIn (un sc (x :: ns) cond tc).nd.toT true fun c r => if r = true then do let ok ← isTrue c env (eval c env); pure (ForInStep.yield ok) else pure (ForInStep.yield r)) (fun ok s₃ =>
            if ok = true then wpAny (model C.prog C.w) A (eval (un sc (x :: ns) elt te).nd.toE env) (fun u s₄ =>
              wpAny (model C.prog C.w) A (call (.builtin "list.append") [.ref D, u]) (fun _ s₅ => ∃ m, m < k ∧ CInv n sc (x :: ns) env A ρ h D I d cond elt ys xs σ' m s₅) EE s₄) EE s₃
            else ∃ m, m < k ∧ CInv n sc (x :: ns) env A ρ h D I d cond elt ys xs σ' m s₃) EE s₂) EE s₁) EE s := by
  obtain ⟨τ, σ₁, j, zs, r, K, b, hl, rfl⟩ := K
  cases hl with
  | done h1 => exact K.item B h1 (fun _ _ _ ho => nsE ho) fun h' _ hx => K.fin B hx fun ρ' s' m a b c e g => hR ρ' s' m a b c (by rewrite [List.append_nil]; exact e) g
  | yes h1 hc he hr =>
    refine K.item B h1 (fun y v s₁ ho K₁ v1 => ?_) fun _ ho => snE ho
    cases ho
    refine K₁.store B v1 kx hf fun s₂ K₂ => ?_
    obtain ⟨_, _, N₂, _⟩ := id K₂
    refine wpAny_mono (hc Y _ _ _ _ _ _ _ okc N₂ _) (fun ok s₃ h3 => ?_) fun _ _ e => e
    obtain ⟨rfl, ρ₃, X₃, S₃⟩ := h3
    obtain ⟨τ₃, rfl, K₃⟩ := K₂.run B X₃ S₃
    obtain ⟨_, _, N₃, _⟩ := id K₃
    refine wpAny_mono (he Y _ _ _ _ _ _ _ oke N₃ _) (fun u s₄ h4 => ?_) fun _ _ e => e
    obtain ⟨ρ₄, N₄, S₄, v4, _⟩ := h4.split N₃
    obtain ⟨τ₄, rfl, K₄⟩ := K₃.run B N₄.st S₄
    refine (K₄.forget (f' := Option.none :: ys.map fun y => some (.d y)) (by simp [frameC]) fun i a ha => by cases i with
      | zero => simp at ha
      | succ i => simpa [frameC] using ha).append B v4 (by lia) fun _ s₅ K₅ => ?_
    exact ⟨_, Nat.lt_succ_self _, τ₄, _, j + 1, _, _, K₅, by simp; lia, hr, by simp⟩
  | no h1 hc hr =>
    refine K.item B h1 (fun y v s₁ ho K₁ v1 => ?_) fun _ ho => snE ho
    cases ho
    refine K₁.store B v1 kx hf fun s₂ K₂ => ?_
    obtain ⟨_, _, N₂, _⟩ := id K₂
    refine wpAny_mono (hc Y _ _ _ _ _ _ _ okc N₂ _) (fun ok s₃ h3 => ?_) fun _ _ e => e
    obtain ⟨rfl, ρ₃, X₃, S₃⟩ := h3
    obtain ⟨τ₃, rfl, K₃⟩ := K₂.run B X₃ S₃
    exact ⟨_, Nat.lt_succ_self _, τ₃, _, j + 1, zs, _, K₃.forget (f' := Option.none :: ys.map fun y => some (.d y)) (by simp [frameC]) (fun i a ha => by cases i with
      | zero => simp at ha
      | succ i => simpa [frameC] using ha), by lia, hr, rfl⟩
theorem comp_walk {elt cond : X} {te tc : Sd} {scope : Scope} {x : Str} {q pos : Pos} {iter : Expr} {cs : List Nat} {d : AD} {v : Value} {xs ys : List AD} {cl : List (Str × Addr)} {RR : Value → Addr → Result → Shared → Prop}
    (Y : Hyp C) (N : Now C n sc ns env A f ρ σ s)
    (oke : (un scope (x :: caps ns cs) elt te).ok = true) (okc : (un scope (x :: caps ns cs) cond tc).ok = true) (S : CompSc scope x (caps ns cs)) (hv : VR ρ s.heap d v)
    (hr : LC (cC n cond ys) (cE n elt ys) d (cntOf d σ) 0 σ xs σ') (hcl : Caps C env ρ s.heap (caps ns cs) ys cl)
    (hRR : ∀ D L ρ' s' m, s.heap.get? D = Option.none → s.heap.get? L = Option.none → s'.heap.Ns L m → St C ρ' σ' s' → Stp C NoW ρ s.heap ρ' s'.heap → VR ρ' s'.heap (.lst xs) (.ref D) → ¬ Foot ρ' L → D ≠ L → RR (.ref D) L (.ok .next) s') :
    wpAny (model C.prog C.w) A (pyIter v) (fun it s₂ => wpAny (model C.prog C.w) A (newList []) (fun acc s₃ => wpAny (model C.prog C.w) A (newFunctionEnv scope env.globals cl [] env.qual none .none (some env)) (fun cenv s₄ =>
      codeAny (model C.prog C.w) A (.compStart (.ListComp (un scope (x :: caps ns cs) elt te).nd.toE [⟨.Name x q, iter, (un scope (x :: caps ns cs) cond tc).nd.toT, 0⟩] scope pos) 0 it acc { cenv with scope := relabel scope env }) (RR acc cenv.locals) s₄) E s₃) E s₂) E s := by
  have hc0 : cntOf d σ ≠ 0 := fun z => by rewrite [z] at hr; cases hr
  refine iter_ok N.st hv hc0 fun I s₂ X₂ S₂ t₂ hI => ?_
  have N₂ := N.step X₂ S₂
  have hI0 : s.heap.get? I = Option.none := by rw [hI]; exact get_size _
  refine wpAny_newObj_type (wpAny_newFunctionEnv S.cell (by intro y hy; simp at hy) (fun h₁ hns₁ hsb₁ => ?_) S.kind)
  dsimp only at hns₁ hsb₁ ⊢
  generalize hD : s₂.heap.objs.size = D at *
  have hDn : s₂.heap.get? D = Option.none := by rw [← hD]; exact get_size _
  generalize hH2 : s₂.heap.push { cls := .type "list", dict := none, data := .seq ([] : List Value).toArray } = H2 at *
  have k2 : ∀ b o, s₂.heap.get? b = some o → H2.get? b = some o := fun b o e => by rw [← hH2]; exact Heap.get?_push_of_some _ e
  have hDa : H2.get? D = some { cls := .type "list", dict := none, data := .seq ([] : List Value).toArray } := by rw [← hH2, ← hD]; exact Heap.get?_push_size _ rfl
  generalize hL : H2.objs.size = L at *
  have hLn2 : H2.get? L = Option.none := by rw [← hL]; exact get_size _
  have hDL : D ≠ L := fun z => by rw [z, hLn2] at hDa; cases hDa
  have k1 : ∀ b o, H2.get? b = some o → h₁.get? b = some o := fun b o e => hsb₁.extBut b o (fun z => by rw [z, hLn2] at e; cases e) (Heap.get?_push_of_some _ e)
  have k : ∀ b o, s₂.heap.get? b = some o → h₁.get? b = some o := fun b o e => k1 b o (k2 b o e)
  have hLn : s₂.heap.get? L = Option.none := by
    cases z : s₂.heap.get? L with
    | none => rfl
    | some o => have := k2 _ _ z; rw [hLn2] at this; cases this
  have down : ∀ b, s₂.heap.get? b = Option.none → s.heap.get? b = Option.none := fun b e => by
    cases z : s.heap.get? b with
    | none => rfl
    | some o => obtain ⟨o', e'⟩ := S₂.alive b o z; rw [e] at e'; cases e'
  have hD0 := down D hDn
  have hL0 := down L hLn
  have nD := X₂.inv.fresh hDn
  have nL := X₂.inv.fresh hLn
  have XH : St C (ρ.hide D) σ { s₂ with heap := h₁, toks := s₂.toks + ([] : List (Str × Value)).length } := X₂.hide hDn k ⟨_, k1 _ _ hDa, rfl⟩
  have tH : ItR C (ρ.hide D) h₁ I d 0 := by
    refine ⟨t₂.1, ?_⟩
    have t := t₂.2
    cases d with
    | lst zs =>
      obtain ⟨l, us, ⟨o1, g1, g2⟩, ⟨o, g, c⟩, l2, l3⟩ := t
      exact ⟨l, us, ⟨o1, k _ _ g1, g2⟩, ⟨o, k _ _ g, c⟩, fun z => (foot_hide.mp z).elim l2 (ne_of_none hDn g), l3.hide hDn k⟩
    | ref j => obtain ⟨p, p1, ⟨o1, g1, g2⟩⟩ := t; exact ⟨p, p1, ⟨o1, k _ _ g1, g2⟩⟩
    | rng lo hi => exact ⟨k _ _ t.1, t.2⟩
    | _ => exact t.elim
  have nfL : ¬ Foot (ρ.hide D) L := fun z => by
    rcases foot_hide.mp z with z | z
    · obtain ⟨o, e, _⟩ := X₂.hr.solid z
      rw [hLn] at e; cases e
    · exact hDL z.symm
  have kc : Caps C env ρ s₂.heap (caps ns cs) ys cl := ⟨hcl.len, fun j y d hy hd => by
    obtain ⟨c, v, k1, ⟨oc, k2, k3⟩, k4, k5, k6, k7, k8, _⟩ := hcl.at_ j y d hy hd
    have e := S₂.exact k2 (N.st.hr.off k2 (by rw [k3]; rfl)) (fun q => q) (N.st.inv.tabs0.lt k4) (by rw [k3]; rfl)
    exact ⟨c, v, k1, ⟨oc, e, k3⟩, k4, k5.mono S₂ WOk.no N.st.inv.tabs0, k6, k7, k8, oc, e⟩⟩
  have VH : EnvOk C scope (x :: caps ns cs) (compEnvC scope cl L env) (Option.none :: ys.map fun y => some (.d y)) (ρ.hide D) h₁ :=
    compEnv_ok N₂.ev S kc (fun e => e.hide hDn k) k hns₁ nL nfL
  have SH : Stp C NoW ρ s.heap (ρ.app []) h₁ := by
    have : Stp C NoW ρ s₂.heap ρ h₁ := (LStp.of_keeps k).stp
    have := S₂.trans this
    rwa [show ρ.app [] = ρ by simp [Rho.app]]
  have acH : AC C n A h₁ := N.ac.mono SH
  have hlist : h₁.IsList D ([] : List Value).toArray := ⟨_, k1 _ _ hDa, rfl, _, rfl⟩
  have bound := cntOf_le (σ := σ) hv
  have kx : (compEnvC scope cl L env).kindOf x = some .local := lookup_relabel (env := env) (k := .local) (by decide) S.loc
  have loop : ∀ s₃ : Shared, s₃ = { s₂ with heap := h₁, toks := s₂.toks + ([] : List (Str × Value)).length } →
      codeAny (model C.prog C.w) A (.compLoop (.ListComp (un scope (x :: caps ns cs) elt te).nd.toE [⟨.Name x q, iter, (un scope (x :: caps ns cs) cond tc).nd.toT, 0⟩] scope pos) 0 (.ref I) (.ref D) (compEnvC scope cl L env))
        (RR (.ref D) L) s₃ := by
    rintro s₃ rfl
    have B : CB n (compEnvC scope cl L env) A ρ s.heap D I := ⟨N.ac, fun z => by
      obtain ⟨⟨o, e, _⟩, _⟩ := N.st.hr.zs D z
      rw [hD0] at e; exact nsE e, hD0, hL0, hI0, hDL, nD, nL⟩
    refine codeAny_compLoop_tests (CInv n scope (x :: caps ns cs) (compEnvC scope cl L env) A ρ s.heap D I d cond elt ys xs σ') ?_ (cntOf d σ) ?_
    · intro k s₃ inv
      exact comp_turn Y B oke okc kx (show (relabel scope env).kind = _ from S.kind) inv fun ρ' s' m a b c e g => hRR D L ρ' s' m hD0 hL0 a b c e g hDL
    · exact ⟨[], σ, 0, [], xs, ⟨[], _, ⟨by simpa [Rho.app] using XH, by simpa [Rho.app] using VH, acH, N.ne⟩, by simpa [Rho.app] using tH, hlist, .nil, SH, hns₁⟩, by simpa using bound, hr, rfl⟩
  have self : ∀ s₃ : Shared, ItR C (ρ.hide D) s₃.heap I d 0 → ∀ {Q : Value → Shared → Prop} {E : Value → Shared → Prop}, Q (.ref I) s₃ → wpAny (model C.prog C.w) A (pyIter (.ref I)) Q E s₃ := fun s₃ t Q E q => by
    have t := t.2
    cases d with
    | lst zs => obtain ⟨l, us, g, _⟩ := t; exact wpAny_pyIter_listiter g q
    | ref j => obtain ⟨p, p1, g⟩ := t; exact wpAny_pyIter_listiter g q
    | rng lo hi => exact wpAny_pyIter_rangeiter t.1 q
    | _ => exact t.elim
  exact codeAny_compStart_list (loop _ rfl) (self _ tH (loop _ rfl))
noncomputable def CV (n : Nat) (elt cond : X) (d : AD) (f : Fm) (cs : List Nat) (σ : H) (xs : List AD) (σ' : H) : Prop := ∃ ys, capsD f cs = some ys ∧ LC (cC n cond ys) (cE n elt ys) d (cntOf d σ) 0 σ xs σ'
theorem Caps.mono {cs : List Str} {xs : List AD} {cl : List (Str × Addr)} (K : Caps C env ρ h cs xs cl) (S : Stp C NoW ρ h ρ' h') (R : HR C ρ σ h) (T : Tabs0 C h) : Caps C env ρ' h' cs xs cl := ⟨K.len, fun j y d hy hd => by
  obtain ⟨c, v, k1, ⟨oc, k2, k3⟩, k4, k5, k6, k7, k8, _⟩ := K.at_ j y d hy hd
  have e := S.exact k2 (R.off k2 (by rw [k3]; rfl)) (fun q => q) (T.lt k4) (by rw [k3]; rfl)
  exact ⟨c, v, k1, ⟨oc, e, k3⟩, k4, k5.mono S WOk.no T, k6, k7, k8, oc, e⟩⟩
theorem e_comp {cs : List Nat} {cond : X} {d : AD} {σ1 : H} {xs : List AD} (is : Ev n b f σ (.v (.d d)) σ1) (hv : CV n a cond d f cs σ1 xs σ') : Ev n (.comp a cs b cond) f σ (.v (.d (.lst xs))) σ' := fun Y sc ns t env A ρ s ok N => by
    obtain ⟨ys, hys, hl⟩ := hv
    have ok1 := and1 ok
    have S := CompSc.of (and2 ok1)
    have ok2 := and1 ok1
    have hcap := and2 ok2
    have ok3 := and1 ok2
    have hin := and2 ok3
    have ok4 := and1 ok3
    intro E
    obtain ⟨cl, hclos, hcl⟩ := caps_ok N S hcap hin hys
    show wpAny _ _ (eval (.ListComp (un t.sc (t.x :: caps ns cs) a (t.k 0)).nd.toE [⟨.Name t.x t.q, (un sc ns b (t.k 1)).nd.toE, (un t.sc (t.x :: caps ns cs) cond (t.k 2)).nd.toT, 0⟩] t.sc t.p) env) _ _ _
    rw [eval_ListComp]
    refine wpAny_comprehension_free (use := Option.none) rfl ((notSet (op := .In) (and2 ok)).1 env) hclos S.kind S.nm (wpAny_mono (is Y _ _ _ _ _ _ _ (and2 (and1 ok4)) N E) (fun v s₁ hv => ?_) fun _ _ e => e)
    obtain ⟨ρ₁, N₁, S₁, v1, _⟩ := hv.split N
    have hcl' := hcl.mono S₁ N.st.hr N.st.inv.tabs0
    refine comp_walk (RR := fun acc L => compPost (model C.prog C.w) A E Option.none (PV C ρ s σ' (.d (.lst xs))) acc L) Y N₁ (and1 (and1 ok4)) (and2 ok4) S v1 hl hcl' fun D L ρ' s' m hD hL hm X' S' v' nf ne => ?_
    refine ⟨m, hm, fun h' hs => ?_⟩
    have nL := N₁.st.inv.fresh hL
    have K : Hold C ρ' s'.heap h' := .dict hm nf nL hs.extBut
    exact ⟨ρ', X'.hold (tk := s'.toks) K, S₁.trans (S'.ext hs.extBut hL), v'.hold K⟩
theorem swaps_yes {elt : Expr} {gs : List Comprehension} {scope : Scope} {pos p : Pos} {y : Str} {l : Nat} (hk : env.scope.kind = .function) (hy : env.kindOf y = some .local) (hp : (p.line == pos.line) = true) (hn : (!(scope.names.any fun n => n.1 == y && (n.2 == .local || n.2 == .cell))) = true) :
    swapsWith (.ListComp elt gs scope pos) (some (.Name y p)) l env = pure true := by
  have hb : (env.blockKind == ScopeKind.function) = true := by unfold Env.blockKind; rw [hk]; rfl
  have hy' : (env.kindOf y == some NameKind.local) = true := by rw [hy]; rfl
  show (pure (env.blockKind == .function && env.kindOf y == some .local && p.line == pos.line && !(scope.names.any fun n => n.1 == y && (n.2 == .local || n.2 == .cell))) : Sem Bool) = _
  rw [hb, hy', hp, hn]; rfl
theorem e_asgc {i : Nat} {cs : List Nat} {cond : X} {d : AD} {σ1 : H} {xs : List AD} (is : Ev n b f σ (.v (.d d)) σ1) (hv : CV n a cond d f cs σ1 xs σ') (hi : i < f.length) : Ev n (.asgc i a cs b cond) f σ (.f .next (setF f i (.d (.lst xs)))) σ' := fun Y sc ns t env A ρ s ok N => by
    obtain ⟨ys, hys, hl⟩ := hv
    have o1 := and1 ok
    have o2 := and1 o1
    have o3 := and1 o2
    have o4 := and1 o3
    have o5 := and1 o4
    have S := CompSc.of (and2 o5)
    have o6 := and1 o5
    have hcap := and2 o6
    have o7 := and1 o6
    have hin := and2 o7
    have o8 := and1 o7
    have ky := N.ev.kk _ _ (.inl rfl) (and2 o2)
    intro O E
    obtain ⟨cl, hclos, hcl⟩ := caps_ok N S hcap hin hys
    show wpAny _ _ (exec (.Assign [.Name (ns.getD i Str.empty) t.q] (.ListComp (un (t.k 0).sc ((t.k 0).x :: caps ns cs) a ((t.k 0).k 0)).nd.toE [⟨.Name (t.k 0).x (t.k 0).q, (un sc ns b ((t.k 0).k 1)).nd.toE, (un (t.k 0).sc ((t.k 0).x :: caps ns cs) cond ((t.k 0).k 2)).nd.toT, 0⟩] (t.k 0).sc (t.k 0).p) t.p) env) _ _ _
    rw [exec_Assign_Name_used _ _ _ _ (swaps_yes N.ev.kind ky (and2 o1) (and2 ok))]
    refine wpAny_bind (wpAny_standAt (wpAny_bind ?_))
    show wpAny _ A (do let _ ← comprehension (.ListComp (un (t.k 0).sc ((t.k 0).x :: caps ns cs) a ((t.k 0).k 0)).nd.toE [⟨.Name (t.k 0).x (t.k 0).q, (un sc ns b ((t.k 0).k 1)).nd.toE, (un (t.k 0).sc ((t.k 0).x :: caps ns cs) cond ((t.k 0).k 2)).nd.toT, 0⟩] (t.k 0).sc (t.k 0).p) (t.k 0).sc env _ (newList []) false (eval (un sc ns b ((t.k 0).k 1)).nd.toE env) (some (assign (.Name (ns.getD i Str.empty) t.q) env))) _ _ s
    refine wpAny_bind (wpAny_mono (wpAny_comprehension_free (use := some (assign (.Name (ns.getD i Str.empty) t.q) env)) (Q := fun _ s' => PF C sc ns env ρ s σ' .next (setF f i (.d (.lst xs))) .next s') rfl ((notSet (op := .In) (and2 o4)).1 env) hclos S.kind S.nm
      (wpAny_mono (is Y _ _ _ _ _ _ _ (and2 (and1 o8)) N E) (fun v s₁ hv => ?_) fun _ _ e => e)) (fun _ s' hq => wpAny_pure (wpAny_pure hq)) fun _ _ e => e)
    obtain ⟨ρ₁, N₁, S₁, v1, _⟩ := hv.split N
    have hcl' := hcl.mono S₁ N.st.hr N.st.inv.tabs0
    refine comp_walk (RR := fun acc L => compPost (model C.prog C.w) A E (some (assign (.Name (ns.getD i Str.empty) t.q) env)) (fun _ s' => PF C sc ns env ρ s σ' .next (setF f i (.d (.lst xs))) .next s') acc L) Y N₁ (and1 (and1 o8)) (and2 o8) S v1 hl hcl' fun D L ρ' s' m hD hL hm X' S' v' nf ne => ?_
    have N₂ := N₁.step X' S'
    have O₂ := (O.mono S₁ N.st.inv.tabs0).mono S' N₁.st.inv.tabs0
    show wpAny _ A (assign (.Name (ns.getD i Str.empty) t.q) env (.ref D)) _ _ _
    refine wpAny_assign_Name (N₂.store O₂ hi v' fun s₃ X₃ S₃ O₃ V₃ => ?_)
    have hLl : ∀ b, Own env b → L ≠ b := fun b q z => by
      obtain ⟨o, e, _⟩ := (O.mono S₁ N.st.inv.tabs0).ok b q
      rw [← z, hL] at e; cases e
    obtain ⟨o, es, ep, e, dd, r⟩ := hm
    obtain ⟨sl, e₃, _⟩ := S₃.keep L o e nf (fun q => hLl _ q rfl) (N₂.st.inv.tabs0.lt (N₁.st.inv.fresh hL))
    have hm₃ : s₃.heap.Ns L m := ⟨_, es, ep, e₃, dd, r⟩
    refine ⟨m, hm₃, fun h' hs => ?_⟩
    have K : Hold C ρ' s₃.heap h' := .dict hm₃ nf (N₁.st.inv.fresh hL) hs.extBut
    exact ⟨ρ', X₃.hold (tk := s₃.toks) K, S₁.own.trans ((S'.own.trans S₃).ext hs.extBut hL), V₃.hold K X₃.hr fun o e => hs.extBut _ _ (Ne.symm (hLl _ (.inl rfl))) e, O₃.hold fun b o q e => hs.extBut _ _ (Ne.symm (hLl _ q)) e, trivial⟩
theorem VRs.set {xs : List AD} {vs : List Value} {d : AD} {v : Value} (r : VRs ρ h xs vs) (w : VR ρ h d v) (k : Nat) : VRs ρ h (xs.set k d) (vs.set k v) :=
  .of_at (by simp [r.length]) fun i e u h1 h2 => by
    by_cases q : i = k
    · subst q
      have hx : i < xs.length := by simpa using (List.getElem?_eq_some_iff.mp h1).1
      have hv : i < vs.length := by rw [r.length]; exact hx
      rw [List.getElem?_set_self hx] at h1
      rw [List.getElem?_set_self hv] at h2
      cases h1; cases h2; exact w
    · rw [List.getElem?_set_ne (Ne.symm q)] at h1 h2
      obtain ⟨u', e1, e2⟩ := r.at h1
      rw [h2] at e1; cases e1; exact e2
theorem augStore_plain (x : X) (sc : Scope) (ns : List Str) (t : Sd) (ov iv new : Value) : augStore (un sc ns x t).nd.toE ov iv new = (do holding [new, ov, iv] (setItem ov iv new); release [new, ov, iv] []; pure .next) := by
  induction x generalizing t <;> first | rfl | (rename_i ih; exact ih t)
theorem set_plain {l : Addr} {items : Array Value} {j : Nat} {k : Int} {t : Tok} {v : Value} {Q : Unit → Shared → Prop} (hl : s.heap.PlainList l items) (hk : k = .ofNat j) (h0 : 0 ≤ k) (hfit : k < 2 ^ 63) (hj : j < items.size)
    (hQ : ∀ h', h'.PlainList l (items.setIfInBounds j v) → Heap.SameBut l s.heap h' → Q () { s with heap := h' }) : wpAny (model C.prog C.w) A (setItem (.ref l) (.int k t) v) Q E s := by
  obtain ⟨m, ho⟩ := hl
  have hT : s.TypeIs (.ref l) "list" := ⟨_, ho, rfl⟩
  have hx : items[j]? = some items[j] := Array.getElem?_eq_getElem hj
  have e1 : Obj.mapSeq (·.setIfInBounds j v) { cls := .type "list", data := .seq items m } = { cls := .type "list", data := .seq (items.setIfInBounds j v) m } := by simp [Obj.mapSeq]
  have fin : (s.heap.update l (Obj.mapSeq (·.setIfInBounds j v))).PlainList l (items.setIfInBounds j v) := ⟨m, by rw [Heap.get?_update_self _ ho (by rw [e1]; rfl), e1]⟩
  unfold setItem
  try with_reducible refine wpAny_holding ?_
  first | refine wpAny_bind (wpAny_pure ?_) | skip
  refine wpAny_bind (wpAny_sequenceKey hT (by decide) ?_)
  refine wpAny_bind (wpAny_callSpecial?_slot (name := Str.ofString "__setitem__") hT slot_list_setitem (wpAny_call_entry slot_list_setitem hT entry_list_setitem ?_ (args_list_setitem _ _ _)))
  show wpAny _ _ (Builtin.List.listSubscript? (.int k t) >>= _) _ _ s
  have hfx := fitsIndex_of h0 hfit
  clear hfit
  refine wpAny_bind (wpAny_listSubscript_int hfx ?_)
  subst hk
  show wpAny _ _ ((seqItemAt l j >>= fun r => pure (r.map (j, ·))) >>= _) _ _ s
  refine wpAny_bind (wpAny_bind (wpAny_seqItemAt ho rfl (wpAny_pure ?_)))
  rw [hx]
  show wpAny _ _ (setSeqItemAt l j v >>= _) _ _ s
  refine wpAny_bind (wpAny_setSeqItemAt ho rfl ?_)
  first
    | exact wpAny_bind (wpAny_pure (wpAny_pure ⟨.none, rfl, wpAny_pure (hQ _ fin (Heap.SameBut.update ..))⟩))
    | exact wpAny_pure ⟨.none, rfl, wpAny_pure (hQ _ fin (Heap.SameBut.update ..))⟩
theorem e_aug {i k j : Nat} {z u : Int} {xs ys : List AD} {σ1 σ3 : H} (h1 : f[i]? = some (some (.d (.ref k)))) (ia : Ev n a f σ (.v (.d (.int j))) σ1) (hσ : σ1[k]? = some (.list xs)) (hz : xs[j]? = some (.int z)) (hs : j < 5000) (ib : Ev n b f σ1 (.v (.d (.int u))) σ3) (hk3 : σ3[k]? = some (.list ys)) (hj : j < ys.length) :
    Ev n (.aug i a b) f σ (.f .next f) (σ3.set k (.list (ys.set j (.int (z + u))))) := fun Y sc ns t env A ρ s ok N O E => by
  show wpAny _ _ (exec (.AugAssign (.Subscript (nameE ns i (t.k 2).p) (un sc ns a (t.k 0)).nd.toE t.q) .Add (un sc ns b (t.k 1)).nd.toE t.p) env) _ _ _
  refine wpAny_AugAssign_SubscriptAny (wpAny_mono (N.load h1) (fun ov s₁ hv => ?_) fun _ _ e => e) (augStore_plain _ _ _ _)
  obtain ⟨ρ₁, N₁, S₁, v1, _⟩ := hv.split N
  refine wpAny_mono (ia Y _ _ _ _ _ _ _ (and1 (and1 ok)) N₁ E) (fun iv s₂ hv => ?_) fun _ _ e => e
  obtain ⟨ρ₂, N₂, S₂, v2, up2⟩ := hv.split N₁
  replace v1 := up2 v1
  obtain ⟨ti, rfl⟩ := v2.ofInt
  rw [VR] at v1
  obtain ⟨p, hp, rfl⟩ := v1
  obtain ⟨p', p2, _, vs, g, rs⟩ := N₂.st.hr.obs k _ hσ
  rw [hp] at p2; cases (p2)
  obtain ⟨v, hv0, v1⟩ := rs.idx (j := 0) (i := .ofNat j) hz
  obtain ⟨tz, rfl⟩ := hv0.ofInt
  refine list_item g.isList (i := .ofNat j) (by simp; lia) (by simp; lia) v1 ?_
  refine wpAny_mono (ib Y _ _ _ _ _ _ _ (and2 (and1 ok)) N₂ E) (fun vv s₃ hv => ?_) fun _ _ e => e
  obtain ⟨ρ₃, N₃, S₃, v3, up3⟩ := hv.split N₂
  obtain ⟨tu, rfl⟩ := v3.ofInt
  have hp3 := S₃.idx hp
  have X₄ : St C ρ₃ σ3 { s₃ with toks := s₃.toks + 1 } := N₃.st.toks
  obtain ⟨p', p2, e1, vs, g3, rs⟩ := N₃.st.hr.obs k _ hk3
  rw [hp3] at p2; cases (p2)
  have fin : wpAny (model C.prog C.w) A (setItem (.ref p.1) (.int (.ofNat j) ti) (.int (z + u) s₃.toks)) (fun _ => PF C sc ns env ρ s (σ3.set k (.list (ys.set j (.int (z + u))))) .next f .next) E { s₃ with toks := s₃.toks + 1 } := by
    have k1 : (0 : Int) ≤ .ofNat j := Int.natCast_nonneg j
    have hvl := rs.length
    have k3 : (Int.ofNat j) < (vs.toArray.size : Int) := by simp [hvl]; lia
    have k2 : (Int.ofNat j) < 2 ^ 63 := by simp; lia
    have g4 : ({ s₃ with toks := s₃.toks + 1 } : Shared).heap.PlainList p.1 vs.toArray := g3
    refine set_plain g4 rfl k1 k2 (by simpa using k3) fun h' hl' hs => ?_
    have hl'' : h'.PlainList p.1 (vs.set j (.int (z + u) s₃.toks)).toArray := by
      have : vs.toArray.setIfInBounds j (.int (z + u) s₃.toks) = (vs.set j (.int (z + u) s₃.toks)).toArray := by simp
      rw [← this]; exact hl'
    obtain ⟨X₅, S₅⟩ := X₄.setList (tk := s₃.toks + 1) hk3 hp3 hs hl'' (rs.set (show VR ρ₃ s₃.heap (.int (z + u)) (.int (z + u) s₃.toks) by rw [VR]; exact ⟨_, rfl⟩) j)
    have S := ((S₁.trans S₂).trans S₃).trans S₅
    have N₅ := N₃.step X₅ S₅
    exact ⟨ρ₃, X₅, S.own, N₅.ev, O.mono S N.st.inv.tabs0, trivial⟩
  exact P.iadd_int fin
theorem St.grow {cd P c' : Addr} {pos : Pos} {q : Str} {tk : Nat} (X : St C ρ σ s) (K : CodeOk C cd P pos q) (he : s.heap.get? P = some (tabO #[])) (ht : s.heap.TableAt cd P #[]) (hx : Heap.ExtBut P s.heap h')
    (ht' : h'.TableAt cd P (#[] ++ #[rawInt pos.line, rawInt pos.col, .ref c'])) (n0 : C.h0.get? c' = Option.none) (hr : h'.CodeRec (.ref c') q) :
    St C ρ σ { s with heap := h', toks := tk } ∧ Stp C NoW ρ s.heap ρ h' := by
  have hP' : h'.get? P = some (tabO #[rawInt pos.line, rawInt pos.col, .ref c']) := ht'.2
  have nP : ∀ b, C.h0.get? b = Option.none → b ≠ P := fun b e z => by
    obtain ⟨o, k⟩ := (X.inv.cok.tab _ K.mem).1
    rw [z] at e
    exact absurd (e.symm.trans k) nofun
  have S : Stp C NoW ρ s.heap ρ h' := by
    refine ⟨⟨[], by simp [Rho.app], fun _ hp => nomatch hp⟩, fun b o e _ _ hT => ⟨o.slots, hx b o (fun z => hT ⟨_, K.mem, z⟩) e, fun _ => rfl⟩, fun b o e d => ?_, fun b o e => ?_, fun b o q e => hx b o (nP b (X.hr.zs b q).2.1) e⟩
    · exact ⟨o, hx b o (fun z => by rw [z, he] at e; cases e; cases d) e, d⟩
    · by_cases z : b = P
      · exact ⟨_, z ▸ hP'⟩
      · exact ⟨o, hx b o z e⟩
  have kf : ∀ b, Foot ρ b → ∀ o, s.heap.get? b = some o → h'.get? b = some o := fun b q o e => hx b o (fun z => by
    obtain ⟨o', k⟩ := (X.inv.cok.tab _ K.mem).1
    exact X.hr.far k (z ▸ q)) e
  refine ⟨⟨⟨X.inv.cok, X.inv.old.step_table K.table ht ht' hx K.ne, fun b o e => hx b o (fun z => by rw [z] at e; exact absurd (((X.inv.cok.tab _ K.mem).2).symm.trans e) nofun) (X.inv.keep b o e), X.inv.bare, X.inv.os, fun t ht => ?_⟩, X.hr.kept S WOk.no X.inv.tabs0 kf⟩, S⟩
  by_cases z : t.1 = P
  · cases X.inv.cok.uniq t ht _ K.mem z
    exact .inr ⟨c', hP', n0, hr⟩
  · rcases X.inv.tabs t ht with e' | ⟨c2, e', hc, c₂, oc, us, tq, qe, g, d', r⟩
    · exact .inl (hx _ _ z e')
    · refine .inr ⟨c2, hx _ _ z e', hc, c₂, oc, us, tq, qe, hx _ _ (fun y => ?_) g, d', r⟩
      rw [y, he] at g; cases (g); cases (d'); simp at r
theorem CodeOk.here {cd P : Addr} {pos : Pos} {q : Str} {ps : Array Value} (K : CodeOk C cd P pos q) (X : St C ρ σ s) (he : s.heap.get? P = some (tabO ps)) (ht : TriplesOk ps.toList) : s.heap.IsCode cd P ps ∧ s.heap.TableAt cd P ps := by
  obtain ⟨o, ho⟩ := K.kept
  have h0 := X.inv.cok.sub _ _ ho
  have hs := X.inv.keep _ _ ho
  obtain ⟨o1, vs, file, tf, flags, tg, inF, text, tt, op, a, r1, r2, r3, r4, r5, r6, b, _, _, ne⟩ := K.code
  obtain ⟨⟨o2, vs2, e1, e2, e3, e4⟩, _⟩ := K.table
  rw [h0] at a e1; cases (a); cases (e1)
  exact ⟨⟨o, vs, file, tf, flags, tg, inF, text, tt, _, hs, r1, r2, r3, r4, r5, r6, he, rfl, ht, ne⟩, ⟨o, vs2, hs, e2, e3, e4⟩, he⟩
theorem fnCode_ok {cd P : Addr} {pos pos' : Pos} {q name : Str} {fl : Nat} {p : Arguments} {scope : Scope} {body : FuncBody} {Q : Value → Shared → Prop} (K : CodeOk C cd P pos' q) (hl : pos.line = pos'.line) (hcl : pos.col = pos'.col) (X : St C ρ σ s) (hc : env.code = .ref cd)
    (k : ∀ c' s', St C ρ σ s' → Stp C NoW ρ s.heap ρ s'.heap → C.h0.get? c' = Option.none → s'.heap.CodeRec (.ref c') q → Q (.ref c') s') : wpAny (model C.prog C.w) A (functionCode env pos fl name q p scope body) Q E s := by
  rcases X.inv.tabs _ K.mem with e | ⟨c', e, n0, hr⟩
  · obtain ⟨h1, h2⟩ := K.here X e trivial
    refine wpAny_functionCodeX hc h1 h2 rfl fun c' h' tk hx hge hlt _ hrec htb _ => ?_
    have n0 : C.h0.get? c' = Option.none := X.inv.fresh (by
      cases z : s.heap.get? c' with
      | none => rfl
      | some o => exact absurd (Heap.lt_size z) (Nat.not_lt.mpr hge))
    rw [hl, hcl] at htb
    obtain ⟨X', S⟩ := X.grow (tk := tk) K e h2 hx htb n0 hrec
    exact k c' _ X' S n0 hrec
  · obtain ⟨h1, h2⟩ := K.here X e (by simp [TriplesOk, rawInt])
    refine wpAny_functionCode_hit hc h1 ?_ (k c' s X .refl n0 hr)
    simp [codeAmong, rawInt, hl, hcl]
theorem e_lam {cs : List Nat} {xs : List AD} (hx : capsD f cs = some xs) : Ev n (.lam a cs) f σ (.v (.clo a xs)) σ := fun Y sc ns t env A ρ s ok N => by
    have T := Y.top
    have o1 := and1 ok
    have o2 := and1 o1
    have o3 := and1 o2
    have S := CompSc.of (and2 o3)
    have o4 := and1 o3
    have hcap := and2 o4
    have o5 := and1 o4
    have hin := and2 o5
    have okb := and1 o5
    obtain ⟨lc, lq⟩ := N.ev.lam (eq_of_beq (and2 o2))
    obtain ⟨cl, hclos, hcl⟩ := caps_ok N S hcap hin hx
    obtain ⟨mg, hg, gv⟩ := T.glob
    intro E
    show wpAny _ _ (eval (.Lambda (oneArg t.x t.q) (un t.sc (t.x :: caps ns cs) a (t.k 0)).nd.toE t.sc t.p) env) _ _ _
    rw [arm_eval_Lambda]
    show wpAny _ _ (do let dv ← evalAll []; let kdv ← holding dv (evalAllOpt []); makeFunction "<lambda>" (env.qual ++ "<lambda>") (oneArg t.x t.q) (.expr (un t.sc (t.x :: caps ns cs) a (t.k 0)).nd.toE) t.sc env dv kdv [] t.p t.p.line) _ _ _
    refine wpAny_bind (wpAny_pure (wpAny_bind (wpAny_holding (wpAny_pure ?_))))
    rw [makeFunction_eq]
    simp only [List.zip_nil_right, List.filterMap_nil, List.isEmpty_nil, if_true, pure_bind]
    unfold makeTail
    rw [hclos, N.ev.glob]
    refine wpAny_bind (wpAny_pure ?_)
    have key : ∀ (s₁ : Shared) (ct : Value), St C ρ σ s₁ → Stp C NoW ρ s.heap ρ s₁.heap →
        wpAny (model C.prog C.w) A (do
          let code ← functionCode env t.p t.p.line "<lambda>" (env.qual ++ "<lambda>") (oneArg t.x t.q) t.sc (.expr (un t.sc (t.x :: caps ns cs) a (t.k 0)).nd.toE)
          let builtins ← builtinsFor mainGlobals env.builtins
          let pm ← nsGet mainGlobals "__name__"
          let doc ← pure Value.none
          newObj (.type "function") (.func { name := "<lambda>", qualname := env.qual ++ "<lambda>", params := oneArg t.x t.q, body := .expr (un t.sc (t.x :: caps ns cs) a (t.k 0)).nd.toE, scope := t.sc, globals := mainGlobals, closure := cl, closureTuple := ct, code, builtins, defaults := .none, kwdefaults := .none, annotations := Option.none, pyModule := pm.getD .none, doc }))
          (PV C ρ s σ (.clo a xs)) E s₁ := fun s₁ ct X₁ S₁ => by
      rw [lq]
      refine wpAny_bind (fnCode_ok T.lamc (by have := eq_of_beq (and2 o1); exact this) (by have := eq_of_beq (and2 ok); exact this) X₁ lc fun c' s₂ X₂ S₂ n0 hrec => ?_)
      have hg' := hg.keeps X₂.inv.keep
      refine wpAny_bind (wpAny_builtinsFor hg' (gv 30 rfl) (by decide) (X₂.inv.keep _ _ (T.obj 0 rfl rfl)) rfl rfl rfl ?_)
      refine wpAny_bind (wpAny_nsGet hg' ?_)
      refine wpAny_bind (wpAny_pure (wpAny_newObj_type ?_ (by size_fits)))
      have X₃ : St C ρ σ _ := X₂.push (tk := s₂.toks) (lamObj "<lambda>" (lamQual ++ "<lambda>") (oneArg t.x t.q) (un t.sc (t.x :: caps ns cs) a (t.k 0)).nd.toE t.sc cl ((mg "__name__").getD .none) c' ct)
      have S₃ : Stp C NoW ρ s₂.heap ρ (s₂.heap.push (lamObj "<lambda>" (lamQual ++ "<lambda>") (oneArg t.x t.q) (un t.sc (t.x :: caps ns cs) a (t.k 0)).nd.toE t.sc cl ((mg "__name__").getD .none) c' ct)) := (LStp.of_keeps (keeps_push _)).stp
      have S₀ := (S₁.trans S₂).trans S₃
      have K₃ := hcl.mono S₀ N.st.hr N.st.inv.tabs0
      obtain ⟨c₂, o, vs, tq, e3, g, d, r⟩ := hrec
      refine ⟨ρ, X₃, S₀, s₂.heap.objs.size, "<lambda>", lamQual ++ "<lambda>", t.q, t.sc, cl, (mg "__name__").getD .none, c', ct, t.x, caps ns cs, t.k 0, rfl, Heap.get?_push_size _ rfl, n0, ⟨c₂, o, vs, tq, e3, keeps_push _ _ _ g, d, r⟩, and2 o3, okb, K₃.len.symm, fun i y d hy hd => ?_⟩
      obtain ⟨c, v, k1, k2, k4, k5, k6, k7, k8, o', ho'⟩ := K₃.at_ i y d hy hd
      exact ⟨c, v, k1, k2, k4, Heap.lt_size ho', k5⟩
    cases cl with
    | nil =>
      simp only [List.isEmpty_nil, if_true]
      exact wpAny_bind (wpAny_pure (key s .none N.st .refl))
    | cons q r =>
      simp only [List.isEmpty_cons, Bool.false_eq_true, if_false]
      refine wpAny_bind (wpAny_newTextTuple (key _ _ (N.st.push _) ?_))
      exact (LStp.of_keeps (keeps_push _)).stp
theorem VRs.one {d : AD} {vs : List Value} (e : VRs ρ h [d] vs) : ∃ v, vs = [v] ∧ VR ρ h d v := by
  rw [VRs] at e
  obtain ⟨v, r, rfl, e1, e2⟩ := e
  rw [VRs] at e2; subst e2
  exact ⟨v, rfl, e1⟩
theorem VRs.two {d d' : AD} {vs : List Value} (e : VRs ρ h [d, d'] vs) : ∃ v v', vs = [v, v'] ∧ VR ρ h d v ∧ VR ρ h d' v' := by
  rw [VRs] at e
  obtain ⟨v, r, rfl, e1, e2⟩ := e
  obtain ⟨v', rfl, e3⟩ := e2.one
  exact ⟨v, v', rfl, e1, e3⟩
theorem PV.grow {d : AD} {v : Value} {h' : Heap} {tk : Nat} (X : St C ρ σ s) (k : ∀ b o, s.heap.get? b = some o → h'.get? b = some o) (hv : VR ρ h' d v) : PV C ρ s σ (.d d) v { s with heap := h', toks := tk } :=
  ⟨ρ, X.quiet k, (LStp.of_keeps k).stp, hv⟩
theorem ints_of : ∀ {l : List Int} {vs : List Value}, VRs ρ h (l.map .int) vs → ∃ ps : List (Int × Tok), vs = ps.map (fun p => .int p.1 p.2) ∧ ps.map (·.1) = l
  | [], vs, r => by rw [show List.map AD.int [] = [] from rfl, VRs] at r; subst r; exact ⟨[], rfl, rfl⟩
  | i :: l, vs, r => by
    obtain ⟨v, r', rfl, e2, e3⟩ := VRs.cons_inv r
    obtain ⟨t, rfl⟩ := e2.ofInt
    obtain ⟨ps, rfl, rfl⟩ := ints_of e3
    exact ⟨(i, t) :: ps, rfl, rfl⟩
theorem bi_len {l : Addr} {xs : List AD} {us : List Value} (N : Now C n sc ns env A f ρ σ s) (g : s.heap.IsList l us.toArray) (rs : VRs ρ s.heap xs us) (h : xs.length ≤ 5000) : wpAny (model C.prog C.w) A (call (biVal .len) [.ref l]) (PV C ρ s σ (.d (.int xs.length))) E s := by
  have hl := rs.length
  refine call_len_list g (by simp; lia) ?_
  have : (us.toArray.size : Int) = (xs.length : Int) := by simp [hl]
  rw [this]
  exact PV.int N.st
theorem bi_min {l : Addr} {us : List Value} {xs : List Int} {i : Int} (N : Now C n sc ns env A f ρ σ s) (g : s.heap.IsList l us.toArray) (rs : VRs ρ s.heap (xs.map .int) us) (m1 : i ∈ xs) (m2 : ∀ b ∈ xs, i ≤ b) : wpAny (model C.prog C.w) A (call (biVal .minl) [.ref l]) (PV C ρ s σ (.d (.int i))) E s := by
  obtain ⟨ps, rfl, rfl⟩ := ints_of rs
  have hit : (ps.map fun p => Value.int p.1 p.2).toArray = intItems ps.toArray := by simp [intItems]
  rw [hit] at g
  have hne : 0 < ps.toArray.size := by
    cases ps with
    | nil => cases m1
    | cons p r => simp
  refine min_intList N.ac.hd g hne fun v h' tk hv hk => PV.grow N.st hk ?_
  obtain ⟨t, rfl⟩ := intItems_at hv
  obtain ⟨h1, h2⟩ := argBest_lt (numAt ps.toArray) (ps.toArray.size - 1)
  have : numAt ps.toArray (argBest (fun i j => decide (numAt ps.toArray i < numAt ps.toArray j)) (ps.toArray.size - 1)) = i := by
    refine Int.le_antisymm ?_ ?_
    · obtain ⟨j, hj, hj'⟩ := List.getElem_of_mem m1
      have := h2 j (by simp at hj ⊢; lia)
      have e2 : numAt ps.toArray j = i := by rw [numAt_eq]; simp at hj; simp [List.getD, hj]; simpa using hj'
      rw [e2] at this; exact this
    · refine m2 _ ?_
      rw [numAt_eq]
      have hlt : argBest (fun i j => decide (numAt ps.toArray i < numAt ps.toArray j)) (ps.toArray.size - 1) < (ps.map (·.1)).length := by simp at h1 hne ⊢; lia
      generalize argBest (fun i j => decide (numAt ps.toArray i < numAt ps.toArray j)) (ps.toArray.size - 1) = z at hlt ⊢
      have e3 : (ps.toArray.toList.map (·.1)) = ps.map (·.1) := by simp
      rw [e3, List.getD, List.getElem?_eq_getElem hlt]
      exact List.getElem_mem hlt
  rw [this, VR]; exact ⟨_, rfl⟩
theorem bi_rng (X : St C ρ σ s) (lo hi : Int) (x y z : Tok) (tk : Nat) (h1 : -4096 < lo) (h2 : lo < 4096) (h3 : -4096 < hi) (h4 : hi < 4096) : PV C ρ s σ (.d (.rng lo hi)) (.ref s.heap.objs.size) { s with heap := s.heap.push { cls := .type "range", data := .fields #[.int lo x, .int hi y, .int 1 z] }, toks := tk } := by
  refine PV.grow X (keeps_push _) ?_
  rw [VR]
  refine ⟨_, x, y, z, rfl, IsRange.new _ _ _ _ _ _ _, fun q => ?_, by lia, by lia, by lia, by lia⟩
  obtain ⟨o, e, _⟩ := X.hr.solid q
  rw [get_size] at e; cases e
theorem bi_ok (I : IntTextOk C) {k : BI} {xs : List AD} {vs : List Value} {r : AD} (N : Now C n sc ns env A f ρ σ s) (e : BiR σ k xs r) (hv : VRs ρ s.heap xs vs) : wpAny (model C.prog C.w) A (call (biVal k) vs) (PV C ρ s σ (.d r)) E s := by
  refine shut fun G kk => ?_
  cases (e) with
  | lenT h =>
    obtain ⟨v, rfl, w1⟩ := hv.one
    obtain ⟨t, rfl⟩ := w1.ofStr
    exact kk (P.len_str (by lia) (PV.int N.st))
  | lenL h =>
    obtain ⟨v, rfl, w1⟩ := hv.one
    rw [VR] at w1
    obtain ⟨l, us, rfl, g, _, rs⟩ := w1
    exact kk (bi_len N g rs h)
  | lenR hσ h =>
    obtain ⟨v, rfl, w1⟩ := hv.one
    rw [VR] at w1
    obtain ⟨p, hp, rfl⟩ := w1
    obtain ⟨p', hp', _, us, g, rs⟩ := N.st.hr.obs _ _ hσ
    rw [hp] at hp'; cases (hp')
    exact kk (bi_len N g.isList rs h)
  | abs i =>
    obtain ⟨v, rfl, w1⟩ := hv.one
    obtain ⟨t, rfl⟩ := w1.ofInt
    refine kk (call_abs_int fun u tk => ?_)
    have : (if i < 0 then -i else i) = (i.natAbs : Int) := by split <;> lia
    rw [this]
    exact PV.int N.st
  | str h =>
    obtain ⟨v, rfl, w1⟩ := hv.one
    obtain ⟨t, rfl⟩ := w1.ofInt
    rename_i i
    have h1 : i.natAbs.log2 < 1920 := by
      by_cases q : i.natAbs = 0
      · rw [q]; decide
      · have : i.natAbs.log2 < 17 := (Nat.log2_lt q).mpr (by lia)
        lia
    exact kk (P.str_of_int h1 (PV.str N.st))
  | int h e =>
    obtain ⟨v, rfl, w1⟩ := hv.one
    obtain ⟨t, rfl⟩ := w1.ofStr
    exact kk (I _ _ t A s E _ h e (PV.int N.st))
  | ord c =>
    obtain ⟨v, rfl, w1⟩ := hv.one
    obtain ⟨t, rfl⟩ := w1.ofStr
    exact kk (P.ord_of_char (PV.int N.st))
  | chr h =>
    obtain ⟨v, rfl, w1⟩ := hv.one
    obtain ⟨t, rfl⟩ := w1.ofInt
    rename_i m
    have h1 : (decide ((m : Int) < 0) || decide ((m : Int) > 0x10FFFF)) = false := by
      rw [decide_eq_false (by lia), decide_eq_false (by lia)]; rfl
    exact kk (P.chr_of_int h1 (PV.str N.st))
  | max2 i j =>
    obtain ⟨v, v', rfl, h1, h2⟩ := hv.two
    obtain ⟨t, rfl⟩ := h1.ofInt
    obtain ⟨u, rfl⟩ := h2.ofInt
    refine kk (max_two_ints N.ac.hd fun h' tk k => PV.grow N.st k ?_)
    by_cases q : j > i
    · rw [if_pos q, if_pos q, VR]; exact ⟨_, rfl⟩
    · rw [if_neg q, if_neg q, VR]; exact ⟨_, rfl⟩
  | minl m h =>
    obtain ⟨v, rfl, w1⟩ := hv.one
    rw [VR] at w1
    obtain ⟨ad, us, rfl, g, _, rs⟩ := w1
    exact kk (bi_min N g rs m h)
  | rng1 h1 h2 =>
    obtain ⟨v, rfl, w1⟩ := hv.one
    obtain ⟨t, rfl⟩ := w1.ofInt
    exact kk (call_range_1 (bi_rng N.st _ _ _ _ _ _ (by lia) (by lia) h1 h2))
  | rng2 h1 h2 h3 h4 =>
    obtain ⟨v, v', rfl, w1, w2⟩ := hv.two
    obtain ⟨t, rfl⟩ := w1.ofInt
    obtain ⟨u, rfl⟩ := w2.ofInt
    exact kk (call_range_2 (bi_rng N.st _ _ _ _ _ _ h1 h2 h3 h4))
theorem e_bi {k : BI} {xs : List AD} {r : AD} {σ1 : H} (ia : Ev n a f σ (.l xs) σ1) (r2 : BiR σ1 k xs r) : Ev n (.bi k a) f σ (.v (.d r)) σ1 := fun Y sc ns t env A ρ s ok N => by
  have T := Y.top
  intro E
  have nm : ∀ mg, C.hk.Ns mainGlobals mg → mg (biName k) = .none := fun mg hm => by
    obtain ⟨mg', hm', v⟩ := T.glob
    exact (hm.agree hm' _).trans (glob_bi v k)
  have kp : ∀ {s' : Shared} (Q : Keeper → Shared → Prop), (∀ k, Q k s') → wpAny (model C.prog C.w) A (keeperOf (biVal k)) Q E s' := fun Q q => by cases k <;> exact wpAny_pure (q _)
  have hst := noStar env t.p a _ _ _ (and1 ok)
  show wpAny _ _ (do callWith t.p (← eval (.Name (biName k) t.q) env) [] (backTo t.p (starEach (un sc ns a (t.k 0)).nd.toL env)) []) _ _ _
  refine wpAny_bind (N.globB T (and2 ok) nm (boot_bi k) ?_)
  refine callWith_ok hst rfl (evalArgs_ok hst rfl (wpAny_mono (ia Y _ _ _ _ _ _ _ (and1 ok) N t.p E) (fun vs s₂ hv => wpAny_pure ?_) fun _ _ e => e))
  obtain ⟨ρ₂, X, S₂, v2⟩ := hv
  exact ⟨kp, wpAny_mono (bi_ok Y.text (N.step X S₂) r2 v2) (fun _ _ q => PV.trans S₂ q) fun _ _ e => e⟩
end Mine
end
section
namespace Mine
open PySem PySem.W PyProof.Rows PySem.Calls PySem.StrLaws Builtin Builtin.Str
variable {n : Nat} {ρ ρ' ρ₀ : Rho} {σ σ' : H} {s s' : Shared} {h h' h₀ : Heap} {A : Around} {E : Value → Shared → Prop} {sc : Scope} {ns : List Str} {env : Env} {f : Fm} {a b c : X} {W : Addr → Prop}
theorem pre_one (c d : Nat) (r : List Nat) : ([c] : List Nat).isPrefixOf (d :: r) = (c == d) := by simp [List.isPrefixOf]
theorem findL_spec (c : Nat) : ∀ (l : List Nat) (i : Nat), (findL [c] l i = Option.none ∧ ∀ j : Nat, l[j]? ≠ some c) ∨ ∃ j : Nat, findL [c] l i = some (i + j) ∧ l[j]? = some c ∧ ∀ m : Nat, m < j → l[m]? ≠ some c
  | [], i => .inl ⟨rfl, fun j => by simp⟩
  | d :: r, i => by
    unfold findL
    rw [pre_one]
    cases q : (c == d) with
    | true => exact .inr ⟨0, rfl, by rw [eq_of_beq q]; rfl, fun m hm => absurd hm (Nat.not_lt_zero _)⟩
    | false =>
      have nq : c ≠ d := beq_eq_false_iff_ne.mp q
      rcases findL_spec c r (i + 1) with ⟨e, k⟩ | ⟨j, e, k1, k2⟩
      · refine .inl ⟨e, fun j => ?_⟩
        cases j with
        | zero => simp; exact fun z => nq z.symm
        | succ j => simpa using k j
      · refine .inr ⟨j + 1, ?_, by simpa using k1, fun m hm => ?_⟩
        · show findL [c] r (i + 1) = _
          rw [e]; congr 1; lia
        · cases m with
          | zero => simp; exact fun z => nq z.symm
          | succ m => simpa using k2 m (by lia)
theorem occF (x : Str) (c lo : Nat) : (match occurrences x ⟨#[c]⟩ lo x.length 1 with | k :: _ => (k : Int) | [] => -1) = findS x ⟨#[c]⟩ lo := by
  unfold findS
  have key : ∀ i : Nat, At x ⟨#[c]⟩ x.length i ↔ x.cps.toList[i]? = some c := fun i => subAt_one x c i
  rcases occ_head_from x ⟨#[c]⟩ lo 1 (Nat.le_refl 1) with ⟨h0, hn⟩ | ⟨k, r, h0, hlo, hk, hn⟩
  · rcases findL_spec c (x.cps.toList.drop lo) lo with ⟨e, _⟩ | ⟨j, e, k1, _⟩
    · rw [h0, show findL (⟨#[c]⟩ : Str).cps.toList (x.cps.toList.drop lo) lo = Option.none from e]
    · rw [List.getElem?_drop] at k1
      exact absurd ((key _).mpr k1) (hn _ (Nat.le_add_right _ _))
  · rcases findL_spec c (x.cps.toList.drop lo) lo with ⟨e, k0⟩ | ⟨j, e, k1, k2⟩
    · have := k0 (k - lo)
      rw [List.getElem?_drop, show lo + (k - lo) = k by lia] at this
      exact absurd ((key _).mp hk) this
    · rw [List.getElem?_drop] at k1
      have : k = lo + j := by
        rcases Nat.lt_trichotomy k (lo + j) with z | z | z
        · have := k2 (k - lo) (by lia)
          rw [List.getElem?_drop, show lo + (k - lo) = k by lia] at this
          exact absurd ((key _).mp hk) this
        · exact z
        · exact absurd ((key _).mpr k1) (hn _ (by lia) z)
      rw [h0, show findL (⟨#[c]⟩ : Str).cps.toList (x.cps.toList.drop lo) lo = some (lo + j) from e, this]
theorem find0_eq (x : Str) (c : Nat) : Txt.find x ⟨#[c]⟩ = findS x ⟨#[c]⟩ 0 := by
  rw [← occF]; unfold Txt.find; split <;> rename_i q <;> rw [q]
theorem find3_eq (x : Str) (c k : Nat) : Txt.find3 x ⟨#[c]⟩ k = findS x ⟨#[c]⟩ k := by
  have e : fromIndex x.length (k : Int) = k := by unfold fromIndex; rw [if_neg (by lia)]; lia
  rw [← occF]; unfold Txt.find3; rw [e]; split <;> rename_i q <;> rw [q]
theorem joinL_cons (sep x : List Nat) {r : List (List Nat)} (h : r ≠ []) : joinL sep (x :: r) = x ++ sep ++ joinL sep r := by
  cases r with
  | nil => exact absurd rfl h
  | cons y r => rfl
theorem join_list_eq (sep : Str) : ∀ ys : List Str, (Str.join sep ys).cps.toList = joinL sep.cps.toList (ys.map (·.cps.toList))
  | [] => rfl
  | [x] => rfl
  | x :: y :: r => by
    have ih := join_list_eq sep (y :: r)
    show (x ++ sep ++ Str.join sep (y :: r)).cps.toList = x.cps.toList ++ sep.cps.toList ++ joinL sep.cps.toList ((y :: r).map (·.cps.toList))
    rw [← ih]
    simp [Str.cps_append]
theorem splitL_ne (m : Nat) : ∀ l : List Nat, splitL m l ≠ []
  | [] => by simp [splitL]
  | c :: r => by
    unfold splitL
    cases c == m with
    | true => simp
    | false =>
      simp only [cond_false]
      split <;> simp
theorem splitL_free (m : Nat) : ∀ (w r : List Nat), m ∉ w → splitL m (w ++ m :: r) = w :: splitL m r
  | [], r, _ => by simp [splitL]
  | c :: w, r, hm => by
    have h1 : (c == m) = false := beq_eq_false_iff_ne.mpr fun z => hm (z ▸ .head _)
    have ih := splitL_free m w r fun q => hm (.tail _ q)
    show (bif c == m then _ else match splitL m (w ++ m :: r) with | w :: ws => (c :: w) :: ws | [] => [[c]]) = _
    rw [h1, ih]; rfl
theorem splitL_none (m : Nat) : ∀ (w : List Nat), m ∉ w → splitL m w = [w]
  | [], _ => rfl
  | c :: w, hm => by
    have h1 : (c == m) = false := beq_eq_false_iff_ne.mpr fun z => hm (z ▸ .head _)
    have ih := splitL_none m w fun q => hm (.tail _ q)
    show (bif c == m then _ else match splitL m w with | w :: ws => (c :: w) :: ws | [] => [[c]]) = _
    rw [h1, ih]; rfl
theorem splitL_join (m : Nat) : ∀ qs : List (List Nat), qs ≠ [] → (∀ q ∈ qs, m ∉ q) → splitL m (joinL [m] qs) = qs
  | [], h, _ => absurd rfl h
  | [q], _, h => by show splitL m q = [q]; exact splitL_none m q (h q (.head _))
  | q :: r :: t, _, h => by
    have ih := splitL_join m (r :: t) (by simp) fun q hq => h q (.tail _ hq)
    show splitL m (q ++ [m] ++ joinL [m] (r :: t)) = _
    rw [List.append_assoc, List.singleton_append, splitL_free m q _ (h q (.head _)), ih]
theorem split_ne (x : Str) (c : Nat) : Txt.split x ⟨#[c]⟩ ≠ [] := by
  unfold Txt.split
  split
  · simp
  · split
    · simp
    · rw [partsBetween_eq]
      obtain ⟨p, r, e⟩ := partsFrom_ne x (⟨#[c]⟩ : Str).length 0 (occurrences x ⟨#[c]⟩ 0 x.length (x.length + 1))
      rw [e]; simp
theorem split_eq (x : Str) (c : Nat) : Txt.split x ⟨#[c]⟩ = (splitL c x.cps.toList).map fun w => ⟨w.toArray⟩ := by
  have h1 := splitL_join c ((Txt.split x ⟨#[c]⟩).map (·.cps.toList)) (by simpa using split_ne x c) fun q hq => by
    obtain ⟨p, hp, rfl⟩ := List.mem_map.mp hq
    exact split_free x c p hp
  have h2 := join_list_eq ⟨#[c]⟩ (Txt.split x ⟨#[c]⟩)
  rw [join_split] at h2
  rw [show ((⟨#[c]⟩ : Str).cps.toList) = [c] from rfl] at h2
  rw [← h2] at h1
  rw [h1, List.map_map]
  have : ((fun w : List Nat => (⟨w.toArray⟩ : Str)) ∘ fun x : Str => x.cps.toList) = _root_.id := by
    funext z; obtain ⟨⟨l⟩⟩ := z; rfl
  rw [this, List.map_id]
theorem strs_of : ∀ {l : List Str} {vs : List Value}, VRs ρ h (l.map .str) vs → StrsAre vs l
  | [], vs, r => by rw [show List.map AD.str [] = [] from rfl, VRs] at r; subst r; exact .nil
  | x :: l, vs, r => by
    obtain ⟨v, r', rfl, e2, e3⟩ := VRs.cons_inv r
    obtain ⟨t, rfl⟩ := e2.ofStr
    exact .cons _ _ (strs_of e3)
theorem strs_vr : ∀ (l : List (Str × Tok)), VRs ρ h (l.map fun p => .str p.1) (strValues l)
  | [] => .nil
  | p :: l => .cons (by rw [VR]; exact ⟨_, rfl⟩) (strs_vr l)
theorem split_ok {x : Str} {c : Nat} {t u : Tok} (X : St C ρ σ s) (hx : x.length ≤ 100000) :
    wpAny (model C.prog C.w) A (call (.builtin "str.split") [.str x t, .str ⟨#[c]⟩ u]) (PV C ρ s σ (.d (.lst ((splitL c x.cps.toList).map fun w => .str ⟨w.toArray⟩)))) E s := by
  have hz : (2 : Nat) ^ 24 = 16777216 := by decide
  have fin : ∀ (l : List (Str × Tok)) (tk : Nat), l.map (·.1) = Txt.split x ⟨#[c]⟩ → PV C ρ s σ (.d (.lst ((splitL c x.cps.toList).map fun w => .str ⟨w.toArray⟩))) (.ref s.heap.objs.size) { s with heap := s.heap.push { cls := .type "list", data := .seq (strValues l).toArray }, toks := tk } := fun l tk e => by
    have : ((splitL c x.cps.toList).map fun w => (AD.str ⟨w.toArray⟩)) = l.map fun p => .str p.1 := by
      rw [split_eq] at e
      have := congrArg (List.map AD.str) e
      simpa [List.map_map, Function.comp_def] using this.symm
    rw [this]
    exact VR.newLst X (strs_vr l) rfl (m := 0) rfl
  have hn : (partsBetween x (occurrences x ⟨#[c]⟩ 0 x.length (x.length + 1)) (⟨#[c]⟩ : Str).length).length ≤ sizeLine := by
    have e1 := occ_length_le x ⟨#[c]⟩ 0 x.length (x.length + 1)
    rw [length_partsBetween]; unfold sizeLine; lia
  have hy : ((⟨#[c]⟩ : Str).length == 0) = false := rfl
  have hxs : x.length ≤ sizeLine := by unfold sizeLine; lia
  cases h1 : (decide (x.length < (⟨#[c]⟩ : Str).length) || decide (Builtin.Str.strKind x < Builtin.Str.strKind ⟨#[c]⟩))
  · cases hf : (occurrences x ⟨#[c]⟩ 0 x.length (x.length + 1)).isEmpty
    · refine call_meets F.slot_str_split (typeIs_str _ _ _) F.entry_str_split (F.args_str_split_2 _ _) (meets_str_split_sep x ⟨#[c]⟩ t u h1 hy hf hxs hn) ?_
      show wants _ E _ { s with toks := _, heap := s.heap.push { cls := .type "list", data := .seq (strsFrom s.toks (partsBetween x (occurrences x ⟨#[c]⟩ 0 x.length (x.length + 1)) (⟨#[c]⟩ : Str).length)).toArray } }
      rw [strsFrom_eq]
      exact fin (numbered s.toks _) _ ((numbered_texts _ _).trans ((if_neg (ne_true_of_eq_false h1)).trans (if_neg (ne_true_of_eq_false hf))).symm)
    · exact call_meets F.slot_str_split (typeIs_str _ _ _) F.entry_str_split (F.args_str_split_2 _ _) (meets_str_split_not_found x ⟨#[c]⟩ t u h1 hy hf)
        (fin [(x, t)] s.toks ((if_neg (ne_true_of_eq_false h1)).trans (if_pos hf)).symm)
  · exact call_meets F.slot_str_split (typeIs_str _ _ _) F.entry_str_split (F.args_str_split_2 _ _) (meets_str_split_cannot_occur x ⟨#[c]⟩ t u h1)
      (fin [(x, t)] s.toks (if_pos h1).symm)
end Mine
end
section
namespace Mine
open PySem PySem.W PyProof.Rows PySem.Calls
variable {n : Nat} {ρ ρ' ρ₀ : Rho} {σ σ' : H} {s s' : Shared} {h h' h₀ : Heap} {A : Around} {E : Value → Shared → Prop} {sc : Scope} {ns : List Str} {env : Env} {f : Fm} {a b c : X} {W : Addr → Prop}
theorem attrBase_plain {o : Expr} {attr : Str} {whole : Sem Value} (h : noCall o = true) : attributeBase o attr env whole = whole := by
  cases o <;> first | rfl | (exact nomatch h)
theorem meth_ok {o : Expr} {name : Str} {q p : Pos} {args : List Expr} {Q : Value → Shared → Prop} (hn : noCall o = true) (hl : args.length < 30) (hq : (q.endLine == p.line) = true) (hst : (backTo p (starEach args env)).any (·.1) = false)
    (hh : wpAny (model C.prog C.w) A (eval o env) (fun ov s₁ => ∀ pl, wpAny (model C.prog C.w) A (getMethod ov name pl) (fun fx s₂ => wpAny (model C.prog C.w) A (callWith p fx.1 fx.2 (backTo p (starEach args env)) []) Q E s₂) E s₁) E s) :
    wpAny (model C.prog C.w) A (eval (.Call (.Attribute o name q) args [] p) env) Q E s := by
  have e : eval (.Call (.Attribute o name q) args [] p) env = (do
    let ov ← attributeBase o name env (eval o env)
    standAt q.atName
    methodCall o name q p env ov (args.length + 0) (backTo p (starEach args env)) []) := rfl
  rw [e, attrBase_plain hn]
  refine wpAny_bind (wpAny_mono hh (fun ov s₁ h₁ => wpAny_bind (wpAny_standAt ?_)) fun _ _ e => e)
  have few : methodCallForm (args.length + 0) (backTo p (starEach args env)) [] = true := by
    unfold methodCallForm
    have h1 : (backTo p (starEach args env)).all (fun x => !x.1) = true := by
      rw [List.all_eq_true]
      intro x hx
      have := List.any_eq_false.mp hst x hx
      cases q : x.1
      · rfl
      · exact absurd q this
    simp only [h1, List.all_nil, List.isEmpty_nil, if_true, Nat.add_zero, Bool.true_and, decide_eq_true_eq]
    exact hl
  unfold methodCall
  rw [few]
  refine wpAny_bind (wpAny_holding (wpAny_mono (h₁ _) (fun fx s₂ h₂ => ?_) fun _ _ e => e))
  obtain ⟨fv, first⟩ := fx
  have e2 : methodCallPos true o env q p = pure p := by
    unfold methodCallPos
    rw [hq]; rfl
  show wpAny _ _ (methodCallPos true o env q p >>= fun cp => callWith cp fv first _ _) _ _ _
  rw [e2]
  exact wpAny_bind (wpAny_pure h₂)
noncomputable def smId : SM → String
  | .find => "str.find" | .split => "str.split" | .join => "str.join" | .append => "list.append" | .insert => "list.insert"
theorem getm_ok {m : SM} {x : AD} {v : Value} {pl : Sem Bool} {Q : Value × List Value → Shared → Prop} (X : St C ρ σ s) (e : hasM σ m x = true) (hv : VR ρ s.heap x v) (q : Q (.builtin (smId m), [v]) s) : wpAny (model C.prog C.w) A (getMethod v (smName m) pl) Q E s := by
  have str : ∀ {id : String} {name : Str}, (∃ y, x = .str y) → Slot "str" name id → typeOf (.builtin id) = pure (.type "method_descriptor") → Q (.builtin id, [v]) s → wpAny (model C.prog C.w) A (getMethod v name pl) Q E s := fun {id name} e sl ty q => by
    obtain ⟨y, rfl⟩ := e
    obtain ⟨t, rfl⟩ := hv.ofStr
    exact GM.of _ (typeIs_str _ _ _) sl ty GM.noRef q
  have lst : ∀ {id : String} {name : Str}, (∃ k, x = .ref k ∧ isListAt σ k = true) → Slot "list" name id → typeOf (.builtin id) = pure (.type "method_descriptor") → Q (.builtin id, [v]) s → wpAny (model C.prog C.w) A (getMethod v name pl) Q E s := fun {id name} e sl ty q => by
    obtain ⟨k, rfl, e1⟩ := e
    unfold isListAt at e1
    cases hσ : σ[k]? with
    | none => rw [hσ] at e1; cases e1
    | some ob =>
      rw [hσ] at e1
      cases ob with
      | acc _ _ => cases e1
      | list xs =>
        rw [VR] at hv
        obtain ⟨p, hp, rfl⟩ := hv
        obtain ⟨p', hp', _, vs, ⟨j, g⟩, rs⟩ := X.hr.obs k _ hσ
        rw [hp] at hp'; cases hp'
        exact getMethod_builtin ⟨_, g, rfl⟩ F.plainAttrs_list sl ty (fun a z => by cases z; exact ⟨_, g, rfl⟩) q
  cases m with
  | find => exact str (by cases x <;> first | exact ⟨_, rfl⟩ | cases e) F.slot_str_find F.type_str_find q
  | split => exact str (by cases x <;> first | exact ⟨_, rfl⟩ | cases e) F.slot_str_split F.type_str_split q
  | join => exact str (by cases x <;> first | exact ⟨_, rfl⟩ | cases e) F.slot_str_join F.type_str_join q
  | append => exact lst (by cases x <;> first | exact ⟨_, rfl, e⟩ | cases e) F.slot_list_append F.type_list_append q
  | insert => exact lst (by cases x <;> first | exact ⟨_, rfl, e⟩ | cases e) F.slot_list_insert F.type_list_insert q
theorem insert_eq (l : List Value) (k : Nat) (y : Value) : (l.toArray.extract 0 k).push y ++ l.toArray.extract k = (l.take k ++ y :: l.drop k).toArray := by
  refine Array.toList_inj.mp ?_
  simp only [Array.toList_append, Array.toList_push, List.append_assoc]
  simp
  exact List.take_of_length_le (by simp)
theorem fits_nat {z : Int} {k : Nat} (e : z = (k : Int)) (h : k ≤ 5000) : Builtin.List.listFitsIndex z = true := fitsIndex_of (by lia) (by lia)
theorem insert_plain {l : Addr} {vs : List Value} {k : Nat} {z : Int} {t : Tok} {y : Value} {Q : Value → Shared → Prop} (hl : s.heap.PlainList l (List.toArray vs)) (hzk : z = (k : Int)) (hk : k ≤ vs.length) (hs : vs.length ≤ 5000)
    (hQ : ∀ h', h'.PlainList l (List.toArray (vs.take k ++ y :: vs.drop k)) → Heap.SameBut l s.heap h' → Q .none { s with heap := h' }) : wpAny (model C.prog C.w) A (call (.builtin "list.insert") [.ref l, .int z t, y]) Q E s := by
  obtain ⟨m, ho⟩ := hl
  have hfx := fits_nat hzk (Nat.le_trans hk hs)
  have hz : vs.toArray.size ≤ sizeLine := by simp only [List.size_toArray, sizeLine]; lia
  refine call_meets F.slot_list_insert ⟨_, ho, rfl⟩ F.entry_list_insert (F.args_list_insert_3 _ _ _) (AutoSeq1.list_insert_list_int_val_1 l _ m z t y (by simp [hfx]) hz) ⟨ho, hQ _ ⟨m + 1, ?_⟩ (Heap.SameBut.update ..)⟩
  have e : Obj.mapSeq (fun xs : Array Value => have k := if z < 0 then (z + (xs.size : Int)).toNat else min z.toNat xs.size; (xs.extract 0 k).push y ++ xs.extract k) { cls := .type "list", dict := Option.none, data := .seq vs.toArray m, slots := #[] } =
      { cls := .type "list", data := .seq (vs.take k ++ y :: vs.drop k).toArray (m + 1) } := by
    have hm : min z.toNat vs.toArray.size = k := by simp; lia
    have hn : ¬ (z < 0) := by lia
    simp only [Obj.mapSeq, if_neg hn, hm, insert_eq]
    simp
    lia
  rw [Heap.get?_update_self _ ho (by rw [e]; rfl), e]
theorem sm_ok {m : SM} {x : AD} {v : Value} {xs : List AD} {vs : List Value} {r : AD} (N : Now C n sc ns env A f ρ σ s) (e : SmR σ m x xs r σ') (hx : VR ρ s.heap x v) (hv : VRs ρ s.heap xs vs) :
    wpAny (model C.prog C.w) A (call (.builtin (smId m)) (v :: vs)) (PV C ρ s σ' (.d r)) E s := by
  refine shut fun G kk => ?_
  cases (e) with
  | find =>
    obtain ⟨t, rfl⟩ := hx.ofStr
    obtain ⟨w, rfl, w1⟩ := hv.one
    obtain ⟨u, rfl⟩ := w1.ofStr
    refine kk (SC.find ?_)
    rw [find0_eq]
    exact PV.int N.st
  | find2 =>
    obtain ⟨t, rfl⟩ := hx.ofStr
    obtain ⟨w, w', rfl, w1, w2⟩ := hv.two
    obtain ⟨u, rfl⟩ := w1.ofStr
    obtain ⟨u', rfl⟩ := w2.ofInt
    refine kk (SC.find3 ?_)
    rw [find3_eq]
    exact PV.int N.st
  | split h =>
    obtain ⟨t, rfl⟩ := hx.ofStr
    obtain ⟨w, rfl, w1⟩ := hv.one
    obtain ⟨u, rfl⟩ := w1.ofStr
    exact kk (split_ok N.st h)
  | join h =>
    rename_i x l
    obtain ⟨t, rfl⟩ := hx.ofStr
    obtain ⟨w, rfl, w1⟩ := hv.one
    rw [VR] at w1
    obtain ⟨ad, us, rfl, g, _, rs⟩ := w1
    refine kk (join_list g (by simpa using strs_of rs) (by lia) fun t' k => ?_)
    have ej : Txt.join x l = ⟨(joinL x.cps.toList (l.map (·.cps.toList))).toArray⟩ := by
      show Builtin.Str.glued x l = _
      rw [StrLaws.glued_eq_join, ← join_list_eq]
    rw [ej]
    exact PV.str N.st
  | append hσ h =>
    obtain ⟨w, rfl, w1⟩ := hv.one
    rw [VR] at hx
    obtain ⟨p, hp, rfl⟩ := hx
    obtain ⟨p', hp', e1, us, g, rs⟩ := N.st.hr.obs _ _ hσ
    rw [hp] at hp'; cases hp'
    have hz : us.toArray.size ≤ sizeLine := by have := rs.length; simp only [List.size_toArray, sizeLine]; lia
    refine kk (wpAny_list_append_plain g (fun h' hl' hs => ?_) hz)
    obtain ⟨X, S⟩ := N.st.setList (tk := s.toks) (vs := us ++ [w]) hσ hp hs (by simpa using hl') (rs.append (.cons w1 .nil))
    exact ⟨ρ, X, S, by show VR _ _ _ _; rw [VR]⟩
  | insert hσ h1 h2 =>
    obtain ⟨w, w', rfl, w1, w2⟩ := hv.two
    obtain ⟨u, rfl⟩ := w1.ofInt
    rw [VR] at hx
    obtain ⟨p, hp, rfl⟩ := hx
    obtain ⟨p', hp', e1, us, g, rs⟩ := N.st.hr.obs _ _ hσ
    rw [hp] at hp'; cases hp'
    have hl := rs.length
    refine kk (insert_plain g rfl (by lia) (by lia) fun h' hl' hs => ?_)
    obtain ⟨X, S⟩ := N.st.setList (tk := s.toks) hσ hp hs hl' ((rs.take _).append (.cons w2 (rs.drop _)))
    exact ⟨ρ, X, S, by show VR _ _ _ _; rw [VR]⟩
theorem e_sm {m : SM} {x r : AD} {xs : List AD} {σ1 σ2 σ3 : H} (ia : Ev n a f σ (.v (.d x)) σ1) (hm : hasM σ1 m x = true) (ib : Ev n b f σ1 (.l xs) σ2) (r3 : SmR σ2 m x xs r σ3) : Ev n (.sm m a b) f σ (.v (.d r)) σ3 := fun Y sc ns t env A ρ s ok N => by
  intro E
  have o1 := and1 ok
  have o2 := and1 o1
  have o3 := and1 o2
  have hst := noStar env t.p b _ _ _ (and2 o3)
  show wpAny _ _ (eval (.Call (.Attribute (un sc ns a (t.k 0)).nd.toE (smName m) t.q) (un sc ns b (t.k 1)).nd.toL [] t.p) env) _ _ _
  refine meth_ok (and2 o1) (of_decide_eq_true (and2 ok)) (and2 o2) hst (wpAny_mono (ia Y _ _ _ _ _ _ _ (and1 o3) N E) (fun ov s₁ hv pl => ?_) fun _ _ e => e)
  obtain ⟨ρ₁, N₁, S₁, v1, _⟩ := hv.split N
  refine getm_ok N₁.st hm v1 ?_
  refine callWith_ok hst rfl (evalArgs_ok hst rfl (wpAny_mono (ib Y _ _ _ _ _ _ _ (and2 o3) N₁ t.p E) (fun vs s₂ hv => wpAny_pure ?_) fun _ _ e => e))
  obtain ⟨ρ₂, X, S₂, v2⟩ := hv
  exact ⟨fun Q q => wpAny_pure (q _), wpAny_mono (sm_ok (N₁.step X S₂) r3 (v1.mono S₂ WOk.no N₁.st.inv.tabs0) v2) (fun _ _ q => PV.trans (S₁.trans S₂) q) fun _ _ e => e⟩
theorem isAcc_inv {k : Nat} (e : isAcc σ k = true) : ∃ xs m, σ[k]? = some (.acc xs m) := by
  unfold isAcc at e
  cases hσ : σ[k]? with
  | none => rw [hσ] at e; cases e
  | some ob =>
    rw [hσ] at e
    cases ob with
    | acc xs m => exact ⟨xs, m, rfl⟩
    | list _ => cases e
theorem e_am {g : FN} {k : Nat} {r : AD} {xs : List AD} {σ1 σ2 σ3 : H} (ia : Ev n a f σ (.v (.d (.ref k))) σ1) (hm : isAcc σ1 k = true) (ib : Ev n b f σ1 (.l xs) σ2) (r3 : CallS n (.fn g) (.ref k :: xs) .none σ2 r σ3) : Ev n (.am g a b) f σ (.v (.d r)) σ3 := fun Y sc ns t env A ρ s ok N => by
  intro E
  have o1 := and1 ok
  have o2 := and1 o1
  have o3 := and1 o2
  have o4 := and1 o3
  have hst := noStar env t.p b _ _ _ (and2 o4)
  show wpAny _ _ (eval (.Call (.Attribute (un sc ns a (t.k 0)).nd.toE (fName g) t.q) (un sc ns b (t.k 1)).nd.toL [] t.p) env) _ _ _
  refine meth_ok (and2 o1) (of_decide_eq_true (and2 ok)) (and2 o2) hst (wpAny_mono (ia Y _ _ _ _ _ _ _ (and1 o4) N E) (fun ov s₁ hv pl => ?_) fun _ _ e => e)
  obtain ⟨ρ₁, N₁, S₁, v1, _⟩ := hv.split N
  obtain ⟨ys, m, hσ⟩ := isAcc_inv hm
  rw [VR] at v1
  obtain ⟨p, hp, rfl⟩ := v1
  refine Y.meth A n ρ₁ σ1 s₁ k p ys m g pl _ _ N₁.ac N₁.st hp hσ (and2 o3) ?_
  refine callWith_ok hst rfl (evalArgs_ok hst rfl (wpAny_mono (ib Y _ _ _ _ _ _ _ (and2 o4) N₁ t.p E) (fun vs s₂ hv => wpAny_pure ?_) fun _ _ e => e))
  obtain ⟨ρ₂, X, S₂, v2⟩ := hv
  have N₂ := N₁.step X S₂
  obtain ⟨w1, w2⟩ := r3 Y A ρ₂ s₂ (fVal g) (.ref p.1 :: vs) .none E N₂.ac N₂.st rfl (.cons (by rw [VR]; exact ⟨p, S₂.idx hp, rfl⟩) v2) nofun
  exact ⟨w1, wpAny_mono w2 (fun _ _ q => PV.trans (S₁.trans S₂) q) fun _ _ e => e⟩
structure ScopeOk (sc : Scope) (ns : List Str) : Prop where
  kind : sc.kind = .function
  gen : sc.isGenerator = false
  co : sc.isCoroutine = false
  nd : ns.Nodup
  at_ : ∀ x ∈ ns, (sc.names.lookup x = some .local ∨ sc.names.lookup x = some .cell) ∧ x ≠ "__debug__" ∧ x ≠ "__classdict__"
  free : ∀ x, sc.names.lookup x ≠ some .free
theorem ScopeOk.of (e : scopeOkB sc ns = true) : ScopeOk sc ns := by
  unfold scopeOkB at e
  simp only [Bool.and_eq_true, List.all_eq_true, bne_iff_ne, ne_eq, Bool.not_eq_true', Bool.or_eq_true] at e
  obtain ⟨⟨⟨⟨⟨h1, h2⟩, h3⟩, h4⟩, h5⟩, h6⟩ := e
  refine ⟨eq_of_beq h1, h2, h3, nodupB_ok h4, fun x hx => ?_, fun x hx => h6 _ (mem_of_lookup (α := Unit) hx) rfl⟩
  obtain ⟨⟨k, d⟩, e⟩ := h5 x hx
  exact ⟨k.imp kindIs_ok kindIs_ok, d, e⟩
theorem LayT.at {key : Option AV} {kv : Value} {g : Fm} {w : List Value} {L : Addr} (hk : ∀ k, key = some k → VV C ρ h L k kv) (l : LayT key kv g w) : ∀ {i : Nat} {a : AV}, g[i]? = some (some a) → ∃ v, w[i]? = some v ∧ VV C ρ h L a v := by
  induction l with
  | nil k => intro i a e; rw [List.getElem?_replicate] at e; split at e <;> cases e
  | zero t r ih => intro i a e; cases i with
    | zero => cases e; exact ⟨_, rfl, by show VR _ _ _ _; rw [VR]; exact ⟨_, rfl⟩⟩
    | succ i => exact ih e
  | non r ih => intro i a e; cases i with
    | zero => cases e; exact ⟨_, rfl, by show VR _ _ _ _; rw [VR]⟩
    | succ i => exact ih e
  | key q r ih => intro i a e; cases i with
    | zero => cases e; exact ⟨_, rfl, hk _ q⟩
    | succ i => exact ih e
theorem lay_at {key : Option AV} {kv : Value} {g : Fm} {w : List Value} {L : Addr} (hk : ∀ k, key = some k → VV C ρ h L k kv) (l : LayT key kv g w) : ∀ {xs : List AD} {vs : List Value}, VRs ρ h xs vs → ∀ {i : Nat} {a : AV}, (xs.map (fun x => some (AV.d x)) ++ g)[i]? = some (some a) → ∃ v, (vs ++ w)[i]? = some v ∧ VV C ρ h L a v
  | [], vs, e, i, a, q => by rw [VRs] at e; subst e; exact l.at hk q
  | x :: xs, vs, e, i, a, q => by
    obtain ⟨v, ws, rfl, e1, e2⟩ := VRs.cons_inv e
    cases i with
    | zero => cases q; exact ⟨v, rfl, e1⟩
    | succ i => exact lay_at hk l e2 q
theorem cellsFrom_some {x : Str} : ∀ (names : List (Str × NameKind)) (m : Nat) (acc : List (Str × Addr)), (names.lookup x = some .cell ∨ (acc.lookup x).isSome = true) → ((cellsFrom m names acc).lookup x).isSome = true
  | [], m, acc, e => by rcases e with e | e; cases e; exact e
  | (y, k) :: r, m, acc, e => by
    unfold cellsFrom
    have up : (acc.lookup x).isSome = true → (((y, m) :: acc).lookup x).isSome = true := fun z => by
      rw [List.lookup_cons]; split; rfl; exact z
    cases hk : (k == NameKind.cell) with
    | true =>
      rw [if_pos rfl]
      refine cellsFrom_some r _ _ ?_
      rcases e with e | e
      · rw [List.lookup_cons] at e
        cases q : (x == y) with
        | true => right; rw [List.lookup_cons, q]; rfl
        | false => rw [q] at e; exact .inl e
      · exact .inr (up e)
    | false =>
      rw [if_neg (by decide)]
      refine cellsFrom_some r _ _ ?_
      rcases e with e | e
      · rw [List.lookup_cons] at e
        cases q : (x == y) with
        | true => rw [q] at e; cases e; cases hk
        | false => rw [q] at e; exact .inl e
      · exact .inr e
theorem bindL_out {kf : Str → Option NameKind} {x : Str} : ∀ (b : List (Str × Value)) (m : Str → Option Value), (∀ p ∈ b, p.1 ≠ x) → bindL kf b m x = m x ∧ bindC kf b m x = m x
  | [], m, _ => ⟨rfl, rfl⟩
  | (y, v) :: r, m, hx => by
    have ne : x ≠ y := fun z => hx _ (.head _) z.symm
    have ih := fun m => bindL_out (kf := kf) r m fun p hp => hx p (.tail _ hp)
    unfold bindL bindC
    refine ⟨(ih _).1.trans ?_, (ih _).2.trans ?_⟩
    · split
      · exact if_neg ne
      · rfl
    · split
      · rfl
      · exact if_neg ne
theorem bind_at {kf : Str → Option NameKind} : ∀ (ns : List Str) (us : List Value) (m : Str → Option Value), ns.Nodup → ∀ (i : Nat) x v, ns[i]? = some x → us[i]? = some v →
    (kf x = some .local → bindL kf (ns.zip us) m x = some v) ∧ (kf x ≠ some .local → bindC kf (ns.zip us) m x = some v)
  | [], us, m, _, i, x, v, h1, _ => by simp at h1
  | y :: ns, [], m, _, i, x, v, _, h2 => by simp at h2
  | y :: ns, u :: us, m, hd, i, x, v, h1, h2 => by
    obtain ⟨h3, h4⟩ := List.nodup_cons.mp hd
    cases i with
    | zero =>
      simp at h1 h2; subst h1; subst h2
      have out : ∀ p ∈ ns.zip us, p.1 ≠ y := fun p hp z => h3 (z ▸ (List.of_mem_zip hp).1)
      show (_ → bindL kf ((y, u) :: ns.zip us) m y = _) ∧ (_ → bindC kf ((y, u) :: ns.zip us) m y = _)
      unfold bindL bindC
      refine ⟨fun k => ?_, fun k => ?_⟩
      · rw [(bindL_out _ _ out).1, if_pos k]; exact if_pos rfl
      · rw [(bindL_out _ _ out).2, if_neg k]; exact if_pos rfl
    | succ i =>
      simp at h1 h2
      show (_ → bindL kf ((y, u) :: ns.zip us) m x = _) ∧ (_ → bindC kf ((y, u) :: ns.zip us) m x = _)
      unfold bindL bindC
      exact ⟨(bind_at ns us _ h4 i x v h1 h2).1, (bind_at ns us _ h4 i x v h1 h2).2⟩
theorem AC.deep {m : Nat} (a : AC C (m + 1) A h) (F : FrOk C h env) : AC C m (A.deeper env) h := by
  obtain ⟨l, e, k⟩ := a.fr
  refine ⟨a.hd, ?_, ?_, env :: l, ?_, fun x hx => ?_⟩
  · have := a.depth; show A.depth + 1 + 4 * m + 120 ≤ 990; lia
  · have := a.units; show A.units + 3 + 100 * m + 200 ≤ 9900; lia
  · show A.frames.map (env :: ·) = _; rw [e]; rfl
  · rcases List.mem_cons.mp hx with rfl | hx
    · exact F
    · exact k x hx
theorem deep_ne {m : Nat} (a : AC C (m + 1) A h) : (A.deeper env).frames ≠ some [] := by
  obtain ⟨l, e, _⟩ := a.fr
  show A.frames.map (env :: ·) ≠ _
  rw [e]; simp
theorem enter_fn (T : TopOk C) {g : FN} (G : FnAt C g) {xs : List AD} {key : Option AV} {vs : List Value} {kv : Value} {Q : Value → Shared → Prop} (hb : bindF g xs key = some f)
    (a : AC C (n + 1) A s.heap) (X : St C ρ σ s) (hv : VRs ρ s.heap xs vs) (hk : ∀ k, key = some k → VV C ρ s.heap s.heap.objs.size k kv) (hg : fVal g = .ref (fAddr g))
    (hw : ∀ env s₁, Now C n (scopeOf g) (slotsOf g) env (A.deeper env) f ρ σ s₁ → OwnOk C env ρ s₁.heap → Stp C NoW ρ s.heap ρ s₁.heap → (∀ b, Own env b → s.heap.get? b = Option.none) → env.frame = some env.locals →
      wpAny (model C.prog C.w) (A.deeper env) (execs (unOf g).nd.toB env) (fun fl s' => Q (match fl with | .ret v => v | _ => .none) s') (fun e s' => wpAny (model C.prog C.w) (A.deeper env) (leaving env e) (fun _ s'' => E e s'') (fun e' s'' => E e' s'') s') s₁) :
    (∀ Q, (∀ k, Q k s) → wpAny (model C.prog C.w) A (keeperOf (fVal g)) Q E s) ∧ wpAny (model C.prog C.w) A (PySem.call (fVal g) vs (kwL key kv)) Q E s := by
  have S := ScopeOk.of G.sc
  have ho' := X.inv.keep _ _ G.ho
  have hlen := G.len hb
  obtain ⟨gs, w, hf, hL, hul, hB⟩ := G.bind hb s vs kv X.inv.keep hv.length
  have hat := fun {h'} (S : Stp C NoW ρ s.heap ρ h') {i a} (q : f[i]? = some (some a)) => lay_at (fun k e => (hk k e).mono S X.hr WOk.no X.inv.tabs0 lim_id fun _ q => q.elim) hL (hv.mono S WOk.no X.inv.tabs0) (i := i) (a := a) (hf ▸ q)
  generalize vs ++ w = us at *
  rw [hg]
  refine ⟨fun Q q => ?_, wpAny_call (codeAny_call_function (by have := a.depth; show A.depth < 1000; lia) ho' rfl S.co S.gen (congrArg FuncBody.stmts G.tx) (G.code.keeps X.inv.keep) (hB _ _ _ _ ?_))⟩
  · unfold keeperOf
    exact wpAny_bind (wpAny_load ho' (wpAny_pure (q _)))
  refine wpAny_newFunctionEnv_cells S.kind (fun p hp => ?_) fun env he s₁ I => ?_
  · have hm := (List.of_mem_zip hp).1
    have := (S.at_ p.1 (List.mem_of_mem_take hm)).1
    rcases this with z | z
    · exact .inl z
    · exact .inr ⟨z, cellsFrom_some _ _ _ (.inl z)⟩
  have hLs : env.locals = s.heap.objs.size := by rw [he]; rfl
  have hes : env.scope = (scopeOf g) := by rw [he]; rfl
  have hec : env.cells = cellsFrom (s.heap.objs.size + 1) (scopeOf g).names [] := by rw [he]; rfl
  have keep := I.toInCall.keep
  obtain ⟨h₁, tk, rfl⟩ := I.toInCall.same
  have hLn : s.heap.get? env.locals = Option.none := by rw [hLs]; exact get_size _
  have X₁ : St C ρ σ { s with heap := h₁, toks := tk } := X.quiet keep
  have S₁ : Stp C NoW ρ s.heap ρ h₁ := (LStp.of_keeps keep).stp
  have fresh : ∀ b, env.locals ≤ b → s.heap.get? b = Option.none := fun b hb => by
    cases q : s.heap.get? b with
    | none => rfl
    | some o => have := Heap.lt_size q; rw [hLs] at hb; exact absurd this (Nat.not_lt.mpr hb)
  have nofoot : ∀ b, env.locals ≤ b → ¬ Foot ρ b := fun b hb q => by
    obtain ⟨o, e, _⟩ := X.hr.solid q
    rw [fresh b hb] at e; cases e
  have kindOf : ∀ x, env.kindOf x = (scopeOf g).names.lookup x := fun x => by unfold Env.kindOf; rw [hes]
  have look : ∀ (i : Nat) x, (slotsOf g)[i]? = some x → ∃ o, Look C env h₁ x o ∧ ∀ v, us[i]? = some v → o = some v := fun i x hx => by
    have hm := List.mem_of_getElem? hx
    obtain ⟨hk, _, hcd⟩ := S.at_ x hm
    have nd : ((slotsOf g).take us.length).Nodup := S.nd.sublist (List.take_sublist _ _)
    have at_ : ∀ v, us[i]? = some v → ((slotsOf g).take us.length)[i]? = some x := fun v hv => by
      have := (List.getElem?_eq_some_iff.mp hv).1
      rw [List.getElem?_take_of_lt this]; exact hx
    rcases hk with hk | hk
    · refine ⟨_, .inl ⟨by rw [kindOf]; exact hk, _, I.toInCall.ns, rfl⟩, fun v hv => ?_⟩
      exact (bind_at _ _ _ nd i x v (at_ v hv) hv).1 (by rw [kindOf]; exact hk)
    · have hs := cellsFrom_some (x := x) (scopeOf g).names (s.heap.objs.size + 1) [] (.inl hk)
      obtain ⟨c, hc⟩ := Option.isSome_iff_exists.mp hs
      rw [← hec] at hc
      have hcm : (x, c) ∈ env.cells := PySem.mem_of_lookup hc
      have := I.above x c hcm
      refine ⟨_, .inr ⟨.inl (by rw [kindOf]; exact hk), hcd, c, hc, I.cell x c hc, X.inv.fresh (fresh c (Nat.le_of_lt this))⟩, fun v hv => ?_⟩
      exact (bind_at _ _ _ nd i x v (at_ v hv) hv).2 (by rw [kindOf, hk]; nofun)
  have V : EnvOk C (scopeOf g) (slotsOf g) env f ρ h₁ := {
    kind := by rw [hes]; exact S.kind
    glob := by rw [he]; rfl
    bi := by rw [he]; rfl
    kk := fun x k _ e => by rw [kindOf]; exact kindIs_ok e
    len := hlen
    slot := fun i x hx => by
      obtain ⟨o, l, k⟩ := look i x hx
      refine ⟨o, l, fun a ha => ?_⟩
      obtain ⟨v, e1, e2⟩ := hat S₁ ha
      exact ⟨v, k v e1, by rw [hLs]; exact e2⟩
    nd := S.nd
    dbg := fun x hx => beq_eq_false_iff_ne.mpr (S.at_ x hx).2.1
    lam := fun e => by obtain ⟨l1, l2⟩ := G.lam e; exact ⟨by rw [he]; exact congrArg Value.ref l1, by rw [he]; exact l2⟩
    off := nofoot _ (Nat.le_refl _)
    big := X.inv.fresh hLn
    lt := let ⟨o, _, _, e, _⟩ := I.toInCall.ns; ⟨o, e⟩ }
  have own_ge : ∀ b, Own env b → env.locals ≤ b := fun b q => by
    rcases q with rfl | ⟨x, hc, _⟩
    · exact Nat.le_refl _
    · exact Nat.le_of_lt (I.above x b (PySem.mem_of_lookup hc))
  have O : OwnOk C env ρ h₁ := {
    ge := own_ge
    new := fun b q => X.inv.fresh (fresh b (own_ge b q))
    ok := fun b q => by
      rcases q with rfl | ⟨x, hc, _⟩
      · obtain ⟨o, _, _, e, d, _⟩ := I.toInCall.ns
        exact ⟨o, e, by rw [d]; rfl⟩
      · obtain ⟨o, e, d⟩ := I.cell x b hc
        exact ⟨o, e, by rw [d]; rfl⟩
    off := fun b q => nofoot b (own_ge b q)
    inj := fun x y c hx hy => name_of_addr I.apart (PySem.mem_of_lookup hx) (PySem.mem_of_lookup hy)
    ne := fun x c hx z => by have := I.above x c (PySem.mem_of_lookup hx); rw [z] at this; exact Nat.lt_irrefl _ this
    cell := fun x => by rw [kindOf]; exact S.free x }
  have F : FrOk C h₁ env := ⟨by rw [hes]; exact S.kind, by rw [hes]; exact S.gen, by rw [hes]; exact S.co, by rw [he]; rfl, by rw [he]; rfl, env.locals, by
    obtain ⟨o, _, _, e, d, _⟩ := I.toInCall.ns
    exact ⟨o, by rw [he]; rfl, X.inv.fresh hLn, e, by rw [d]; rfl⟩⟩
  have N : Now C n (scopeOf g) (slotsOf g) env (A.deeper env) f ρ σ { s with heap := h₁, toks := tk } := ⟨X₁, V, (a.mono S₁).deep F, deep_ne a⟩
  refine ⟨T.nolimit.keeps X₁.inv.keep, codeAny_func ?_⟩
  exact hw env _ N O S₁ (fun b q => fresh b (own_ge b q)) (by rw [he]; rfl)
noncomputable def outV (l : FL) : AD := match l with | .ret d => d | .next => .none
theorem callF_fn {g : FN} {args : List AD} {key : Option AV} {f' : Fm} {l : FL} (hp : isPrim g = false) (hb : bindF g args key = some f) (h : Ev n (bodyF g) f σ (.g l f') σ') : CallS (n + 1) (.fn g) args key σ (outV l) σ' := fun Y A ρ s gv vs kv E a X hg hv hk => by
  have G := Y.fns g hp
  rw [show gv = fVal g from hg]
  refine enter_fn Y.top G hb a X hv hk (by cases g <;> first | rfl | cases hp) fun env s₁ N O S₁ hfr _ => ?_
  refine wpAny_mono (h Y _ _ _ _ _ _ _ G.ok N O _) (fun fl s₂ hf => ?_) fun _ _ e => e
  obtain ⟨ρ₂, X₂, S₂, V₂, O₂, hfl⟩ := hf
  have S₃ : Stp C NoW ρ s.heap ρ₂ s₂.heap := (S₁.own.trans S₂).weaken fun b o q e => by rewrite [hfr b q] at e; cases e
  cases l <;> cases fl <;> first | exact hfl.elim | skip
  · exact ⟨ρ₂, X₂, S₃, by show VR ρ₂ s₂.heap .none .none; rw [VR]⟩
  · exact ⟨ρ₂, X₂, S₃, hfl⟩
theorem exprCode {e : Expr} {QR : Result → Shared → Prop}
    (w : wpAny (model C.prog C.w) (A.deeper env) (eval e env) (fun v s' => QR (.ok (.ret v)) s') (fun e' s' => wpAny (model C.prog C.w) (A.deeper env) (leaving env e') (fun _ s'' => QR (.error e') s'') (fun e'' s'' => QR (.error e'') s'') s') s) :
    codeAny (model C.prog C.w) A (.expr e env) QR s := by
  refine codeAny_of_tree ?_
  show wpAny _ (A.deeper env) (do point; ret (← (eval e env).onRaise (leaving env))) _ _ s
  exact wpAny_bind (wpAny_point (wpAny_bind (wpAny_onRaise (wpAny_mono w (fun _ _ q => wpAny_pure q) fun _ _ q => q))))
theorem lam_binds {name qual : Str} {x : Str} {q : Pos} {body : Expr} {scope : Scope} {cl : List (Str × Addr)} {pm cdv ct v : Value} : bindArgs (lamFn name qual (oneArg x q) body scope cl pm cdv ct) ⟨[v], []⟩ = pure [(x, v)] := by
  have h : ([x].filter fun n => (([(x, v)] : List (Str × Value)).lookup n).isNone) = [] := by simp
  show (if (!(([x].filter fun n => (([(x, v)] : List (Str × Value)).lookup n).isNone)).isEmpty) = true then _ else _) = _
  rw [h]
  show (pure ([x].filterMap fun n => ((([(x, v)] : List (Str × Value)).lookup n).map fun w => (n, w))) : Sem _) = _
  have h2 : ([x].filterMap fun n => ((([(x, v)] : List (Str × Value)).lookup n).map fun w => (n, w))) = [(x, v)] := by simp
  exact congrArg _ h2
theorem callF_clo {body : X} {caps : List AD} {y d : AD} (h : Ev n body (frameC y caps) σ (.v (.d d)) σ') : CallS (n + 1) (.clo body caps) [y] .none σ d σ' := fun Y A ρ s gv vs kv E a X hg hv hk => by
  obtain ⟨v, rfl, hw⟩ := hv.one
  obtain ⟨fa, nm, qual, q, sc, cl, pm, c', ct, x, cs, t, rfl, e1, e2, hcode, e5, e6, e7, e8⟩ := hg
  have S := CompSc.of e5
  refine ⟨fun Q q => ?_, wpAny_call ?_⟩
  · unfold keeperOf
    refine wpAny_bind (wpAny_load e1 ?_)
    exact wpAny_pure (q _)
  refine codeAny_of_tree ?_
  show wpAny _ A.in1 (callAny (.ref fa) ⟨[v], []⟩) _ _ s
  simp only [callAny]
  refine wpAny_bind (wpAny_load e1 ?_)
  obtain ⟨c, oc, vs, tq, hc, hoc, hdc, hq⟩ := hcode
  cases hc
  simp only [callFunction, S.co, S.gen]
  refine wpAny_bind (m := field (.ref c') 1) (wpAny_field hoc hdc hq (wpAny_bind (wpAny_pure ?_)))
  rw [lam_binds]
  refine wpAny_bind (wpAny_pure ?_)
  refine wpAny_bind (wpAny_newFunctionEnv S.cell (fun p hp => ?_) (fun h₁ hns hsb => ?_) S.kind)
  · rw [List.mem_singleton] at hp; subst hp; exact S.loc
  have hL := get_size s.heap
  generalize hLe : s.heap.objs.size = L at *
  have keep : ∀ b o, s.heap.get? b = some o → h₁.get? b = some o := fun b o e => hsb.extBut b o (fun z => by rw [z, hL] at e; cases e) (Heap.get?_push_of_some _ e)
  have X₁ : St C ρ σ { s with heap := h₁, toks := s.toks + 1 } := X.quiet keep
  have S₁ : Stp C NoW ρ s.heap ρ h₁ := (LStp.of_keeps keep).stp
  have nf : ¬ Foot ρ L := fun q => by
    obtain ⟨o, e, _⟩ := X.hr.solid q
    rw [hL] at e; cases e
  have n0 := X.inv.fresh hL
  generalize he : newEnv sc L mainGlobals cl (qual ++ ".<locals>.") (some fa) (.ref c') Option.none builtinsNs = env
  have kindOf : ∀ z, env.kindOf z = sc.names.lookup z := fun z => by rw [← he]; rfl
  have hal : ∃ o, h₁.get? L = some o ∧ isDict o.data = true := let ⟨o, _, _, e, d, _⟩ := hns; ⟨o, e, by rw [d]; rfl⟩
  have V : EnvOk C sc (x :: cs) env (frameC y caps) ρ h₁ := {
    kind := by rw [← he]; exact S.kind
    glob := by rw [← he]; rfl
    bi := by rw [← he]; rfl
    kk := fun z k _ e => by rw [kindOf]; exact kindIs_ok e
    len := by simp [frameC, e7]
    slot := fun i z hz => by
      cases i with
      | zero =>
        simp at hz; subst hz
        refine ⟨some v, .inl ⟨by rw [kindOf]; exact S.loc, _, by rw [← he]; exact hns, by simp [List.lookup]⟩, fun a ha => ?_⟩
        simp [frameC] at ha; subst ha
        exact ⟨v, rfl, hw.mono S₁ WOk.no X.inv.tabs0⟩
      | succ i =>
        simp at hz
        have hi : i < caps.length := by rw [← e7]; exact (List.getElem?_eq_some_iff.mp hz).1
        obtain ⟨cc, w, f1, ⟨oc, f2, f3⟩, f4, f5, f6⟩ := e8 i z _ hz (List.getElem?_eq_getElem hi)
        have hcd : z ≠ "__classdict__" := (S.ok z (List.mem_of_getElem? hz)).2
        refine ⟨some w, .inr ⟨.inr (by rw [kindOf]; exact S.fr z (List.mem_of_getElem? hz)), hcd, cc, by rw [← he]; exact f1, ⟨oc, keep _ _ f2, f3⟩, f4⟩, fun a ha => ⟨w, rfl, ?_⟩⟩
        simp [frameC, List.getElem?_eq_getElem hi] at ha
        subst ha
        exact f6.mono S₁ WOk.no X.inv.tabs0
    nd := List.nodup_cons.mpr ⟨S.nx, S.nd⟩
    dbg := fun z hz => by
      rcases List.mem_cons.mp hz with rfl | hz
      · exact beq_eq_false_iff_ne.mpr S.n2
      · exact beq_eq_false_iff_ne.mpr (S.ok z hz).1
    lam := fun e => by unfold lamNs at e; cases e; exact absurd rfl S.n1
    off := by rw [← he]; exact nf
    big := by rw [← he]; exact n0
    lt := by obtain ⟨o, e, _⟩ := hal; exact ⟨o, by rw [← he]; exact e⟩ }
  have F : FrOk C h₁ env := ⟨by rw [← he]; exact S.kind, by rw [← he]; exact S.gen, by rw [← he]; exact S.co, by rw [← he]; rfl, by rw [← he]; rfl, L, by
    obtain ⟨o, e, d⟩ := hal
    exact ⟨o, by rw [← he]; rfl, n0, e, d⟩⟩
  have N : Now C n sc (x :: cs) env (A.deeper env) (frameC y caps) ρ σ { s with heap := h₁, toks := s.toks + 1 } := ⟨X₁, V, (a.mono S₁).deep F, deep_ne a⟩
  refine wpAny_bind (wpAny_enterFrame (Y.top.nolimit.keeps X₁.inv.keep) (by have := a.depth; show A.depth < 1000; lia) (wpAny_pure ⟨rfl, exprCode ?_⟩))
  exact wpAny_mono (h Y _ _ _ _ _ _ _ e6 N _) (fun _ _ q => PV.trans S₁ q) fun _ _ e => e
noncomputable abbrev accBases : List Value := [.type "list", .type "object"]
noncomputable abbrev accObj : Obj := excClassObj "_Accumulator" "_Accumulator" 128 127 [.type "list"] accBases true [] [] false Option.none Option.none (some (.ref 49)) Option.none (some (.str "_Accumulator" 241)) (some (.str "_Accumulator" 249)) (some (.bool true)) "list.__new__"
theorem TopOk.cls (T : TopOk C) : C.hk.get? 128 = some accObj := T.obj 33 rfl rfl
inductive AccNs (C : Cx) : Prop
  | mk (m : Str → Option Value) (hn : C.hk.Ns 127 m) (v : ∀ x, x ∉ accRest → m x = accFns.lookup x) : AccNs C
theorem TopOk.accNs (T : TopOk C) : AccNs C := by
  obtain ⟨m, hn, e⟩ := (T.nam 5 rfl : NsAt C.hk 127 _)
  obtain ⟨m', hn', e'⟩ := T.rest
  refine ⟨m, hn, fun x hx => ?_⟩
  cases hl : accFns.lookup x with
  | none => exact (hn.agree hn' x).trans (e' x hx hl)
  | some v =>
    obtain ⟨i, hi⟩ := List.getElem?_of_mem (PySem.mem_of_lookup hl)
    exact e i (v := some v) (show (accFns.map fun p => (p.1, some p.2))[i]? = _ by rw [List.getElem?_map, hi]; rfl)
theorem mro_list : mroOf (.type "list") = pure accBases := by rw [mroOf_type]; kernel_rfl
structure Pile (C : Cx) (s : Shared) (p : Addr × Addr) (vs : List Value) (m : Int) : Prop where
  keep : ∀ b o, C.hk.get? b = some o → s.heap.get? b = some o
  obj : ∃ k, s.heap.get? p.1 = some { cls := accCls, dict := some p.2, data := .seq (List.toArray vs) k, slots := #[] }
  dct : ∃ t, s.heap.Ns1 p.2 (fun x => if x = "_initial_size" then some (.int m t) else Option.none)
  ne : p.1 ≠ p.2
theorem St.pile {k : Nat} {p : Addr × Addr} {xs : List AD} {m : Int} (X : St C ρ σ s) (hp : ρ.l[k]? = some p) (hσ : σ[k]? = some (.acc xs m)) : ∃ vs, VRs ρ s.heap xs vs ∧ Pile C s p vs m := by
  obtain ⟨p', hp', e1, ⟨vs, j, g, rs⟩, t, g2⟩ := X.hr.obs k _ hσ
  rw [hp] at hp'; cases hp'
  exact ⟨vs, rs, X.inv.keep, ⟨j, g⟩, ⟨t, g2⟩, e1⟩
theorem Pile.special {p : Addr × Addr} {vs : List Value} {m : Int} {name : Str} {y : Option Value} {Q : Option Value → Shared → Prop} (T : TopOk C) (P : Pile C s p vs m) (hB : typeLookup (.type "list") name = pure y) (hr : name ∉ accRest)
    (q : Q (match accFns.lookup name with | some v => some v | .none => y) s) : wpAny (model C.prog C.w) A (specialOf (.ref p.1) name) Q E s := by
  have hC := T.cls
  obtain ⟨mN, hn, hm⟩ := T.accNs
  obtain ⟨k, hx⟩ := P.obj
  have hC' := P.keep _ _ hC
  have hn' := hn.keeps P.keep
  obtain ⟨hp, g, d, tk, os⟩ := s
  unfold specialOf
  refine wpAny_bind (wpAny_typeOf_ref hx ?_)
  refine wpAny_typeLookup_exc hC' hn' mro_list hB ?_
  rw [hm _ hr]
  exact q
theorem accMeth (T : TopOk C) : AccMeth C := fun A n ρ σ s k p xs m g pl E Q a X hp hσ hg q => by
  obtain ⟨vs, rs, P⟩ := X.pile hp hσ
  obtain ⟨j, hx⟩ := P.obj
  obtain ⟨t, hd1⟩ := P.dct
  have hd := hd1.ns
  have key : ∀ (name : Str) (f : Addr) (y : Option Value) (fo : Obj), C.hk.get? f = some fo → fo.cls = .type "function" → accFns.lookup name = some (.ref f) → name ∉ accRest → (name == "_initial_size") = false → typeLookup (.type "list") name = pure y → Q (.ref f, [.ref p.1]) s → wpAny (model C.prog C.w) A (getMethod (.ref p.1) name pl) Q E s := fun name f y fo ho hc h1 h2 h3 h4 q => by
    have ho' := P.keep _ _ ho
    unfold getMethod
    refine wpAny_bind (P.special T list_getattribute (by decide) ?_)
    show wpAny _ A (if (Manifest.canonical "list.__getattribute__" != "object.__getattribute__") = true then _ else _) Q E s
    rw [canon_list_getattribute, if_neg Bool.false_ne_true]
    refine wpAny_bind (P.special T list_getattr_none (by decide) ?_)
    refine wpAny_bind (P.special T h4 h2 ?_)
    rw [h1]
    refine wpAny_bind (wpAny_typeOf (T := "function") ⟨_, ho', hc⟩ ?_)
    refine wpAny_bind (wpAny_loadPart hx ?_)
    refine wpAny_bind (wpAny_nsGet hd ?_)
    rw [if_neg (beq_eq_false_iff_ne.mp h3)]
    exact wpAny_bind (wpAny_rule (wpAny_pure q))
  cases g <;> first | cases hg | skip
  · exact key _ 72 Option.none _ (T.obj 15 rfl rfl) rfl rfl (by decide) (by decide) (by rw [typeLookup_type, builtinLookup_eq_fast]; kernel_rfl) q
  · exact key _ 80 Option.none _ (T.obj 18 rfl rfl) rfl rfl (by decide) (by decide) (by rw [typeLookup_type, builtinLookup_eq_fast]; kernel_rfl) q
  · exact key _ 88 _ _ (T.obj 20 rfl rfl) rfl rfl (by decide) (by decide) F.slot_list_pop.lookup q
  · exact key _ 110 Option.none _ (T.obj 29 rfl rfl) rfl rfl (by decide) (by decide) (by rw [typeLookup_type, builtinLookup_eq_fast]; kernel_rfl) q
  · exact key _ 125 Option.none _ (T.obj 32 rfl rfl) rfl rfl (by decide) (by decide) (by rw [typeLookup_type, builtinLookup_eq_fast]; kernel_rfl) q
end Mine
end
section
namespace Mine
open PySem PySem.W PyProof.Rows PySem.Calls
variable {n : Nat} {ρ ρ' ρ₀ : Rho} {σ σ' : H} {s s' : Shared} {h h' h₀ : Heap} {A : Around} {E : Value → Shared → Prop} {sc : Scope} {ns : List Str} {env : Env} {f : Fm} {a b c : X} {W : Addr → Prop} {p : Addr × Addr} {vs : List Value} {m : Int}
theorem Pile.typeOf (P : Pile C s p vs m) {Q : Value → Shared → Prop} (q : Q accCls s) : wpAny (model C.prog C.w) A (PySem.typeOf (.ref p.1)) Q E s := by
  obtain ⟨k, hx⟩ := P.obj
  exact wpAny_typeOf_ref hx q
theorem Pile.sub (T : TopOk C) (P : Pile C s p vs m) {base : Value} {Q : Bool → Shared → Prop} (q : Q ((Value.ref 128 :: accBases).contains base) s) : wpAny (model C.prog C.w) A (isSubtype accCls base) Q E s := by
  have hC := T.cls
  have hC' := P.keep _ _ hC
  obtain ⟨hp, g, d, tk, os⟩ := s
  exact wpAny_isSubtype_exc hC' q
theorem Pile.check {id nm : String} {rest : List Value} {Q : Unit → Shared → Prop} (T : TopOk C) (P : Pile C s p vs m) (hsplit : splitId id = some ("list", nm)) (hkind : builtinKind id = some .slot ∨ builtinKind id = some .method)
    (ha : argsOk id ⟨.ref p.1 :: rest, []⟩) (q : Q () s) : wpAny (model C.prog C.w) A (checkBuiltinCall id ⟨.ref p.1 :: rest, []⟩) Q E s := by
  rcases hkind with hk | hk <;>
  · simp only [checkBuiltinCall, hk, hsplit]
    refine wpAny_bind ?_
    unfold isInstance
    refine wpAny_bind (P.typeOf (P.sub T ?_))
    have e : ((Value.ref 128 :: accBases).contains (.type "list")) = true := by decide
    rw [e]
    simp only [Bool.not_true, Bool.false_eq_true, if_false]
    cases hsig : Manifest.signature? id with
    | none => exact wpAny_pure q
    | some sig =>
      simp only [argsOk, hsig] at ha
      have h2 : Bind.checkArgs id sig ⟨.ref p.1 :: rest, []⟩ = pure () := ha
      show wpAny _ A (Bind.checkArgs id sig ⟨.ref p.1 :: rest, []⟩) Q E s
      rw [h2]; exact wpAny_pure q
theorem Pile.call {id nm : String} {b : Builtin} {rest : List Value} {Q : Value → Shared → Prop} (T : TopOk C) (P : Pile C s p vs m) (hsplit : splitId id = some ("list", nm)) (hkind : builtinKind id = some .slot ∨ builtinKind id = some .method) (hpl : plainId id = true)
    (hb : entryFor table id = some b) (ha : argsOk id ⟨.ref p.1 :: rest, []⟩) (hc : wpAny (model C.prog C.w) A.in1 (b ⟨.ref p.1 :: rest, []⟩) (fun fin s' => ∃ v, fin = .done (.ret v) ∧ Q v s') E s) :
    wpAny (model C.prog C.w) A (PySem.call (.builtin id) (.ref p.1 :: rest)) Q E s := by
  refine wpAny_call (codeAny_call_builtin hpl hb (P.check T hsplit hkind ha (wpAny_mono hc (fun fin s' h' => ?_) fun _ _ h' => h')))
  obtain ⟨v, rfl, hv⟩ := h'; exact hv
theorem Pile.callSpecial {name : Str} {id : String} {args : List Value} {Q : Option Value → Shared → Prop} (T : TopOk C) (P : Pile C s p vs m) (sl : Slot "list" name id) (hr : name ∉ accRest) (hf : accFns.lookup name = Option.none)
    (hcall : wpAny (model C.prog C.w) A (PySem.call (.builtin id) (.ref p.1 :: args)) (fun v => Q (some v)) E s) : wpAny (model C.prog C.w) A (callSpecial? (.ref p.1) name args) Q E s := by
  unfold callSpecial?
  refine wpAny_bind (P.special T sl.lookup hr ?_)
  rw [hf]
  refine wpAny_holding (wpAny_bind ?_)
  rw [sl.bind]
  first
    | exact wpAny_pure (wpAny_bind (wpAny_mono hcall (fun v s' h' => wpAny_pure h') fun _ _ h' => h'))
    | exact wpAny_bind (wpAny_pure (wpAny_bind (wpAny_mono hcall (fun v s' h' => wpAny_pure h') fun _ _ h' => h')))
theorem Pile.seqKey {k : Value} {name : Str} {Q : Value → Shared → Prop} (T : TopOk C) (P : Pile C s p vs m) (q : Q k s) : wpAny (model C.prog C.w) A (sequenceKey (.ref p.1) k name) Q E s := by
  unfold sequenceKey
  refine wpAny_bind (P.typeOf ?_)
  show wpAny _ _ (seqItemTypes.anyM (fun n => isSubtype accCls (.type n)) >>= _) _ _ _
  refine wpAny_bind ?_
  show wpAny _ _ ((isSubtype accCls (.type "collections.deque")) >>= _) _ _ _
  refine wpAny_bind (P.sub T ?_)
  have e : ((Value.ref 128 :: accBases).contains (.type "collections.deque")) = false := by decide
  rw [e]
  exact wpAny_pure (wpAny_pure q)
theorem accItem (T : TopOk C) : AccItem C := fun A n ρ σ s k p xs m vs a X hp hσ hv ho => by
  obtain ⟨vs', rs, P⟩ := X.pile hp hσ
  obtain ⟨j, hx⟩ := ho
  have P : Pile C s p vs m := ⟨P.keep, ⟨j, hx⟩, P.dct, P.ne⟩
  refine ⟨fun E Q q => ?_, fun i t v E Q h0 h1 hj q => ?_⟩
  · unfold getitemInPython
    refine wpAny_bind (P.special T list_getitem_lookup (by decide) ?_)
    exact wpAny_pure q
  · obtain ⟨jj, j1, j2⟩ := hj
    rcases seqIdx_inv j1 with ⟨k1, rfl⟩ | ⟨k1, _⟩
    · unfold getItem
      try with_reducible refine wpAny_holding ?_
      first | refine wpAny_bind (wpAny_pure ?_) | skip
      refine wpAny_bind (P.seqKey T ?_)
      refine wpAny_bind (P.callSpecial (name := Str.ofString "__getitem__") T F.slot_list_getitem (by decide) (by decide) (P.call T (nm := "__getitem__") (by decide +kernel) (by first | exact .inl (by decide +kernel) | exact .inr (by decide +kernel)) (by decide +kernel) entry_list_getitem (args_list_getitem _ _) ?_))
      have hfx := fitsIndex_of k1 (show i < 2 ^ 63 by lia)
      show wpAny _ _ (Builtin.List.listSubscript? (.int i t) >>= _) _ _ s
      refine wpAny_bind (wpAny_listSubscript_int hfx ?_)
      obtain ⟨jn, rfl⟩ := Int.eq_ofNat_of_zero_le k1
      have hx' : vs.toArray[jn]? = some v := by simpa using j2
      show wpAny _ _ ((seqItemAt p.1 jn >>= fun r => pure (r.map (jn, ·))) >>= _) _ _ s
      refine wpAny_bind (wpAny_bind (wpAny_seqItemAt hx rfl (wpAny_pure ?_)))
      rw [hx']
      first
        | exact wpAny_bind (wpAny_pure (wpAny_pure ⟨v, rfl, wpAny_pure q⟩))
        | exact wpAny_pure ⟨v, rfl, wpAny_pure q⟩
    · lia
end Mine
end
section
namespace Mine
open PySem PySem.W PyProof.Rows PySem.Calls
variable {n : Nat} {ρ ρ' ρ₀ : Rho} {σ σ' : H} {s s' : Shared} {h h' h₀ : Heap} {A : Around} {E : Value → Shared → Prop} {sc : Scope} {ns : List Str} {env : Env} {f : Fm} {a b c : X} {W : Addr → Prop} {p : Addr × Addr} {vs : List Value} {m : Int}
  {g : Array GenState} {d : Drawn} {t : Nat} {os : OsState}
namespace Sup
theorem mro : mroOf (.type "super") = pure [.type "super", .type "object"] := by rw [mroOf_type]; kernel_rfl
theorem lookNew : typeLookup (.type "super") "__new__" = pure (some (.builtin "super.__new__")) := by rw [typeLookup_type, builtinLookup_eq_fast]; kernel_rfl
theorem slotInit : Slot "super" "__init__" "super.__init__" := .of (owner := "super") (n := "__init__") (by rw [typeLookup_type, builtinLookup_eq_fast]; kernel_rfl) (by decide +kernel) (by decide +kernel) (by decide +kernel)
  (by first | exact .inl (by decide +kernel) | exact .inr (by decide +kernel)) (by rw [isSubtype_type]; kernel_rfl)
theorem called : TypeCalled "super" "super.__new__" "super.__init__" :=
  ⟨by decide +kernel, by decide +kernel, ⟨_, _, mro⟩, madeBy_type mro lookNew (by decide +kernel), by decide +kernel, by rw [isSubtype_type]; kernel_rfl, slotInit⟩
theorem newCall (a b : Value) : checkBuiltinCall "super.__new__" ⟨[.type "super", a, b], []⟩ = pure () := by kernel_rfl
theorem initArgs (o a b : Value) : argsOk "super.__init__" ⟨[o, a, b], []⟩ := by unfold argsOk; kernel_rfl
theorem entryNew : entryFor table "super.__new__" = some Builtin.«super.__new__» := entryFor_of_tree (by kernel_rfl)
theorem entryInit : entryFor table "super.__init__" = some Builtin.«super.__init__» := entryFor_of_tree (by kernel_rfl)
theorem plainNew : plainId "super.__new__" = true := by decide +kernel
theorem slotGa : Slot "super" "__getattribute__" "super.__getattribute__" := .of (owner := "super") (n := "__getattribute__") (by rw [typeLookup_type, builtinLookup_eq_fast]; kernel_rfl) (by decide +kernel) (by decide +kernel) (by decide +kernel)
  (by first | exact .inl (by decide +kernel) | exact .inr (by decide +kernel)) (by rw [isSubtype_type]; kernel_rfl)
theorem entryGa : entryFor table "super.__getattribute__" = some Builtin.«super.__getattribute__» := entryFor_of_tree (by kernel_rfl)
theorem gaArgs (o a : Value) : argsOk "super.__getattribute__" ⟨[o, a], []⟩ := by unfold argsOk; kernel_rfl
theorem canonGa : (Manifest.canonical "super.__getattribute__" != "object.__getattribute__") = true := by decide +kernel
end Sup
noncomputable abbrev supObj (x : Addr) : Obj := { cls := .type "super", dict := none, data := .fields #[.ref 128, .ref x, .ref 128], slots := #[] }
noncomputable abbrev supRaw : Obj := { cls := .type "super", dict := none, data := .fields #[.none, .none, .none], slots := #[] }
theorem isType_cls {D : Addr} {oD : Obj} {cd : ClassData} {Q : Bool → Shared → Prop} (hD : h.get? D = some oD) (hd : oD.data = .cls cd) (hq : Q true ⟨h, g, d, t, os⟩) : wpAny (model C.prog C.w) A (isType (.ref D)) Q E ⟨h, g, d, t, os⟩ := by
  unfold isType loadHead
  refine wpAny_bind (wpAny_loadPart_at hD ?_)
  rw [hd]; exact wpAny_pure hq
theorem isType_seq {x : Addr} {ox : Obj} {vs : Array Value} {k : Nat} {Q : Bool → Shared → Prop} (hx : h.get? x = some ox) (hd : ox.data = .seq vs k) (hq : Q false ⟨h, g, d, t, os⟩) : wpAny (model C.prog C.w) A (isType (.ref x)) Q E ⟨h, g, d, t, os⟩ := by
  unfold isType loadHead
  refine wpAny_bind (wpAny_loadPart_at hx ?_)
  rw [hd]; exact wpAny_pure hq
theorem type_codes {T newId initId : String} {Bi : Builtin} {args : List Value} {Q Q₁ : Value → Shared → Prop} (ft : TypeCalled T newId initId)
    (hct : ∀ {Q' : Unit → Shared → Prop} {E' : Value → Shared → Prop}, Q' () s → wpAny (model C.prog C.w) A.in1 (checkTypeCall T ⟨args, []⟩) Q' E' s) (entryI : entryFor table initId = some Bi)
    (hnew : codeAny (model C.prog C.w) A.in1 (.call (.builtin newId) ⟨.type T :: args, []⟩) (wants Q₁ E) s)
    (hnext : ∀ obj s₁, Q₁ obj s₁ → s₁.TypeIs obj T ∧ argsOk initId ⟨obj :: args, []⟩ ∧
      wpAny (model C.prog C.w) A.in1.in1 (Bi ⟨obj :: args, []⟩)
        (fun fin s' => match fin with | .done f => wants (fun r s₂ => r = .none ∧ Q obj s₂) E (.ok f) s' | .again c' => c'.quiet = true ∧ codeAny (model C.prog C.w) A.in1 c' (wants (fun r s₂ => r = .none ∧ Q obj s₂) E) s')
        (fun e s' => wants (fun r s₂ => r = .none ∧ Q obj s₂) E (.error e) s') s₁) :
    wpAny (model C.prog C.w) A (PySem.call (.type T) args) Q E s := by
  obtain ⟨c, tl, hmro⟩ := ft.mro
  have hmade := ft.made
  have hsub := ft.sub
  refine wpAny_call (codeAny_of_tree ?_)
  show wpAny _ _ (callAny (.type T) _) _ _ _
  refine wpAny_pure ⟨Code.quiet_builtin _ (by decide +kernel), codeAny_builtin F.entry_type_call ?_⟩
  rw [Around.under_plain (weight_type_call_type T args []) rfl]
  have h1 := ft.notType
  have h2 := ft.canCreate
  repeat (any_goals (first | assumption | (with_reducible refine hct ?_) | wp_step))
  refine codeAny_mono hnew fun r s₁ hr => ?_
  cases r with
  | error e => exact hr
  | ok fl =>
    cases fl with
    | ret obj =>
      obtain ⟨hT, hok, hsi⟩ := hnext _ _ hr
      have hli := ft.init.lookup
      have hbi := ft.init.bind obj
      repeat (any_goals (first | assumption | wp_step))
      refine codeAny_mono (codeAny_call_builtin ft.init.plain entryI (ft.init.check _ _ _ _ _ _ _ _ hT hok hsi)) fun r₂ s₂ hr₂ => ?_
      cases r₂ with
      | error e => exact hr₂
      | ok fl₂ =>
        cases fl₂ with
        | ret r =>
          obtain ⟨rfl, hq⟩ := hr₂
          repeat (any_goals (first | assumption | wp_step))
        | _ => exact hr₂.elim
    | _ => exact hr.elim
theorem sup_raw (a b : Value) {Q₁ : Value → Shared → Prop} (hq : Q₁ (.ref s.heap.objs.size) { s with heap := s.heap.push supRaw }) :
    codeAny (model C.prog C.w) A (.call (.builtin "super.__new__") ⟨[.type "super", a, b], []⟩) (wants Q₁ E) s := by
  refine codeAny_of_tree ?_
  show wpAny _ A.in1 (do checkBuiltinCall "super.__new__" ⟨[.type "super", a, b], []⟩; again (.builtin "super.__new__" ⟨[.type "super", a, b], []⟩)) _ _ s
  refine wpAny_bind (wpAny_of_eq (Sup.newCall a b) (wpAny_pure ⟨plainId_quiet Sup.plainNew _, codeAny_builtin Sup.entryNew ?_⟩))
  rw [Around.under_plainId Sup.plainNew _]
  obtain ⟨hp, g, d, tk, os⟩ := s
  unfold Builtin.«super.__new__» newFields
  repeat (first | (with_reducible refine wpAny_newObj_type ?_ (by size_fits)) | wp_step)
  exact hq
theorem sup_set {so : Addr} {a b c : Value} {Q : Fin → Shared → Prop} (hso : h.get? so = some supRaw)
    (hq : ∀ h', h'.get? so = some { cls := .type "super", dict := none, data := .fields #[a, b, c], slots := #[] } → (∀ y o, y ≠ so → h.get? y = some o → h'.get? y = some o) → Q (.done (.ret .none)) ⟨h', g, d, t, os⟩) :
    wpAny (model C.prog C.w) A (do setField (.ref so) 0 a; setField (.ref so) 1 b; setField (.ref so) 2 c; ret .none) Q E ⟨h, g, d, t, os⟩ := by
  refine wpAny_bind (wpAny_setField_rec hso (by simp) fun h1 e1 s1 => ?_)
  refine wpAny_bind (wpAny_setField_rec e1 (by simp) fun h2 e2 s2 => ?_)
  refine wpAny_bind (wpAny_setField_rec e2 (by simp) fun h3 e3 s3 => ?_)
  exact wpAny_pure (hq h3 (by simpa using e3) fun y o hy e => (s3.2 y hy).trans ((s2.2 y hy).trans ((s1.2 y hy).trans e)))
theorem sup_new {Q : Value → Shared → Prop} (T : TopOk C) (P : Pile C s p vs m) (hq : ∀ h', h'.get? s.heap.objs.size = some (supObj p.1) → (∀ y o, s.heap.get? y = some o → h'.get? y = some o) → Q (.ref s.heap.objs.size) { s with heap := h' }) :
    wpAny (model C.prog C.w) A (PySem.call (.type "super") [.ref 128, .ref p.1]) Q E s := by
  have hC := T.cls
  have hD := P.keep _ _ hC
  obtain ⟨ox, hx, hxc, j, hxd⟩ : ∃ ox, s.heap.get? p.1 = some ox ∧ ox.cls = .ref 128 ∧ ∃ j, ox.data = .seq (List.toArray vs) j := let ⟨j, hx⟩ := P.obj; ⟨_, hx, rfl, j, rfl⟩
  obtain ⟨h, g, d, t, os⟩ := s
  have hct : ∀ {Q' : Unit → Shared → Prop} {E' : Value → Shared → Prop}, Q' () ⟨h, g, d, t, os⟩ → wpAny (model C.prog C.w) A.in1 (checkTypeCall "super" ⟨[.ref 128, .ref p.1], []⟩) Q' E' ⟨h, g, d, t, os⟩ := fun hq => by
    unfold checkTypeCall
    repeat (first | (with_reducible refine isType_cls hD rfl ?_) | wp_step)
    all_goals exact hq
  refine type_codes (Q₁ := fun obj s₁ => obj = .ref h.objs.size ∧ s₁ = ⟨h.push supRaw, g, d, t, os⟩) Sup.called hct Sup.entryInit (sup_raw _ _ ⟨rfl, rfl⟩) fun obj s₁ h₁ => ?_
  obtain ⟨rfl, rfl⟩ := h₁
  have up : ∀ y o, h.get? y = some o → (h.push supRaw).get? y = some o := fun y o e => Heap.get?_push_of_some _ e
  have hso : (h.push supRaw).get? h.objs.size = some supRaw := Heap.get?_push_size _ rfl
  have hD' := up _ _ hD
  have hx' := up _ _ hx
  have ec : ((Value.ref 128 :: accBases).contains (.ref 128)) = true := by decide
  refine ⟨⟨_, hso, rfl⟩, Sup.initArgs _ _ _, ?_⟩
  unfold Builtin.«super.__init__» noKeywords
  repeat (first | (with_reducible refine isType_cls hD' rfl ?_) | (with_reducible refine isType_seq hx' hxd ?_) | (with_reducible refine wpAny_isSubtype_exc hD' ?_; rw [ec]) | (with_reducible refine sup_set hso ?_) | (with_reducible refine wpAny_loadPart_at hx' ?_; rw [hxc]) | wp_step)
  all_goals first
    | (intro h' e k; exact ⟨rfl, hq h' e fun y o ey => k y o (Nat.ne_of_lt (Heap.lt_size ey)) (up y o ey)⟩)
    | (refine sup_set hso ?_; intro h' e k; exact ⟨rfl, hq h' e fun y o ey => k y o (Nat.ne_of_lt (Heap.lt_size ey)) (up y o ey)⟩)
namespace Sup
theorem slotWrap : Slot "wrapper_descriptor" "__get__" "wrapper_descriptor.__get__" := .of (owner := "wrapper_descriptor") (n := "__get__") (by rw [typeLookup_type, builtinLookup_eq_fast]; kernel_rfl) (by decide +kernel) (by decide +kernel) (by decide +kernel)
  (by first | exact .inl (by decide +kernel) | exact .inr (by decide +kernel)) (by rw [isSubtype_type]; kernel_rfl)
theorem entryWrap : entryFor table "wrapper_descriptor.__get__" = some Builtin.«wrapper_descriptor.__get__» := entryFor_of_tree (by kernel_rfl)
theorem argsWrap (a b c : Value) : argsOk "wrapper_descriptor.__get__" ⟨[a, b, c], []⟩ := by unfold argsOk; kernel_rfl
theorem slotMeth : Slot "method_descriptor" "__get__" "method_descriptor.__get__" := .of (owner := "method_descriptor") (n := "__get__") (by rw [typeLookup_type, builtinLookup_eq_fast]; kernel_rfl) (by decide +kernel) (by decide +kernel) (by decide +kernel)
  (by first | exact .inl (by decide +kernel) | exact .inr (by decide +kernel)) (by rw [isSubtype_type]; kernel_rfl)
theorem entryMeth : entryFor table "method_descriptor.__get__" = some Builtin.«method_descriptor.__get__» := entryFor_of_tree (by kernel_rfl)
theorem argsMeth (a b c : Value) : argsOk "method_descriptor.__get__" ⟨[a, b, c], []⟩ := by unfold argsOk; kernel_rfl
theorem typeLen : typeOf (.builtin "list.__len__") = pure (.type "wrapper_descriptor") := by show builtinType _ = _; rw [builtinType_eq_fast]; kernel_rfl
theorem typeInit : typeOf (.builtin "list.__init__") = pure (.type "wrapper_descriptor") := by show builtinType _ = _; rw [builtinType_eq_fast]; kernel_rfl
theorem typePop : typeOf (.builtin "list.pop") = pure (.type "method_descriptor") := by show builtinType _ = _; rw [builtinType_eq_fast]; kernel_rfl
theorem ownLen : classOwn (.type "list") "__len__" = pure (some (.builtin "list.__len__")) := by rfl
theorem ownPop : classOwn (.type "list") "pop" = pure (some (.builtin "list.pop")) := by rfl
theorem ownInit : classOwn (.type "list") "__init__" = pure (some (.builtin "list.__init__")) := by rfl
end Sup
theorem bind_wrap {id : String} {Q : Value → Shared → Prop} (T : TopOk C) (P : Pile C s p vs m) (hT : typeOf (.builtin id) = pure (.type "wrapper_descriptor")) (ec : ((Value.ref 128 :: accBases).contains (.type (".".intercalate (id.cutAt '.').dropLast))) = true)
    (q : Q (.ref s.heap.objs.size) { s with heap := s.heap.push { cls := .type "method-wrapper", data := .fields #[.builtin id, .ref p.1] } }) :
    wpAny (model C.prog C.w) A (PySem.call (.builtin "wrapper_descriptor.__get__") [.builtin id, .ref p.1, .ref 128]) Q E s := by
  refine wpAny_call_entry Sup.slotWrap (show s.TypeIs (.builtin id) "wrapper_descriptor" from hT) Sup.entryWrap ?_ (Sup.argsWrap _ _ _)
  have hC := T.cls
  have hD := P.keep _ _ hC
  obtain ⟨ox, hx, hxc, j, hxd⟩ : ∃ ox, s.heap.get? p.1 = some ox ∧ ox.cls = .ref 128 ∧ ∃ j, ox.data = .seq (List.toArray vs) j := let ⟨j, hx⟩ := P.obj; ⟨_, hx, rfl, j, rfl⟩
  obtain ⟨h, g, d, t, os⟩ := s
  unfold Builtin.«wrapper_descriptor.__get__»
  repeat (first | (with_reducible refine wpAny_isSubtype_exc hD ?_; rw [ec]) | (with_reducible refine wpAny_loadPart_at hx ?_; rw [hxc]) | (with_reducible refine wpAny_newObj_type ?_ (by size_fits)) | wp_step)
  all_goals first | exact ⟨_, rfl, q⟩ | trace_state
theorem bind_meth {id : String} {Q : Value → Shared → Prop} (T : TopOk C) (P : Pile C s p vs m) (hT : typeOf (.builtin id) = pure (.type "method_descriptor")) (ec : ((Value.ref 128 :: accBases).contains (.type (".".intercalate (id.cutAt '.').dropLast))) = true)
    (et : Manifest.toldItsClass.contains id = false)
    (q : Q (.ref s.heap.objs.size) { s with heap := s.heap.push { cls := .type "builtin_function_or_method", data := .fields #[.builtin id, .ref p.1] } }) :
    wpAny (model C.prog C.w) A (PySem.call (.builtin "method_descriptor.__get__") [.builtin id, .ref p.1, .ref 128]) Q E s := by
  refine wpAny_call_entry Sup.slotMeth (show s.TypeIs (.builtin id) "method_descriptor" from hT) Sup.entryMeth ?_ (Sup.argsMeth _ _ _)
  have hC := T.cls
  have hD := P.keep _ _ hC
  obtain ⟨ox, hx, hxc, j, hxd⟩ : ∃ ox, s.heap.get? p.1 = some ox ∧ ox.cls = .ref 128 ∧ ∃ j, ox.data = .seq (List.toArray vs) j := let ⟨j, hx⟩ := P.obj; ⟨_, hx, rfl, j, rfl⟩
  obtain ⟨h, g, d, t, os⟩ := s
  unfold Builtin.«method_descriptor.__get__»
  repeat (first | (with_reducible refine wpAny_isSubtype_exc hD ?_; rw [ec]) | (with_reducible refine wpAny_loadPart_at hx ?_; rw [hxc]) | (with_reducible refine wpAny_newObj_type ?_ (by size_fits)) | (rw [et]; simp only [Bool.false_eq_true, if_false]) | wp_step)
  all_goals first | exact ⟨_, rfl, q⟩ | trace_state
theorem notOpaque {what how : String} {mc : Str → Option Value} {Q : Unit → Shared → Prop} (hm : h.Ns cStatics mc) (h0 : mc "thirdparty.any" = Option.none) (hq : Q () ⟨h, g, d, t, os⟩) : wpAny (model C.prog C.w) A (notOfAnOpaqueClass what how (.ref 128)) Q E ⟨h, g, d, t, os⟩ := by
  unfold notOfAnOpaqueClass
  refine wpAny_bind ?_
  unfold opaqueClassAbove anyOpaqueLoaded
  refine wpAny_bind (wpAny_bind (wpAny_nsGet hm ?_))
  rw [h0]
  repeat (first | exact hq | wp_step)
theorem sup_ga {so : Addr} {name : Str} {id : String} {D gid : String} {tk : Tok} {bo : Obj} {Q : Fin → Shared → Prop} (T : TopOk C) (P : Pile C s p vs m) (hso : s.heap.get? so = some (supObj p.1))
    (hown : classOwn (.type "list") name = pure (some (.builtin id))) (ht : typeOf (.builtin id) = pure (.type D)) (hg : typeLookup (.type D) "__get__" = pure (some (.builtin gid))) (hn : (name == ("__class__" : Str)) = false)
    (hcall : ∀ {A : Around} {E : Value → Shared → Prop} {Q : Value → Shared → Prop}, Q (.ref s.heap.objs.size) { s with heap := s.heap.push bo } → wpAny (model C.prog C.w) A (PySem.call (.builtin gid) [.builtin id, .ref p.1, .ref 128]) Q E s)
    (hq : Q (.done (.ret (.ref s.heap.objs.size))) { s with heap := s.heap.push bo }) :
    wpAny (model C.prog C.w) A (Builtin.«super.__getattribute__» ⟨[.ref so, .str name tk], []⟩) Q E s := by
  have hC := T.cls
  have hD := P.keep _ _ hC
  obtain ⟨mc, hm, h2v⟩ := (T.nam 1 rfl : NsAt C.hk cStatics [("thirdparty.any", Option.none)])
  have hm0 : mc "thirdparty.any" = Option.none := h2v 0 rfl
  have hm' := hm.keeps P.keep
  obtain ⟨j, hx⟩ := P.obj
  have hne : (Value.ref p.1 == Value.ref 128) = false := by
    refine beq_eq_false_iff_ne.mpr fun z => ?_
    have z' : p.1 = 128 := Value.ref.inj z
    rw [z'] at hx
    have := hx.symm.trans hD
    cases this
  obtain ⟨h, g, d, t, os⟩ := s
  have f0 : (#[.ref 128, .ref p.1, .ref 128] : Array Value)[0]? = some (.ref 128) := rfl
  have f1 : (#[.ref 128, .ref p.1, .ref 128] : Array Value)[1]? = some (.ref p.1) := rfl
  have f2 : (#[.ref 128, .ref p.1, .ref 128] : Array Value)[2]? = some (.ref 128) := rfl
  have hdr : ((Value.ref 128 :: accBases).dropWhile (· != Value.ref 128)).drop 1 = accBases := by decide
  unfold Builtin.«super.__getattribute__»
  repeat (first
    | (with_reducible refine wpAny_field hso rfl f0 ?_) | (with_reducible refine wpAny_field hso rfl f1 ?_) | (with_reducible refine wpAny_field hso rfl f2 ?_)
    | (with_reducible refine notOpaque hm' hm0 ?_)
    | (with_reducible refine wpAny_mroOf_exc hD ?_; rw [hdr])
    | (rewrite [hown]) | (rewrite [ht]) | (rewrite [hg])
    | (with_reducible refine hcall ?_)
    | (simp only [hn, hne, Bool.or_false, Bool.false_eq_true, if_false])
    | wp_step
    | dsimp only)
  all_goals first | exact hq | trace_state
theorem sup_method {so : Addr} {name : Str} {id : String} {D gid : String} {bo : Obj} {pl : Sem Bool} {Q : Value × List Value → Shared → Prop} (T : TopOk C) (P : Pile C s p vs m) (hso : s.heap.get? so = some (supObj p.1))
    (hown : classOwn (.type "list") name = pure (some (.builtin id))) (ht : typeOf (.builtin id) = pure (.type D)) (hg : typeLookup (.type D) "__get__" = pure (some (.builtin gid))) (hn : (name == ("__class__" : Str)) = false)
    (hcall : ∀ {s : Shared} {A : Around} {E : Value → Shared → Prop} {Q : Value → Shared → Prop}, Pile C s p vs m → Q (.ref s.heap.objs.size) { s with heap := s.heap.push bo } → wpAny (model C.prog C.w) A (PySem.call (.builtin gid) [.builtin id, .ref p.1, .ref 128]) Q E s)
    (hq : Q (.ref s.heap.objs.size, []) { s with heap := s.heap.push bo, toks := s.toks + 1 }) : wpAny (model C.prog C.w) A (getMethod (.ref so) name pl) Q E s := by
  have hlk := Sup.slotGa.lookup
  have hcan := Sup.canonGa
  obtain ⟨h, g, d, t, os⟩ := s
  have hT : ∀ t', (⟨h, g, d, t', os⟩ : Shared).TypeIs (.ref so) "super" := fun _ => ⟨_, hso, rfl⟩
  have P' : Pile C ⟨h, g, d, t + 1, os⟩ p vs m := ⟨P.keep, P.obj, P.dct, P.ne⟩
  unfold getMethod
  refine wpAny_bind (wpAny_specialOf (hT _) hlk ?_)
  show wpAny _ _ (if (Manifest.canonical "super.__getattribute__" != "object.__getattribute__") = true then _ else _) _ _ _
  rw [if_pos hcan]
  unfold getAttr getAttrBy
  refine wpAny_bind (wpAny_bind (wpAny_mkText (wpAny_holding (wpAny_bind (wpAny_typeOf (hT _) (wpAny_bind (wpAny_of_eq hlk ?_)))))))
  show wpAny _ _ (getAttrByItsOwn (.ref so) (.str name t) (.type "super") (.builtin "super.__getattribute__") true false) _ _ _
  unfold getAttrByItsOwn hookBefore callGetattribute boundAndCalled
  refine wpAny_bind (wpAny_of_eq (show (if onTheHeap (.type "super") then typeLookup (.type "super") "__getattr__" else pure none) = pure none from rfl) ?_)
  refine wpAny_bind (wpAny_attempt (wpAny_holding ?_))
  show wpAny _ _ (bindSpecial (.builtin "super.__getattribute__") (.ref so) >>= _) _ _ _
  refine wpAny_bind (wpAny_of_eq (Sup.slotGa.bind _) ?_)
  refine wpAny_mono (Q := fun v s' => v = .ref h.objs.size ∧ s' = ⟨h.push bo, g, d, t + 1, os⟩) (E := fun _ _ => False)
    (wpAny_call_entry Sup.slotGa (hT _) Sup.entryGa (sup_ga T P' hso hown ht hg hn (fun {A E Q} q => hcall P' q) ⟨_, rfl, rfl, rfl⟩) (Sup.gaArgs _ _)) (fun v s' hv => ?_) fun _ _ z => z.elim
  obtain ⟨rfl, rfl⟩ := hv
  exact wpAny_pure (wpAny_pure hq)
theorem keeper_bound {qa : Addr} {o : Obj} {ws : Array Value} {Q : Keeper → Shared → Prop} (hb : s.heap.get? qa = some o) (hd : o.data = .fields ws) (hc : (o.cls != .type "method") = true) (q : ∀ k, Q k s) : wpAny (model C.prog C.w) A (keeperOf (.ref qa)) Q E s := by
  unfold keeperOf
  refine wpAny_bind (wpAny_load hb ?_)
  rw [hd]
  simp only [hc, if_true]
  exact wpAny_pure (q _)
theorem bound_call {q : Addr} {id : String} {bcls : String} {b : Builtin} {rest : List Value} {Q : Value → Shared → Prop} (hb : s.heap.get? q = some { cls := .type bcls, data := .fields #[.builtin id, .ref p.1] })
    (hc : bcls = "method-wrapper" ∨ bcls = "builtin_function_or_method") (hch : ∀ {Q : Unit → Shared → Prop} {E : Value → Shared → Prop}, Q () s → wpAny (model C.prog C.w) A.in1 (checkBoundCall id ⟨.ref p.1 :: rest, []⟩) Q E s) (hpl : plainId id = true) (he : entryFor table id = some b)
    (hw : wpAny (model C.prog C.w) A.in1 (b ⟨.ref p.1 :: rest, []⟩) (fun fin s' => ∃ v, fin = .done (.ret v) ∧ Q v s') E s) :
    wpAny (model C.prog C.w) A (PySem.call (.ref q) rest) Q E s := by
  refine wpAny_call (codeAny_of_tree ?_)
  show wpAny _ A.in1 (callAny (.ref q) ⟨rest, []⟩) _ _ s
  simp only [callAny]
  refine wpAny_bind (wpAny_load hb ?_)
  have key : ∀ bc : String, (bc = "method-wrapper" ∨ bc = "builtin_function_or_method") → ((Value.type bc == .type "method" || Value.type bc == .type "builtin_function_or_method" || Value.type bc == .type "method-wrapper") = true ∧ (Value.type bc != .type "method") = true) := fun bc hc => by rcases hc with rfl | rfl <;> decide
  obtain ⟨c1, c2⟩ := key bcls hc
  show wpAny _ _ (if (Value.type bcls == .type "method" || Value.type bcls == .type "builtin_function_or_method" || Value.type bcls == .type "method-wrapper") = true then _ else _) _ _ _
  rw [if_pos c1]
  show wpAny _ _ (if (Value.type bcls != .type "method") = true then _ else _) _ _ _
  rw [if_pos c2]
  show wpAny _ _ (checkBoundCall id ⟨.ref p.1 :: rest, []⟩ >>= fun _ => again (.builtin id ⟨.ref p.1 :: rest, []⟩)) _ _ _
  refine wpAny_bind (hch (wpAny_pure ⟨plainId_quiet hpl _, codeAny_builtin he ?_⟩))
  rw [Around.under_plainId hpl _]
  refine wpAny_mono hw (fun fin s' h' => ?_) fun _ _ e => e
  obtain ⟨v, rfl, hv⟩ := h'; exact hv
noncomputable def mscopeB (sc : Scope) (ns : List Str) : Bool :=
  sc.kind == .function && !sc.isGenerator && !sc.isCoroutine && nodupB ns && ns.all (fun x => kindIs sc x .local && x != "__debug__" && x != "__classdict__") && (sc.names.all fun p => p.2 != .cell) && ns != lamNs
structure MScope (sc : Scope) (ns : List Str) : Prop where
  kind : sc.kind = .function
  gen : sc.isGenerator = false
  co : sc.isCoroutine = false
  nd : ns.Nodup
  at_ : ∀ x ∈ ns, sc.names.lookup x = some .local ∧ x ≠ "__debug__" ∧ x ≠ "__classdict__"
  cell : ∀ y ∈ sc.names, y.2 ≠ .cell
  hd : ns ≠ lamNs
theorem MScope.of (e : mscopeB sc ns = true) : MScope sc ns := by
  unfold mscopeB at e
  simp only [Bool.and_eq_true, List.all_eq_true, bne_iff_ne, ne_eq, Bool.not_eq_true'] at e
  obtain ⟨⟨⟨⟨⟨⟨h1, h2⟩, h3⟩, h4⟩, h5⟩, h6⟩, h7⟩ := e
  exact ⟨eq_of_beq h1, h2, h3, nodupB_ok h4, fun x hx => let ⟨⟨k, d⟩, e⟩ := h5 x hx; ⟨kindIs_ok k, d, e⟩, h6, h7⟩
structure Meth where
  fa : Addr
  cd : Addr
  nm : Str
  q : Str
  par : Arguments
  body : List Stmt
  sc : Scope
  ns : List Str
  cl : List (Str × Addr)
  dV : Value
  pm : Value
  ct : Value
noncomputable abbrev Meth.fd (M : Meth) : FuncData := fnR M.nm M.q M.par M.body M.sc M.cl M.dV .none M.pm (.ref M.cd) M.ct
noncomputable abbrev Meth.obj (M : Meth) : Obj := { cls := .type "function", dict := Option.none, data := .func M.fd, slots := #[] }
inductive MBind (M : Meth) (dv : Nat → List Value → Prop) (k : Nat) (ds : List Value) (s : Shared) (vs : List Value) : Prop
  | mk (us : List Value) (h1 : us.length = ds.length) (h2 : dv k us) (h3 : (vs ++ us).length ≤ M.ns.length) (h4 : BindsTo s M.fd ⟨vs, []⟩ ((M.ns.take (vs ++ us).length).zip (vs ++ us))) : MBind M dv k ds s vs
structure MOk (C : Cx) (M : Meth) (dv : Nat → List Value → Prop) : Prop where
  ho : C.hk.get? M.fa = some M.obj
  hcr : C.hk.CodeRec (.ref M.cd) M.q
  sc : mscopeB M.sc M.ns = true
  hb : ∀ (k : Nat) (ds : List Value), dv k ds → ∀ (s : Shared) (vs : List Value), (∀ b o, C.hk.get? b = some o → s.heap.get? b = some o) → vs.length = k → MBind M dv k ds s vs
theorem zip_lookup : ∀ (ns : List Str) (us : List Value), ns.Nodup → ∀ (i : Nat) x v, ns[i]? = some x → us[i]? = some v → (ns.zip us).reverse.lookup x = some v
  | [], us, _, i, x, v, h1, _ => by simp at h1
  | y :: ns, [], _, i, x, v, _, h2 => by simp at h2
  | y :: ns, u :: us, hd, i, x, v, h1, h2 => by
    obtain ⟨h3, h4⟩ := List.nodup_cons.mp hd
    show ((y, u) :: ns.zip us).reverse.lookup x = some v
    rw [List.reverse_cons, List.lookup_append]
    cases i with
    | zero =>
      simp at h1 h2; subst h1; subst h2
      have : (ns.zip us).reverse.lookup y = Option.none := by
        rw [List.lookup_eq_none_iff]
        intro p hp
        have := (List.of_mem_zip (List.mem_reverse.mp hp)).1
        have ne : p.1 ≠ y := fun z => h3 (by rw [← z]; exact this)
        simpa using Ne.symm ne
      rw [this]; simp
    | succ i =>
      simp at h1 h2
      rw [zip_lookup ns us h4 i x v h1 h2]; rfl
noncomputable def dv0 (n : Nat) : Nat → List Value → Prop := fun k ds => k = n ∧ ds = []
theorem treeAt {body : List Stmt} {QR : Result → Shared → Prop}
    (w : PySem.wpAt (model C.prog C.w) (A.deeper env) (.func body env) (execs body env) (fun f s' => QR (.ok (.ret (match f with | .ret v => v | _ => .none))) s')
      (fun e s' => wpAny (model C.prog C.w) (A.deeper env) (leaving env e) (fun _ s'' => QR (.error e) s'') (fun e' s'' => QR (.error e') s'') s') s) : codeAny (model C.prog C.w) A (.func body env) QR s := by
  refine PySem.codeAny_of_treeAt ?_
  show PySem.wpAt _ (A.deeper env) _ (do point; match ← (execs body env).onRaise (leaving env) with | .ret v => ret v | _ => ret .none) _ _ s
  refine PySem.wpAt_bind (PySem.wpAt_of_wpAny (wpAny_point (PySem.wpAt_bind ?_)))
  have up : ∀ {α : Type} {m : Sem α} {k : Value → Sem Unit} {Q : α → Shared → Prop} {E : Value → Shared → Prop}, PySem.wpAt (model C.prog C.w) (A.deeper env) (.func body env) m Q (fun e s' => wpAny (model C.prog C.w) (A.deeper env) (k e) (fun _ s'' => E e s'') E s') s →
      PySem.wpAt (model C.prog C.w) (A.deeper env) (.func body env) (m.onRaise k) Q E s := fun h Γ p hc hΓ => by
    rw [Sem.wp_onRaise]
    exact Sem.wp_mono _ Γ _ (fun _ _ _ h' => h') (fun e p' s' h' => h' Γ p' hΓ) p s (h Γ p hc hΓ)
  refine up (PySem.wpAt_mono w (fun f s' h' => ?_) fun _ _ h' => h')
  cases f <;> exact PySem.wpAt_of_wpAny (wpAny_pure h')
theorem MOk.keeper {M : Meth} {dv : Nat → List Value → Prop} (G : MOk C M dv) (X : St C ρ σ s) (Q : Keeper → Shared → Prop) (q : ∀ k, Q k s) : wpAny (model C.prog C.w) A (keeperOf (.ref M.fa)) Q E s := by
  unfold keeperOf
  exact wpAny_bind (wpAny_load (X.inv.keep _ _ G.ho) (wpAny_pure (q _)))
noncomputable def Meth.envOf (M : Meth) (L : Addr) : Env := newEnv M.sc L mainGlobals M.cl (M.q ++ ".<locals>.") (some M.fa) (.ref M.cd) Option.none builtinsNs
theorem HR.out {b : Addr} (R : HR C ρ σ h) (e : h.get? b = Option.none) : ¬ Foot ρ b := fun q => by obtain ⟨_, e', _⟩ := R.solid q; rw [e] at e'; cases e'
theorem Meth.now {M : Meth} {L : Addr} {tk : Nat} {mm : Str → Option Value} (S : MScope M.sc M.ns) (X : St C ρ σ s) (a : AC C (n + 1) A s.heap) (hL : s.heap.get? L = Option.none) (keep : ∀ b o, s.heap.get? b = some o → h.get? b = some o) (hns : h.Ns L mm) (hlen : f.length = M.ns.length)
    (hf : ∀ (i : Nat) z a, M.ns[i]? = some z → f[i]? = some (some a) → ∃ v, mm z = some v ∧ VV C ρ h L a v) : Now C n M.sc M.ns (M.envOf L) (A.deeper (M.envOf L)) f ρ σ { s with heap := h, toks := tk } := by
  obtain ⟨o, es, ep, e, d, _⟩ := id hns
  have d : isDict o.data = true := by rw [d]; rfl
  exact ⟨X.quiet keep, {
    kind := S.kind
    glob := rfl
    bi := rfl
    kk := fun z k _ e => kindIs_ok e
    len := hlen
    slot := fun i z hz => ⟨_, .inl ⟨(S.at_ z (List.mem_of_getElem? hz)).1, _, hns, rfl⟩, fun a ha => hf i z a hz ha⟩
    nd := S.nd
    dbg := fun z hz => beq_eq_false_iff_ne.mpr (S.at_ z hz).2.1
    lam := fun e => absurd e S.hd
    off := X.hr.out hL
    big := X.inv.fresh hL
    lt := ⟨o, e⟩ }, (a.mono (LStp.of_keeps (W := NoW) (ρ := ρ) keep).stp).deep ⟨S.kind, S.gen, S.co, rfl, rfl, L, o, rfl, X.inv.fresh hL, e, d⟩, deep_ne a⟩
theorem map_slot : ∀ (xs : List AD) (k i : Nat) (a : AV), (xs.map (fun x => some (AV.d x)) ++ List.replicate k Option.none)[i]? = some (some a) → ∃ d, a = .d d ∧ xs[i]? = some d
  | [], 0, _, _, e => nomatch e
  | [], _ + 1, 0, _, e => nomatch e
  | [], k + 1, i + 1, a, e => map_slot [] k i a e
  | x :: xs, k, 0, a, e => by cases e; exact ⟨x, rfl, rfl⟩
  | x :: xs, k, i + 1, a, e => map_slot xs k i a e
theorem map_len (xs : List AD) (n : Nat) (h : xs.length ≤ n) : (xs.map (fun x => some (AV.d x)) ++ List.replicate (n - xs.length) Option.none).length = n := by
  rw [List.length_append, List.length_map, List.length_replicate]; exact Nat.add_sub_of_le h
inductive MRes (C : Cx) (env : Env) (ρ : Rho) (s₁ : Shared) (σ' : H) (r : AD) (fl : Flow) (s' : Shared) : Prop
  | v (h : PV C ρ s₁ σ' (.d r) (match fl with | .ret v => v | _ => .none) s') : MRes C env ρ s₁ σ' r fl s'
  | o (ρ' : Rho) (X : St C ρ' σ' s') (S : Stp C (fun b => b = env.locals) ρ s₁.heap ρ' s'.heap) (vr : VR ρ' s'.heap r (match fl with | .ret v => v | _ => .none)) : MRes C env ρ s₁ σ' r fl s'
theorem meth_call (T : TopOk C) {M : Meth} {dv : Nat → List Value → Prop} {xs : List AD} {r : AD} (G : MOk C M dv) (a : AC C (n + 1) A s.heap) (X : St C ρ σ s) (hv : VRs ρ s.heap xs vs)
    {ds : List AD} {us : List Value} (hdv : dv xs.length us) (hds : ∀ h us, dv xs.length us → VRs ρ h ds us) (hf : f = (xs ++ ds).map (fun x => some (.d x)) ++ List.replicate (M.ns.length - (xs ++ ds).length) Option.none) (hlen : (xs ++ ds).length ≤ M.ns.length)
    {body : List Stmt} (hbd : M.body = body)
    (hw : ∀ L s₁, Now C n M.sc M.ns (M.envOf L) (A.deeper (M.envOf L)) f ρ σ s₁ → Stp C NoW ρ s.heap ρ s₁.heap → ∀ E, PySem.wpAt (model C.prog C.w) (A.deeper (M.envOf L)) (.func body (M.envOf L)) (execs body (M.envOf L)) (MRes C (M.envOf L) ρ s₁ σ' r) E s₁) :
    wpAny (model C.prog C.w) A (PySem.call (.ref M.fa) vs []) (PV C ρ s σ' (.d r)) E s := by
  subst hbd hf
  have S := MScope.of G.sc
  obtain ⟨us', _, hdv', _, hB⟩ := G.hb xs.length us hdv s vs X.inv.keep hv.length
  refine wpAny_call (codeAny_call_function (by have := a.depth; show A.depth < 1000; lia) (X.inv.keep _ _ G.ho) rfl S.co S.gen rfl (G.hcr.keeps X.inv.keep) (hB _ _ _ _ ?_))
  refine wpAny_newFunctionEnv S.cell (fun q hq => (S.at_ q.1 (List.mem_of_mem_take (List.of_mem_zip hq).1)).1) (fun h₁ hns hsb => ?_) S.kind
  have hL := get_size s.heap
  have keep : ∀ b o, s.heap.get? b = some o → h₁.get? b = some o := fun b o e => hsb.extBut b o (fun z => by rw [z, hL] at e; cases e) (Heap.get?_push_of_some _ e)
  have S₁ : Stp C NoW ρ s.heap ρ h₁ := (LStp.of_keeps keep).stp
  have N := Meth.now (tk := s.toks + ((M.ns.take (vs ++ us').length).zip (vs ++ us')).length) S X a hL keep hns (map_len _ _ hlen) fun i z a hz ha => by
    obtain ⟨d, rfl, hd⟩ := map_slot _ _ _ _ ha
    obtain ⟨v, v1, v2⟩ := (hv.append (hds s.heap us' hdv')).at hd
    exact ⟨v, zip_lookup _ _ (S.nd.sublist (List.take_sublist _ _)) i z v (by rw [List.getElem?_take_of_lt (List.getElem?_eq_some_iff.mp v1).1]; exact hz) v1, v2.mono S₁ WOk.no X.inv.tabs0⟩
  refine ⟨T.nolimit.keeps N.st.inv.keep, treeAt (PySem.wpAt_mono (hw _ _ N S₁ _) (fun fl s₂ hp => ?_) fun _ _ e => e)⟩
  cases hp with
  | v hp => exact PV.trans S₁ hp
  | o ρ' X' S' v' => exact ⟨ρ', X', (S₁.own.trans S').weaken (fun b o q e => by rw [show b = s.heap.objs.size from q, hL] at e; cases e), v'⟩
noncomputable abbrev mkMeth (fa cd : Addr) (x q : Str) (ns : List Str) (cl : List (Str × Addr)) (dV ct : Value) : Meth := ⟨fa, cd, x, q, mArgs x, mBody x, mScope x, ns, cl, dV, .str "cpy313.email.header" 237, ct⟩
noncomputable abbrev mInit : Meth := mkMeth 65 64 "__init__" "_Accumulator.__init__" ["self", "initial_size"] clCell (.ref 57) (.ref 58)
noncomputable abbrev mPush : Meth := mkMeth 72 71 "push" "_Accumulator.push" ["self", "fws", "string"] [] .none .none
noncomputable abbrev mPopfrom : Meth := mkMeth 80 79 "pop_from" "_Accumulator.pop_from" ["self", "i", "popped"] [] (.ref 73) .none
noncomputable abbrev mPop : Meth := mkMeth 88 87 "pop" "_Accumulator.pop" ["self"] clCell .none (.ref 81)
noncomputable abbrev mLen : Meth := mkMeth 95 94 "__len__" "_Accumulator.__len__" ["self"] [] .none .none
noncomputable abbrev mStr : Meth := mkMeth 102 101 "__str__" "_Accumulator.__str__" ["self"] [] .none .none
noncomputable abbrev mReset : Meth := mkMeth 110 109 "reset" "_Accumulator.reset" ["self", "startval"] [] (.ref 103) .none
noncomputable abbrev mPcount : Meth := mkMeth 125 124 "part_count" "_Accumulator.part_count" ["self"] clCell .none (.ref 118)
noncomputable abbrev mRefuse : Meth := ⟨197, 196, "_law_refusal", "_law_refusal", argsOf .refusal, bodyOf .refusal, scopeOf .refusal, ["reply", "refused"], [], .none, .str "law_xh0014_01" 404, .none⟩
noncomputable def dv1 (n : Nat) (P : Value → Prop) : Nat → List Value → Prop := fun k ds => (k = n ∧ ds = []) ∨ (k + 1 = n ∧ ∃ v, ds = [v] ∧ P v)
noncomputable def isZero (v : Value) : Prop := ∃ t, v = .int 0 t
theorem uncons {n : Nat} {vs : List Value} (h : vs.length = n + 1) : ∃ a r, vs = a :: r ∧ r.length = n := by
  cases vs with
  | nil => cases h
  | cons a r => exact ⟨a, r, rfl, Nat.succ.inj h⟩
theorem mb_plain {M : Meth} {n : Nat} {ds : List Value} {k : Nat} (hn : n ≤ M.ns.length) (hb : ∀ vs : List Value, vs.length = n → bindArgs M.fd ⟨vs, []⟩ = pure ((M.ns.take n).zip vs)) (hd : dv0 n k ds) (hl : vs.length = k) : MBind M (dv0 n) k ds s vs := by
  obtain ⟨rfl, rfl⟩ := hd
  refine ⟨[], rfl, ⟨rfl, rfl⟩, ?_, ?_⟩ <;> rw [List.append_nil, hl]
  · exact hn
  · exact .of_eq (hb vs hl)
theorem mb1 {M : Meth} {x : Str} {r : List Str} {ds : List Value} {k : Nat} (hns : M.ns = x :: r) (hb : ∀ a, bindArgs M.fd ⟨[a], []⟩ = pure [(x, a)]) (hd : dv0 1 k ds) (hl : vs.length = k) : MBind M (dv0 1) k ds s vs :=
  mb_plain (by rw [hns]; exact Nat.succ_le_succ (Nat.zero_le _)) (fun vs hl => by
    obtain ⟨a, r', rfl, h0⟩ := uncons hl
    obtain rfl := List.length_eq_zero_iff.mp h0
    rw [hns]; exact hb a) hd hl
theorem mb_two {M : Meth} {x y : Str} {ns' : List Str} {d0 : Value} {P : Value → Prop} {k : Nat} {ds : List Value} (hP : P d0) (hns : M.ns = x :: y :: ns') (h2 : ∀ v1 v2, BindsTo s M.fd ⟨[v1, v2], []⟩ [(x, v1), (y, v2)]) (h1 : ∀ v1, BindsTo s M.fd ⟨[v1], []⟩ [(x, v1), (y, d0)])
    (hd : dv1 2 P k ds) (hl : vs.length = k) : MBind M (dv1 2 P) k ds s vs := by
  have hn : 2 ≤ M.ns.length := by rw [hns]; exact Nat.succ_le_succ (Nat.succ_le_succ (Nat.zero_le _))
  have ht : M.ns.take 2 = [x, y] := by rw [hns]; rfl
  rcases hd with ⟨hk, hd⟩ | ⟨hk, v, hd, _⟩ <;> rw [hd]
  · obtain ⟨a, r, rfl, h1⟩ := uncons (hl.trans hk)
    obtain ⟨b, r, rfl, h0⟩ := uncons h1
    obtain rfl := List.length_eq_zero_iff.mp h0
    refine ⟨[], rfl, .inl ⟨hk, rfl⟩, hn, ?_⟩
    show BindsTo s M.fd _ ((M.ns.take 2).zip [a, b])
    rw [ht]; exact h2 a b
  · obtain ⟨a, r, rfl, h0⟩ := uncons (hl.trans (Nat.succ.inj hk))
    obtain rfl := List.length_eq_zero_iff.mp h0
    refine ⟨[d0], rfl, .inr ⟨hk, d0, rfl, hP⟩, hn, ?_⟩
    show BindsTo s M.fd _ ((M.ns.take 2).zip [a, d0])
    rw [ht]; exact h1 a
section
set_option maxHeartbeats 4000000
theorem b_push (vs : List Value) (hl : vs.length = 3) : bindArgs mPush.fd ⟨vs, []⟩ = pure ((mPush.ns.take 3).zip vs) := by
  obtain ⟨a, r, rfl, h2⟩ := uncons hl
  obtain ⟨b, r, rfl, h1⟩ := uncons h2
  obtain ⟨c, r, rfl, h0⟩ := uncons h1
  obtain rfl := List.length_eq_zero_iff.mp h0
  with_unfolding_all rfl
theorem okPush (T : TopOk C) : MOk C mPush (dv0 3) := ⟨T.obj 15 rfl rfl, ⟨_, _, _, _, rfl, T.obj 14 rfl rfl, rfl, rfl⟩, by with_unfolding_all rfl, fun _ _ hd _ _ _ => mb_plain (by decide) b_push hd⟩
theorem okPop (T : TopOk C) : MOk C mPop (dv0 1) := ⟨T.obj 20 rfl rfl, ⟨_, _, _, _, rfl, T.obj 19 rfl rfl, rfl, rfl⟩, by with_unfolding_all rfl, fun _ _ hd _ _ _ => mb1 rfl (fun _ => by with_unfolding_all rfl) hd⟩
theorem okLen (T : TopOk C) : MOk C mLen (dv0 1) := ⟨T.obj 23 rfl rfl, ⟨_, _, _, _, rfl, T.obj 22 rfl rfl, rfl, rfl⟩, by with_unfolding_all rfl, fun _ _ hd _ _ _ => mb1 rfl (fun _ => by with_unfolding_all rfl) hd⟩
theorem okStr (T : TopOk C) : MOk C mStr (dv0 1) := ⟨T.obj 26 rfl rfl, ⟨_, _, _, _, rfl, T.obj 25 rfl rfl, rfl, rfl⟩, by with_unfolding_all rfl, fun _ _ hd _ _ _ => mb1 rfl (fun _ => by with_unfolding_all rfl) hd⟩
theorem okPcount (T : TopOk C) : MOk C mPcount (dv0 1) := ⟨T.obj 32 rfl rfl, ⟨_, _, _, _, rfl, T.obj 31 rfl rfl, rfl, rfl⟩, by with_unfolding_all rfl, fun _ _ hd _ _ _ => mb1 rfl (fun _ => by with_unfolding_all rfl) hd⟩
theorem okRefuse (T : TopOk C) : MOk C mRefuse (dv0 1) := ⟨T.obj 44 rfl rfl, ⟨_, _, _, _, rfl, T.obj 43 rfl rfl, rfl, rfl⟩, by with_unfolding_all rfl, fun _ _ hd _ _ _ => mb1 rfl (fun _ => by with_unfolding_all rfl) hd⟩
theorem okInit (T : TopOk C) : MOk C mInit (dv1 2 isZero) := ⟨T.obj 13 rfl rfl, ⟨_, _, _, _, rfl, T.obj 12 rfl rfl, rfl, rfl⟩, by with_unfolding_all rfl, fun _ _ hd _ _ hk =>
  mb_two (d0 := .int 0 253) ⟨_, rfl⟩ rfl (fun _ _ => by with_unfolding_all exact .of_defaults rfl (hk _ _ (T.obj 11 rfl rfl)) rfl rfl rfl) (fun _ => by with_unfolding_all exact .of_defaults rfl (hk _ _ (T.obj 11 rfl rfl)) rfl rfl rfl) hd⟩
theorem okPopfrom (T : TopOk C) : MOk C mPopfrom (dv1 2 isZero) := ⟨T.obj 18 rfl rfl, ⟨_, _, _, _, rfl, T.obj 17 rfl rfl, rfl, rfl⟩, by with_unfolding_all rfl, fun _ _ hd _ _ hk =>
  mb_two (d0 := .int 0 272) ⟨_, rfl⟩ rfl (fun _ _ => by with_unfolding_all exact .of_defaults rfl (hk _ _ (T.obj 16 rfl rfl)) rfl rfl rfl) (fun _ => by with_unfolding_all exact .of_defaults rfl (hk _ _ (T.obj 16 rfl rfl)) rfl rfl rfl) hd⟩
theorem okReset (T : TopOk C) : MOk C mReset (dv1 2 (· = .none)) := ⟨T.obj 29 rfl rfl, ⟨_, _, _, _, rfl, T.obj 28 rfl rfl, rfl, rfl⟩, by with_unfolding_all rfl, fun _ _ hd _ _ hk =>
  mb_two (d0 := .none) rfl rfl (fun _ _ => by with_unfolding_all exact .of_defaults rfl (hk _ _ (T.obj 27 rfl rfl)) rfl rfl rfl) (fun _ => by with_unfolding_all exact .of_defaults rfl (hk _ _ (T.obj 27 rfl rfl)) rfl rfl rfl) hd⟩
end
theorem St.setAcc {k : Nat} {xs ys : List AD} {m : Int} {us : List Value} {p : Addr × Addr} {h' : Heap} {tk j : Nat} (X : St C ρ σ s) (hk : σ[k]? = some (.acc xs m)) (hp : ρ.l[k]? = some p)
    (hs : Heap.SameBut p.1 s.heap h') (hl : h'.get? p.1 = some { cls := accCls, dict := some p.2, data := .seq (List.toArray us) j, slots := #[] }) (hv : VRs ρ s.heap ys us) :
    St C ρ (σ.set k (.acc ys m)) { s with heap := h', toks := tk } ∧ Stp C NoW ρ s.heap ρ h' := by
  obtain ⟨p', hp', e1, ⟨us', j', g, _⟩, r⟩ := X.hr.obs k _ hk
  rw [hp] at hp'; cases hp'
  refine X.set hk hp (LStp.but hs (.inl (.inl rfl)) (fun q => q) fun o' e => ⟨_, hl, fun q => by rw [g] at e; cases e; cases q⟩) fun S => ⟨e1, ⟨us, j, hl, hv.mono S WOk.no X.inv.tabs0⟩, ?_⟩
  obtain ⟨t, g2⟩ := r
  exact ⟨t, g2.at fun o e => hs.extBut _ _ (Ne.symm e1) e⟩
theorem Pile.getm {name : Str} {id : String} {pl : Sem Bool} {Q : Value × List Value → Shared → Prop} (T : TopOk C) (P : Pile C s p vs m) (hl : typeLookup (.type "list") name = pure (some (.builtin id))) (ht : PySem.typeOf (.builtin id) = pure (.type "method_descriptor"))
    (hr : name ∉ accRest) (hf : accFns.lookup name = Option.none) (hi : name ≠ "_initial_size") (q : Q (.builtin id, [.ref p.1]) s) : wpAny (model C.prog C.w) A (getMethod (.ref p.1) name pl) Q E s := by
  obtain ⟨j, hx⟩ := P.obj
  obtain ⟨t, hd1⟩ := P.dct
  have hd := hd1.ns
  unfold getMethod
  refine wpAny_bind (P.special T list_getattribute (by decide) ?_)
  show wpAny _ A (if (Manifest.canonical "list.__getattribute__" != "object.__getattribute__") = true then _ else _) Q E s
  rw [canon_list_getattribute, if_neg Bool.false_ne_true]
  refine wpAny_bind (P.special T list_getattr_none (by decide) ?_)
  refine wpAny_bind (P.special T hl hr ?_)
  rw [hf]
  refine wpAny_bind (wpAny_of_eq ht ?_)
  refine wpAny_bind (wpAny_loadPart hx ?_)
  refine wpAny_bind (wpAny_nsGet hd ?_)
  rw [if_neg hi]
  exact wpAny_bind (wpAny_rule (wpAny_pure q))
theorem Pile.append {v : Value} {Q : Value → Shared → Prop} (T : TopOk C) (P : Pile C s p vs m) (hl : vs.length ≤ 5000)
    (q : ∀ h', (∃ j, h'.get? p.1 = some { cls := accCls, dict := some p.2, data := .seq (List.toArray (vs ++ [v])) j, slots := #[] }) → Heap.SameBut p.1 s.heap h' → Q .none { s with heap := h' }) :
    wpAny (model C.prog C.w) A (PySem.call (.builtin "list.append") [.ref p.1, v]) Q E s := by
  refine P.call T (nm := "append") (by decide +kernel) (by first | exact .inl (by decide +kernel) | exact .inr (by decide +kernel)) F.slot_list_append.plain F.entry_list_append (F.args_list_append_2 _ _) ?_
  obtain ⟨j, hx⟩ := P.obj
  have e : Obj.mapSeq (·.push v) { cls := accCls, dict := some p.2, data := .seq (List.toArray vs) j, slots := #[] } = { cls := accCls, dict := some p.2, data := .seq (List.toArray (vs ++ [v])) (j + 1), slots := #[] } := by simp [Obj.mapSeq]
  have hz : vs.toArray.size ≤ sizeLine := by simp only [List.size_toArray, sizeLine]; lia
  show wpAny _ _ (updateSeq p.1 (·.push v) >>= fun _ => ret .none) _ _ s
  refine wpAny_bind (wpAny_updateSeq hx rfl (wpAny_pure ⟨.none, rfl, q _ ⟨j + 1, ?_⟩ (Heap.SameBut.update ..)⟩) (hz := hz))
  rw [Heap.get?_update_self _ hx (by rw [e]; rfl), e]
inductive NRef (C : Cx) (n : Nat) (sc : Scope) (ns : List Str) (env : Env) (A : Around) (f : Fm) (ρ : Rho) (σ : H) (s s' : Shared) (k : Nat) (v : Value) : Prop
  | mk (ρ' : Rho) (p : Addr × Addr) (N : Now C n sc ns env A f ρ' σ s') (S : Stp C NoW ρ s.heap ρ' s'.heap) (e : v = .ref p.1) (hp : ρ'.l[k]? = some p) : NRef C n sc ns env A f ρ σ s s' k v
theorem Now.ref {k i : Nat} (N : Now C n sc ns env A f ρ σ s) (hk : f[i]? = some (some (.d (.ref k)))) {v : Value} (e : PV C ρ s σ (.d (.ref k)) v s') : NRef C n sc ns env A f ρ σ s s' k v := by
  obtain ⟨ρ', N', S', w, _⟩ := e.split N
  rw [VR] at w
  obtain ⟨p, hp, rfl⟩ := w
  exact ⟨ρ', p, N', S', rfl, hp⟩
noncomputable abbrev nsPush : List Str := ["self", "fws", "string"]
noncomputable abbrev pushX : X := .cons (.tp (.cons (.v 1) (.cons (.v 2) .nil))) .nil
noncomputable def unPush : Rn := un (mScope "push") nsPush pushX (sdL (sdE 9) (exArgs (stV (nthS (mBody "push") 0))))
noncomputable def pushText : List Stmt := [.Expr (.Call (.Attribute (nameE nsPush 0 (P1 60 8 12)) "append" (P1 60 8 19)) unPush.nd.toL [] (P1 60 8 34)) (P1 60 8 34)]
theorem tx_push : mBody "push" = pushText := by with_unfolding_all rfl
theorem ok_push : unPush.ok = true := by with_unfolding_all rfl
theorem ln_push : decide (unPush.nd.toL.length < 30) = true := by with_unfolding_all rfl
theorem push_walk {k : Nat} {xs : List AD} {x y : Str} (Y : Hyp C)
    (N : Now C n (mScope "push") nsPush env A [some (.d (.ref k)), some (.d (.str x)), some (.d (.str y))] ρ σ s) (hσ : σ[k]? = some (.acc xs m)) (hl : xs.length ≤ 5000) (hσ' : σ.set k (.acc (xs ++ [.tup [.str x, .str y]]) m) = σ') :
    wpAny (model C.prog C.w) A (execs pushText env) (MRes C env ρ s σ' .none) E s := by
  have hst := noStar env (P1 60 8 34) _ _ _ _ ok_push
  refine wpAny_execs_cons (wpAny_Expr (Q := fun fl s' => match fl with | .next => wpAny _ A (execs [] env) (MRes C env ρ s σ' .none) E s' | f => MRes C env ρ s σ' .none f s') ?_ (by unfold interactive; rw [N.ev.kind]; rfl) rfl)
  refine meth_ok rfl (of_decide_eq_true ln_push) rfl hst (wpAny_mono (N.load (i := 0) rfl) (fun ov s₁ hv pl => ?_) fun _ _ e => e)
  obtain ⟨ρ₁, p, N₁, S₁, rfl, hp⟩ := N.ref (i := 0) rfl hv
  obtain ⟨us, rs, P⟩ := N₁.st.pile hp hσ
  refine P.getm Y.top F.slot_list_append.lookup F.type_list_append (by decide) (by decide) (by decide) ?_
  refine callWith_ok hst rfl (evalArgs_ok hst rfl (wpAny_mono ((e_cons (e_tp (e_cons (e_v rfl) (e_cons (e_v rfl) e_nil)) rfl) e_nil) Y _ _ _ _ _ _ _ ok_push N₁ (P1 60 8 34) E) (fun ws s₂ hv => wpAny_pure ?_) fun _ _ e => e))
  obtain ⟨ρ₂, X₂, S₂, v2⟩ := hv
  obtain ⟨w, rfl, w1⟩ := v2.one
  refine ⟨fun Q q => wpAny_pure (q _), ?_⟩
  have hp₂ := S₂.idx hp
  obtain ⟨us₂, rs₂, P₂⟩ := X₂.pile hp₂ hσ
  refine P₂.append Y.top (by rw [rs₂.length]; exact hl) fun h' ⟨j, hj⟩ hs => ?_
  obtain ⟨X₃, S₃⟩ := X₂.setAcc (tk := s₂.toks) hσ hp₂ hs hj (rs₂.append (.cons w1 .nil))
  exact wpAny_execs_nil (.v ⟨ρ₂, hσ' ▸ X₃, (S₁.trans S₂).trans S₃, by show VR _ _ _ _; rw [VR]⟩)
theorem slice_noIdx {sl : Addr} {l u st : Value} {Q : Option Int → Shared → Prop} (hs : s.heap.IsSliceOf sl l u st) (q : Q Option.none s) : wpAny (model C.prog C.w) A (Builtin.List.listSubscript? (.ref sl)) Q E s := by
  obtain ⟨o, ho, hc, hd⟩ := hs
  unfold Builtin.List.listSubscript?
  refine wpAny_bind (wpAny_specialOf (T := "slice") (show s.TypeIs (.ref sl) "slice" from ⟨o, ho, hc⟩) slice_no_index ?_)
  simp only [Option.isNone_none, if_true]
  exact wpAny_pure q
theorem slice_parts {sl : Addr} {l u : Value} {lo hi : Option Int} {Q : Value × Value × Value → Shared → Prop} (hs : s.heap.IsSliceOf sl l u .none) (pl : IsPart l lo) (pu : IsPart u hi) (q : Q (rawPart lo, rawPart hi, rawPart Option.none) s) : wpAny (model C.prog C.w) A (Builtin.List.listSliceParts (.ref sl)) Q E s := by
  obtain ⟨o, ho, hc, hd⟩ := hs
  rw [listSliceParts_eq]
  refine wpAny_bind (wpAny_field ho hd (x := .none) rfl (wpAny_bind (wpAny_listPart .none ?_)))
  rw [if_neg (show ¬ ((rawPart Option.none == rawInt 0) = true) from Bool.false_ne_true)]
  refine wpAny_bind (wpAny_field ho hd (x := l) rfl (wpAny_bind (wpAny_listPart pl ?_)))
  exact wpAny_bind (wpAny_field ho hd (x := u) rfl (wpAny_bind (wpAny_listPart pu (wpAny_pure q))))
theorem Pile.getSlice {sl : Addr} {l u : Value} {lo hi : Option Int} {Q : Value → Shared → Prop} (T : TopOk C) (P : Pile C s p vs m) (hs : s.heap.IsSliceOf sl l u .none) (pl : IsPart l lo) (pu : IsPart u hi) (hl : vs.length ≤ 5000)
    (q : Q (.ref s.heap.objs.size) { s with heap := s.heap.push { cls := .type "list", data := .seq (slicePick vs.toArray lo hi Option.none) } }) : wpAny (model C.prog C.w) A (getItem (.ref p.1) (.ref sl)) Q E s := by
  obtain ⟨j, hx⟩ := P.obj
  have hz : vs.toArray.size ≤ sizeLine := by simp only [List.size_toArray, sizeLine]; lia
  unfold getItem
  try with_reducible refine wpAny_holding ?_
  first | refine wpAny_bind (wpAny_pure ?_) | skip
  refine wpAny_bind (P.seqKey T ?_)
  refine wpAny_bind (P.callSpecial (name := Str.ofString "__getitem__") T F.slot_list_getitem (by decide) (by decide) (P.call T (nm := "__getitem__") (by decide +kernel) (by first | exact .inl (by decide +kernel) | exact .inr (by decide +kernel)) (by decide +kernel) entry_list_getitem (args_list_getitem _ _) ?_))
  show wpAny _ _ (Builtin.List.listSubscript? (.ref sl) >>= _) _ _ s
  refine wpAny_bind (slice_noIdx hs ?_)
  show wpAny _ _ (PySem.typeOf (.ref sl) >>= _) _ _ s
  obtain ⟨o, ho, hc, hd⟩ := id hs
  refine wpAny_bind (wpAny_typeOf (T := "slice") (show s.TypeIs (.ref sl) "slice" from ⟨o, ho, hc⟩) ?_)
  rw [if_neg (by decide)]
  refine wpAny_bind (slice_parts hs pl pu ?_)
  refine wpAny_bind (m := Builtin.List.listItems (.ref p.1)) ?_
  unfold Builtin.List.listItems
  refine wpAny_bind (wpAny_seqItems hx rfl (wpAny_pure ?_))
  refine wpAny_bind (wpAny_of_eq (sliceIndices_raw lo hi Option.none vs.toArray.size nofun) ?_)
  refine wpAny_bind (wpAny_newObj_type (wpAny_pure ⟨_, rfl, wpAny_pure q⟩) (Nat.le_trans (slicePick_size_le vs.toArray lo hi Option.none) hz))
theorem Pile.setSlice {sl l : Addr} {lv uv : Value} {lo hi : Option Int} {ws : List Value} {Q : Unit → Shared → Prop} (T : TopOk C) (P : Pile C s p vs m) (hs : s.heap.IsSliceOf sl lv uv .none) (pl : IsPart lv lo) (pu : IsPart uv hi) (hl : vs.length ≤ 5000) (hg : s.heap.IsList l (List.toArray ws)) (hw : ws.length ≤ 5000)
    (q : ∀ h', (∃ j, h'.get? p.1 = some { cls := accCls, dict := some p.2, data := .seq (vs.toArray.extract 0 (sliceBounds lo hi Option.none vs.toArray.size).1.toNat ++ ws.toArray ++ vs.toArray.extract (max (sliceBounds lo hi Option.none vs.toArray.size).1 (sliceBounds lo hi Option.none vs.toArray.size).2.1).toNat vs.toArray.size) j, slots := #[] }) →
      Heap.SameBut p.1 s.heap h' → Q () { s with heap := h' }) : wpAny (model C.prog C.w) A (setItem (.ref p.1) (.ref sl) (.ref l)) Q E s := by
  obtain ⟨j, hx⟩ := P.obj
  have hz : vs.toArray.size ≤ sizeLine := by simp only [List.size_toArray, sizeLine]; lia
  obtain ⟨ol, hol, hlc, nl, hld⟩ := hg
  have hpl : p.1 ≠ l := fun z => by
    rw [← z] at hol
    have := hx.symm.trans hol
    cases this
    cases hlc
  unfold setItem
  try with_reducible refine wpAny_holding ?_
  first | refine wpAny_bind (wpAny_pure ?_) | skip
  refine wpAny_bind (P.seqKey T ?_)
  refine wpAny_bind (P.callSpecial (name := Str.ofString "__setitem__") T F.slot_list_setitem (by decide) (by decide) (P.call T (nm := "__setitem__") (by decide +kernel) (by first | exact .inl (by decide +kernel) | exact .inr (by decide +kernel)) (by decide +kernel) entry_list_setitem (args_list_setitem _ _ _) ?_))
  show wpAny _ _ (Builtin.List.listSubscript? (.ref sl) >>= _) _ _ s
  refine wpAny_bind (slice_noIdx hs ?_)
  show wpAny _ _ (PySem.typeOf (.ref sl) >>= _) _ _ s
  obtain ⟨o, ho, hc, hd⟩ := id hs
  refine wpAny_bind (wpAny_typeOf (T := "slice") (show s.TypeIs (.ref sl) "slice" from ⟨o, ho, hc⟩) ?_)
  rw [if_neg (by decide)]
  refine wpAny_bind (slice_parts hs pl pu ?_)
  have hsr : Builtin.List.listSameRef (.ref p.1) (.ref l) = false := beq_eq_false_iff_ne.mpr hpl
  dsimp only
  rw [if_neg (by rw [hsr]; decide)]
  refine wpAny_bind (m := Builtin.List.listAllItems (.ref l) _) ?_
  unfold Builtin.List.listAllItems
  refine wpAny_bind (wpAny_typeOf (T := "list") (show s.TypeIs (.ref l) "list" from ⟨ol, hol, hlc⟩) ?_)
  rw [if_pos (by decide)]
  unfold Builtin.List.listItems
  refine wpAny_bind (wpAny_seqItems hol hld (wpAny_pure ?_))
  refine wpAny_bind (wpAny_bind (wpAny_seqItems hx rfl (wpAny_pure ?_)))
  refine wpAny_bind (wpAny_of_eq (sliceIndices_raw lo hi Option.none vs.toArray.size nofun) ?_)
  have hst : (sliceBounds lo hi Option.none vs.toArray.size).2.2 = 1 := rfl
  generalize hsb : sliceBounds lo hi Option.none vs.toArray.size = sb at *
  obtain ⟨start, stop, step⟩ := sb
  dsimp only at hst q ⊢
  subst hst
  rw [if_pos (by decide)]
  refine wpAny_bind (wpAny_rule ?_)
  have htl : Builtin.List.listTooLong (vs.toArray.size + ws.toArray.size) = false := by
    unfold Builtin.List.listTooLong sizeLine
    refine decide_eq_false ?_
    simp only [List.size_toArray]; lia
  rw [if_neg (by rw [htl]; decide)]
  have hz2 : ((fun xs : Array Value => xs.extract 0 start.toNat ++ ws.toArray ++ xs.extract (max start stop).toNat xs.size) vs.toArray).size ≤ sizeLine + 1 := by
    simp only [Array.size_append, Array.size_extract, List.size_toArray, sizeLine]; lia
  obtain ⟨j', e⟩ : ∃ j', Obj.mapSeq (fun xs : Array Value => xs.extract 0 start.toNat ++ ws.toArray ++ xs.extract (max start stop).toNat xs.size) { cls := accCls, dict := some p.2, data := .seq (List.toArray vs) j, slots := #[] } =
      { cls := accCls, dict := some p.2, data := .seq (vs.toArray.extract 0 start.toNat ++ ws.toArray ++ vs.toArray.extract (max start stop).toNat vs.toArray.size) j', slots := #[] } := ⟨_, rfl⟩
  refine wpAny_bind ?_
  show wpAny _ _ (updateSeq p.1 (fun xs : Array Value => xs.extract 0 start.toNat ++ ws.toArray ++ xs.extract (max start stop).toNat xs.size)) _ _ s
  refine wpAny_updateSeq hx rfl ?_ (hz := hz) (_hz' := hz2)
  refine wpAny_bind (wpAny_letGo ?_)
  exact wpAny_pure ⟨.none, rfl, wpAny_pure (q _ ⟨j', by rw [Heap.get?_update_self _ hx (by rw [e]; rfl), e]⟩ (Heap.SameBut.update ..))⟩
theorem store_list : StoreFacts "list" accBases "object.__setattr__" "object" where
  mro := mro_list
  slot := .of (owner := "object") (n := "__setattr__") (by rw [typeLookup_type, builtinLookup_eq_fast]; kernel_rfl) (by decide +kernel) (by decide +kernel) (by decide +kernel)
    (by first | exact .inl (by decide +kernel) | exact .inr (by decide +kernel)) (by rw [isSubtype_type]; kernel_rfl)
  entry := F.store_object.entry
  kind := by decide +kernel
  split := by decide +kernel
  hasOwner := by decide +kernel
  args := fun a b c => by unfold argsOk; kernel_rfl
  passes := fun self => by kernel_rfl
theorem Pile.setSize {k : Int} {tk : Tok} {xs : List AD} {m₀ : Int} {kk : Nat} {Q : Unit → Shared → Prop} (T : TopOk C) (X : St C ρ σ s) (hp : ρ.l[kk]? = some p) (hσ : σ[kk]? = some (.acc xs m₀))
    (q : ∀ s', St C ρ (σ.set kk (.acc xs k)) s' → Stp C NoW ρ s.heap ρ s'.heap → Q () s') : wpAny (model C.prog C.w) A (setAttr (.ref p.1) "_initial_size" (.int k tk)) Q E s := by
  obtain ⟨vs, rs, P⟩ := X.pile hp hσ
  have hC := T.cls
  obtain ⟨mN, hn, hm⟩ := T.accNs
  have hD := P.keep _ _ hC
  have hn' := hn.keeps P.keep
  obtain ⟨j, hx⟩ := P.obj
  obtain ⟨t, hd⟩ := P.dct
  have hxC : p.1 ≠ 128 := fun z => by
    rw [z] at hx
    have := hx.symm.trans hD
    cases this
  have I : s.heap.Inst p.1 128 (fun x => if x = "_initial_size" then some (.int m₀ t) else Option.none) := ⟨_, hx, rfl, nofun, .inr ⟨p.2, rfl, Ne.symm P.ne, hd⟩⟩
  obtain ⟨hh, g, dd', tt, os⟩ := s
  refine store_attr (ns := ["_initial_size"]) store_list hD hn' ((hm _ (by decide)).trans rfl) ((hm _ (by decide)).trans rfl) (by rw [typeLookup_type, builtinLookup_eq_fast]; kernel_rfl) hxC I (fun h' tk' I' hk hsame => ?_) ?_ (by decide)
  · obtain ⟨o₁, e₁, c₁, d₁, sl₁, dk₁⟩ := hsame _ hx
    have edk := dk₁ _ rfl
    have eo : h'.get? p.1 = some { cls := accCls, dict := some p.2, data := .seq (List.toArray vs) j, slots := #[] } := by
      rw [e₁]
      obtain ⟨oc, od, odt, osl⟩ := o₁
      simp only at c₁ d₁ sl₁ edk
      subst c₁; subst d₁; subst sl₁; subst edk
      rfl
    have keepO : ∀ b o, b ≠ p.1 → b ≠ p.2 → hh.get? b = some o → h'.get? b = some o := fun b o h1 h2 e => hk b o h1 (fun o₀ dx e₀ ed => by
      rw [hx] at e₀; cases e₀; cases ed; exact h2) e
    obtain ⟨o', e', _, _, hd'⟩ := I'
    rw [eo] at e'; cases e'
    rcases hd' with ⟨z, _⟩ | ⟨dx, z, _, hns⟩
    · cases z
    · cases z
      have hns' : h'.Ns1 p.2 (fun x => if x = "_initial_size" then some (.int k tk) else Option.none) := by
        obtain ⟨o, es, ep, a1, a2, a3, a4, a5⟩ := hns
        refine ⟨o, es, ep, a1, a2, a3, a4, fun y => ?_⟩
        rw [a5 y]; by_cases hy : y = "_initial_size" <;> simp [hy]
      have L : LStp (fun b => b = p.1 ∨ b = p.2) .no hh h' := ⟨fun b o e _ hw => keepO b o (fun z => hw (.inl z)) (fun z => hw (.inr z)) e, fun b o e dd => ?_, fun b o e => ?_, fun _ _ q => q.elim⟩
      · obtain ⟨X', S'⟩ := X.set (tk := tk') (b := .acc xs k) hσ hp L fun S => ⟨P.ne, ⟨vs, j, eo, rs.mono S WOk.no X.inv.tabs0⟩, tk, hns'⟩
        exact q _ X' S'
      · by_cases z1 : b = p.1
        · subst z1; rw [hx] at e; cases e; cases dd
        · by_cases z2 : b = p.2
          · subst z2
            obtain ⟨o2, es, ep, a1, a2, _⟩ := hns'
            exact ⟨o2, a1, by rw [a2]; rfl⟩
          · exact ⟨o, keepO b o z1 z2 e, dd⟩
      · by_cases z1 : b = p.1
        · subst z1; exact ⟨_, eo⟩
        · by_cases z2 : b = p.2
          · subst z2
            obtain ⟨o2, es, ep, a1, a2, _⟩ := hns'
            exact ⟨o2, a1⟩
          · exact ⟨o, keepO b o z1 z2 e⟩
  · intro x hx'
    by_cases q : x = "_initial_size"
    · rw [q]; exact .head _
    · simp [q] at hx'
theorem slice_ev {tl th : Sd} {q' : Pos} {xl xh : X} {y z : Option AD} {lo hi : Option Int} {Q : Value → Shared → Prop} (Y : Hyp C) (N : Now C n sc ns env A f ρ σ s) (okl : (un sc ns xl tl).ok = true) (okh : (un sc ns xh th).ok = true)
    (el : Ev n xl f σ (.o y) σ) (eh : Ev n xh f σ (.o z) σ) (pl : partD y = some lo) (ph : partD z = some hi)
    (q : ∀ ρ' s' sl vl vu, Now C n sc ns env A f ρ' σ s' → Stp C NoW ρ s.heap ρ' s'.heap → s'.heap.IsSliceOf sl vl vu .none → IsPart vl lo → IsPart vu hi → Q (.ref sl) s') :
    wpAny (model C.prog C.w) A (eval (.Slice (un sc ns xl tl).nd.toO (un sc ns xh th).nd.toO .none q') env) Q E s := by
  rw [arm_eval_Slice]
  refine wpAny_bind (wpAny_mono (el Y _ _ _ _ _ _ _ okl N E) (fun vl s₂ hv => wpAny_bind (wpAny_holding ?_)) fun _ _ e => e)
  obtain ⟨ρ₂, N₂, S₂, v2, up2⟩ := hv.split N
  refine wpAny_mono (eh Y _ _ _ _ _ _ _ okh N₂ E) (fun vu s₃ hv => ?_) fun _ _ e => e
  obtain ⟨ρ₃, N₃, S₃, v3, up3⟩ := hv.split N₂
  refine wpAny_bind (wpAny_holding (wpAny_pure (wpAny_newObj_type ?_)))
  have S₄ : Stp C NoW ρ₃ s₃.heap ρ₃ (s₃.heap.push { cls := .type "slice", data := .fields #[vl, vu, .none] }) := (LStp.of_keeps (keeps_push _)).stp
  have N₄ := N₃.step (s' := { s₃ with heap := s₃.heap.push { cls := .type "slice", data := .fields #[vl, vu, .none] } }) (N₃.st.push _) S₄
  exact q _ _ _ _ _ N₄ ((S₂.trans S₃).trans S₄) (Heap.IsSliceOf.new ..) (part_ok pl (up3 v2)).1 (part_ok ph v3).1
theorem small_nat {k : Nat} (h : k ≤ 5000) : smallI (k : Int) = true := by
  unfold smallI
  simp only [Bool.and_eq_true, decide_eq_true_eq]
  lia
theorem part_int {i : Int} (h : smallI i = true) : partD (some (.int i)) = some (some i) := by
  show bIf (smallI i) (some (some i)) = _
  rw [h]; rfl
theorem part_nat {k : Nat} (h : k ≤ 5000) : partD (some (.int (k : Int))) = some (some (k : Int)) := part_int (small_nat h)
theorem slcL_from {α : Type} (xs : List α) (k : Nat) (h : k ≤ xs.length) : slcL xs (some (k : Int)) Option.none = xs.drop k := by
  have e : clampI (k : Int) xs.length = k := by show (if k ≤ xs.length then k else xs.length) = k; rw [if_pos h]
  unfold slcL
  simp only [e]
  exact List.take_of_length_le (by simp)
theorem set_from (vs : List Value) (k : Nat) (h : k ≤ vs.length) : vs.toArray.extract 0 (sliceBounds (some (k : Int)) Option.none Option.none vs.toArray.size).1.toNat ++ (List.toArray ([] : List Value)) ++ vs.toArray.extract (max (sliceBounds (some (k : Int)) Option.none Option.none vs.toArray.size).1 (sliceBounds (some (k : Int)) Option.none Option.none vs.toArray.size).2.1).toNat vs.toArray.size = (vs.take k).toArray := by
  have e1 : (sliceBounds (some (k : Int)) Option.none Option.none vs.toArray.size).1 = (k : Int) := by
    simp [sliceBounds]
    rw [if_neg (by lia)]; lia
  have e2 : (sliceBounds (some (k : Int)) Option.none Option.none vs.toArray.size).2.1 = (vs.length : Int) := by simp [sliceBounds]
  rw [e1, e2]
  have e3 : (max (k : Int) (vs.length : Int)).toNat = vs.length := by lia
  rw [e3]
  refine Array.toList_inj.mp ?_
  simp
theorem set_all (vs ws : List Value) : vs.toArray.extract 0 (sliceBounds Option.none Option.none Option.none vs.toArray.size).1.toNat ++ ws.toArray ++ vs.toArray.extract (max (sliceBounds Option.none Option.none Option.none vs.toArray.size).1 (sliceBounds Option.none Option.none Option.none vs.toArray.size).2.1).toNat vs.toArray.size = ws.toArray := by
  have e1 : (sliceBounds Option.none Option.none Option.none vs.toArray.size).1 = 0 := by simp [sliceBounds]
  have e2 : (sliceBounds Option.none Option.none Option.none vs.toArray.size).2.1 = (vs.length : Int) := by simp [sliceBounds]
  rw [e1, e2]
  refine Array.toList_inj.mp ?_
  simp
theorem own_plain (N : Now C n sc ns env A f ρ σ s) (hfr : ∀ x, env.kindOf x ≠ some .free) (hcl : env.cells = []) {x : Str} (h0 : ns[0]? = some x) : OwnOk C env ρ s.heap := {
    ge := fun b q => by
      rcases q with rfl | ⟨x, hc, _⟩
      · exact Nat.le_refl _
      · rw [hcl] at hc; cases hc
    new := fun b q => by
      rcases q with rfl | ⟨x, hc, _⟩
      · exact N.ev.big
      · rw [hcl] at hc; cases hc
    ok := fun b q => by
      rcases q with rfl | ⟨x, hc, _⟩
      · obtain ⟨o, l, _⟩ := N.ev.slot 0 _ h0
        rcases l with ⟨_, m, ⟨o, es, ep, e, d, _⟩, _⟩ | ⟨_, _, c, hc, _⟩
        · exact ⟨o, e, by rw [d]; rfl⟩
        · rw [hcl] at hc; cases hc
      · rw [hcl] at hc; cases hc
    off := fun b q => by
      rcases q with rfl | ⟨x, hc, _⟩
      · exact N.ev.off
      · rw [hcl] at hc; cases hc
    inj := fun x y c hx => by rw [hcl] at hx; cases hx
    ne := fun x c hx => by rw [hcl] at hx; cases hx
    cell := hfr }
theorem own_is (hcl : env.cells = []) : ∀ b o, Own env b → s.heap.get? b = some o → b = env.locals := fun b o q _ => by
  rcases q with rfl | ⟨x, hc, _⟩
  · rfl
  · rw [hcl] at hc; cases hc
theorem no_free {sc : Scope} (h : sc.names.all (fun p => p.2 != .free) = true) (e : env.scope = sc) (x : Str) : env.kindOf x ≠ some .free := fun q => by
  have q : env.scope.names.lookup x = some .free := q
  rw [e] at q
  exact bne_iff_ne.mp (List.all_eq_true.mp h (x, .free) (PySem.mem_of_lookup q)) rfl
noncomputable abbrev nsPf : List Str := ["self", "i", "popped"]
noncomputable abbrev unPf (x : X) (t : Sd) : Rn := un (mScope "pop_from") nsPf x t
noncomputable def pfText : List Stmt :=
  [.Assign [nameE nsPf 2 (P1 63 8 14)] (.Subscript (nameE nsPf 0 (P1 63 17 21)) (.Slice (unPf (.som (.v 1)) (sp (P1 63 22 23) default [])).nd.toO (unPf .non Sd.none).nd.toO .none (P1 63 22 24)) (P1 63 17 25)) (P1 63 8 25),
   .Assign [.Subscript (nameE nsPf 0 (P1 64 8 12)) (.Slice (unPf (.som (.v 1)) (sp (P1 64 13 14) default [])).nd.toO (unPf .non Sd.none).nd.toO .none (P1 64 13 15)) (P1 64 8 16)] (unPf (.ll .nil) (sp (P1 64 19 21) default [])).nd.toE (P1 64 8 21),
   .Return (some (unPf (.v 2) (sp (P1 65 15 21) default [])).nd.toE) (P1 65 8 21)]
theorem tx_pf : mBody "pop_from" = pfText := by with_unfolding_all rfl
theorem pf_free : (mScope "pop_from").names.all (fun p => p.2 != .free) = true := by with_unfolding_all rfl
theorem pf_walk {k kk : Nat} {xs : List AD} (Y : Hyp C) (hsc : env.scope = mScope "pop_from") (hcl : env.cells = [])
    (N : Now C n (mScope "pop_from") nsPf env A [some (.d (.ref k)), some (.d (.int (kk : Int))), Option.none] ρ σ s) (hσ : σ[k]? = some (.acc xs m)) (hl : xs.length ≤ 5000) (hk : kk ≤ xs.length) (hσ' : σ.set k (.acc (xs.take kk) m) = σ') :
    wpAny (model C.prog C.w) A (execs pfText env) (MRes C env ρ s σ' (.lst (xs.drop kk))) E s := by
  have hkk : kk ≤ 5000 := Nat.le_trans hk hl
  have O : OwnOk C env ρ s.heap := own_plain N (no_free pf_free hsc) hcl (x := "self") rfl
  refine wpAny_execs_cons (wpAny_Assign_Name ?_ rfl)
  rw [arm_eval_Subscript]
  refine wpAny_bind (wpAny_mono (N.load (i := 0) rfl) (fun ov s₁ hv => wpAny_bind (wpAny_holding ?_)) fun _ _ e => e)
  obtain ⟨ρ₁, p, N₁, S₁, rfl, hp⟩ := N.ref (i := 0) rfl hv
  refine slice_ev Y N₁ rfl rfl (y := some (.int (kk : Int))) (z := Option.none) (lo := some (kk : Int)) (hi := Option.none) (e_som (e_v rfl)) e_non (part_nat hkk) rfl fun ρ₂ s₂ sl vl vu N₂ S₂ hs pl pu => wpAny_bind (wpAny_standAt ?_)
  have hp₂ := S₂.idx hp
  obtain ⟨us, rs, P⟩ := N₂.st.pile hp₂ hσ
  refine sub_ok (fun Q q => (accItem Y.top _ _ _ _ _ _ _ _ _ _ N₂.ac N₂.st hp₂ hσ rs P.obj).1 _ Q q) (P.getSlice Y.top hs pl pu (by rw [rs.length]; exact hl) ?_)
  rw [slicePick_eq, slcL_from us kk (by rw [rs.length]; exact hk)]
  have S₃ : Stp C NoW ρ₂ s₂.heap ρ₂ (s₂.heap.push { cls := .type "list", data := .seq (us.drop kk).toArray }) := (LStp.of_keeps (keeps_push _)).stp
  have N₃ := N₂.step (s' := { s₂ with heap := s₂.heap.push { cls := .type "list", data := .seq (us.drop kk).toArray } }) (N₂.st.push _) S₃
  have S0 := (S₁.trans S₂).trans S₃
  refine N₃.store (O.mono S0 N.st.inv.tabs0) (Nat.lt_succ_self 2) (d := .lst (xs.drop kk)) (v := .ref s₂.heap.objs.size) ?_ fun s₄ X₄ S₄ O₄ V₄ => ?_
  · rw [VR]
    exact ⟨_, us.drop kk, rfl, ⟨_, Heap.get?_push_size _ rfl, rfl, _, rfl⟩, fun q => Nat.lt_irrefl _ (N₂.st.hr.lt q), (rs.drop kk).mono S₃ WOk.no N₂.st.inv.tabs0⟩
  have N₄ : Now C n (mScope "pop_from") nsPf env A [some (.d (.ref k)), some (.d (.int (kk : Int))), some (.d (.lst (xs.drop kk)))] ρ₂ σ s₄ := N₃.stepF X₄ S₄ V₄
  refine wpAny_execs_cons (wpAny_Assign_Subscript (wpAny_mono (e_ll e_nil rfl Y _ _ _ _ _ _ _ rfl N₄ E) (fun lv s₅ hv => ?_) fun _ _ e => e) rfl)
  obtain ⟨ρ₅, N₅, S₅, v₅, _⟩ := hv.split N₄
  refine wpAny_mono (N₅.load (i := 0) rfl) (fun ov s₆ hv => ?_) fun _ _ e => e
  obtain ⟨ρ₆, p', N₆, S₆, rfl, hp₆⟩ := N₅.ref (i := 0) rfl hv
  refine slice_ev Y N₆ rfl rfl (y := some (.int (kk : Int))) (z := Option.none) (lo := some (kk : Int)) (hi := Option.none) (e_som (e_v rfl)) e_non (part_nat hkk) rfl fun ρ₇ s₇ sl vl vu N₇ S₇ hs pl pu => ?_
  have hp₇ := S₇.idx hp₆
  obtain ⟨us', rs', P'⟩ := N₇.st.pile hp₇ hσ
  have v₇ := (v₅.mono S₆ WOk.no N₅.st.inv.tabs0).mono S₇ WOk.no N₆.st.inv.tabs0
  rw [VR] at v₇
  obtain ⟨la, lvs, rfl, lg, _, lrs⟩ := v₇
  rw [VRs] at lrs; subst lrs
  refine P'.setSlice Y.top hs pl pu (by rw [rs'.length]; exact hl) lg (by simp) fun h' ⟨j', hj⟩ hsb => ?_
  rw [set_from us' kk (by rw [rs'.length]; exact hk)] at hj
  obtain ⟨X₈, S₈⟩ := N₇.st.setAcc (tk := s₇.toks) hσ hp₇ hsb hj (rs'.take kk)
  have N₈ := N₇.step X₈ S₈
  refine wpAny_execs_cons (wpAny_Return_some (wpAny_mono (N₈.load (i := 2) rfl) (fun v s₉ hv => ?_) fun _ _ e => e))
  obtain ⟨ρ₉, N₉, S₉, v₉, _⟩ := hv.split N₈
  exact .o ρ₉ (hσ' ▸ N₉.st) (((S0.own.trans S₄).trans ((((S₅.trans S₆).trans S₇).trans S₈).trans S₉).own).weaken (own_is hcl)) v₉
noncomputable abbrev nsRs : List Str := ["self", "startval"]
noncomputable abbrev unRs (x : X) (t : Sd) : Rn := un (mScope "reset") nsRs x t
noncomputable def rsIf : X := .ife (.tst (.cmp .is (.v 1) (.c .none))) (.sc (.asg 1 (.ll .nil)) .sn) .sn
noncomputable def rsUn : Rn := unRs rsIf (sdS 9 (nthS (mBody "reset") 0))
noncomputable def rsText : List Stmt :=
  [rsUn.nd.toS,
   .Assign [.Subscript (nameE nsRs 0 (P1 81 8 12)) (.Slice (unRs .non Sd.none).nd.toO (unRs .non Sd.none).nd.toO .none (P1 81 13 14)) (P1 81 8 15)] (unRs (.v 1) (sp (P1 81 18 26) default [])).nd.toE (P1 81 8 26),
   .Assign [.Attribute (nameE nsRs 0 (P1 82 8 12)) "_initial_size" (P1 82 8 26)] (unRs (.c (.int 0)) (.mk (P1 82 29 30) default 0 default Str.empty .none .none [])).nd.toE (P1 82 8 30)]
theorem tx_rs : mBody "reset" = rsText := by with_unfolding_all rfl
theorem ok_rs : rsUn.ok = true := by with_unfolding_all rfl
theorem rs_free : (mScope "reset").names.all (fun p => p.2 != .free) = true := by with_unfolding_all rfl
theorem rs_walk {k : Nat} {xs ys : List AD} {d : AD} (Y : Hyp C) (hsc : env.scope = mScope "reset") (hcl : env.cells = [])
    (N : Now C n (mScope "reset") nsRs env A [some (.d (.ref k)), some (.d d)] ρ σ s) (hd : (d = .none ∧ ys = []) ∨ d = .lst ys) (hσ : σ[k]? = some (.acc xs m)) (hl : xs.length ≤ 5000) (hy : ys.length ≤ 5000) (hσ' : σ.set k (.acc ys 0) = σ') :
    wpAny (model C.prog C.w) A (execs rsText env) (MRes C env ρ s σ' .none) E s := by
  have he : Ev n rsIf [some (.d (.ref k)), some (.d d)] σ (.f .next [some (.d (.ref k)), some (.d (.lst ys))]) σ := by
    rcases hd with ⟨rfl, rfl⟩ | rfl
    · exact e_ife_t (e_tst (e_cmp (e_v rfl) e_c rfl)) (e_sc (e_asg (e_ll e_nil rfl) (by show 1 < 2; decide)) e_sn)
    · exact e_pass (e_tst (e_cmp (e_v rfl) e_c rfl))
  refine wpAny_execs_cons (wpAny_mono (he Y _ _ _ _ _ _ _ ok_rs N (own_plain N (no_free rs_free hsc) hcl (x := "self") rfl) E) (fun fl s₁ hv => ?_) fun _ _ e => e)
  obtain ⟨ρ₁, X₁, S₁, V₁, O₁, hfl⟩ := hv
  cases fl <;> first | exact hfl.elim | skip
  have N₁ := N.stepF X₁ S₁ V₁
  refine wpAny_execs_cons (wpAny_Assign_Subscript (wpAny_mono (N₁.load (i := 1) rfl) (fun lv s₂ hv => ?_) fun _ _ e => e) rfl)
  obtain ⟨ρ₂, N₂, S₂, v₂, _⟩ := hv.split N₁
  refine wpAny_mono (N₂.load (i := 0) rfl) (fun ov s₃ hv => ?_) fun _ _ e => e
  obtain ⟨ρ₃, p, N₃, S₃, rfl, hp₃⟩ := N₂.ref (i := 0) rfl hv
  refine slice_ev Y N₃ rfl rfl (y := Option.none) (z := Option.none) (lo := Option.none) (hi := Option.none) e_non e_non rfl rfl fun ρ₄ s₄ sl vl vu N₄ S₄ hs pl pu => ?_
  have hp₄ := S₄.idx hp₃
  obtain ⟨us, rs, P⟩ := N₄.st.pile hp₄ hσ
  have v₄ := (v₂.mono S₃ WOk.no N₂.st.inv.tabs0).mono S₄ WOk.no N₃.st.inv.tabs0
  rw [VR] at v₄
  obtain ⟨la, lvs, rfl, lg, _, lrs⟩ := v₄
  refine P.setSlice Y.top hs pl pu (by rw [rs.length]; exact hl) lg (by rw [lrs.length]; exact hy) fun h' ⟨j', hj⟩ hsb => ?_
  rw [set_all] at hj
  obtain ⟨X₅, S₅⟩ := N₄.st.setAcc (tk := s₄.toks) hσ hp₄ hsb hj lrs
  have N₅ := N₄.step X₅ S₅
  refine wpAny_execs_cons (plainObj_wpAny_Assign_Attribute (wpAny_mono (e_c Y _ _ (.mk (P1 82 29 30) default 0 default Str.empty .none .none []) _ _ _ _ rfl N₅ E) (fun zv s₆ hv => ?_) fun _ _ e => e) rfl)
  obtain ⟨ρ₆, N₆, S₆, v₆, _⟩ := hv.split N₅
  obtain ⟨tz, rfl⟩ := v₆.ofInt
  refine wpAny_mono (N₆.load (i := 0) rfl) (fun ov s₇ hv => ?_) fun _ _ e => e
  obtain ⟨ρ₇, p', N₇, S₇, rfl, hp₇⟩ := N₆.ref (i := 0) rfl hv
  refine Pile.setSize Y.top N₇.st hp₇ (List.getElem?_set_self (List.getElem?_eq_some_iff.mp hσ).1) fun s₈ X₈ S₈ => ?_
  rw [List.set_set, hσ'] at X₈
  exact wpAny_execs_nil (.o ρ₇ X₈ ((S₁.trans ((((((S₂.trans S₃).trans S₄).trans S₅).trans S₆).trans S₇).trans S₈).own).weaken (own_is hcl)) (by rw [VR]))
end Mine
end
section
namespace Mine
open PySem PySem.W PyProof.Rows PySem.Calls
variable {n : Nat} {ρ ρ' ρ₀ : Rho} {σ σ' : H} {s s' : Shared} {h h' h₀ : Heap} {A : Around} {E : Value → Shared → Prop} {sc : Scope} {ns : List Str} {env : Env} {f : Fm} {a b c : X} {W : Addr → Prop} {p : Addr × Addr} {vs : List Value} {m : Int}
  {g : Array GenState} {d : Drawn} {t : Nat} {os : OsState} {body : List Stmt}
theorem at_onRaise {α : Type} {cd : Code} {M : Model} {mm : Sem α} {k : Value → Sem Unit} {Q : α → Shared → Prop} (h : PySem.wpAt M A cd mm Q (fun e s' => wpAny M A (k e) (fun _ s'' => E e s'') E s') s) : PySem.wpAt M A cd (mm.onRaise k) Q E s := fun Γ p hc hΓ => by
  rw [Sem.wp_onRaise]
  exact Sem.wp_mono M Γ mm (fun _ _ _ h' => h') (fun e p' s' h' => h' Γ p' hΓ) p s (h Γ p hc hΓ)
theorem at_cons {cd : Code} {M : Model} {st : Stmt} {rest : List Stmt} {Q : Flow → Shared → Prop} (h : PySem.wpAt M A cd (exec st env) (fun f s' => match f with | .next => PySem.wpAt M A cd (execs rest env) Q E s' | f => Q f s') E s) :
    PySem.wpAt M A cd (execs (st :: rest) env) Q E s := fun Γ p hc hΓ => by
  rw [execs_cons, Sem.wp_bind']
  refine Sem.wp_mono M Γ _ (fun f p' s' h' => ?_) (fun _ _ _ h' => h') _ _ (h Γ p hc hΓ)
  cases f <;> first | exact h' Γ p' hc hΓ | exact h'
theorem at_ret {cd : Code} {M : Model} {e : Expr} {pos : Pos} {Q : Flow → Shared → Prop} (h : PySem.wpAt M A cd (eval e env) (fun v => Q (.ret v)) E s) : PySem.wpAt M A cd (exec (.Return (some e) pos) env) Q E s := fun Γ p hc hΓ => by
  simp only [exec_Return_some, Sem.wp_bind', Sem.wp_cmd_standAt, Sem.wp_pure']; exact h Γ _ hc hΓ
theorem at_expr {cd : Code} {e : Expr} {pos : Pos} {Q : Flow → Shared → Prop} (h : PySem.wpAt (model C.prog C.w) A cd (eval e env) (fun _ => Q .next) E s) (hi : interactive env = false) (hs : swapsWith e none pos.line env = pure false) :
    PySem.wpAt (model C.prog C.w) A cd (exec (.Expr e pos) env) Q E s := by
  rw [exec_Expr env e pos hi hs]
  exact PySem.wpAt_bind (PySem.wpAt_of_wpAny (wpAny_standAt (PySem.wpAt_bind (PySem.wpAt_mono h (fun v s' h' => PySem.wpAt_of_wpAny (wpAny_dropValue h')) fun _ _ x => x))))
theorem at_noComps {env' : Env} {Q : List Env → Shared → Prop} {M : Model} (h : Q [] s) : PySem.wpAt M A (.func body env') comprehensionsAround Q E s := by
  unfold comprehensionsAround callersCodes
  refine PySem.wpAt_bind (PySem.wpAt_bind (PySem.wpAt_stack fun p below => ?_))
  try dsimp only
  split
  · rename_i hc
    exact absurd (show (some env'.frame != some env'.frame) = true from hc) (by simp)
  · first
      | refine PySem.wpAt_of_wpAny (wpAny_pure (PySem.wpAt_of_wpAny (wpAny_pure ?_)))
      | refine PySem.wpAt_bind (PySem.wpAt_of_wpAny (wpAny_pure (PySem.wpAt_of_wpAny (wpAny_pure (PySem.wpAt_of_wpAny (wpAny_pure ?_))))))
    have e : pastTheWaiting ((.func body env', p) :: below) = (.func body env', p) :: pastTheWaiting.go false (some (.func body env')) below := rfl
    rw [e]
    exact h
theorem at_neg {α : Type} {c : Prop} [Decidable c] {cd : Code} {M : Model} {x y : Sem α} {Q : α → Shared → Prop} (h : ¬ c) (w : PySem.wpAt M A cd y Q E s) : PySem.wpAt M A cd (if c then x else y) Q E s := by rw [if_neg h]; exact w
theorem at_pos {α : Type} {c : Prop} [Decidable c] {cd : Code} {M : Model} {x y : Sem α} {Q : α → Shared → Prop} (h : c) (w : PySem.wpAt M A cd x Q E s) : PySem.wpAt M A cd (if c then x else y) Q E s := by rw [if_pos h]; exact w
theorem at_any {α : Type} {cd : Code} {M : Model} {x : Sem α} {β : Type} {k : α → Sem β} {Q : β → Shared → Prop} (w : wpAny M A x (fun v s' => PySem.wpAt M A cd (k v) Q E s') E s) : PySem.wpAt M A cd (x >>= k) Q E s := PySem.wpAt_bind (PySem.wpAt_of_wpAny w)
structure SupC (C : Cx) (M : Meth) : Prop where
  ks : M.sc.names.lookup ("super" : Str) = some .globalImplicit
  kc : M.sc.names.lookup ("__class__" : Str) = some .free
  cl : M.cl = clCell
  ho : C.hk.get? M.fa = some M.obj
  head : ∃ ar, (M.par.posonlyargs ++ M.par.args).head? = some ar ∧ ar.arg = "self"
  file : ∃ oc vs tf, C.hk.get? M.cd = some oc ∧ oc.data = .fields vs ∧ vs[2]? = some (.str "/claim/cut.py" tf)
section
set_option maxHeartbeats 4000000
theorem top_super : (PySem.Challenge.pw_xh0014_01.main.scope.names.lookup ("super" : Str)).isSome = false := by with_unfolding_all rfl
theorem file_ok : ((PySem.Challenge.pw_xh0014_01.main.file : Str) == "/claim/cut.py") = true := by with_unfolding_all rfl
theorem supInit (T : TopOk C) : SupC C mInit := ⟨by with_unfolding_all rfl, by with_unfolding_all rfl, rfl, T.obj 13 rfl rfl, ⟨_, by with_unfolding_all rfl, by with_unfolding_all rfl⟩, ⟨_, _, _, T.obj 12 rfl rfl, rfl, rfl⟩⟩
theorem supPop (T : TopOk C) : SupC C mPop := ⟨by with_unfolding_all rfl, by with_unfolding_all rfl, rfl, T.obj 20 rfl rfl, ⟨_, by with_unfolding_all rfl, by with_unfolding_all rfl⟩, ⟨_, _, _, T.obj 19 rfl rfl, rfl, rfl⟩⟩
theorem supPcount (T : TopOk C) : SupC C mPcount := ⟨by with_unfolding_all rfl, by with_unfolding_all rfl, rfl, T.obj 32 rfl rfl, ⟨_, by with_unfolding_all rfl, by with_unfolding_all rfl⟩, ⟨_, _, _, T.obj 31 rfl rfl, rfl, rfl⟩⟩
end
theorem sup_base {M : Meth} {L : Addr} {p0 p1 : Pos} {attr : Str} {whole : Sem Value} {Q : Value → Shared → Prop} {k : Nat} {xs : List AD} {r : List Str} {fr : Fm} (T : TopOk C) (Z : SupC C M) (hat : (attr == ("__class__" : Str)) = false)
    (N : Now C n M.sc ("self" :: r) (M.envOf L) A (some (.d (.ref k)) :: fr) ρ σ s) (hσ : σ[k]? = some (.acc xs m))
    (hq : ∀ p so s', Now C n M.sc ("self" :: r) (M.envOf L) A (some (.d (.ref k)) :: fr) ρ σ s' → Stp C NoW ρ s.heap ρ s'.heap → ρ.l[k]? = some p → s'.heap.get? so = some (supObj p.1) → Q (.ref so) s') :
    PySem.wpAt (model C.prog C.w) A (.func body (M.envOf L)) (attributeBase (.Call (.Name "super" p0) [] [] p1) attr (M.envOf L) whole) Q E s := by
  obtain ⟨ar, har, har'⟩ := Z.head
  obtain ⟨oc, ws, tf, hco, hcd, hcs⟩ := Z.file
  have ks : (M.envOf L).kindOf "super" = some .globalImplicit := Z.ks
  have kc : (M.envOf L).kindOf "__class__" = some .free := Z.kc
  unfold attributeBase
  refine at_neg (by rw [hat, ks, kc]; decide) ?_
  refine at_any (wpAny_pure ?_)
  refine at_neg (by rw [kc]; decide) ?_
  refine at_any (wpAny_bind (wpAny_load (N.st.inv.keep _ _ Z.ho) (wpAny_pure ?_)))
  have har : (fun (p : Arguments) => (p.posonlyargs ++ p.args).head?) M.fd.params = some ar := har
  refine (Eq.symm har) ▸ ?_
  refine at_any (wpAny_askSetting (at_any (wpAny_field (N.st.inv.keep _ _ hco) hcd hcs ?_)))
  have hf : ((model C.prog C.w).prog.main.file == ("/claim/cut.py" : Str)) = true := by show (C.prog.main.file == _) = true; rw [T.prog]; exact file_ok
  have ht : ¬ (List.lookup (Str.ofString "super") (model C.prog C.w).prog.main.scope.names).isSome = true := by show ¬ (List.lookup (Str.ofString "super") C.prog.main.scope.names).isSome = true; rw [T.prog, show (List.lookup (Str.ofString "super") PySem.Challenge.pw_xh0014_01.main.scope.names).isSome = false from top_super]; decide
  dsimp only
  rw [if_pos hf]
  refine at_neg ht (at_any (wpAny_rule (at_any (wpAny_standAt ?_))))
  obtain ⟨mg, hg, gv⟩ := T.glob
  obtain ⟨mb, hmb, hboot⟩ := T.blt
  refine at_any ?_
  rw [loadName_read N.ev.kind ks]
  refine loadGlobal_builtin (hg.keeps N.st.inv.keep) (gv 28 rfl) (hmb.keeps N.st.inv.keep) ((hboot _ (by decide +kernel)).trans (show bootBuiltins "super" = some (.type "super") by decide +kernel)) ?_
  refine at_any (wpAny_loadName_free N.ev.kind kc (by rw [show (M.envOf L).cells = clCell from Z.cl]; rfl) ⟨_, N.st.inv.keep _ _ (T.obj 10 rfl rfl), rfl⟩ ?_ (by decide))
  refine PySem.wpAt_bind (at_noComps ?_)
  rw [har']
  obtain ⟨o, l, kk⟩ := N.ev.slot 0 "self" rfl
  obtain ⟨v, rfl, hv⟩ := kk (.d (.ref k)) rfl
  obtain ⟨p, hp, rfl⟩ : ∃ p, ρ.l[k]? = some p ∧ v = .ref p.1 := by have hv : VR ρ s.heap (.ref k) v := hv; rw [VR] at hv; exact hv
  have ld : ∀ {Q : Value → Shared → Prop} {E : Value → Shared → Prop}, Q (.ref p.1) s → wpAny (model C.prog C.w) A (loadName (M.envOf L) "self") Q E s := fun q => by
    rcases l with ⟨l1, m, l2, l3⟩ | ⟨l1 | l1, l2, c, l3, l4, _⟩
    · exact wpAny_loadName_local N.ev.kind l1 l2 l3 q
    · exact wpAny_loadName_cell N.ev.kind l1 l3 l4 q
    · exact wpAny_loadName_free N.ev.kind l1 l3 l4 q (beq_eq_false_iff_ne.mpr l2)
  refine at_any (ld ?_)
  obtain ⟨us, rs, P⟩ := N.st.pile hp hσ
  refine at_any (isType_cls (g := s.gens) (d := s.drawn) (t := s.toks) (os := s.os) (N.st.inv.keep _ _ T.cls) rfl ?_)
  exact PySem.wpAt_of_wpAny (sup_new (E := E) (A := A) (Q := Q) T P fun h' e keep => hq p _ _ (N.step (N.st.quiet keep) (LStp.of_keeps keep).stp) (LStp.of_keeps keep).stp hp e)
noncomputable abbrev supCall (p0 p1 q2 q3 : Pos) (name : Str) : Expr := .Call (.Attribute (.Call (.Name "super" p0) [] [] p1) name q2) [] [] q3
theorem sup_meth {M : Meth} {L : Addr} {p0 p1 q2 q3 : Pos} {name : Str} {Q : Value → Shared → Prop} {k : Nat} {xs : List AD} {r : List Str} {fr : Fm} (T : TopOk C) (Z : SupC C M) (hat : (name == ("__class__" : Str)) = false) (hl : (q2.endLine == q3.line) = true)
    (N : Now C n M.sc ("self" :: r) (M.envOf L) A (some (.d (.ref k)) :: fr) ρ σ s) (hσ : σ[k]? = some (.acc xs m))
    (hq : ∀ p so s' pl, Now C n M.sc ("self" :: r) (M.envOf L) A (some (.d (.ref k)) :: fr) ρ σ s' → Stp C NoW ρ s.heap ρ s'.heap → ρ.l[k]? = some p → s'.heap.get? so = some (supObj p.1) →
      wpAny (model C.prog C.w) A (getMethod (.ref so) name pl) (fun fx s₂ => wpAny (model C.prog C.w) A (callWith q3 fx.1 fx.2 [] []) Q E s₂) E s') :
    PySem.wpAt (model C.prog C.w) A (.func body (M.envOf L)) (eval (supCall p0 p1 q2 q3 name) (M.envOf L)) Q E s := by
  show PySem.wpAt _ _ _ (attributeBase (.Call (.Name "super" p0) [] [] p1) name (M.envOf L) (eval (.Call (.Name "super" p0) [] [] p1) (M.envOf L)) >>= fun ov => standAt q2.atName >>= fun _ => methodCall (.Call (.Name "super" p0) [] [] p1) name q2 q3 (M.envOf L) ov (0 + 0) [] []) _ _ _
  refine PySem.wpAt_bind (sup_base T Z hat N hσ fun p so s₁ N₁ S₁ hp hso => PySem.wpAt_of_wpAny (wpAny_bind (wpAny_standAt ?_)))
  unfold methodCall
  refine wpAny_bind (wpAny_holding (wpAny_mono (hq p so s₁ _ N₁ S₁ hp hso) (fun fx s₂ h₂ => ?_) fun _ _ e => e))
  have e2 : methodCallPos true (.Call (.Name "super" p0) [] [] p1) (M.envOf L) q2 q3 = pure q3 := by
    unfold methodCallPos
    rw [hl]; rfl
  show wpAny _ _ (methodCallPos true (.Call (.Name "super" p0) [] [] p1) (M.envOf L) q2 q3 >>= fun cp => callWith cp fx.1 fx.2 _ _) _ _ _
  rw [e2]
  exact wpAny_bind (wpAny_pure h₂)
theorem bound_none {q : Addr} {id bcls : String} {b : Builtin} {pos : Pos} {Q : Value → Shared → Prop} (hb : s.heap.get? q = some { cls := .type bcls, data := .fields #[.builtin id, .ref p.1] })
    (hc : bcls = "method-wrapper" ∨ bcls = "builtin_function_or_method") (hch : ∀ {Q : Unit → Shared → Prop} {E : Value → Shared → Prop}, Q () s → wpAny (model C.prog C.w) A.in1 (checkBoundCall id ⟨[.ref p.1], []⟩) Q E s) (hpl : plainId id = true) (he : entryFor table id = some b)
    (hw : wpAny (model C.prog C.w) A.in1 (b ⟨[.ref p.1], []⟩) (fun fin s' => ∃ v, fin = .done (.ret v) ∧ Q v s') E s) : wpAny (model C.prog C.w) A (callWith pos (.ref q) [] [] []) Q E s := by
  refine callWith_ok rfl rfl (evalArgs_ok rfl rfl (spliced_nil (wpAny_pure ?_)))
  have hm : ∀ bc : String, (bc = "method-wrapper" ∨ bc = "builtin_function_or_method") → (Value.type bc != .type "method") = true := fun bc hc => by rcases hc with rfl | rfl <;> decide
  exact ⟨fun Q q => keeper_bound hb rfl (hm _ hc) q, bound_call hb hc hch hpl he hw⟩
theorem pile_push (P : Pile C s p vs m) {o : Obj} {tk : Nat} : Pile C { s with heap := s.heap.push o, toks := tk } p vs m :=
  ⟨fun b o e => keeps_push _ _ _ (P.keep b o e), let ⟨k, e⟩ := P.obj; ⟨k, keeps_push _ _ _ e⟩, let ⟨t, e⟩ := P.dct; ⟨t, e.keeps (keeps_push _)⟩, P.ne⟩
noncomputable def pcText : List Stmt := [.Return (some (supCall (P1 88 15 20) (P1 88 15 22) (P1 88 15 30) (P1 88 15 32) "__len__")) (P1 88 8 32)]
theorem tx_pc : mBody "part_count" = pcText := by with_unfolding_all rfl
theorem pc_walk {L : Addr} {k : Nat} {xs : List AD} (T : TopOk C) (N : Now C n (mScope "part_count") ["self"] (mPcount.envOf L) A [some (.d (.ref k))] ρ σ s) (hσ : σ[k]? = some (.acc xs m)) :
    PySem.wpAt (model C.prog C.w) A (.func body (mPcount.envOf L)) (execs pcText (mPcount.envOf L)) (MRes C (mPcount.envOf L) ρ s σ (.int xs.length)) E s := by
  refine at_cons (at_ret (sup_meth T (supPcount T) (by decide) rfl N hσ fun p so s₁ pl N₁ S₁ hp hso => ?_))
  obtain ⟨us, rs, P⟩ := N₁.st.pile hp hσ
  refine sup_method T P hso (bo := { cls := .type "method-wrapper", data := .fields #[.builtin "list.__len__", .ref p.1] }) Sup.ownLen Sup.typeLen Sup.slotWrap.lookup (by decide) (fun P q => bind_wrap T P Sup.typeLen (by decide +kernel) q) ?_
  have hb : (s₁.heap.push { cls := .type "method-wrapper", data := .fields #[.builtin "list.__len__", .ref p.1] }).get? s₁.heap.objs.size = some { cls := .type "method-wrapper", data := .fields #[.builtin "list.__len__", .ref p.1] } := Heap.get?_push_size _ rfl
  refine bound_none (p := p) hb (.inl rfl) (fun q => wpAny_of_eq (by kernel_rfl) q) (by decide +kernel) F.entry_list_len ?_
  obtain ⟨j, hx⟩ := P.obj
  have hx' := keeps_push (h := s₁.heap) { cls := .type "method-wrapper", data := .fields #[.builtin "list.__len__", .ref p.1] } _ _ hx
  have X₂ : St C ρ σ { s₁ with heap := s₁.heap.push { cls := .type "method-wrapper", data := .fields #[.builtin "list.__len__", .ref p.1] }, toks := s₁.toks + 1 } := N₁.st.push _
  have S₂ : Stp C NoW ρ s₁.heap ρ (s₁.heap.push { cls := .type "method-wrapper", data := .fields #[.builtin "list.__len__", .ref p.1] }) := (LStp.of_keeps (keeps_push _)).stp
  show wpAny _ _ (do retInt (← seqSize p.1)) _ _ _
  unfold seqSize
  refine wpAny_bind (wpAny_bind (wpAny_load hx' ?_))
  refine wpAny_pure (wpAny_bind (wpAny_mkInt (wpAny_pure ⟨_, rfl, ?_⟩)))
  have e : ((List.toArray us).size : Int) = (xs.length : Int) := by rw [List.size_toArray, rs.length]
  rw [e]
  exact .v (PV.trans (S₁.trans S₂) (PV.int (k := s₁.toks + 1 + 1) X₂))
theorem sig_pop : Manifest.signature? "list.pop" = some ⟨.positional, "list.pop", "pop", .self, [⟨"index", .posOnly, false⟩]⟩ := by kernel_rfl
theorem Pile.boundPop {Q : Unit → Shared → Prop} (T : TopOk C) (P : Pile C s p vs m) (q : Q () s) : wpAny (model C.prog C.w) A (checkBoundCall "list.pop" ⟨[.ref p.1], []⟩) Q E s := by
  have hC := T.cls
  have hD := P.keep _ _ hC
  obtain ⟨ox, hx, hxc, j, hxd⟩ : ∃ ox, s.heap.get? p.1 = some ox ∧ ox.cls = .ref 128 ∧ ∃ j, ox.data = .seq (List.toArray vs) j := let ⟨j, hx⟩ := P.obj; ⟨_, hx, rfl, j, rfl⟩
  have ec : ((Value.ref 128 :: accBases).contains (.type "module")) = false := by decide
  have hv : Manifest.varargsMethods.contains "list.pop" = false := by decide +kernel
  have hk : builtinKind "list.pop" = some .method := by decide +kernel
  obtain ⟨h, g, d, t, os⟩ := s
  unfold checkBoundCall
  rw [sig_pop, hk]
  simp only [hv]
  unfold isInstance
  refine wpAny_bind (wpAny_bind (wpAny_typeOf_ref hx ?_))
  rw [hxc]
  refine wpAny_isSubtype_exc hD ?_
  rw [ec]
  simp only [Bool.false_or, Bool.or_false, Bool.false_eq_true, if_false]
  refine wpAny_bind (isType_seq hx hxd ?_)
  simp only [Bool.false_eq_true, if_false]
  refine wpAny_bind (wpAny_typeOf_ref hx ?_)
  rw [hxc]
  dsimp only
  unfold classData
  refine wpAny_bind (wpAny_bind (wpAny_load hD ?_))
  refine wpAny_pure ?_
  refine wpAny_bind (wpAny_typeOf_ref hD ?_)
  rw [if_pos (show (Value.type "type" == Value.type "type") = true by decide)]
  have e : Bind.checkArgs "list.pop" { machinery := Manifest.Machinery.positional, full := toString (Str.toString (Str.ofString "_Accumulator")) ++ toString "." ++ toString (Bind.lastOf "list.pop"), short := "pop", receiver := Manifest.Receiver.self, params := [{ name := "index", kind := Manifest.ParamKind.posOnly, required := false }] } { pos := [Value.ref p.fst] } = pure () := by kernel_rfl
  exact wpAny_of_eq e q
theorem erase_last {α : Type} (vs : List α) (v : α) : (vs ++ [v]).eraseIdx vs.length = vs := by rw [List.eraseIdx_append_of_length_le (Nat.le_refl _)]; simp
theorem VRs.snoc {d : AD} : ∀ {xs : List AD} {vs : List Value}, VRs ρ h (xs ++ [d]) vs → ∃ ws w, vs = ws ++ [w] ∧ VRs ρ h xs ws ∧ VR ρ h d w
  | [], vs, e => by
    obtain ⟨w, rfl, q⟩ := VRs.one e
    exact ⟨[], w, rfl, .nil, q⟩
  | x :: xs, vs, e => by
    obtain ⟨v, w, rfl, e1, e2⟩ := VRs.cons_inv e
    obtain ⟨ws, w', rfl, f1, f2⟩ := VRs.snoc e2
    exact ⟨v :: ws, w', rfl, .cons e1 f1, f2⟩
theorem Pile.popBody {v : Value} {Q : Value → Shared → Prop} (P : Pile C s p (vs ++ [v]) m) (hl : vs.length ≤ 5000)
    (q : ∀ h', (∃ j, h'.get? p.1 = some { cls := accCls, dict := some p.2, data := .seq (List.toArray vs) j, slots := #[] }) → Heap.SameBut p.1 s.heap h' → Q v { s with heap := h' }) :
    wpAny (model C.prog C.w) A (Builtin.«list.pop» ⟨[.ref p.1], []⟩) (fun fin s' => ∃ v, fin = .done (.ret v) ∧ Q v s') E s := by
  obtain ⟨j, hx⟩ := P.obj
  have hz : (vs ++ [v]).toArray.size ≤ sizeLine := by simp only [List.size_toArray, sizeLine, List.length_append, List.length_singleton]; lia
  unfold Builtin.«list.pop»
  have e0 : selfAndSome "list.pop" "pop" 0 1 ⟨[.ref p.1], []⟩ = pure (.ref p.1, []) := by kernel_rfl
  refine wpAny_bind (wpAny_of_eq e0 ?_)
  dsimp only
  refine wpAny_bind (wpAny_pure ?_)
  have hfit : (!Builtin.List.listFitsIndex (-1)) = false := by decide +kernel
  rw [hfit]
  simp only [Bool.false_eq_true, if_false]
  unfold Builtin.List.listItems
  refine wpAny_bind (wpAny_bind (wpAny_seqItems hx rfl (wpAny_pure ?_)))
  have hne : (vs ++ [v]).toArray.isEmpty = false := by simp
  rw [hne]
  simp only [Bool.false_eq_true, if_false]
  have hix : (seqIndex? (-1) (vs ++ [v]).toArray.size).bind (fun k => Option.map (fun x => (k, x)) (vs ++ [v]).toArray[k]?) = some (vs.length, v) := by
    have e1 : seqIndex? (-1) (vs ++ [v]).toArray.size = some vs.length := by
      unfold seqIndex?
      simp
      lia
    rw [e1]
    simp
  rw [hix]
  dsimp only
  unfold Builtin.List.listUpdate
  have e : Obj.mapSeq (fun x : Array Value => x.eraseIdxIfInBounds vs.length) { cls := accCls, dict := some p.2, data := .seq (List.toArray (vs ++ [v])) j, slots := #[] } = { cls := accCls, dict := some p.2, data := .seq (List.toArray vs) (j + 1), slots := #[] } := by
    simp [Obj.mapSeq, Array.eraseIdxIfInBounds, erase_last]
  refine wpAny_bind (wpAny_updateSeq hx rfl (wpAny_pure ⟨v, rfl, q _ ⟨j + 1, ?_⟩ (Heap.SameBut.update ..)⟩) (hz := hz) (_hz' := ?_))
  · rw [Heap.get?_update_self _ hx (by rw [e]; rfl), e]
  · have : ((vs ++ [v]).toArray.eraseIdxIfInBounds vs.length).size ≤ (vs ++ [v]).toArray.size := by
      unfold Array.eraseIdxIfInBounds
      split
      · simp [erase_last]
      · exact Nat.le_refl _
    exact Nat.le_trans this (Nat.le_succ_of_le hz)
noncomputable def popT : X := .tst (.cmp .eq (.am .pcount (.v 0) .nil) (.c (.int 0)))
noncomputable def popE : X := .tp (.cons (.c (.str ⟨#[]⟩)) (.cons (.c (.str ⟨#[]⟩)) .nil))
noncomputable def unPop1 : Rn := un (mScope "pop") ["self"] popT (sdE 9 (ifT (nthS (mBody "pop") 0)))
noncomputable def unPop2 : Rn := un (mScope "pop") ["self"] popE (sdE 9 (stV (nthS (ifB (nthS (mBody "pop") 0)) 0)))
noncomputable def popText : List Stmt := [.If unPop1.nd.toE [.Return (some unPop2.nd.toE) (P1 69 12 27)] [] ⟨68, 8, 69, 27⟩, .Return (some (supCall (P1 70 15 20) (P1 70 15 22) (P1 70 15 26) (P1 70 15 28) "pop")) (P1 70 8 28)]
theorem tx_pop : mBody "pop" = popText := by with_unfolding_all rfl
theorem ok_pop1 : unPop1.ok = true := by with_unfolding_all rfl
theorem ok_pop2 : unPop2.ok = true := by with_unfolding_all rfl
theorem pop_test {k : Nat} {xs : List AD} (hσ : σ[k]? = some (.acc xs m)) (hR : CallS n (.fn .pcount) [.ref k] Option.none σ (.int xs.length) σ) {B : Bool} (hB : ((xs.length : Int) == 0) = B) : Ev n popT [some (.d (.ref k))] σ (.b B) σ :=
  e_tst (e_cmp (e_am (e_v rfl) (by unfold isAcc; rw [hσ]) e_nil hR) e_c (by rw [← hB]; rfl))
theorem pop_walk0 {L : Addr} {k : Nat} (Y : Hyp C) (N : Now C n (mScope "pop") ["self"] (mPop.envOf L) A [some (.d (.ref k))] ρ σ s) (hσ : σ[k]? = some (.acc [] m)) (hR : CallS n (.fn .pcount) [.ref k] Option.none σ (.int 0) σ) :
    PySem.wpAt (model C.prog C.w) A (.func body (mPop.envOf L)) (execs popText (mPop.envOf L)) (MRes C (mPop.envOf L) ρ s σ (.tup [.str ⟨#[]⟩, .str ⟨#[]⟩])) E s := by
  refine at_cons (PySem.wpAt_of_wpAny ?_)
  refine wpAny_If (wpAny_mono (pop_test (B := true) hσ hR rfl Y _ _ _ _ _ _ _ ok_pop1 N E) (fun bv s₁ hv => ?_) fun _ _ e => e)
  obtain ⟨rfl, ρ₁, X₁, S₁⟩ := hv
  exact wpAny_execs_cons (wpAny_Return_some (wpAny_mono (e_tp (e_cons e_c (e_cons e_c e_nil)) rfl Y _ _ _ _ _ _ _ ok_pop2 (N.step X₁ S₁) E) (fun v s₂ hv => .v (PV.trans S₁ hv)) fun _ _ e => e))
theorem pop_walk {L : Addr} {k : Nat} {ys : List AD} {d : AD} (Y : Hyp C) (N : Now C n (mScope "pop") ["self"] (mPop.envOf L) A [some (.d (.ref k))] ρ σ s) (hσ : σ[k]? = some (.acc (ys ++ [d]) m)) (hx : ys.length ≤ 4999) (hR : CallS n (.fn .pcount) [.ref k] Option.none σ (.int (ys ++ [d]).length) σ) :
    PySem.wpAt (model C.prog C.w) A (.func body (mPop.envOf L)) (execs popText (mPop.envOf L)) (MRes C (mPop.envOf L) ρ s (σ.set k (.acc ys m)) d) E s := by
    refine at_cons (PySem.wpAt_of_wpAny ?_)
    refine wpAny_If (wpAny_mono (pop_test (B := false) hσ hR (beq_eq_false_iff_ne.mpr (by simp; lia)) Y _ _ _ _ _ _ _ ok_pop1 N E) (fun bv s₁ hv => ?_) fun _ _ e => e)
    obtain ⟨rfl, ρ₁, X₁, S₁⟩ := hv
    have N₁ := N.step X₁ S₁
    refine wpAny_execs_nil ?_
    show PySem.wpAt _ _ _ (execs [.Return (some (supCall (P1 70 15 20) (P1 70 15 22) (P1 70 15 26) (P1 70 15 28) "pop")) (P1 70 8 28)] _) _ _ _
    refine at_cons (at_ret (sup_meth Y.top (supPop Y.top) (by decide) rfl N₁ hσ fun p so s₂ pl N₂ S₂ hp hso => ?_))
    obtain ⟨us, rs, P⟩ := N₂.st.pile hp hσ
    refine sup_method Y.top P hso (bo := { cls := .type "builtin_function_or_method", data := .fields #[.builtin "list.pop", .ref p.1] }) Sup.ownPop Sup.typePop Sup.slotMeth.lookup (by decide) (fun P q => bind_meth Y.top P Sup.typePop (by decide +kernel) (by decide +kernel) q) ?_
    have hb : (s₂.heap.push { cls := .type "builtin_function_or_method", data := .fields #[.builtin "list.pop", .ref p.1] }).get? s₂.heap.objs.size = some { cls := .type "builtin_function_or_method", data := .fields #[.builtin "list.pop", .ref p.1] } := Heap.get?_push_size _ rfl
    have X₃ : St C ρ₁ σ { s₂ with heap := s₂.heap.push { cls := .type "builtin_function_or_method", data := .fields #[.builtin "list.pop", .ref p.1] }, toks := s₂.toks + 1 } := N₂.st.push _
    have S₃ : Stp C NoW ρ₁ s₂.heap ρ₁ (s₂.heap.push { cls := .type "builtin_function_or_method", data := .fields #[.builtin "list.pop", .ref p.1] }) := (LStp.of_keeps (keeps_push _)).stp
    obtain ⟨us₃, rs₃, P₃⟩ := X₃.pile hp hσ
    obtain ⟨ws, wl, rfl, w1, w2⟩ := rs₃.snoc
    refine bound_none (p := p) hb (.inr rfl) (fun q => P₃.boundPop Y.top q) F.slot_list_pop.plain F.entry_list_pop ?_
    refine P₃.popBody (by have := w1.length; lia) fun h' ⟨j, hj⟩ hsb => ?_
    obtain ⟨X₄, S₄⟩ := X₃.setAcc (tk := s₂.toks + 1) hσ hp hsb hj w1
    exact .v ⟨ρ₁, X₄, ((S₁.trans S₂).trans S₃).trans S₄, (w2.mono S₄ WOk.no X₃.inv.tabs0)⟩
theorem AC.under {v : Value} {k : Nat} (a : AC C (k + 1) A h) : AC C k (A.under (.builtin "type.__call__" ⟨[.ref 128, v], []⟩)) h ∧ (A.frames ≠ some [] → (A.under (.builtin "type.__call__" ⟨[.ref 128, v], []⟩)).frames ≠ some []) := by
  obtain ⟨l, e, q⟩ := a.fr
  have w : (Code.builtin "type.__call__" ⟨[.ref 128, v], []⟩).weight ≤ 3 := by
    have e : (Code.builtin "type.__call__" ⟨[.ref 128, v], []⟩).weight = 1 := by kernel_rfl
    lia
  have u : (Code.builtin "type.__call__" ⟨[.ref 128, v], []⟩).cUnits ≤ 90 := by
    have e : (Code.builtin "type.__call__" ⟨[.ref 128, v], []⟩).cUnits = 1 := by kernel_rfl
    lia
  have f : (A.under (.builtin "type.__call__" ⟨[.ref 128, v], []⟩)).frames = A.frames := by
    show pushEnvs (Code.envs (.builtin "type.__call__" ⟨[.ref 128, v], []⟩)) A.frames = _
    have e : Code.envs (.builtin "type.__call__" ⟨[.ref 128, v], []⟩) = [] := by kernel_rfl
    rw [e]; cases A.frames <;> rfl
  refine ⟨⟨a.hd, ?_, ?_, l, by rw [f]; exact e, q⟩, fun k => by rw [f]; exact k⟩
  · have := a.depth; show A.depth + _ + 4 * k + 120 ≤ 990; lia
  · have := a.units; show A.units + _ + 100 * k + 200 ≤ 9900; lia
theorem accNewInfo : builtinKind "list.__new__" = some .builtinFn ∧ splitId "list.__new__" = some ("list", "__new__") := ⟨by decide +kernel, by decide +kernel⟩
theorem sig_list_new : Manifest.signature? "list.__new__" = some ⟨.any, "list", "list", .cls, [⟨"args", .varPos, false⟩, ⟨"kwargs", .varKw, false⟩]⟩ := by kernel_rfl
theorem check_list_new (v : Value) : Bind.checkArgs "list.__new__" ⟨.any, "list", "list", .cls, [⟨"args", .varPos, false⟩, ⟨"kwargs", .varKw, false⟩]⟩ ⟨[.ref 128, v], []⟩ = pure () := by kernel_rfl
noncomputable abbrev rawPile (d : Addr) : Obj := { cls := accCls, dict := some d, data := .seq #[], slots := #[] }
noncomputable abbrev rawHeap (h : Heap) : Heap := (h.push { cls := .type "dict", data := .dict #[] }).push (rawPile h.objs.size)
theorem acc_new (T : TopOk C) (hk : ∀ b o, C.hk.get? b = some o → s.heap.get? b = some o) {v : Value} {Q₁ : Value → Shared → Prop} (hq : Q₁ (.ref (s.heap.objs.size + 1)) { s with heap := rawHeap s.heap }) :
    codeAny (model C.prog C.w) A (.call (.builtin "list.__new__") ⟨[.ref 128, v], []⟩) (wants Q₁ E) s := by
  have hC := T.cls
  have hD := hk _ _ hC
  have ec : ((Value.ref 128 :: accBases).contains (.type "list")) = true := by decide
  obtain ⟨hK, hS⟩ := accNewInfo
  have hown := owner_list_new
  have ha := check_list_new v
  obtain ⟨h, g, d, t, os⟩ := s
  refine codeAny_of_tree ?_
  show wpAny _ A.in1 (do checkBuiltinCall "list.__new__" ⟨[.ref 128, v], []⟩; again (.builtin "list.__new__" ⟨[.ref 128, v], []⟩)) _ _ _
  refine wpAny_bind ?_
  have hchk : ∀ {Q : Unit → Shared → Prop} {E : Value → Shared → Prop}, Q () ⟨h, g, d, t, os⟩ → wpAny (model C.prog C.w) A.in1 (checkBuiltinCall "list.__new__" ⟨[.ref 128, v], []⟩) Q E ⟨h, g, d, t, os⟩ := fun {Q E} q => by
    simp only [checkBuiltinCall, hK, hS, sig_list_new]
    refine wpAny_bind (isType_cls hD rfl ?_)
    simp only [Bool.not_true, Bool.false_eq_true, if_false]
    refine wpAny_bind (wpAny_isSubtype_exc hD ?_)
    rw [ec]
    simp only [Bool.not_true, Bool.false_eq_true, if_false]
    refine wpAny_bind (wpAny_staticBase_exc hD ?_)
    refine wpAny_bind (wpAny_madeBy_exc hD ?_)
    have ecan : (Manifest.canonical "list.__new__" != Manifest.canonical "list.__new__") = false := bne_self_eq_false _
    dsimp only
    rw [ecan]
    simp only [Bool.false_eq_true, if_false]
    exact wpAny_of_eq ha q
  refine hchk (wpAny_pure ⟨plainId_quiet F.plain_list_new _, codeAny_builtin_stack F.entry_list_new rfl fun p st => ?_⟩)
  rw [Around.under_plainId F.plain_list_new _]
  simp only [hown]
  repeat (first | (with_reducible refine isType_cls hD rfl ?_) | (with_reducible refine wpAny_isSubtype_exc hD ?_; rw [ec]) | wp_step)
  show wants Q₁ E (.ok (.ret (Value.ref (h.push { cls := Value.type "dict", data := Data.dict #[] }).objs.size))) _
  rw [Heap.size_push]
  exact hq
theorem list_init_lookup : typeLookup (.type "list") "__init__" = pure (some (.builtin "list.__init__")) := by rw [typeLookup_type, builtinLookup_eq_fast]; kernel_rfl
theorem acc_typecall (T : TopOk C) (hk : ∀ b o, C.hk.get? b = some o → s.heap.get? b = some o) {v : Value} {Q : PySem.Fin → Shared → Prop}
    (hq : wpAny (model C.prog C.w) A (PySem.call (.ref 65) [.ref (s.heap.objs.size + 1), v]) (fun r s' => r = .none ∧ Q (.done (.ret (.ref (s.heap.objs.size + 1)))) s') E { s with heap := rawHeap s.heap }) :
    wpAny (model C.prog C.w) A (Builtin.«type.__call__» ⟨[.ref 128, v], []⟩) Q E s := by
  have hC := T.cls
  have hD := hk _ _ hC
  obtain ⟨mN, hn, hm⟩ := T.accNs
  have hn' := hn.keeps hk
  have ho' := hk _ _ (T.obj 13 (a := 65) rfl rfl)
  have hi : mN "__init__" = some (.ref 65) := (hm _ (by decide)).trans rfl
  obtain ⟨h, g, d, t, os⟩ := s
  have up : ∀ b o, h.get? b = some o → (rawHeap h).get? b = some o := fun b o e => Heap.get?_push_of_some _ (Heap.get?_push_of_some _ e)
  have hget : (rawHeap h).get? (h.objs.size + 1) = some (rawPile h.objs.size) := by rw [← Heap.size_push h { cls := .type "dict", data := .dict #[] }]; exact Heap.get?_push_size _ rfl
  have hD₁ := up _ _ hD
  have hn₁ := hn'.keeps up
  have hcC : (Value.ref 128 :: accBases).contains (.ref 128) = true := by decide
  unfold Builtin.«type.__call__»
  simp only [show (Value.ref 128 == Value.type "type") = false from rfl, Bool.false_eq_true, if_false]
  refine wpAny_bind (wpAny_mroOf_exc hD ?_)
  simp only [List.isEmpty_cons, Bool.false_eq_true, if_false]
  refine wpAny_bind (wpAny_madeBy_exc hD ?_)
  dsimp only
  refine wpAny_bind (wpAny_pure ?_)
  refine wpAny_bind (wpAny_holding ?_)
  refine wpAny_call (codeAny_mono (acc_new (E := fun _ _ => False) (Q₁ := fun x s₁ => x = .ref (h.objs.size + 1) ∧ s₁ = ⟨rawHeap h, g, d, t, os⟩) T hk ⟨rfl, rfl⟩) fun r s₁ hr => ?_)
  cases r with
  | error e => exact hr.elim
  | ok fl =>
    cases fl with
    | ret obj =>
      obtain ⟨rfl, rfl⟩ := hr
      show wpAny _ _ _ _ _ _
      unfold isInstance
      refine wpAny_bind (wpAny_bind (wpAny_typeOf_ref hget ?_))
      refine wpAny_isSubtype_exc hD₁ ?_
      rw [hcC]
      simp only [Bool.not_true, Bool.false_eq_true, if_false]
      refine wpAny_bind (wpAny_holding ?_)
      unfold callSpecial? specialOf
      refine wpAny_bind (wpAny_bind (wpAny_typeOf_ref hget ?_))
      refine wpAny_typeLookup_exc hD₁ hn₁ mro_list list_init_lookup ?_
      rw [hi]
      refine wpAny_holding (wpAny_bind ?_)
      unfold bindSpecial
      refine wpAny_bind (wpAny_typeOf (T := "function") ⟨_, up _ _ ho', rfl⟩ ?_)
      rw [if_pos (by decide)]
      refine wpAny_pure (wpAny_bind (wpAny_mono hq (fun r s' hr => ?_) fun _ _ x => x))
      obtain ⟨rfl, hQ⟩ := hr
      wp_walk
      exact hQ
    | _ => exact hr.elim
theorem acc_call (T : TopOk C) (hk : ∀ b o, C.hk.get? b = some o → s.heap.get? b = some o) {v : Value} {Q : Value → Shared → Prop}
    (hq : wpAny (model C.prog C.w) (A.under (.builtin "type.__call__" ⟨[.ref 128, v], []⟩)) (PySem.call (.ref 65) [.ref (s.heap.objs.size + 1), v]) (fun r s' => r = .none ∧ Q (.ref (s.heap.objs.size + 1)) s') E { s with heap := rawHeap s.heap }) :
    wpAny (model C.prog C.w) A (PySem.call (.ref 128) [v]) Q E s := by
  have hC := T.cls
  have hD := hk _ _ hC
  obtain ⟨h, g, d, t, os⟩ := s
  have f1 := tc_lookup
  have f2 := tc_bind (.ref 128)
  have hT : (⟨h, g, d, t, os⟩ : Shared).TypeIs (.ref 128) "type" := ⟨_, hD, rfl⟩
  refine wpAny_call (codeAny_of_tree ?_)
  show wpAny _ _ (callAny (.ref 128) _) _ _ _
  repeat (any_goals (first | assumption | with_reducible refine wpAny_loadPart_at hD ?_ | wp_step))
  refine ⟨rfl, ?_⟩
  exact codeAny_call_builtin_at (Code.quiet_builtin _ (by decide +kernel)) entry_typeCall (wpAny_check_type_call_sub hD (acc_typecall T hk hq))
theorem raw_call (T : TopOk C) {M : Meth} {dv : Nat → List Value → Prop} {Q : Value → Shared → Prop} (G : MOk C M dv) (a : AC C (n + 1) A s.heap) (X : St C ρ σ s) (hbd : M.body = body)
    (hdv : dv vs.length []) (hw : ∀ L h₁ tk mm, Now C n M.sc M.ns (M.envOf L) (A.deeper (M.envOf L)) (List.replicate M.ns.length Option.none) ρ σ { s with heap := h₁, toks := tk } → s.heap.get? L = Option.none → (∀ b o, s.heap.get? b = some o → h₁.get? b = some o) →
      h₁.Ns L mm → (∀ (i : Nat) x v, M.ns[i]? = some x → vs[i]? = some v → mm x = some v ∧ (M.envOf L).kindOf x = some .local) →
      ∀ E, PySem.wpAt (model C.prog C.w) (A.deeper (M.envOf L)) (.func body (M.envOf L)) (execs body (M.envOf L)) (fun fl s' => Q (match fl with | .ret v => v | _ => .none) s') E { s with heap := h₁, toks := tk }) :
    wpAny (model C.prog C.w) A (PySem.call (.ref M.fa) vs []) Q E s := by
  subst hbd
  have S := MScope.of G.sc
  obtain ⟨us', hul, hdv', hle, hB⟩ := G.hb vs.length [] hdv s vs X.inv.keep rfl
  obtain rfl : us' = [] := List.length_eq_zero_iff.mp hul
  rw [List.append_nil] at hB
  refine wpAny_call (codeAny_call_function (by have := a.depth; show A.depth < 1000; lia) (X.inv.keep _ _ G.ho) rfl S.co S.gen rfl (G.hcr.keeps X.inv.keep) (hB _ _ _ _ ?_))
  refine wpAny_newFunctionEnv S.cell (fun q hq => (S.at_ q.1 (List.mem_of_mem_take (List.of_mem_zip hq).1)).1) (fun h₁ hns hsb => ?_) S.kind
  have hL := get_size s.heap
  have keep : ∀ b o, s.heap.get? b = some o → h₁.get? b = some o := fun b o e => hsb.extBut b o (fun z => by rw [z, hL] at e; cases e) (Heap.get?_push_of_some _ e)
  have N := Meth.now (tk := s.toks + ((M.ns.take vs.length).zip vs).length) (f := List.replicate M.ns.length Option.none) S X a hL keep hns List.length_replicate fun i z a _ ha => by
    obtain ⟨d, _, hd⟩ := map_slot [] _ _ _ ha
    cases hd
  exact ⟨T.nolimit.keeps N.st.inv.keep, treeAt (hw _ _ _ _ N hL keep hns (fun i x v hx hv => ⟨zip_lookup _ _ (S.nd.sublist (List.take_sublist _ _)) i x v (by rw [List.getElem?_take_of_lt (List.getElem?_eq_some_iff.mp hv).1]; exact hx) hv, (S.at_ x (List.mem_of_getElem? hx)).1⟩) _)⟩
noncomputable abbrev initObj : Obj := { cls := .type "dict", data := .dict #[] }
theorem raw_size {x dx : Addr} {k : Int} {tk : Tok} {Q : Unit → Shared → Prop} (T : TopOk C) (hk : ∀ b o, C.hk.get? b = some o → h.get? b = some o) (hne : x ≠ dx) (hx : h.get? x = some (rawPile dx)) (hd : h.get? dx = some { cls := .type "dict", data := .dict #[] })
    (q : ∀ h' tk', h'.get? x = some (rawPile dx) → (∃ t, h'.Ns1 dx (fun x => if x = "_initial_size" then some (.int k t) else Option.none)) → (∀ b o, b ≠ x → b ≠ dx → h.get? b = some o → h'.get? b = some o) → Q () ⟨h', g, d, tk', os⟩) :
    wpAny (model C.prog C.w) A (setAttr (.ref x) "_initial_size" (.int k tk)) Q E ⟨h, g, d, t, os⟩ := by
  have hC := T.cls
  obtain ⟨mN, hn, hm⟩ := T.accNs
  have hD := hk _ _ hC
  have hn' := hn.keeps hk
  have hxC : x ≠ 128 := fun z => by
    rw [z] at hx
    have := hx.symm.trans hD
    cases this
  have I : h.Inst x 128 (fun _ => Option.none) := ⟨_, hx, rfl, nofun, .inr ⟨dx, rfl, Ne.symm hne, Heap.Ns1.of_empty ⟨_, #[], _, hd, rfl, fun e he => absurd he (by simp), fun _ => rfl⟩⟩⟩
  refine store_attr (ns := []) store_list hD hn' ((hm _ (by decide)).trans rfl) ((hm _ (by decide)).trans rfl) (by rw [typeLookup_type, builtinLookup_eq_fast]; kernel_rfl) hxC I (fun h' tk' I' hk hsame => ?_) (fun x hx' => absurd rfl hx') (by decide)
  obtain ⟨o₁, e₁, c₁, d₁, sl₁, dk₁⟩ := hsame _ hx
  have edk := dk₁ _ rfl
  have eo : h'.get? x = some (rawPile dx) := by
    rw [e₁]
    obtain ⟨oc, od, odt, osl⟩ := o₁
    simp only at c₁ d₁ sl₁ edk
    subst c₁; subst d₁; subst sl₁; subst edk
    rfl
  refine q h' tk' eo ?_ fun b o h1 h2 e => hk b o h1 (fun o₀ dx' e₀ ed => by rw [hx] at e₀; cases e₀; cases ed; exact h2) e
  obtain ⟨o', e', _, _, hd'⟩ := I'
  rw [eo] at e'; cases e'
  rcases hd' with ⟨z, _⟩ | ⟨dx', z, _, hns⟩
  · cases z
  · cases z
    exact ⟨tk, hns⟩
theorem Pile.initBody {Q : Value → Shared → Prop} (P : Pile C s p [] m)
    (q : ∀ h', (∃ j, h'.get? p.1 = some { cls := accCls, dict := some p.2, data := .seq (List.toArray []) j, slots := #[] }) → Heap.SameBut p.1 s.heap h' → Q .none { s with heap := h' }) :
    wpAny (model C.prog C.w) A (Builtin.«list.__init__» ⟨[.ref p.1], []⟩) (fun fin s' => ∃ v, fin = .done (.ret v) ∧ Q v s') E s := by
  obtain ⟨j, hx⟩ := P.obj
  unfold Builtin.«list.__init__»
  dsimp only
  simp only [List.isEmpty_nil, Bool.not_true, Bool.false_eq_true, if_false, List.length_nil, show ¬ (0 > 1) from by decide]
  unfold Builtin.List.listItems
  refine wpAny_bind (wpAny_bind (wpAny_seqItems hx rfl (wpAny_pure ?_)))
  unfold Builtin.List.listUpdate
  have e : ∃ j', Obj.mapSeq (fun _ : Array Value => #[]) { cls := accCls, dict := some p.2, data := .seq (List.toArray []) j, slots := #[] } = { cls := accCls, dict := some p.2, data := .seq (List.toArray []) j', slots := #[] } := ⟨_, rfl⟩
  obtain ⟨j', e⟩ := e
  refine wpAny_bind (wpAny_updateSeq hx rfl ?_ (hz := by simp [sizeLine]) (_hz' := by simp [sizeLine]))
  refine wpAny_bind (wpAny_letGo ?_)
  exact wpAny_pure ⟨.none, rfl, q _ ⟨j', by rw [Heap.get?_update_self _ hx (by rw [e]; rfl), e]⟩ (Heap.SameBut.update ..)⟩
noncomputable abbrev nsIn : List Str := ["self", "initial_size"]
noncomputable def inText : List Stmt :=
  [.Assign [.Attribute (nameE nsIn 0 (P1 56 8 12)) "_initial_size" (P1 56 8 26)] (nameE nsIn 1 (P1 56 29 41)) (P1 56 8 41), .Expr (supCall (P1 57 8 13) (P1 57 8 15) (P1 57 8 24) (P1 57 8 26) "__init__") (P1 57 8 26)]
theorem tx_in : mBody "__init__" = inText := by with_unfolding_all rfl
theorem init_walk {L : Addr} {h₁ : Heap} {tk : Nat} {k : Int} {kt : Tok} {mm : Str → Option Value} {Q : Value → Shared → Prop} (T : TopOk C) (X : St C ρ σ s)
    (N : Now C n (mScope "__init__") nsIn (mInit.envOf L) A [Option.none, Option.none] ρ σ { s with heap := h₁, toks := tk }) (hL : (rawHeap s.heap).get? L = Option.none) (hkp : ∀ b o, (rawHeap s.heap).get? b = some o → h₁.get? b = some o)
    (hns : h₁.Ns L mm) (hm : ∀ (i : Nat) (x : Str) v, nsIn[i]? = some x → [Value.ref (s.heap.objs.size + 1), .int k kt][i]? = some v → mm x = some v ∧ (mInit.envOf L).kindOf x = some .local)
    (hq : ∀ v s', v = .none → PV C ρ s (σ ++ [.acc [] k]) (.d (.ref σ.length)) (.ref (s.heap.objs.size + 1)) s' → Q v s') :
    PySem.wpAt (model C.prog C.w) A (.func body (mInit.envOf L)) (execs inText (mInit.envOf L)) (fun fl s' => Q (match fl with | .ret v => v | _ => .none) s') E { s with heap := h₁, toks := tk } := by
  obtain ⟨m0, k0⟩ := hm 0 "self" _ rfl rfl
  obtain ⟨m1, k1⟩ := hm 1 "initial_size" _ rfl rfl
  have hx : h₁.get? (s.heap.objs.size + 1) = some (rawPile s.heap.objs.size) := hkp _ _ (by rw [← Heap.size_push s.heap initObj]; exact Heap.get?_push_size _ rfl)
  have hd : h₁.get? s.heap.objs.size = some initObj := hkp _ _ (Heap.get?_push_of_some _ (Heap.get?_push_size _ rfl))
  have hbase : ∀ b o, s.heap.get? b = some o → h₁.get? b = some o := fun b o e => hkp b o (Heap.get?_push_of_some _ (Heap.get?_push_of_some _ e))
  have nL1 : L ≠ s.heap.objs.size + 1 := fun z => by
    rw [z, ← Heap.size_push s.heap initObj] at hL
    have := (Heap.get?_push_size (o := rawPile s.heap.objs.size) (s.heap.push initObj) rfl).symm.trans hL
    cases this
  have nL2 : L ≠ s.heap.objs.size := fun z => by
    rw [z] at hL
    have := (Heap.get?_push_of_some (rawPile s.heap.objs.size) (Heap.get?_push_size (o := initObj) s.heap rfl)).symm.trans hL
    cases this
  have ld : ∀ {x : Str} {v : Value} {q : Pos} {Q : Value → Shared → Prop} {E : Value → Shared → Prop}, mm x = some v → (mInit.envOf L).kindOf x = some .local → (x == ("__debug__" : Str)) = false → Q v { s with heap := h₁, toks := tk } → wpAny (model C.prog C.w) A (eval (.Name x q) (mInit.envOf L)) Q E { s with heap := h₁, toks := tk } := fun e1 e2 e3 q => by
    refine wpAny_Name ?_ e3
    exact wpAny_loadName_local N.ev.kind e2 hns e1 q
  refine at_cons (PySem.wpAt_of_wpAny (plainObj_wpAny_Assign_Attribute (ld (v := .int k kt) m1 k1 (by decide) (ld (v := .ref (s.heap.objs.size + 1)) m0 k0 (by decide) ?_)) rfl))
  refine raw_size T N.st.inv.keep (Nat.succ_ne_self _) hx hd fun h' tk' hx' hd' hk => ?_
  have f1 : s.heap.get? (s.heap.objs.size + 1) = Option.none := Heap.get?_none_of_le (Nat.le_succ _)
  have f2 : s.heap.get? s.heap.objs.size = Option.none := Heap.get?_none_of_le (Nat.le_refl _)
  have hs' : ∀ b o, s.heap.get? b = some o → h'.get? b = some o := fun b o e => hk b o (fun z => by rw [z, f1] at e; cases e) (fun z => by rw [z, f2] at e; cases e) (hbase b o e)
  have hnew := X.new (tk := tk') (a := .acc [] k) (p := (s.heap.objs.size + 1, s.heap.objs.size)) hs' f1 f2 ⟨Nat.succ_ne_self _, ⟨[], 0, hx', .nil⟩, hd'⟩
  have hp₁ : (ρ.app [(s.heap.objs.size + 1, s.heap.objs.size)]).l[σ.length]? = some (s.heap.objs.size + 1, s.heap.objs.size) := by show (ρ.l ++ [_])[_]? = _; rw [← X.hr.len]; simp
  have hf₁ : ¬ Foot (ρ.app [(s.heap.objs.size + 1, s.heap.objs.size)]) L := fun q => by
    rcases q with ⟨q, hq, hb⟩ | q
    · rcases List.mem_append.mp hq with hq | hq
      · exact N.ev.off (.inl ⟨q, hq, hb⟩)
      · rw [List.mem_singleton] at hq; subst hq
        exact hb.elim nL1 nL2
    · exact N.ev.off (.inr q)
  generalize ρ.app [(s.heap.objs.size + 1, s.heap.objs.size)] = ρ₁ at hnew hp₁ hf₁
  obtain ⟨X₂, S₂⟩ := hnew
  have hLs : ∀ o, h₁.get? L = some o → h'.get? L = some o := fun o e => hk _ o nL1 nL2 e
  have hns' : h'.Ns L mm := by
    obtain ⟨oo, es, ep, g, r⟩ := hns
    exact ⟨oo, es, ep, hLs _ g, r⟩
  have V' : EnvOk C (mScope "__init__") nsIn (mInit.envOf L) [some (.d (.ref σ.length)), some (.d (.int k))] ρ₁ h' := {
    kind := N.ev.kind
    glob := N.ev.glob
    bi := N.ev.bi
    kk := N.ev.kk
    len := rfl
    slot := fun i z hz => by
      rcases i with _ | _ | i
      · cases hz
        refine ⟨_, .inl ⟨k0, mm, hns', m0⟩, fun a ha => ?_⟩
        cases ha
        refine ⟨_, rfl, ?_⟩
        show VR _ _ _ _
        rw [VR]
        exact ⟨_, hp₁, rfl⟩
      · cases hz
        refine ⟨_, .inl ⟨k1, mm, hns', m1⟩, fun a ha => ?_⟩
        cases ha
        refine ⟨_, rfl, ?_⟩
        show VR _ _ _ _
        rw [VR]
        exact ⟨kt, rfl⟩
      · cases hz
    nd := N.ev.nd
    dbg := N.ev.dbg
    lam := N.ev.lam
    off := hf₁
    big := N.ev.big
    lt := let ⟨o, e⟩ := N.ev.lt; ⟨o, hLs o e⟩ }
  have LS : LStp (fun b => b = s.heap.objs.size + 1 ∨ b = s.heap.objs.size) .no h₁ h' := ⟨fun b o e _ hw => hk b o (fun z => hw (.inl z)) (fun z => hw (.inr z)) e, fun b o e dd => by
      by_cases z1 : b = s.heap.objs.size + 1
      · subst z1; rw [hx] at e; cases e; cases dd
      · by_cases z2 : b = s.heap.objs.size
        · subst z2
          obtain ⟨_, o2, es, ep, a1, a2, _⟩ := hd'
          exact ⟨o2, a1, by rw [a2]; rfl⟩
        · exact ⟨o, hk b o z1 z2 e, dd⟩, fun b o e => by
      by_cases z1 : b = s.heap.objs.size + 1
      · subst z1; exact ⟨_, hx'⟩
      · by_cases z2 : b = s.heap.objs.size
        · subst z2
          obtain ⟨_, o2, es, ep, a1, a2, _⟩ := hd'
          exact ⟨o2, a1⟩
        · exact ⟨o, hk b o z1 z2 e⟩, fun _ _ q => q.elim⟩
  have N₂ : Now C n (mScope "__init__") nsIn (mInit.envOf L) A [some (.d (.ref σ.length)), some (.d (.int k))] ρ₁ (σ ++ [.acc [] k]) { s with heap := h', toks := tk' } :=
    ⟨X₂, V', N.ac.mono (ρ := .no) (ρ' := .no) LS.stp, N.ne⟩
  have hσ : (σ ++ [AO.acc [] k])[σ.length]? = some (.acc [] k) := by simp
  refine at_cons (at_expr (sup_meth T (supInit T) (by decide) rfl N₂ hσ fun p so s₂ pl N₃ S₃ hp hso => ?_) (by unfold interactive; simp [N.ev.kind]) rfl)
  obtain ⟨us, rs, P⟩ := N₃.st.pile hp hσ
  refine sup_method T P hso (bo := { cls := .type "method-wrapper", data := .fields #[.builtin "list.__init__", .ref p.1] }) Sup.ownInit Sup.typeInit Sup.slotWrap.lookup (by decide) (fun P q => bind_wrap T P Sup.typeInit (by decide +kernel) q) ?_
  have hb : (s₂.heap.push { cls := .type "method-wrapper", data := .fields #[.builtin "list.__init__", .ref p.1] }).get? s₂.heap.objs.size = some { cls := .type "method-wrapper", data := .fields #[.builtin "list.__init__", .ref p.1] } := Heap.get?_push_size _ rfl
  have X₄ : St C ρ₁ (σ ++ [.acc [] k]) { s₂ with heap := s₂.heap.push { cls := .type "method-wrapper", data := .fields #[.builtin "list.__init__", .ref p.1] }, toks := s₂.toks + 1 } := N₃.st.push _
  have S₄ : Stp C NoW ρ₁ s₂.heap ρ₁ (s₂.heap.push { cls := .type "method-wrapper", data := .fields #[.builtin "list.__init__", .ref p.1] }) := (LStp.of_keeps (keeps_push _)).stp
  obtain ⟨us₄, rs₄, P₄⟩ := X₄.pile hp hσ
  rw [VRs] at rs₄; subst rs₄
  refine bound_none (p := p) hb (.inl rfl) (fun q => wpAny_of_eq (by kernel_rfl) q) F.slot_list_init.plain F.entry_list_init ?_
  refine P₄.initBody fun h'' ⟨j, hj⟩ hsb => ?_
  obtain ⟨X₅, S₅⟩ := X₄.setAcc (tk := s₂.toks + 1) hσ hp hsb hj (ys := []) .nil
  have hset : (σ ++ [AO.acc [] k]).set σ.length (.acc [] k) = σ ++ [.acc [] k] := by simp
  rw [hset] at X₅
  refine PySem.wpAt_of_wpAny (wpAny_execs_nil (hq _ _ rfl ⟨_, X₅, ((S₂.trans S₃).trans S₄).trans S₅, ?_⟩))
  show VR _ _ _ _
  rw [VR]
  exact ⟨(s.heap.objs.size + 1, s.heap.objs.size), hp₁, rfl⟩
theorem mkacc_call {k : Int} : CallS (n + 2) (.fn .mkacc) [.int k] .none σ (.ref σ.length) (σ ++ [.acc [] k]) := fun Y A ρ s gv vs kv E a X hg hv _ => by
  have T := Y.top
  rw [show gv = _ from hg]
  obtain ⟨v, rfl, hv1⟩ := hv.one
  have hv' : ∃ t, v = .int k t := by rw [VR] at hv1; exact hv1
  obtain ⟨kt, rfl⟩ := hv'
  have hC := T.cls
  have hD := X.inv.keep _ _ hC
  refine ⟨fun Q q => ?_, acc_call T X.inv.keep ?_⟩
  · unfold keeperOf
    refine wpAny_bind (wpAny_load hD ?_)
    dsimp only
    refine wpAny_bind (wpAny_specialOf (T := "type") ⟨_, hD, rfl⟩ tc_lookup ?_)
    exact wpAny_pure (q _)
  have up : ∀ b o, s.heap.get? b = some o → (rawHeap s.heap).get? b = some o := fun b o e => Heap.get?_push_of_some _ (Heap.get?_push_of_some _ e)
  have X₁ : St C ρ σ { s with heap := rawHeap s.heap } := X.quiet (tk := s.toks) up
  have a₁ : AC C (n + 2) A (rawHeap s.heap) := a.mono (W := NoW) (ρ := ρ) (ρ' := ρ) (LStp.of_keeps up).stp
  exact raw_call (vs := [.ref (s.heap.objs.size + 1), .int k kt]) T (okInit T) (n := n) (AC.under (k := n + 1) a₁).1 X₁ tx_in (.inl ⟨rfl, rfl⟩) fun L h₁ tk mm N hL hk hns hm E =>
    init_walk (Q := fun v s' => v = .none ∧ PV C ρ s (σ ++ [.acc [] k]) (.d (.ref σ.length)) (.ref (s.heap.objs.size + 1)) s') T X N hL hk hns hm fun v s' e q => ⟨e, q⟩
theorem Pile.iter {Q : Value → Shared → Prop} (T : TopOk C) (P : Pile C s p vs m) (q : Q (.ref s.heap.objs.size) { s with heap := s.heap.push { cls := .type "list_iterator", data := .fields #[.ref p.1, .int 0 0] } }) : wpAny (model C.prog C.w) A (pyIter (.ref p.1)) Q E s := by
  unfold pyIter
  refine wpAny_bind (P.special T slot_list_iter.lookup (by decide) ?_)
  dsimp only [accFns]
  show wpAny _ A (callSpecialIfBoundUnlessNone? (.ref p.1) "__iter__" _ >>= _) Q E s
  have fin : wpAny (model C.prog C.w) A (callSpecialIfBoundUnlessNone? (.ref p.1) "__iter__" (do rule "iter.none"; raiseError "TypeError" s!"'{← typeNameOf (.ref p.1)}' object is not iterable")) (fun v s' => v = some (.ref s.heap.objs.size) ∧ s' = { s with heap := s.heap.push { cls := .type "list_iterator", data := .fields #[.ref p.1, .int 0 0] } }) E s := by
    simp only [callSpecialIfBoundUnlessNone?, bindSpecialIfBound?]
    refine wpAny_holding (wpAny_bind (wpAny_bind (P.special T slot_list_iter.lookup (by decide) ?_)))
    have hf : List.lookup (Str.ofString "__iter__") accFns = Option.none := by decide
    rw [hf]
    simp only [slot_list_iter.bind]
    refine wpAny_bind (wpAny_askSetting (wpAny_ite ?_))
    have call : wpAny (model C.prog C.w) A (PySem.call (.builtin "list.__iter__") [.ref p.1]) (fun v s' => v = .ref s.heap.objs.size ∧ s' = { s with heap := s.heap.push { cls := .type "list_iterator", data := .fields #[.ref p.1, .int 0 0] } }) E s := by
      refine P.call T (nm := "__iter__") (by decide +kernel) (by first | exact .inl (by decide +kernel) | exact .inr (by decide +kernel)) (by decide +kernel) entry_list_iter (args_list_iter _) ?_
      show wpAny _ _ (do ret (← newFields "list_iterator" [.ref p.1, rawInt 0])) _ _ s
      exact wpAny_bind (wpAny_newObj_type (wpAny_pure ⟨_, rfl, rfl, rfl⟩))
    have hb : (Value.builtin "list.__iter__" == Value.none) = false := rfl
    split
    · refine wpAny_bind (wpAny_pure (wpAny_pure ?_))
      simp only [hb, Bool.false_eq_true, if_false]
      exact wpAny_bind (wpAny_mono call (fun v s' h' => wpAny_pure ⟨by rw [h'.1], h'.2⟩) fun _ _ h' => h')
    · refine wpAny_tryCatch (wpAny_bind (wpAny_pure (wpAny_pure ?_)))
      simp only [hb, Bool.false_eq_true, if_false]
      exact wpAny_bind (wpAny_mono call (fun v s' h' => wpAny_pure ⟨by rw [h'.1], h'.2⟩) fun _ _ h' => h')
  refine wpAny_bind (wpAny_mono fin (fun v s' h' => ?_) fun _ _ e => e)
  obtain ⟨rfl, rfl⟩ := h'
  exact wpAny_bind (wpAny_specialOf (T := "list_iterator") ⟨_, Heap.get?_push_size _ rfl, rfl⟩ slot_listiter_next.lookup (wpAny_pure q))
theorem genCode_ok {cd P : Addr} {pos pos' : Pos} {q : Str} {scope : Scope} {Q : Value → Shared → Prop} (K : CodeOk C cd P pos' q) (hl : pos.line = pos'.line) (hcl : pos.col = pos'.col) (X : St C ρ σ s) (hc : env.code = .ref cd)
    (k : ∀ c' s', St C ρ σ s' → Stp C NoW ρ s.heap ρ s'.heap → Heap.ExtBut P s.heap s'.heap → Q (.ref c') s') : wpAny (model C.prog C.w) A (genexprCode env pos q scope) Q E s := by
  rcases X.inv.tabs _ K.mem with e | ⟨c', e, n0, hr⟩
  · obtain ⟨h1, h2⟩ := K.here X e trivial
    refine wpAny_genexprCodeX hc h1 h2 rfl fun c' h' tk hx hge hlt _ hrec htb _ => ?_
    have n0 : C.h0.get? c' = Option.none := X.inv.fresh (by
      cases z : s.heap.get? c' with
      | none => rfl
      | some o => exact absurd (Heap.lt_size z) (Nat.not_lt.mpr hge))
    rw [hl, hcl] at htb
    obtain ⟨X', S⟩ := X.grow (tk := tk) K e h2 hx htb n0 hrec
    exact k c' _ X' S hx
  · obtain ⟨h1, h2⟩ := K.here X e (by simp [TriplesOk, rawInt])
    obtain ⟨o, vs, file, tf, flags, tg, inF, text, tt, op, ho, hd, h11, _, _, _, _, hop, hpd, htr, hne⟩ := id h1
    unfold genexprCode codeAt
    rw [hc, if_neg (show ¬ ((Value.ref cd == Value.none) = true) from Bool.false_ne_true)]
    refine wpAny_bind (wpAny_fieldsOf ho hd ?_)
    rw [h11]
    refine wpAny_bind (wpAny_fieldsOf hop hpd ?_)
    have hf : codeAmong pos (#[rawInt pos'.line, rawInt pos'.col, Value.ref c'] : Array Value).toList = some (.ref c') := by simp [codeAmong, rawInt, hl, hcl]
    rw [hf]
    exact wpAny_pure (k c' s X .refl (Heap.ExtBut.refl _ _))
theorem pile_next {it l : Addr} {i : Nat} {xs : Array Value} {k : Nat} {o : Obj} {x : Value} {Q : Option Value → Shared → Prop} (hit : s.heap.IsListIter it l i) (hl : s.heap.get? l = some o) (hdl : o.data = .seq xs k) (hx : xs[i]? = some x)
    (hQ : ∀ h', h'.IsListIter it l (i + 1) → Heap.SameBut it s.heap h' → Q (some x) { s with heap := h' }) : wpAny (model C.prog C.w) A (pyNext (.ref it)) Q E s := by
  obtain ⟨o', ho, hc, hd⟩ := id hit
  unfold pyNext
  refine wpAny_bind (wpAny_attempt (wpAny_callSpecial?_slot (name := Str.ofString "__next__") hit.typeIs slot_listiter_next
    (wpAny_call_entry slot_listiter_next hit.typeIs entry_listiter_next ?_ (args_listiter_next _))))
  show wpAny _ _ (field (.ref it) 0 >>= _) _ _ s
  refine wpAny_bind (wpAny_field ho hd (x := .ref l) rfl ?_)
  show wpAny _ _ (if (Value.ref l == Value.none) = true then _ else _) _ _ s
  rw [if_neg (show ¬ ((Value.ref l == Value.none) = true) from Bool.false_ne_true)]
  show wpAny _ _ (field (.ref it) 1 >>= _) _ _ s
  refine wpAny_bind (wpAny_field ho hd (x := .int i 0) rfl ?_)
  show wpAny _ _ (seqItems? (.ref l) >>= _) _ _ s
  refine wpAny_bind (wpAny_seqItems hl hdl ?_)
  simp only [Int.toNat_natCast, hx]
  refine wpAny_bind (wpAny_setField ho hd (by simp) (wpAny_pure ⟨x, rfl, wpAny_pure (hQ _ ?_ (Heap.SameBut.update ..))⟩))
  exact ⟨_, Heap.get?_update_self _ ho (Obj.isFreed_of_fields (Obj.data_mapFields hd _)), (Obj.cls_mapFields ..).trans hc, by
    rw [Obj.data_mapFields hd]; simp [rawInt]⟩
theorem pile_done {it l : Addr} {i : Nat} {xs : Array Value} {k : Nat} {o : Obj} {Q : Option Value → Shared → Prop} (hh : A.handled = none)
    (hit : s.heap.IsListIter it l i) (hl : s.heap.get? l = some o) (hdl : o.data = .seq xs k) (hx : xs[i]? = none)
    (hQ : ∀ h', Heap.ExtBut it s.heap h' → Q none { s with heap := h' }) : wpAny (model C.prog C.w) A (pyNext (.ref it)) Q E s := by
  obtain ⟨o', ho, hc, hd⟩ := id hit
  unfold pyNext
  refine wpAny_bind (wpAny_attempt (wpAny_callSpecial?_slot (name := Str.ofString "__next__") hit.typeIs slot_listiter_next
    (wpAny_call_entry slot_listiter_next hit.typeIs entry_listiter_next ?_ (args_listiter_next _))))
  show wpAny _ _ (field (.ref it) 0 >>= _) _ _ s
  refine wpAny_bind (wpAny_field ho hd (x := .ref l) rfl ?_)
  show wpAny _ _ (if (Value.ref l == Value.none) = true then _ else _) _ _ s
  rw [if_neg (show ¬ ((Value.ref l == Value.none) = true) from Bool.false_ne_true)]
  show wpAny _ _ (field (.ref it) 1 >>= _) _ _ s
  refine wpAny_bind (wpAny_field ho hd (x := .int i 0) rfl ?_)
  show wpAny _ _ (seqItems? (.ref l) >>= _) _ _ s
  refine wpAny_bind (wpAny_seqItems hl hdl ?_)
  simp only [Int.toNat_natCast, hx]
  refine wpAny_bind (wpAny_rule (wpAny_bind (wpAny_setField ho hd (by simp) ?_)))
  show wpAny _ _ (newExc (.type "StopIteration") [] >>= _) _ _ _
  refine wpAny_bind ?_
  simp only [newExc, newTuple]
  refine wpAny_bind (wpAny_newObj_type ?_ (by size_fits))
  refine wpAny_bind (m := firstArgMember _ _) (wpAny_of_eq (a := Value.none) (by first | rfl | (simp only [firstArgMember]; rfl)) ?_)
  refine wpAny_newObj_type ?_ (by size_fits)
  simp only [raiseNew]
  refine wpAny_bind (wpAny_handled ?_)
  rw [show A.in1.handled = none from hh]
  refine wpAny_bind (wpAny_pure (wpAny_throw ?_))
  refine wpAny_bind (wpAny_isInstance (T := "StopIteration") (b := true) ⟨_, Heap.get?_push_size _ rfl, rfl⟩ isSubtype_stop ?_)
  exact wpAny_pure (hQ _ (((Heap.SameBut.update ..).extBut.push _).push _))
theorem pile_walks {ax I : Addr} {o : Obj} {j : Nat} (hh : A.handled = none) (hne : ax ≠ I) (items : Array Value) (ho : o.data = .seq items j) (Ts : Nat → Addr) (vals : Nat → Array Value)
    (hit : ∀ j, j < items.size → items[j]? = some (.ref (Ts j))) (hTI : ∀ j, j < items.size → Ts j ≠ I) :
    WalksU C.prog C.w A I (I :: ax :: (List.range items.size).map Ts) [I] items.size (fun j v => v = vals j)
      (fun j h => h.IsListIter I ax j ∧ h.get? ax = some o ∧ ∀ k, k < items.size → h.IsTuple (Ts k) (vals k))
      (fun j T h => (j < items.size ∧ T = Ts j) ∧ h.IsListIter I ax (j + 1) ∧ h.get? ax = some o ∧ ∀ k, k < items.size → h.IsTuple (Ts k) (vals k)) where
  sub := fun b hb => by simp at hb; simp [hb]
  frame := fun _ _ _ st hk => ⟨st.1.at fun o e => hk I (by simp) o e, hk ax (by simp) o st.2.1,
    fun k hk' => (st.2.2 k hk').at fun o e => hk (Ts k) (List.mem_cons_of_mem _ (List.mem_cons_of_mem _ (List.mem_map.mpr ⟨k, List.mem_range.mpr hk', rfl⟩))) o e⟩
  item := fun i s Q E hi st hQ => by
    refine pile_next st.1 st.2.1 ho (x := .ref (Ts i)) (hit i hi) fun h' hit' hs' => ?_
    have tup : ∀ k, k < items.size → h'.IsTuple (Ts k) (vals k) := fun k hk' => (st.2.2 k hk').extBut hs'.extBut (hTI k hk')
    exact hQ (Ts i) (vals i) h' s.toks rfl (tup i hi) ⟨⟨hi, rfl⟩, hit', hs'.extBut _ _ hne st.2.1, tup⟩ fun b o hb e => hs'.extBut b o (fun h => hb (by simp [h])) e
  go := fun _ _ _ _ _ s Q _ hm hQ => wpAny_letOwnedTupleGo_listiter hm.2.1 (hQ s.heap hm.2 fun _ _ _ e => e)
  apart := fun j T _ hm hmem => by
    rcases List.mem_cons.mp hmem with e | e
    · exact hTI j hm.1.1 (hm.1.2 ▸ e)
    · cases e
  done := fun s Q E st hQ => pile_done hh st.1 st.2.1 ho (by simp) fun h' he' => hQ h' s.toks fun b o hb e => he' b o (fun h => hb (by simp [h])) e
  self := fun _ _ _ _ st hQ => wpAny_pyIter_listiter st.1 hQ
theorem St.gens (X : St C ρ σ s) (B : AllBare s'.gens) (ho : s'.os = s.os) (hh : s'.heap = s.heap) : St C ρ σ s' := by
  obtain ⟨⟨k1, k2, k3, k4, k5, k6⟩, k7⟩ := X
  refine ⟨⟨k1, ?_, ?_, B, ho.trans k5, ?_⟩, ?_⟩
  · rw [hh]; exact k2
  · rw [hh]; exact k3
  · rw [hh]; exact k6
  · rw [hh]; exact k7
theorem Hold.wr {wr : List Addr} (hx : ∀ b o, b ∉ wr → h.get? b = some o → h'.get? b = some o) (n0 : ∀ b ∈ wr, C.h0.get? b = Option.none) (hs : ∀ b ∈ wr, ∀ o, h.get? b = some o → solid o = false) (nf : ∀ b ∈ wr, ¬ Foot ρ b) : Hold C ρ h h' :=
  ⟨fun b o₀ e o e' => hx b o (fun z => by rw [n0 b z] at e; cases e) e', fun b o k q e => hx b o (fun z => by rw [hs b z o e] at k; cases k) e,
    fun p hp b hb o e => hx b o (fun z => nf b z (.inl ⟨p, hp, hb⟩)) e, fun b q o e d => ⟨o, hx b o (fun z => nf b z (.inr q)) e, d⟩⟩
theorem Stp.wr {wr : List Addr} (S : Stp C W ρ₀ h₀ ρ h) (hx : ∀ b o, b ∉ wr → h.get? b = some o → h'.get? b = some o) (h0 : ∀ b ∈ wr, h₀.get? b = Option.none) : Stp C W ρ₀ h₀ ρ h' := by
  have ne : ∀ b o, h₀.get? b = some o → b ∉ wr := fun b o e q => by rw [h0 b q] at e; cases e
  exact ⟨S.pre, fun b o e' h1 h2 h3 => let ⟨sl, g, r⟩ := S.keep b o e' h1 h2 h3; ⟨sl, hx _ _ (ne b o e') g, r⟩, fun b o e' d => let ⟨o', g, r⟩ := S.dicts b o e' d; ⟨o', hx _ _ (ne b o e') g, r⟩,
    fun b o e' => let ⟨o', g⟩ := S.alive b o e'; ⟨o', hx _ _ (ne b o e') g⟩, fun b o q e' => hx _ _ (ne b o e') (S.zk b o q e')⟩
structure Free (C : Cx) (ρ : Rho) (h hr : Heap) (b : Addr) : Prop where
  h : h.get? b = Option.none
  h0 : C.h0.get? b = Option.none
  hs : ∀ o, hr.get? b = some o → solid o = false
  nf : ¬ Foot ρ b
theorem Free.of {b : Addr} (X : St C ρ σ s) (S : Stp C W ρ₀ h₀ ρ s.heap) (e : s.heap.get? b = Option.none) (hs : ∀ o, h.get? b = some o → solid o = false) : Free C ρ h₀ h b := ⟨S.before e, X.inv.fresh e, hs, X.hr.out e⟩
inductive GenRun (C : Cx) (A : Around) (ρ : Rho) (σ : H) (s : Shared) (a : Addr) (n : Nat) (F : Nat → Value → Prop) (s' : Shared) : Prop
  | mk (fp wr : List Addr) (G : Array GenState → Array GenState → Prop) (St' : Nat → Shared → Prop) (W : WalksS C.prog C.w A.in4 a fp wr G n F St') (h0 : St' 0 s') (hfp : ∀ b ∈ fp, b < s'.heap.objs.size) (ha : a ∈ fp) (ht : ∀ i s, St' i s → s.TypeIs (.ref a) "generator")
    (hG : ∀ x y, G x y → AllBare x → AllBare y) (hB : AllBare s'.gens) (sr : Shared) (ρ' : Rho) (X : St C ρ' σ sr) (S : Stp C NoW ρ s.heap ρ' sr.heap) (hk : ∀ b o, sr.heap.get? b = some o → s'.heap.get? b = some o) (ho : s'.os = sr.os)
    (hw : ∀ b ∈ wr, Free C ρ' s.heap sr.heap b) : GenRun C A ρ σ s a n F s'
theorem moved_st {wr : List Addr} {G : Array GenState → Array GenState → Prop} {sr s₁ s₂ : Shared} (X : St C ρ' σ sr) (S : Stp C NoW ρ s.heap ρ' sr.heap) (k : ∀ b o, sr.heap.get? b = some o → s₁.heap.get? b = some o) (ho : s₁.os = sr.os) (B : AllBare s₁.gens) (hG : ∀ x y, G x y → AllBare x → AllBare y)
    (hw : ∀ b ∈ wr, Free C ρ' s.heap sr.heap b) (M : Moved wr G s₁ s₂) : St C ρ' σ s₂ ∧ Stp C NoW ρ s.heap ρ' s₂.heap := by
  have kk : ∀ b o, b ∉ wr → sr.heap.get? b = some o → s₂.heap.get? b = some o := fun b o q e => M.heap b o q (k b o e)
  have H : Hold C ρ' sr.heap s₂.heap := .wr kk (fun b q => (hw b q).h0) (fun b q => (hw b q).hs) fun b q => (hw b q).nf
  exact ⟨(X.hold (tk := sr.toks) H).gens (hG _ _ M.gens B) (M.os.trans ho) rfl, S.wr kk fun b q => (hw b q).h⟩
theorem pass_all : ∀ n, passing (fun _ => true) n 0 = List.range n := fun n => by unfold passing; simp
theorem Walks_congr {A : Around} {I : Addr} {fp wr : List Addr} {G : Array GenState → Array GenState → Prop} {k k' : Nat} {P P' : Nat → Value → Prop} {St' : Nat → Shared → Prop} (Y : WalksS C.prog C.w A I fp wr G k P St') (hn : k = k') (hp : ∀ i v, i < k → P i v → P' i v) : WalksS C.prog C.w A I fp wr G k' P' St' := by
  subst hn
  exact ⟨Y.sub, Y.grefl, Y.gtrans, Y.frame, fun i s Q E hi st k => Y.item i s Q E hi st fun v s' hP => k v s' (hp i v hi hP), Y.done, Y.self⟩
inductive PairAt (xs : List AD) (us : List Value) (h : Heap) (I : Addr) (i : Nat) (y : Addr × Array Value) : Prop
  | mk (hu : us[i]? = some (.ref y.1)) (tup : h.IsTuple y.1 y.2) (ne : y.1 ≠ I) (x z : Str) (tx tz : Tok) (e : y.2 = #[.str x tx, .str z tz]) (hx : xs[i]? = some (.tup [.str x, .str z])) : PairAt xs us h I i y
theorem pairs_at {xs : List AD} {us : List Value} {I : Addr} (rs : VRs ρ h xs us) (hP : ∀ (i : Nat) d, xs[i]? = some d → ∃ x y : Str, d = AD.tup [.str x, .str y]) (hI : h.get? I = Option.none) (hk : ∀ b o, o.cls ≠ .none → h.get? b = some o → h'.get? b = some o) :
    ∃ Y : Nat → Addr × Array Value, ∀ i, i < us.length → PairAt xs us h' I i (Y i) := by
  have key : ∀ i, ∃ y : Addr × Array Value, i < us.length → PairAt xs us h' I i y := fun i => by
    by_cases hi : i < us.length
    · have hix : i < xs.length := by rw [← rs.length]; exact hi
      obtain ⟨x, z, hd⟩ := hP i _ (List.getElem?_eq_getElem hix)
      have hd' : xs[i]? = some (.tup [.str x, .str z]) := by rw [List.getElem?_eq_getElem hix, hd]
      obtain ⟨v, v1, v2⟩ := rs.at hd'
      rw [VR] at v2
      obtain ⟨ta, tvs, rfl, ⟨o, e1, e2, e3⟩, _, trs⟩ := v2
      obtain ⟨w1, w2, rfl, q1, q2⟩ := trs.two
      obtain ⟨tx, rfl⟩ := q1.ofStr
      obtain ⟨tz, rfl⟩ := q2.ofStr
      exact ⟨(ta, #[.str x tx, .str z tz]), fun _ => ⟨v1, ⟨o, hk _ _ (by rw [e2]; nofun) e1, e2, e3⟩, fun zz => (by rw [show ta = I from zz, hI] at e1; cases e1), x, z, tx, tz, rfl, hd'⟩⟩
    · exact ⟨(0, #[]), fun q => absurd q hi⟩
  exact Classical.axiomOfChoice key
theorem pile_gen {elt : Expr} {scope : Scope} {pi pos pa pb pt : Pos} {kt : Nat} {xa xb q : Str} {cd TA : Addr} {F : Nat → Value → Prop} {Q : Value → Shared → Prop} {k : Nat} {xs : List AD} {r : List Str} {fr : Fm}
    (T : TopOk C) (K : CodeOk C cd TA pos q) (hql : env.qual ++ "<genexpr>" = q) (hc : env.code = .ref cd)
    (N : Now C n sc ("self" :: r) env A (some (.d (.ref k)) :: fr) ρ σ s) (hσ : σ[k]? = some (.acc xs m))
    (hco : scope.isCoroutine = false) (hclos : closureFor scope env = pure []) (hcell : ∀ y ∈ scope.names, y.2 ≠ .cell) (h0 : scope.names.lookup (".0" : Str) = some NameKind.local)
    (hxa : scope.names.lookup xa = some .local) (hxb : scope.names.lookup xb = some .local) (hab : xa ≠ xb) (hkind : scope.kind = .function)
    (hP : ∀ (i : Nat) d, xs[i]? = some d → ∃ x y : Str, d = AD.tup [.str x, .str y])
    (helt : ∀ (cenv : Env) (A' : Around) E' (i : Nat) x tx y ty (s₂ : Shared) m₂, cenv.scope = scope → cenv.globals = mainGlobals → cenv.builtins = builtinsNs → A'.handled = none → xs[i]? = some (.tup [.str x, .str y]) →
      s₂.heap.Ns cenv.locals m₂ → m₂ xa = some (.str x tx) → m₂ xb = some (.str y ty) → (∀ b o, C.hk.get? b = some o → s₂.heap.get? b = some o) → wpAny (model C.prog C.w) A' (eval elt cenv) (fun y s₃ => F i y ∧ Keeps s₂ s₃) E' s₂)
    (hq : ∀ a s', GenRun C A ρ σ s a xs.length F s' → Q (.ref a) s') :
    wpAny (model C.prog C.w) A (eval (.GeneratorExp elt [⟨.Tuple [.Name xa pa, .Name xb pb] kt pt, nameE ("self" :: r) 0 pi, [], 0⟩] scope pos) env) Q E s := by
  refine wpAny_GeneratorExp_walksQT N.ac.hd hco hclos hcell h0 hxa hxb hab hkind (by have := N.ac.depth; show A.depth < 1000; lia) (wpAny_mono (N.load (i := 0) rfl) (fun xv s₁ hv => ?_) fun _ _ e => e) (fun _ => rfl)
  obtain ⟨ρ₁, p, N₁, S₁, rfl, hp⟩ := N.ref (i := 0) rfl hv
  obtain ⟨us, rs, P⟩ := N₁.st.pile hp hσ
  refine P.iter T ⟨T.nolimit.keeps (N₁.st.push _ (tk := s₁.toks)).inv.keep, ?_⟩
  have hI1 := get_size s₁.heap
  have hI2 := Heap.get?_push_size (o := { cls := .type "list_iterator", data := .fields #[.ref p.1, .int 0 0] }) s₁.heap rfl
  have kp : ∀ b o, s₁.heap.get? b = some o → (s₁.heap.push { cls := .type "list_iterator", data := .fields #[.ref p.1, .int 0 0] }).get? b = some o := keeps_push _
  have X₂ : St C ρ₁ σ { s₁ with heap := s₁.heap.push { cls := .type "list_iterator", data := .fields #[.ref p.1, .int 0 0] } } := N₁.st.push _
  generalize s₁.heap.push { cls := .type "list_iterator", data := .fields #[.ref p.1, .int 0 0] } = hh₂ at hI2 kp X₂ ⊢
  generalize s₁.heap.objs.size = I at hI1 hI2 ⊢
  have S₂ : Stp C NoW ρ₁ s₁.heap ρ₁ hh₂ := (LStp.of_keeps kp).stp
  rw [hql]
  refine genCode_ok K rfl rfl X₂ hc fun c' s₃ X₃ S₃ hx₃ => ?_
  obtain ⟨mg, hg, gv⟩ := T.glob
  rw [N.ev.glob]
  refine wpAny_builtinsFor (hg.keeps X₃.inv.keep) (gv 30 rfl) (by decide) (X₃.inv.keep _ _ (T.obj 0 rfl rfl)) rfl rfl rfl ?_
  have hI0 : C.h0.get? I = Option.none := N₁.st.inv.fresh hI1
  have k3 : ∀ b o, o.cls ≠ .none → hh₂.get? b = some o → s₃.heap.get? b = some o := fun b o hc e => hx₃ _ _ (fun z => by
    rcases X₂.inv.tabs _ K.mem with e' | ⟨_, e', _⟩
    · rw [z] at e
      have := e.symm.trans e'
      cases this; exact hc rfl
    · rw [z] at e
      have := e.symm.trans e'
      cases this; exact hc rfl) e
  have hI3 := k3 _ _ (fun e => by cases e) hI2
  obtain ⟨jj, hx⟩ := P.obj
  have hp3 := k3 _ _ (fun e => by cases e) (kp _ _ hx)
  obtain ⟨Y, hY⟩ := pairs_at rs hP hI1 fun b o hc e => k3 b o hc (kp b o e)
  have hne : p.1 ≠ I := fun z => by rw [z, hI1] at hx; cases hx
  have hsz : us.toArray.size = us.length := List.size_toArray ..
  have hY : ∀ i, i < us.toArray.size → PairAt xs us s₃.heap I i (Y i) := fun i hi => hY i (hsz ▸ hi)
  have hpn : (passing (fun _ => true) us.toArray.size 0).length = xs.length := by rw [pass_all, List.length_range, hsz, rs.length]
  have S0 := (S₁.trans S₂).trans S₃
  refine ⟨I, _, [I], us.toArray.size, _, _, _, fun _ => true, F, rfl, fun A' hh => (pile_walks (j := jj) hh hne us.toArray (o := { cls := accCls, dict := some p.2, data := .seq (List.toArray us) jj, slots := #[] }) rfl (fun i => (Y i).1) (fun i => (Y i).2)
    (fun j hj => by rw [List.getElem?_toArray]; exact (hY j hj).1) fun j hj => (hY j hj).3).bound, fun i vals hv => ?_, ⟨⟨_, hI3, rfl, rfl⟩, hp3, fun k hk => (hY k hk).2⟩, fun b hb => ?_, T.nolimit.keeps X₃.inv.keep, fun z => ?_, fun href hhref => ⟨fun A' E' i va vb s₅ m₂ _ _ _ _ _ _ => wpAny_pure ⟨rfl, s₅.heap, s₅.toks, rfl, fun _ _ e => e⟩, fun A' E' i va vb s₅ m₂ hh hv _ hn ha hb hkeep => ?_⟩, fun a h₅ tk gs hgb hag hsz5 hk₅ W hat => ?_⟩
  · obtain ⟨h1, rfl⟩ := hv
    obtain ⟨_, _, _, x, z, tx, tz, e, _⟩ := hY i h1
    exact ⟨_, _, e⟩
  · rcases List.mem_cons.mp hb with rfl | hb
    · exact Heap.lt_size hI3
    · rcases List.mem_cons.mp hb with rfl | hb
      · exact Heap.lt_size hp3
      · obtain ⟨i, hi, rfl⟩ := List.mem_map.mp hb
        obtain ⟨_, ⟨o, e, _⟩, _⟩ := hY i (List.mem_range.mp hi)
        exact Heap.lt_size e
  · rw [List.mem_singleton] at z
    obtain ⟨mc, ⟨o, _, _, e, _⟩, _⟩ := T.nolimit
    have := X₃.inv.cok.sub _ _ e
    rw [z, hI0] at this; cases this
  · obtain ⟨h1, h2⟩ := hv
    obtain ⟨_, _, _, x, z, tx, tz, e, hd⟩ := hY i h1
    rw [e] at h2
    cases h2
    refine helt _ A' E' i x tx z tz s₅ m₂ rfl N.ev.glob rfl hh hd hn ha hb fun b o eb => ?_
    have e3 := X₃.inv.keep b o eb
    refine hkeep b (List.mem_range.mpr (Heap.lt_size e3)) (fun zz => ?_) o (hhref b o e3)
    rw [List.mem_singleton] at zz
    have := X₃.inv.cok.sub _ _ eb
    rw [zz, hI0] at this; cases this
  · refine hq a _ ⟨_, _, _, _, Walks_congr W hpn (fun i v hi hv => ?_), hat, fun b hb => ?_, List.mem_cons_self, fun i s st => st.1.typeIs, fun x y q B => q.bare B, X₃.inv.bare.push hgb, s₃, ρ₁, X₃, S0, hk₅, rfl, fun b hb => ?_⟩
    · obtain ⟨i', h1, h2⟩ := hv
      rw [pass_all, List.getElem?_range (by rw [hpn] at hi; have := rs.length; lia)] at h1
      cases h1; exact h2
    · show b < h₅.objs.size
      rw [hsz5]
      rcases List.mem_cons.mp hb with rfl | hb
      · exact Nat.lt_succ_self _
      · rcases List.mem_cons.mp hb with rfl | hb
        · exact Nat.lt_succ_of_lt hag
        · exact Nat.lt_succ_of_lt (Nat.lt_trans (List.mem_range.mp hb) hag)
    · rcases List.mem_cons.mp hb with rfl | hb
      · exact .of X₃ S0 (get_size _) fun o e => by rw [get_size] at e; cases e
      · rw [List.mem_singleton] at hb; subst hb
        exact .of N₁.st S₁ hI1 fun o e => by rw [hI3] at e; cases e; rfl
end Mine
end
section
namespace Mine
open PySem PySem.W PyProof.Rows PySem.Calls
open Builtin Builtin.ObjectAttr
variable {n : Nat} {ρ ρ' ρ₀ : Rho} {σ σ' : H} {s s' : Shared} {h h' h₀ : Heap} {A : Around} {E : Value → Shared → Prop} {sc : Scope} {ns : List Str} {env : Env} {f : Fm} {a b c : X} {W : Addr → Prop} {p : Addr × Addr} {vs : List Value} {m : Int}
  {g : Array GenState} {d : Drawn} {t : Nat} {os : OsState} {body : List Stmt}
theorem Pile.sizeEntry {tk : Tok} {Q : PySem.Fin → Shared → Prop} (T : TopOk C) (P : Pile C s p vs m) (q : ∀ t, Q (.done (.ret (.int m t))) s) :
    wpAny (model C.prog C.w) A (Builtin.«object.__getattribute__» ⟨[.ref p.1, .str "_initial_size" tk], []⟩) Q E s := by
  have hC := T.cls
  obtain ⟨mN, hn, hm⟩ := T.accNs
  have hD := P.keep _ _ hC
  have hn' := hn.keeps P.keep
  obtain ⟨ox, hx, hxc, hxk, j, hxd⟩ : ∃ ox, s.heap.get? p.1 = some ox ∧ ox.cls = .ref 128 ∧ ox.dict = some p.2 ∧ ∃ j, ox.data = .seq (List.toArray vs) j := let ⟨j, hx⟩ := P.obj; ⟨_, hx, rfl, rfl, j, rfl⟩
  obtain ⟨t0, hd⟩ := P.dct
  have hna : mN "_initial_size" = none := (hm _ (by decide)).trans rfl
  have hB : typeLookup (.type "list") "_initial_size" = pure none := by rw [typeLookup_type, builtinLookup_eq_fast]; kernel_rfl
  obtain ⟨h, g, d, t, os⟩ := s
  unfold Builtin.«object.__getattribute__»
  have hsa : slotArgs "__getattribute__" 1 ⟨[.ref p.1, .str "_initial_size" tk], []⟩ = pure (.ref p.1, [.str "_initial_size" tk]) := by kernel_rfl
  refine wpAny_bind (wpAny_of_eq hsa ?_)
  repeat (first | (with_reducible refine wpAny_loadPart_at hx ?_; rw [hxc]) | (with_reducible refine wpAny_typeLookup_exc hD hn' mro_list hB ?_; rw [hna]) | wp_step)
  rw [hxd]
  dsimp only
  unfold instanceDict
  repeat (first | (with_reducible refine wpAny_loadPart_at hx ?_; rw [hxc]) | with_reducible refine wpAny_loadPart_at hD ?_ | wp_step)
  rw [hxk]
  repeat (first | (with_reducible refine wpAny_nsGet hd.ns ?_; rw [if_pos rfl]) | wp_step)
  all_goals first | exact q _ | trace_state
theorem Pile.getSize {Q : Value → Shared → Prop} (T : TopOk C) (P : Pile C s p vs m) (q : ∀ t, Q (.int m t) { s with toks := s.toks + 1 }) : wpAny (model C.prog C.w) A (getAttr (.ref p.1) "_initial_size" true) Q E s := by
  have hC := T.cls
  obtain ⟨mN, hn, hm⟩ := T.accNs
  have hD := P.keep _ _ hC
  have hn' := hn.keeps P.keep
  obtain ⟨ox, hx, hxc⟩ : ∃ ox, s.heap.get? p.1 = some ox ∧ ox.cls = .ref 128 := let ⟨j, hx⟩ := P.obj; ⟨_, hx, rfl⟩
  have hna : mN "__getattribute__" = none := (hm _ (by decide)).trans rfl
  have hnb : mN "__getattr__" = none := (hm _ (by decide)).trans rfl
  have P' : Pile C { s with toks := s.toks + 1 } p vs m := ⟨P.keep, P.obj, P.dct, P.ne⟩
  unfold getAttr getAttrBy
  refine wpAny_bind (wpAny_mkText (wpAny_holding (wpAny_bind (wpAny_typeOf_ref hx ?_))))
  rw [hxc]
  obtain ⟨h, g, d, t, os⟩ := s
  refine wpAny_bind (wpAny_typeLookup_exc hD hn' mro_list list_getattribute ?_)
  rw [hna]
  dsimp only
  have e0 : (onTheHeap (.ref 128) && (Value.builtin "list.__getattribute__" == Value.builtin "object.__getattribute__")) = false := by decide
  rw [e0]
  simp only [Bool.false_eq_true, if_false]
  unfold getAttrByItsOwn hookBefore
  rw [if_pos (show onTheHeap (.ref 128) = true from rfl)]
  refine wpAny_bind (wpAny_typeLookup_exc hD hn' mro_list list_getattr_none ?_)
  rw [hnb]
  refine wpAny_bind (wpAny_attempt (wpAny_holding ?_))
  unfold callGetattribute boundAndCalled
  rw [if_neg (by decide)]
  refine wpAny_bind (wpAny_of_eq (F.slot_list_getattribute.bind _) ?_)
  refine P'.call T (nm := "__getattribute__") (by decide +kernel) (by first | exact .inl (by decide +kernel) | exact .inr (by decide +kernel)) F.slot_list_getattribute.plain am_entry_list_getattribute (F.args_list_getattribute_2 _ _) ?_
  exact P'.sizeEntry T fun t => ⟨_, rfl, wpAny_pure (q t)⟩
end Mine
end
section
namespace Mine
open PySem PySem.W PyProof.Rows PySem.Calls
variable {n : Nat} {ρ ρ' ρ₀ : Rho} {σ σ' : H} {s s' : Shared} {h h' h₀ : Heap} {A : Around} {E : Value → Shared → Prop} {sc : Scope} {ns : List Str} {env : Env} {f : Fm} {a b c : X} {W : Addr → Prop} {p : Addr × Addr} {vs : List Value} {m : Int}
  {g : Array GenState} {d : Drawn} {t : Nat} {os : OsState} {body : List Stmt}
theorem walks_shift {I : Addr} {fp wr : List Addr} {G : Array GenState → Array GenState → Prop} {P : Nat → Value → Prop} {St' : Nat → Shared → Prop} (Y : WalksS C.prog C.w A I fp wr G n P St') :
    WalksS C.prog C.w A I fp wr G (n + 1) (fun i v => ∃ j, i = j + 1 ∧ P j v) (fun i s => ∃ j, i = j + 1 ∧ St' j s) where
  sub := Y.sub
  grefl := Y.grefl
  gtrans := Y.gtrans
  frame := fun i s h' tk ⟨j, e, st⟩ k1 k2 => ⟨j, e, Y.frame j s h' tk st k1 k2⟩
  item := fun i s Q E hi ⟨j, e, st⟩ k => by
    subst e
    exact Y.item j s Q E (by lia) st fun v s' hP st' m => k v s' ⟨j, rfl, hP⟩ ⟨j + 1, rfl, st'⟩ m
  done := fun s Q E ⟨j, e, st⟩ k => by
    cases e
    exact Y.done s Q E st k
  self := fun i s Q E ⟨j, e, st⟩ k => Y.self j s Q E st k
noncomputable def shiftV (k : Int) (val : Nat → Int) : Nat → Int
  | 0 => k
  | i + 1 => val i
theorem args_sum2 (a b : Value) : argsOk "sum" ⟨[a, b], []⟩ := by unfold argsOk; kernel_rfl
theorem sum_start {I : Addr} {fp wr : List Addr} {G : Array GenState → Array GenState → Prop} {P : Nat → Value → Prop} {St' : Nat → Shared → Prop} {k : Int} {kt : Tok} {val : Nat → Int} {Q : Value → Shared → Prop} (Y : WalksS C.prog C.w A.in1 I fp wr G n P St') (hst : St' 0 s) (hfp : ∀ b ∈ fp, b < s.heap.objs.size)
    (hv : ∀ i v, P i v → ∃ t, v = .int (val i) t) (hq : ∀ s' t', Moved wr G s s' → Q (.int (preSum (shiftV k val) (n + 1)) t') s') :
    wpAny (model C.prog C.w) A (PySem.call (.builtin "sum") [.ref I, .int k kt]) Q E s := by
  refine call_function_tree F.kind_sum F.plain_sum F.entry_sum (args_sum2 _ _) ?_
  unfold Builtin.«sum»
  simp only [List.length_cons, List.length_nil]
  rw [if_neg (by decide)]
  have hb : Builtin.Builtins.bindParams "sum" ["start"] 0 ⟨[.int k kt], []⟩ = pure [some (.int k kt)] := by rfl
  refine wpAny_bind (wpAny_of_eq hb ?_)
  refine wpAny_bind (Y.self 0 s _ _ hst ?_)
  have hSf : s.heap.objs.size ∉ fp := fun hm => Nat.lt_irrefl _ (hfp _ hm)
  have hs1 : preSum (shiftV k val) 1 = k := by simp [preSum, shiftV]
  dsimp only
  split
  · first
      | refine wpAny_bind (wpAny_rule (wpAny_bind (wpAny_mkInt (wpAny_pure ?_))))
      | refine wpAny_bind (wpAny_bind (wpAny_rule (wpAny_bind (wpAny_mkInt (wpAny_pure ?_)))))
      | (refine wpAny_bind (wpAny_rule ?_); refine wpAny_bind (wpAny_mkInt (wpAny_bind (wpAny_pure ?_))))
    simp only [List.forIn_cons, List.forIn_nil]
    refine wpAny_bind (wpAny_bind (wpAny_bind (wpAny_isInstance (T := "int") (b := false) (typeIs_int _ _ _) PySem.sub_int_str ?_)))
    simp only [Bool.false_eq_true, if_false]
    refine wpAny_pure (wpAny_bind (wpAny_bind (wpAny_isInstance (T := "int") (b := false) (typeIs_int _ _ _) sub_int_bytes ?_)))
    simp only [Bool.false_eq_true, if_false]
    refine wpAny_pure (wpAny_bind (wpAny_bind (wpAny_isInstance (T := "int") (b := false) (typeIs_int _ _ _) sub_int_bytearray ?_)))
    simp only [Bool.false_eq_true, if_false]
    refine wpAny_pure (wpAny_pure ?_)
    refine wpAny_bind (wpAny_newObj_type ?_)
    refine wpAny_pure ⟨plainId_quiet F.plain_sum_loop _, codeAny_sum_loopAnyS (walks_shift Y) (shiftV k val) (fun i v ⟨j, e, hP⟩ => by subst e; exact hv j v hP) s.heap.objs.size hSf n 1 _ s.toks 0 0 (.inl rfl) (by lia) (by lia)
      ⟨0, rfl, Y.frame 0 s _ _ hst (by first | exact Nat.le_refl _ | exact Nat.le_succ _ | lia) fun b _ o e => Heap.get?_push_of_some _ e⟩ (by rw [hs1]; exact Heap.get?_push_size _ rfl) fun s' t' hm => ?_⟩
    exact hq s' t' (hm.drop_new (by first | exact Nat.le_refl _ | exact Nat.le_succ _ | lia))
  · try refine wpAny_bind (wpAny_pure ?_)
    simp only [List.forIn_cons, List.forIn_nil]
    refine wpAny_bind (wpAny_bind (wpAny_bind (wpAny_isInstance (T := "int") (b := false) (typeIs_int _ _ _) PySem.sub_int_str ?_)))
    simp only [Bool.false_eq_true, if_false]
    refine wpAny_pure (wpAny_bind (wpAny_bind (wpAny_isInstance (T := "int") (b := false) (typeIs_int _ _ _) sub_int_bytes ?_)))
    simp only [Bool.false_eq_true, if_false]
    refine wpAny_pure (wpAny_bind (wpAny_bind (wpAny_isInstance (T := "int") (b := false) (typeIs_int _ _ _) sub_int_bytearray ?_)))
    simp only [Bool.false_eq_true, if_false]
    refine wpAny_pure (wpAny_pure ?_)
    refine wpAny_bind (wpAny_newObj_type ?_)
    refine wpAny_pure ⟨plainId_quiet F.plain_sum_loop _, codeAny_sum_loopAnyS (walks_shift Y) (shiftV k val) (fun i v ⟨j, e, hP⟩ => by subst e; exact hv j v hP) s.heap.objs.size hSf n 1 _ kt 0 2 (.inr rfl) (by lia) (by lia)
      ⟨0, rfl, Y.frame 0 s _ _ hst (by first | exact Nat.le_refl _ | exact Nat.le_succ _ | lia) fun b _ o e => Heap.get?_push_of_some _ e⟩ (by rw [hs1]; exact Heap.get?_push_size _ rfl) fun s' t' hm => ?_⟩
    exact hq s' t' (hm.drop_new (by first | exact Nat.le_refl _ | exact Nat.le_succ _ | lia))
theorem Now.look (N : Now C n sc ns env A f ρ σ s) {i : Nat} {a : AV} {p : Pos} {Q : Value → Shared → Prop} (ha : f[i]? = some (some a)) (q : ∀ v, VV C ρ s.heap s.heap.objs.size a v → Q v s) : wpAny (model C.prog C.w) A (eval (nameE ns i p) env) Q E s := by
  have h0 : i < ns.length := by rw [← N.ev.len]; exact (List.getElem?_eq_some_iff.mp ha).1
  have h1 := getD_some h0
  obtain ⟨o, l, k⟩ := N.ev.slot i _ h1
  obtain ⟨v, rfl, hv⟩ := k a ha
  have fin : Q v s := q v (hv.le (let ⟨_, e⟩ := N.ev.lt; Nat.le_of_lt (Heap.lt_size e)) N.st)
  refine wpAny_Name ?_ (N.ev.dbg _ (List.mem_of_getElem? h1))
  rcases l with ⟨l1, m, l2, l3⟩ | ⟨l1 | l1, l2, c, l3, l4, _⟩
  · exact wpAny_loadName_local N.ev.kind l1 l2 l3 fin
  · exact wpAny_loadName_cell N.ev.kind l1 l3 l4 fin
  · exact wpAny_loadName_free N.ev.kind l1 l3 l4 fin (beq_eq_false_iff_ne.mpr l2)
structure GenEnv (C : Cx) (scope : Scope) (cenv : Env) (xa xb : Str) (x y : Str) (tx ty : Tok) (s : Shared) : Prop where
  sc : cenv.scope = scope
  glob : cenv.globals = mainGlobals
  bi : cenv.builtins = builtinsNs
  kind : scope.kind = .function
  la : scope.names.lookup xa = some .local
  lb : scope.names.lookup xb = some .local
  da : (xa == ("__debug__" : Str)) = false
  db : (xb == ("__debug__" : Str)) = false
  vals : ∃ m, s.heap.Ns cenv.locals m ∧ m xa = some (.str x tx) ∧ m xb = some (.str y ty)
  keep : ∀ b o, C.hk.get? b = some o → s.heap.get? b = some o
section
variable {scope : Scope} {cenv : Env} {xa xb x y : Str} {tx ty : Tok} {q : Pos} {Q : Value → Shared → Prop}
theorem GenEnv.xA (G : GenEnv C scope cenv xa xb x y tx ty s) (k : Q (.str x tx) s) : wpAny (model C.prog C.w) A (eval (.Name xa q) cenv) Q E s := by
  obtain ⟨m, hn, ha, _⟩ := G.vals
  exact wpAny_Name (wpAny_loadName_local (by rw [G.sc]; exact G.kind) (by show cenv.scope.names.lookup _ = _; rw [G.sc]; exact G.la) hn ha k) G.da
theorem GenEnv.xB (G : GenEnv C scope cenv xa xb x y tx ty s) (k : Q (.str y ty) s) : wpAny (model C.prog C.w) A (eval (.Name xb q) cenv) Q E s := by
  obtain ⟨m, hn, _, hb⟩ := G.vals
  exact wpAny_Name (wpAny_loadName_local (by rw [G.sc]; exact G.kind) (by show cenv.scope.names.lookup _ = _; rw [G.sc]; exact G.lb) hn hb k) G.db
theorem GenEnv.to (G : GenEnv C scope cenv xa xb x y tx ty s) {s' : Shared} (k : ∀ b o, s.heap.get? b = some o → s'.heap.get? b = some o) : GenEnv C scope cenv xa xb x y tx ty s' :=
  ⟨G.sc, G.glob, G.bi, G.kind, G.la, G.lb, G.da, G.db, let ⟨m, hn, e⟩ := G.vals; ⟨m, hn.keeps k, e⟩, fun b o e => k b o (G.keep b o e)⟩
theorem GenEnv.bn (T : TopOk C) (G : GenEnv C scope cenv xa xb x y tx ty s) {nm : Str} {v : Value} (hg : scope.names.lookup nm = some .globalImplicit) (hx : ∀ mg, C.hk.Ns mainGlobals mg → mg nm = .none) (hb : bootBuiltins nm = some v) (hn : nm ≠ "__name__") (hd : (nm == ("__debug__" : Str)) = false) (k : Q v s) :
    wpAny (model C.prog C.w) A (eval (.Name nm q) cenv) Q E s := by
  obtain ⟨mg, hm, _⟩ := T.glob
  obtain ⟨mb, hmb, hf'⟩ := T.blt
  exact Name_function_global (by rw [G.sc]; exact G.kind) (by show cenv.scope.names.lookup _ = _; rw [G.sc]; exact hg) (loadGlobal_builtin (by rw [G.glob]; exact hm.keeps G.keep) (hx _ hm) (by rw [G.bi]; exact hmb.keeps G.keep) ((hf' _ hn).trans hb) k) hd
theorem GenEnv.gn (G : GenEnv C scope cenv xa xb x y tx ty s) {nm : Str} {v : Value} {mg : Str → Option Value} (hg : scope.names.lookup nm = some .globalImplicit) (hm : C.hk.Ns mainGlobals mg) (hx : mg nm = some v) (hd : (nm == ("__debug__" : Str)) = false) (k : Q v s) :
    wpAny (model C.prog C.w) A (eval (.Name nm q) cenv) Q E s :=
  Name_function_global (by rw [G.sc]; exact G.kind) (by show cenv.scope.names.lookup _ = _; rw [G.sc]; exact hg) (loadGlobal_global (by rw [G.glob]; exact hm.keeps G.keep) hx k) hd
end
noncomputable def lenElt : Expr := .BinOp (.Call (.Name "len" (P1 73 20 23)) [.Name "fws" (P1 73 24 27)] [] (P1 73 20 28)) .Add (.Call (.Name "len" (P1 73 31 34)) [.Name "part" (P1 73 35 39)] [] (P1 73 31 40)) (P1 73 20 40)
theorem elt_len {scope : Scope} {cenv : Env} {x y : Str} {tx ty : Tok} (T : TopOk C) (G : GenEnv C scope cenv "fws" "part" x y tx ty s) (hg : scope.names.lookup ("len" : Str) = some .globalImplicit) (hx : x.length ≤ 5000) (hy : y.length ≤ 5000) :
    wpAny (model C.prog C.w) A (eval lenElt cenv) (fun v s' => (∃ t, v = .int ((x.length : Int) + y.length) t) ∧ Keeps s s') E s := by
  have bl : bootBuiltins "len" = some (.builtin "len") := (boot_bi .len).1
  have hn : ∀ mg, C.hk.Ns mainGlobals mg → mg "len" = .none := fun _ h => T.lacks 18 rfl h
  refine wpAny_BinOp ?_
  show wpAny _ _ (do callWith (P1 73 20 28) (← eval (.Name "len" (P1 73 20 23)) cenv) [] (backTo (P1 73 20 28) (starEach [.Name "fws" (P1 73 24 27)] cenv)) []) _ _ _
  refine wpAny_bind (G.bn T hg hn bl (by decide) (by decide) ?_)
  refine callWith_ok rfl rfl (evalArgs_ok rfl rfl (spliced_cons (G.xA (spliced_nil (wpAny_pure ⟨fun Q q => wpAny_pure (q _), ?_⟩)))))
  refine P.len_str (by lia) ?_
  have G' : GenEnv C scope cenv "fws" "part" x y tx ty { s with toks := s.toks + 1 + 1 } := G.to fun _ _ e => e
  show wpAny _ _ (do callWith (P1 73 31 40) (← eval (.Name "len" (P1 73 31 34)) cenv) [] (backTo (P1 73 31 40) (starEach [.Name "part" (P1 73 35 39)] cenv)) []) _ _ _
  refine wpAny_bind (G'.bn T hg hn bl (by decide) (by decide) ?_)
  refine callWith_ok rfl rfl (evalArgs_ok rfl rfl (spliced_cons (G'.xB (spliced_nil (wpAny_pure ⟨fun Q q => wpAny_pure (q _), ?_⟩)))))
  refine P.len_str (by lia) ?_
  exact wpAny_add_int ⟨⟨_, rfl⟩, s.heap, _, rfl, fun _ _ e => e⟩
noncomputable def valOf (xs : List AD) (i : Nat) : Int := match xs[i]? with
  | some d => (match d with | .tup ys => (match ys with | [a, b] => (match a, b with | .str x, .str y => (x.length : Int) + y.length | _, _ => 0) | _ => 0) | _ => 0)
  | .none => 0
theorem preSum_shift (val : Nat → Int) : ∀ n, preSum val (n + 1) = val 0 + preSum (fun i => val (i + 1)) n
  | 0 => by simp [preSum]
  | n + 1 => by
    have := preSum_shift val n
    show preSum val (n + 1) + val (n + 1) = _
    rw [this]
    show val 0 + preSum (fun i => val (i + 1)) n + val (n + 1) = val 0 + (preSum (fun i => val (i + 1)) n + val (n + 1))
    lia
theorem bP_inv {β : Type} {d : AD} {k : Str → Str → Option β} {r : β} (e : bP d k = some r) : ∃ x y, d = .tup [.str x, .str y] ∧ x.length ≤ 5000 ∧ y.length ≤ 5000 ∧ k x y = some r := by
  cases d with
  | tup xs =>
    obtain ⟨a, b, rfl, e⟩ := two_inv (k := fun a b => bS a fun x => bS b fun y => bIf (decide (x.length ≤ 5000) && decide (y.length ≤ 5000)) (k x y)) e
    obtain ⟨x, rfl, e⟩ := bS_inv e
    obtain ⟨y, rfl, e⟩ := bS_inv e
    obtain ⟨c, e⟩ := bIf_inv e
    rw [Bool.and_eq_true, decide_eq_true_eq, decide_eq_true_eq] at c
    exact ⟨x, y, rfl, c.1, c.2, e⟩
  | _ => cases e
theorem pieceLen_at : ∀ {xs : List AD} {M : Int}, pieceLen xs = some M → (∀ (i : Nat) d, xs[i]? = some d → ∃ x y : Str, d = .tup [.str x, .str y] ∧ x.length ≤ 5000 ∧ y.length ≤ 5000) ∧ preSum (valOf xs) xs.length = M
  | [], M, e => by cases e; exact ⟨fun i d h => by simp at h, rfl⟩
  | d :: r, M, e => by
    obtain ⟨x, y, rfl, h1, h2, e⟩ := bP_inv (k := fun x y => match pieceLen r with | some n => some ((x.length : Int) + y.length + n) | .none => .none) e
    cases hr : pieceLen r with
    | none => simp only [hr] at e; cases e
    | some M' =>
      simp only [hr] at e; cases e
      obtain ⟨k1, k2⟩ := pieceLen_at hr
      refine ⟨fun i d h => ?_, ?_⟩
      · cases i with
        | zero => simp at h; exact ⟨x, y, h.symm, h1, h2⟩
        | succ i => simp at h; exact k1 i d h
      · show preSum _ (r.length + 1) = _
        rw [preSum_shift]
        have : (fun i => valOf (AD.tup [.str x, .str y] :: r) (i + 1)) = valOf r := by funext i; simp [valOf]
        rw [this, k2]; rfl
structure GenSc (gsc : Scope) (nm : Str) : Prop where
  co : gsc.isCoroutine = false
  clos : ∀ env, closureFor gsc env = pure []
  cell : ∀ y ∈ gsc.names, y.2 ≠ .cell
  h0 : gsc.names.lookup (".0" : Str) = some NameKind.local
  la : gsc.names.lookup ("fws" : Str) = some .local
  lb : gsc.names.lookup ("part" : Str) = some .local
  kind : gsc.kind = .function
  nm : gsc.names.lookup nm = some .globalImplicit
theorem GenSc.of {gsc : Scope} {nm : Str} (co : gsc.isCoroutine = false) (clos : ∀ env, closureFor gsc env = pure []) (cell : (gsc.names.all fun y => y.2 != .cell) = true) (h0 : gsc.names.lookup (".0" : Str) = some NameKind.local) (la : gsc.names.lookup ("fws" : Str) = some .local) (lb : gsc.names.lookup ("part" : Str) = some .local) (kind : gsc.kind = .function)
    (hn : gsc.names.lookup nm = some .globalImplicit) : GenSc gsc nm := ⟨co, clos, fun y hy => bne_iff_ne.mp (List.all_eq_true.mp cell y hy), h0, la, lb, kind, hn⟩
section
set_option maxHeartbeats 4000000
noncomputable def lenSc : Scope := genSc (mBody "__len__")
noncomputable def alText : List Stmt :=
  [.Return (some (.Call (.Name "sum" (P1 73 15 18)) [.GeneratorExp lenElt [⟨.Tuple [.Name "fws" (P1 73 45 48), .Name "part" (P1 73 50 54)] 0 (P1 73 45 54), nameE ["self"] 0 (P1 73 58 62), [], 0⟩] lenSc lenPos, .Attribute (nameE ["self"] 0 (P1 73 65 69)) "_initial_size" (P1 73 65 83)] [] (P1 73 15 84))) (P1 73 8 84)]
theorem tx_al : mBody "__len__" = alText := by with_unfolding_all rfl
theorem sc_al : GenSc lenSc "len" := .of (by with_unfolding_all rfl) (fun _ => by with_unfolding_all rfl) (by with_unfolding_all rfl) (by with_unfolding_all rfl) (by with_unfolding_all rfl) (by with_unfolding_all rfl) (by with_unfolding_all rfl) (by with_unfolding_all rfl)
theorem go_al : gOk (mScope "__len__") "sum" = true := by with_unfolding_all rfl
end
theorem alen_walk {L : Addr} {k : Nat} {xs : List AD} {M : Int} (T : TopOk C)
    (N : Now C n (mScope "__len__") ["self"] (mLen.envOf L) A [some (.d (.ref k))] ρ σ s) (hσ : σ[k]? = some (.acc xs m)) (hx : xs.length ≤ 5000) (hM : pieceLen xs = some M) :
    wpAny (model C.prog C.w) A (execs alText (mLen.envOf L)) (fun fl s' => PV C ρ s σ (.d (.int (m + M))) (match fl with | .ret v => v | _ => .none) s') E s := by
  obtain ⟨hP, hS⟩ := pieceLen_at hM
  have bsum : bootBuiltins "sum" = some (.builtin "sum") := by decide +kernel
  refine wpAny_execs_cons (wpAny_Return_some ?_)
  generalize he : mLen.envOf L = env at N ⊢
  show wpAny _ _ (do callWith (P1 73 15 84) (← eval (.Name "sum" (P1 73 15 18)) env) [] (backTo (P1 73 15 84) (starEach _ env)) []) _ _ _
  refine wpAny_bind (N.globB T go_al (fun _ h => T.lacks 29 rfl h) ⟨bsum, by decide, by decide⟩ ?_)
  refine callWith_ok rfl rfl (evalArgs_ok rfl rfl (spliced_cons ?_))
  refine pile_gen (F := fun i v => ∃ t, v = .int (valOf xs i) t) T T.lenc (by rw [← he]; rfl) (by rw [← he]; rfl) N hσ sc_al.co (sc_al.clos env) sc_al.cell sc_al.h0 sc_al.la sc_al.lb (by decide) sc_al.kind (fun i d hd => let ⟨x, y, e, _⟩ := hP i d hd; ⟨x, y, e⟩) (fun cenv A' E' i x tx y ty s₂ m₂ c1 c2 c3 hh hd hn ha hb hk => ?_) fun a s' G => ?_
  · obtain ⟨x', y', e, h1, h2⟩ := hP i _ hd
    cases e
    have G : GenEnv C lenSc cenv "fws" "part" x y tx ty s₂ := ⟨c1, c2, c3, sc_al.kind, sc_al.la, sc_al.lb, by decide, by decide, ⟨m₂, hn, ha, hb⟩, hk⟩
    refine wpAny_mono (elt_len T G sc_al.nm h1 h2) (fun v s' hv => ⟨?_, hv.2⟩) fun _ _ e => e
    obtain ⟨t, rfl⟩ := hv.1
    exact ⟨t, by simp [valOf, hd]⟩
  · obtain ⟨fp, wr, GG, St', Y, hst, hfp, haf, hty, hbare, hB, sr, ρ', X, S, hk, hos, hwr⟩ := G
    have X' : St C ρ' σ s' := (X.quiet (tk := sr.toks) hk).gens hB hos rfl
    have S' : Stp C NoW ρ s.heap ρ' s'.heap := S.trans (LStp.of_keeps hk).stp
    have N' := N.step X' S'
    refine spliced_cons ?_
    show wpAny _ _ (eval (.Attribute (nameE ["self"] 0 (P1 73 65 69)) "_initial_size" (P1 73 65 83)) env) _ _ _
    rw [arm_eval_Attribute]
    refine wpAny_bind ?_
    show wpAny _ _ (eval (nameE ["self"] 0 (P1 73 65 69)) env) _ _ _
    refine N'.look (i := 0) rfl fun v hv => ?_
    have hv : VR ρ' s'.heap (.ref k) v := hv
    rw [VR] at hv
    obtain ⟨p, hp, rfl⟩ := hv
    obtain ⟨us, rs, P⟩ := X'.pile hp hσ
    refine wpAny_bind (wpAny_standAt (wpAny_bind (wpAny_holding (P.getSize T fun t => ?_))))
    refine wpAny_bind (wpAny_pure (wpAny_pure ?_))
    refine spliced_nil (wpAny_pure ⟨fun Q q => wpAny_pure (q _), ?_⟩)
    have hst₁ := Y.frame 0 s' s'.heap (s'.toks + 1) hst (Nat.le_succ _) fun b _ o e => e
    refine sum_start (val := valOf xs) Y.in4_1 hst₁ hfp (fun i v hv => hv) fun s'' t' M'' => ?_
    obtain ⟨X₂, S₂⟩ := moved_st (s₁ := { s' with toks := s'.toks + 1 }) X S hk hos hB hbare hwr M''
    refine ⟨ρ', X₂, S₂, ?_⟩
    show VR _ _ _ _
    rw [VR]
    refine ⟨t', ?_⟩
    rw [preSum_shift]
    show Value.int (m + preSum (valOf xs) xs.length) t' = _
    rw [hS]
theorem AC.in1 {k : Nat} (a : AC C (k + 1) A h) : AC C k A.in1 h :=
  ⟨a.hd, by have := a.depth; show A.depth + 4 * k + 120 ≤ 990; lia, by have := a.units; show A.units + 1 + 100 * k + 200 ≤ 9900; lia, a.fr⟩
theorem Pile.own {name : Str} {fa : Addr} {o : Obj} {y : Option Value} (T : TopOk C) (P : Pile C s p vs m) (ho : C.hk.get? fa = some o) (hc : o.cls = .type "function") (h1 : accFns.lookup name = some (.ref fa)) (h2 : name ∉ accRest) (h4 : typeLookup (.type "list") name = pure y) : s.heap.OwnSpecial p.1 128 fa "list" name := by
  have hC := T.cls
  obtain ⟨mN, hn, hm⟩ := T.accNs
  obtain ⟨j, hx⟩ := P.obj
  exact ⟨_, o, _, _, 127, _, accBases, true, _, _, _, _, _, _, _, _, _, _, _, mN, y, hx, rfl, P.keep _ _ hC, hn.keeps P.keep, (hm _ h2).trans h1, P.keep _ _ ho, hc, mro_list, h4⟩
theorem alen_call {k : Nat} {xs : List AD} {M : Int} (hσ : σ[k]? = some (.acc xs m)) (hx : xs.length ≤ 5000) (hM : pieceLen xs = some M) (h0 : 0 ≤ m + M) (h1 : m + M ≤ 1000000) : CallS (n + 2) (.fn .alen) [.ref k] .none σ (.int (m + M)) σ := fun Y A ρ s gv vs kv E a X hg hv _ => by
  have T := Y.top
  rw [show gv = _ from hg]
  obtain ⟨v, rfl, hv1⟩ := hv.one
  have hv1' := hv1
  rw [VR] at hv1'
  obtain ⟨p, hp, rfl⟩ := hv1'
  obtain ⟨us, rs, P⟩ := X.pile hp hσ
  refine ⟨fun Q q => wpAny_pure (q _), ?_⟩
  refine len_own (P.own T (y := some (.builtin "list.__len__")) (T.obj 23 rfl rfl) rfl rfl (by decide) slot_list_len.lookup) ?_
  refine wpAny_mono (meth_call T (okLen T) (AC.in1 (k := n + 1) a) X hv (us := []) (ds := []) ⟨rfl, rfl⟩ (fun h us e => by rw [e.2]; exact .nil) rfl (Nat.le_refl _) tx_al fun L s₁ N S E => PySem.wpAt_of_wpAny (wpAny_mono (alen_walk T N hσ hx hM) (fun _ _ q => .v q) fun _ _ e => e)) (fun r s' hr => ?_) fun _ _ e => e
  obtain ⟨ρ', X', S', hr⟩ := hr
  have hr : VR ρ' s'.heap (.int (m + M)) r := hr
  rw [VR] at hr
  obtain ⟨t, rfl⟩ := hr
  exact ⟨_, t, rfl, h0, by lia, PV.trans S' (PV.int X')⟩
noncomputable abbrev emptyS : Str := ⟨#[]⟩
theorem joinL_nil : ∀ l : List (List Nat), joinL [] l = l.flatten
  | [] => rfl
  | [x] => by simp [joinL]
  | x :: y :: r => by
    show x ++ [] ++ joinL [] (y :: r) = _
    rw [joinL_nil (y :: r)]; simp
theorem join_empty (l : List Str) : Txt.join emptyS l = ⟨((l.map (·.cps.toList)).flatten).toArray⟩ := by
  show Builtin.Str.glued emptyS l = _
  rw [StrLaws.glued_eq_join]
  have := join_list_eq emptyS l
  rw [show emptyS.cps.toList = [] from rfl, joinL_nil] at this
  rw [← this]
noncomputable def pieceOf (d : AD) : Str := match d with | .tup ys => (match ys with | [a, b] => (match a, b with | .str x, .str y => ⟨(x.cps.toList ++ y.cps.toList).toArray⟩ | _, _ => emptyS) | _ => emptyS) | _ => emptyS
theorem pieceText_at : ∀ {xs : List AD} {M : List Nat}, pieceText xs = some M → (∀ (i : Nat) d, xs[i]? = some d → ∃ x y : Str, d = .tup [.str x, .str y] ∧ x.length ≤ 5000 ∧ y.length ≤ 5000) ∧ ((xs.map pieceOf).map (·.cps.toList)).flatten = M
  | [], M, e => by cases e; exact ⟨fun i d h => by simp at h, rfl⟩
  | d :: r, M, e => by
    obtain ⟨x, y, rfl, h1, h2, e⟩ := bP_inv (k := fun x y => match pieceText r with | some n => some (x.cps.toList ++ y.cps.toList ++ n) | .none => .none) e
    cases hr : pieceText r with
    | none => simp only [hr] at e; cases e
    | some M' =>
      simp only [hr] at e; cases e
      obtain ⟨k1, k2⟩ := pieceText_at hr
      refine ⟨fun i d h => ?_, ?_⟩
      · cases i with
        | zero => simp at h; exact ⟨x, y, h.symm, h1, h2⟩
        | succ i => simp at h; exact k1 i d h
      · simp only [List.map_cons, List.flatten_cons, k2]
        simp [pieceOf]
noncomputable def strElt : Expr := .Call (.Attribute (.Name "EMPTYSTRING" (P1 76 33 44)) "join" (P1 76 33 49)) [.Tuple [.Name "fws" (P1 76 51 54), .Name "part" (P1 76 56 60)] 0 (P1 76 50 61)] [] (P1 76 33 62)
theorem elt_str {scope : Scope} {cenv : Env} {x y : Str} {tx ty : Tok} (T : TopOk C) (G : GenEnv C scope cenv "fws" "part" x y tx ty s) (hg : scope.names.lookup ("EMPTYSTRING" : Str) = some .globalImplicit) (hx : x.length ≤ 5000) (hy : y.length ≤ 5000) :
    wpAny (model C.prog C.w) A (eval strElt cenv) (fun v s' => (∃ t, v = .str ⟨(x.cps.toList ++ y.cps.toList).toArray⟩ t) ∧ Keeps s s') E s := by
  obtain ⟨mg, hm, v⟩ := T.glob
  refine meth_ok rfl (show 1 < 30 by decide) rfl rfl (G.gn hg hm (v 27 rfl) (by decide) fun pl => GM.of _ (typeIs_str _ _ _) F.slot_str_join F.type_str_join GM.noRef ?_)
  refine callWith_ok rfl rfl (evalArgs_ok rfl rfl (spliced_cons ?_))
  rw [arm_eval_Tuple]
  refine wpAny_bind (wpAny_standAt (wpAny_bind ?_))
  refine spliced_cons (G.xA (spliced_cons (G.xB (spliced_nil (wpAny_newTuple ?_)))))
  refine spliced_nil (wpAny_pure ⟨fun Q q => wpAny_pure (q _), ?_⟩)
  refine join_tupleW (ys := [x, y]) ⟨_, Heap.get?_push_size _ rfl, rfl, _, rfl⟩ (.cons _ _ (.cons _ _ .nil)) (by decide) (by simp; lia) fun t' k => ?_
  rw [join_empty]
  refine ⟨⟨t', ?_⟩, _, k, rfl, keeps_push _⟩
  simp
section
set_option maxHeartbeats 4000000
noncomputable def strSc : Scope := genSc (mBody "__str__")
noncomputable def asText : List Stmt :=
  [.Return (some (.Call (.Attribute (.Name "EMPTYSTRING" (P1 76 15 26)) "join" (P1 76 15 31)) [.GeneratorExp strElt [⟨.Tuple [.Name "fws" (P1 76 67 70), .Name "part" (P1 76 72 76)] 0 (P1 76 67 76), nameE ["self"] 0 (P1 76 80 84), [], 0⟩] strSc strPos] [] (P1 76 15 86))) (P1 76 8 86)]
theorem tx_as : mBody "__str__" = asText := by with_unfolding_all rfl
theorem sc_as : GenSc strSc "EMPTYSTRING" := .of (by with_unfolding_all rfl) (fun _ => by with_unfolding_all rfl) (by with_unfolding_all rfl) (by with_unfolding_all rfl) (by with_unfolding_all rfl) (by with_unfolding_all rfl) (by with_unfolding_all rfl) (by with_unfolding_all rfl)
theorem go_as : gOk (mScope "__str__") "EMPTYSTRING" = true := by with_unfolding_all rfl
end
theorem sum_len (ys : List Str) : (ys.map (·.length)).sum = ((ys.map (·.cps.toList)).flatten).length := by
  induction ys with
  | nil => rfl
  | cons y r ih => simp only [List.map_cons, List.sum_cons, List.flatten_cons, List.length_append, ih]; rfl
theorem astr_walk {L : Addr} {k : Nat} {xs : List AD} {M : List Nat} (T : TopOk C)
    (N : Now C n (mScope "__str__") ["self"] (mStr.envOf L) A [some (.d (.ref k))] ρ σ s) (hσ : σ[k]? = some (.acc xs m)) (hx : xs.length ≤ 5000) (hM : pieceText xs = some M) (hML : M.length ≤ 100000) :
    wpAny (model C.prog C.w) A (execs asText (mStr.envOf L)) (fun fl s' => PV C ρ s σ (.d (.str ⟨M.toArray⟩)) (match fl with | .ret v => v | _ => .none) s') E s := by
  obtain ⟨hP, hS⟩ := pieceText_at hM
  obtain ⟨mg, hm, v⟩ := T.glob
  refine wpAny_execs_cons (wpAny_Return_some ?_)
  generalize he : mStr.envOf L = env at N ⊢
  refine meth_ok rfl (show 1 < 30 by decide) rfl rfl (Name_function_global N.ev.kind (N.ev.kk _ _ (.inr (.inr rfl)) go_as) (loadGlobal_global (by rw [N.ev.glob]; exact hm.keeps N.st.inv.keep) (v 27 rfl) fun pl => GM.of _ (typeIs_str _ _ _) F.slot_str_join F.type_str_join GM.noRef ?_) (by decide))
  refine callWith_ok rfl rfl (evalArgs_ok rfl rfl (spliced_cons ?_))
  refine pile_gen (F := fun i v => ∃ d t, xs[i]? = some d ∧ v = .str (pieceOf d) t) T T.strc (by rw [← he]; rfl) (by rw [← he]; rfl) N hσ sc_as.co (sc_as.clos env) sc_as.cell sc_as.h0 sc_as.la sc_as.lb (by decide) sc_as.kind (fun i d hd => let ⟨x, y, e, _⟩ := hP i d hd; ⟨x, y, e⟩) (fun cenv A' E' i x tx y ty s₂ m₂ c1 c2 c3 hh hd hn ha hb hk => ?_) fun a s' G => ?_
  · obtain ⟨x', y', e, k1, k2⟩ := hP i _ hd
    cases e
    have G : GenEnv C strSc cenv "fws" "part" x y tx ty s₂ := ⟨c1, c2, c3, sc_as.kind, sc_as.la, sc_as.lb, by decide, by decide, ⟨m₂, hn, ha, hb⟩, hk⟩
    refine wpAny_mono (elt_str T G sc_as.nm k1 k2) (fun v s' hv => ⟨?_, hv.2⟩) fun _ _ e => e
    obtain ⟨t, rfl⟩ := hv.1
    exact ⟨_, t, hd, rfl⟩
  · obtain ⟨fp, wr, GG, St', Y, hst, hfp, haf, hty, hbare, hB, sr, ρ', X, S, hk, hos, hwr⟩ := G
    refine spliced_nil (wpAny_pure ⟨fun Q q => wpAny_pure (q _), ?_⟩)
    refine SC.joinGen Y.in4_2 hty hst hfp haf (fun i v ⟨d, t, _, e⟩ => ⟨_, t, e⟩) (fun s'' l M'' hi => ?_) (Nat.le_trans hx (by decide))
    have hll : l.length = xs.length := by
      have := hi.1
      simpa [strValues] using this
    have hle : l.map (·.1) = xs.map pieceOf := by
      refine List.ext_getElem? fun i => ?_
      rw [List.getElem?_map, List.getElem?_map]
      cases hd : l[i]? with
      | none =>
        have : xs[i]? = none := by rw [List.getElem?_eq_none_iff] at hd ⊢; lia
        rw [this]; rfl
      | some pr =>
        obtain ⟨d, t, e1, e2⟩ := hi.2 i (.str pr.1 pr.2) (by simp [strValues, hd])
        injection e2 with e3 _
        rw [e1]
        show some pr.1 = some (pieceOf d)
        rw [e3]
    rw [hle]
    refine ⟨joinOk_of_weight (by rw [sum_len, hS]; simp; lia) (by decide), fun t' k' => ?_⟩
    rw [join_empty, hS]
    obtain ⟨X₂, S₂⟩ := moved_st X S hk hos hB hbare hwr M''
    exact PV.trans S₂ (PV.str X₂)
theorem str_by {x : Addr} {Q : Value → Shared → Prop} (hu : A.in1.in1.units < cLine)
    (hcall : ∀ {Q' : Option Value → Shared → Prop} {E' : Value → Shared → Prop}, (∀ m tk s', Q (.str m tk) s' → Q' (some (.str m tk)) s') → (∀ e s', E e s' → E' e s') → wpAny (model C.prog C.w) A.in1.in1 (callSpecial? (.ref x) (Str.ofString "__str__")) Q' E' s) :
    wpAny (model C.prog C.w) A (PySem.call (.type "str") [.ref x]) Q E s := by
  have hct : ∀ {Q' : Unit → Shared → Prop} {E' : Value → Shared → Prop}, Q' () s → wpAny (model C.prog C.w) A.in1 (checkTypeCall "str" ⟨[.ref x], []⟩) Q' E' s := fun q => wpAny_of_eq (F.typeCall_str_1 _) q
  refine type_codes (Q₁ := fun obj s₁ => (∃ m tk, obj = .str m tk) ∧ Q obj s₁) F.called_str hct F.entry_object_init ?_ fun obj s₁ h₁ => ?_
  · refine codeAny_of_tree ?_
    show wpAny _ A.in1.in1 (do checkBuiltinCall "str.__new__" ⟨[.type "str", .ref x], []⟩; again (.builtin "str.__new__" ⟨[.type "str", .ref x], []⟩)) _ _ s
    refine wpAny_bind (wpAny_of_eq (F.newCall_str_1 _) (wpAny_pure ⟨plainId_quiet F.called_str.plain _, codeAny_builtin F.entry_str_new ?_⟩))
    rw [Around.under_plainId F.called_str.plain _, str_new_tree]
    refine wpAny_bind (wpAny_pure ?_)
    refine wpAny_bind (wpAny_of_eq isSubtype_str_str ?_)
    refine wpAny_bind ?_
    unfold Builtin.Str.strOf
    refine wpAny_bind (wpAny_cRoomFor hu ?_)
    refine wpAny_bind (m := callSpecial? (.ref x) (Str.ofString "__str__")) (hcall (fun m tk s' hq => ?_) fun _ _ e => e)
    show wpAny _ _ (asStr? (.str m tk) >>= _) _ _ _
    refine wpAny_bind (wpAny_of_eq (show asStr? (.str m tk) = pure (some m) from rfl) ?_)
    simp only [Option.isNone_some, Bool.false_eq_true, if_false]
    exact wpAny_pure (wpAny_pure ⟨⟨m, tk, rfl⟩, hq⟩)
  · obtain ⟨⟨m, tk, rfl⟩, hq⟩ := h₁
    refine ⟨typeIs_str _ _ _, F.args_object_init_2 _ _, ?_⟩
    have g := object_init_meets (T := "str") (self := .str m tk) (rest := [.ref x]) F.called_str.init.lookup F.called_str.made (by decide)
    exact g C.prog C.w A.in1 _ s₁ ⟨typeIs_str _ _ _, rfl, hq⟩
theorem str_own {x f : Addr} {Q : Value → Shared → Prop} {B : String} (X : s.heap.OwnSpecial x 128 f B "__str__") (hu : A.in1.in1.units < cLine)
    (hcall : wpAny (model C.prog C.w) A.in1.in1 (PySem.call (.ref f) [.ref x]) (fun r s' => ∃ m tk, r = .str m tk ∧ Q (.str m tk) s') E s) :
    wpAny (model C.prog C.w) A (PySem.call (.type "str") [.ref x]) Q E s := str_by hu fun k1 k2 => by
  obtain ⟨h, g, d, t, os⟩ := s
  refine wpAny_callSpecial?_own X (wpAny_mono hcall (fun r s' hr => ?_) k2)
  obtain ⟨m, tk, rfl, hq⟩ := hr
  exact k1 _ _ _ hq
theorem astr_call {k : Nat} {xs : List AD} {M : List Nat} (hσ : σ[k]? = some (.acc xs m)) (hx : xs.length ≤ 5000) (hM : pieceText xs = some M) (hML : M.length ≤ 100000) : CallS (n + 2) (.fn .astr) [.ref k] .none σ (.str ⟨M.toArray⟩) σ := fun Y A ρ s gv vs kv E a X hg hv _ => by
  have T := Y.top
  rw [show gv = _ from hg]
  obtain ⟨v, rfl, hv1⟩ := hv.one
  have hv1' := hv1
  rw [VR] at hv1'
  obtain ⟨p, hp, rfl⟩ := hv1'
  obtain ⟨us, rs, P⟩ := X.pile hp hσ
  have hy : typeLookup (.type "list") "__str__" = pure (some (.builtin "object.__str__")) := by rw [typeLookup_type, builtinLookup_eq_fast]; kernel_rfl
  refine ⟨fun Q q => wpAny_pure (q _), ?_⟩
  have a' : AC C (n + 1) A.in1.in1 s.heap := by
    refine ⟨a.hd, by have := a.depth; show A.depth + 4 * (n + 1) + 120 ≤ 990; lia, by have := a.units; show A.units + 1 + 1 + 100 * (n + 1) + 200 ≤ 9900; lia, a.fr⟩
  refine str_own (P.own T (T.obj 26 rfl rfl) rfl rfl (by decide) hy) (by have := a.units; show A.units + 1 + 1 < 9900; lia) ?_
  refine wpAny_mono (meth_call T (okStr T) a' X hv (us := []) (ds := []) ⟨rfl, rfl⟩ (fun h us e => by rw [e.2]; exact .nil) rfl (Nat.le_refl _) tx_as fun L s₁ N S E => PySem.wpAt_of_wpAny (wpAny_mono (astr_walk T N hσ hx hM hML) (fun _ _ q => .v q) fun _ _ e => e)) (fun r s' hr => ?_) fun _ _ e => e
  have hr0 := hr
  obtain ⟨ρ', X', S', hr⟩ := hr
  have hr : VR ρ' s'.heap (.str ⟨M.toArray⟩) r := hr
  rw [VR] at hr
  obtain ⟨t, rfl⟩ := hr
  exact ⟨_, t, rfl, hr0⟩
theorem meth0 (T : TopOk C) {M : Meth} {dv : Nat → List Value → Prop} {xs : List AD} {r : AD} {N : Nat} (G : MOk C M (dv0 N)) (hN : xs.length = N) (a : AC C (n + 1) A s.heap) (X : St C ρ σ s) (hv : VRs ρ s.heap xs vs)
    (hf : f = xs.map (fun x => some (.d x)) ++ List.replicate (M.ns.length - xs.length) Option.none) (hlen : xs.length ≤ M.ns.length) {body : List Stmt} (hbd : M.body = body)
    (hw : ∀ L s₁, Now C n M.sc M.ns (M.envOf L) (A.deeper (M.envOf L)) f ρ σ s₁ → Stp C NoW ρ s.heap ρ s₁.heap → ∀ E, PySem.wpAt (model C.prog C.w) (A.deeper (M.envOf L)) (.func body (M.envOf L)) (execs body (M.envOf L)) (MRes C (M.envOf L) ρ s₁ σ' r) E s₁) :
    (∀ Q, (∀ k, Q k s) → wpAny (model C.prog C.w) A (keeperOf (.ref M.fa)) Q E s) ∧ wpAny (model C.prog C.w) A (PySem.call (.ref M.fa) vs []) (PV C ρ s σ' (.d r)) E s :=
  ⟨fun _ q => G.keeper X _ q, meth_call T G a X hv (us := []) (ds := []) ⟨hN, rfl⟩ (fun h us e => by rw [e.2]; exact .nil) (by rw [List.append_nil]; exact hf) (by rw [List.append_nil]; exact hlen) hbd hw⟩
theorem pcount_call {k : Nat} {xs : List AD} (hσ : σ[k]? = some (.acc xs m)) : CallS (n + 1) (.fn .pcount) [.ref k] .none σ (.int xs.length) σ := fun Y A ρ s gv vs kv E a X hg hv _ => by
  rw [show gv = _ from hg]
  exact meth0 Y.top (dv := dv0 1) (okPcount Y.top) rfl a X hv rfl (Nat.le_refl _) tx_pc fun L s₁ N S E => pc_walk Y.top N hσ
theorem push_call {k : Nat} {xs : List AD} {x y : Str} (hσ : σ[k]? = some (.acc xs m)) (hx : xs.length ≤ 5000) : CallS (n + 1) (.fn .push) [.ref k, .str x, .str y] .none σ .none (σ.set k (.acc (xs ++ [.tup [.str x, .str y]]) m)) := fun Y A ρ s gv vs kv E a X hg hv _ => by
  rw [show gv = _ from hg]
  exact meth0 Y.top (dv := dv0 3) (okPush Y.top) rfl a X hv rfl (Nat.le_refl _) tx_push fun L s₁ N S E => PySem.wpAt_of_wpAny (push_walk Y N hσ hx rfl)
theorem meth1 (T : TopOk C) {M : Meth} {P : Value → Prop} {rs : List AD} {k : Nat} {d0 d r : AD} {v0 : Value} (G : MOk C M (dv1 2 P)) (h0 : P v0) (hd0 : ∀ h v, P v → VR ρ h d0 v) (a : AC C (n + 1) A s.heap) (X : St C ρ σ s) (hv : VRs ρ s.heap (.ref k :: rs) vs) (hr : (rs = [] ∧ d = d0) ∨ rs = [d])
    (hf : f = some (.d (.ref k)) :: some (.d d) :: List.replicate (M.ns.length - 2) Option.none) (hlen : 2 ≤ M.ns.length) {body : List Stmt} (hbd : M.body = body)
    (hw : ∀ L s₁, Now C n M.sc M.ns (M.envOf L) (A.deeper (M.envOf L)) f ρ σ s₁ → Stp C NoW ρ s.heap ρ s₁.heap → ∀ E, PySem.wpAt (model C.prog C.w) (A.deeper (M.envOf L)) (.func body (M.envOf L)) (execs body (M.envOf L)) (MRes C (M.envOf L) ρ s₁ σ' r) E s₁) :
    (∀ Q, (∀ k, Q k s) → wpAny (model C.prog C.w) A (keeperOf (.ref M.fa)) Q E s) ∧ wpAny (model C.prog C.w) A (PySem.call (.ref M.fa) vs []) (PV C ρ s σ' (.d r)) E s := by
  refine ⟨fun _ q => G.keeper X _ q, ?_⟩
  rcases hr with ⟨rfl, rfl⟩ | rfl
  · exact meth_call T G a X hv (us := [v0]) (ds := [d]) (.inr ⟨rfl, v0, rfl, h0⟩) (fun h us e => by
      rcases e with ⟨e, _⟩ | ⟨_, v, rfl, q⟩
      · cases e
      · exact .cons (hd0 h v q) .nil) hf hlen hbd hw
  · exact meth_call T G a X hv (us := []) (ds := []) (.inl ⟨rfl, rfl⟩) (fun h us e => by
      rcases e with ⟨_, e⟩ | ⟨e, _⟩
      · rw [e]; exact .nil
      · cases e) hf hlen hbd hw
theorem popfrom_ok {k kk : Nat} {xs rs : List AD} (hr : (rs = [] ∧ kk = 0) ∨ rs = [.int (kk : Int)]) (hσ : σ[k]? = some (.acc xs m)) (hx : xs.length ≤ 5000) (hk : kk ≤ xs.length) : CallS (n + 1) (.fn .popfrom) (.ref k :: rs) .none σ (.lst (xs.drop kk)) (σ.set k (.acc (xs.take kk) m)) := fun Y A ρ s gv vs kv E a X hg hv _ => by
  rw [show gv = _ from hg]
  exact meth1 Y.top (d0 := .int 0) (d := .int (kk : Int)) (v0 := .int 0 0) (okPopfrom Y.top) ⟨_, rfl⟩ (fun h v ⟨t, e⟩ => by rw [e, VR]; exact ⟨t, rfl⟩) a X hv (hr.imp (fun ⟨a, b⟩ => ⟨a, by rw [b]; rfl⟩) id) rfl (by decide) tx_pf fun L s₁ N S E =>
    PySem.wpAt_of_wpAny (pf_walk Y rfl rfl N hσ hx hk rfl)
theorem popfrom_call {k kk : Nat} {xs : List AD} (hσ : σ[k]? = some (.acc xs m)) (hx : xs.length ≤ 5000) (hk : kk ≤ xs.length) : CallS (n + 1) (.fn .popfrom) [.ref k, .int (kk : Nat)] .none σ (.lst (xs.drop kk)) (σ.set k (.acc (xs.take kk) m)) := popfrom_ok (.inr rfl) hσ hx hk
theorem popall_call {k : Nat} {xs : List AD} (hσ : σ[k]? = some (.acc xs m)) (hx : xs.length ≤ 5000) : CallS (n + 1) (.fn .popfrom) [.ref k] .none σ (.lst xs) (σ.set k (.acc [] m)) := popfrom_ok (kk := 0) (.inl ⟨rfl, rfl⟩) hσ hx (Nat.zero_le _)
theorem reset_ok {k : Nat} {xs ys rs : List AD} {d : AD} (h1 : (d = .none ∧ ys = []) ∨ d = .lst ys) (h2 : (rs = [] ∧ d = .none) ∨ rs = [d]) (hσ : σ[k]? = some (.acc xs m)) (hx : xs.length ≤ 5000) (hy : ys.length ≤ 5000) : CallS (n + 1) (.fn .reset) (.ref k :: rs) .none σ .none (σ.set k (.acc ys 0)) := fun Y A ρ s gv vs kv E a X hg hv _ => by
  rw [show gv = _ from hg]
  exact meth1 (E := E) Y.top (d0 := .none) (d := d) (v0 := .none) (okReset Y.top) rfl (fun h v e => by rw [e, VR]) a X hv h2 rfl (by decide) tx_rs fun L s₁ N S E => PySem.wpAt_of_wpAny (rs_walk Y rfl rfl N h1 hσ hx hy rfl)
theorem reset_call {k : Nat} {xs ys : List AD} (hσ : σ[k]? = some (.acc xs m)) (hx : xs.length ≤ 5000) (hy : ys.length ≤ 5000) : CallS (n + 1) (.fn .reset) [.ref k, .lst ys] .none σ .none (σ.set k (.acc ys 0)) := reset_ok (.inr rfl) (.inr rfl) hσ hx hy
theorem reset0_call {k : Nat} {xs : List AD} (hσ : σ[k]? = some (.acc xs m)) (hx : xs.length ≤ 5000) : CallS (n + 1) (.fn .reset) [.ref k] .none σ .none (σ.set k (.acc [] 0)) := reset_ok (.inl ⟨rfl, rfl⟩) (.inl ⟨rfl, rfl⟩) hσ hx (Nat.zero_le _)
theorem pop0_call {k : Nat} (hσ : σ[k]? = some (.acc [] m)) : CallS (n + 2) (.fn .pop) [.ref k] .none σ (.tup [.str ⟨#[]⟩, .str ⟨#[]⟩]) σ := fun Y A ρ s gv vs kv E a X hg hv _ => by
  rw [show gv = _ from hg]
  exact meth0 Y.top (dv := dv0 1) (okPop Y.top) rfl a X hv rfl (Nat.le_refl _) tx_pop fun L s₁ N S E => pop_walk0 Y N hσ (pcount_call hσ)
theorem pop_call {k : Nat} {xs : List AD} {d : AD} (hσ : σ[k]? = some (.acc (xs ++ [d]) m)) (hx : xs.length ≤ 4999) : CallS (n + 2) (.fn .pop) [.ref k] .none σ d (σ.set k (.acc xs m)) := fun Y A ρ s gv vs kv E a X hg hv _ => by
  rw [show gv = _ from hg]
  exact meth0 Y.top (dv := dv0 1) (okPop Y.top) rfl a X hv rfl (Nat.le_refl _) tx_pop fun L s₁ N S E => pop_walk Y N hσ hx (pcount_call hσ)
noncomputable def hideH (h : Heap) : List Addr → Heap
  | [] => h
  | b :: r => (hideH h r).update b fun o => { o with data := .freed }
theorem hide_self (h : Heap) (b : Addr) : (h.update b fun o => { o with data := .freed }).get? b = none := by
  cases e : (h.update b fun o => { o with data := .freed }).get? b with
  | none => rfl
  | some o =>
    obtain ⟨e1, e2⟩ := Heap.get?_some_iff.mp e
    simp only [Heap.update, Array.getElem?_modify, if_true] at e1
    cases q : h.objs[b]? with
    | none => rw [q] at e1; cases e1
    | some o' =>
      rw [q] at e1
      cases e1
      cases e2
theorem hideH_in {h : Heap} {b : Addr} : ∀ {l : List Addr}, b ∈ l → (hideH h l).get? b = none
  | a :: r, e => by
    by_cases q : a = b
    · subst q; exact hide_self _ _
    · show ((hideH h r).update a _).get? b = none
      rw [Heap.get?_update_other _ _ q]
      rcases List.mem_cons.mp e with e | e
      · exact absurd e.symm q
      · exact hideH_in e
theorem hideH_out {h : Heap} {b : Addr} : ∀ {l : List Addr}, b ∉ l → (hideH h l).get? b = h.get? b
  | [], _ => rfl
  | a :: r, e => by
    show ((hideH h r).update a _).get? b = _
    rw [Heap.get?_update_other _ _ (fun z => e (by rw [z]; exact List.mem_cons_self))]
    exact hideH_out fun z => e (List.mem_cons_of_mem _ z)
theorem hideH_sub {h : Heap} {b : Addr} {l : List Addr} {o : Obj} (e : (hideH h l).get? b = some o) : b ∉ l ∧ h.get? b = some o := by
  by_cases q : b ∈ l
  · rw [hideH_in q] at e; cases e
  · exact ⟨q, by rw [← hideH_out q]; exact e⟩
theorem slots_st {fs ws : List Addr} {tk : Nat} (X : St C ρ σ s) (hfs : ∀ b ∈ fs, C.h0.get? b = Option.none ∧ ∃ o, s.heap.get? b = some o ∧ isDict o.data = true)
    (hws : ∀ b ∈ ws, C.h0.get? b = Option.none ∧ ¬ Foot ρ b ∧ ∃ o, s.heap.get? b = some o ∧ isDict o.data = true) (hk : ∀ b o, b ∉ fs → b ∉ ws → s.heap.get? b = some o → h'.get? b = some o)
    (hs : ∀ b ∈ fs, b ∉ ws → ∀ o, s.heap.get? b = some o → ∃ sl, h'.get? b = some { o with slots := sl }) (hd : ∀ b ∈ ws, ∃ o, h'.get? b = some o ∧ isDict o.data = true) :
    St C ρ σ { s with heap := h', toks := tk } ∧ Stp C (fun b => b ∈ ws) ρ s.heap ρ h' := by
  have base : ∀ b o₀, C.h0.get? b = some o₀ → ∀ o, s.heap.get? b = some o → h'.get? b = some o := fun b o₀ e o e' =>
    hk b o (fun z => by rw [(hfs b z).1] at e; cases e) (fun z => by rw [(hws b z).1] at e; cases e) e'
  have nd : ∀ b o, s.heap.get? b = some o → isDict o.data = false → h'.get? b = some o := fun b o e d => hk b o (fun z => by
    obtain ⟨_, o', e', d'⟩ := hfs b z
    rw [e] at e'; cases e'; rw [d] at d'; cases d') (fun z => by
    obtain ⟨_, _, o', e', d'⟩ := hws b z
    rw [e] at e'; cases e'; rw [d] at d'; cases d') e
  have S : Stp C (fun b => b ∈ ws) ρ s.heap ρ h' := by
    refine ⟨⟨[], by simp [Rho.app], fun _ hp => nomatch hp⟩, fun b o e _ hw _ => ?_, fun b o e dd => ?_, fun b o e => ?_, fun b o q e => ?_⟩
    · by_cases z : b ∈ fs
      · obtain ⟨sl, e'⟩ := hs b z hw o e
        obtain ⟨_, o', e2, d'⟩ := hfs b z
        rw [e] at e2; cases e2
        exact ⟨sl, e', fun q => by rw [d'] at q; cases q⟩
      · exact ⟨o.slots, hk b o z hw e, fun _ => rfl⟩
    · by_cases z : b ∈ ws
      · exact hd b z
      · by_cases z' : b ∈ fs
        · obtain ⟨sl, e'⟩ := hs b z' z o e
          exact ⟨_, e', dd⟩
        · exact ⟨o, hk b o z' z e, dd⟩
    · by_cases z : b ∈ ws
      · obtain ⟨o', e', _⟩ := hd b z; exact ⟨o', e'⟩
      · by_cases z' : b ∈ fs
        · obtain ⟨sl, e'⟩ := hs b z' z o e
          exact ⟨_, e'⟩
        · exact ⟨o, hk b o z' z e⟩
    · obtain ⟨⟨o', e', d'⟩, _⟩ := X.hr.zs b q
      rw [e] at e'; cases (e')
      exact nd b o e (by cases z : o.data <;> rw [z] at d' <;> first | rfl | cases d')
  have hW : WOk (fun b => b ∈ ws) s.heap := fun b q => by
    obtain ⟨_, _, o, e, dd⟩ := hws b q
    exact ⟨o, e, by cases z : o.data <;> rw [z] at dd <;> first | rfl | cases dd⟩
  refine ⟨⟨⟨X.inv.cok, old_same X.inv.old base, fun b o e => base b o (X.inv.cok.sub b o e) o (X.inv.keep b o e), X.inv.bare, X.inv.os, fun q hq => ?_⟩, X.hr.len, fun j ob eo => ?_, X.hr.apart, X.hr.above, fun b q => ?_⟩, S⟩
  · obtain ⟨o₀, ho₀⟩ := (X.inv.cok.tab q hq).1
    rcases X.inv.tabs q hq with e' | ⟨c', e', hc, c₂, oc, us, tq, qe, g, d', r⟩
    · exact .inl (base _ _ ho₀ _ e')
    · exact .inr ⟨c', base _ _ ho₀ _ e', hc, c₂, oc, us, tq, qe, nd _ _ g (by rw [d']; rfl), d', r⟩
  · obtain ⟨p, hp, ho⟩ := X.hr.obs j ob eo
    refine ⟨p, hp, ?_⟩
    have hpm := List.mem_of_getElem? hp
    cases ob with
    | list xs =>
      obtain ⟨e1, vs, ⟨o2, g⟩, e3⟩ := ho
      exact ⟨e1, vs, ⟨o2, nd _ _ g rfl⟩, e3.mono S hW X.inv.tabs0⟩
    | acc xs m =>
      obtain ⟨e1, ⟨vs, j, g, e3⟩, t, g2⟩ := ho
      refine ⟨e1, ⟨vs, j, nd _ _ g rfl, e3.mono S hW X.inv.tabs0⟩, t, ?_⟩
      have nw : p.2 ∉ ws := fun z => (hws _ z).2.1 (.inl ⟨p, hpm, .inr rfl⟩)
      by_cases z : p.2 ∈ fs
      · obtain ⟨o, es, ep, a1, a2, a3⟩ := g2
        obtain ⟨sl, e'⟩ := hs _ z nw o a1
        exact ⟨_, es, ep, e', a2, a3⟩
      · exact g2.at fun o e => hk _ o z nw e
  · obtain ⟨⟨o, e, dd⟩, r⟩ := X.hr.zs b q
    exact ⟨⟨o, nd b o e (by cases z : o.data <;> rw [z] at dd <;> first | rfl | cases dd), dd⟩, r⟩
noncomputable abbrev excBases : List Value := [.type "Exception", .type "BaseException", .type "object"]
noncomputable def errAddr (b : Bool) : Addr := bif b then 155 else 167
noncomputable def errName (b : Bool) : Str := bif b then "error_reply" else "error_proto"
noncomputable def errNs (b : Bool) : Addr := bif b then 154 else 166
noncomputable def errDoc (b : Bool) : Value := .ref (bif b then 146 else 158)
noncomputable def errK (b : Bool) : Nat := bif b then 0 else 16
noncomputable abbrev errBm : List Value := .ref 142 :: excBases
noncomputable abbrev errObj (b : Bool) : Obj := excClassObj (errName b) (errName b) (errAddr b) (errNs b) [.ref 142] errBm true [] [] false Option.none Option.none (some (errDoc b)) Option.none (some (.str (errName b) (359 + errK b))) (some (.str (errName b) (367 + errK b))) (some (.bool true)) "Exception.__new__"
theorem TopOk.err (T : TopOk C) (b : Bool) : C.hk.get? (errAddr b) = some (errObj b) := by
  cases b
  · exact T.obj 36 rfl rfl
  · exact T.obj 35 rfl rfl
theorem TopOk.errNs (T : TopOk C) (b : Bool) : NsAt C.hk (errNs b) [("__init__", Option.none), ("__str__", Option.none)] := by
  cases b
  · exact T.nam 8 rfl
  · exact T.nam 7 rfl
theorem TopOk.err0 (T : TopOk C) : NsAt C.hk 141 [("__init__", Option.none), ("__str__", Option.none)] := T.nam 6 rfl
noncomputable abbrev err0Cls : ClassData := { name := "Error", bases := [.type "Exception"], mro := [.ref 142, .type "Exception", .type "BaseException", .type "object"], ns := 141, qualname := "Error", hasDict := true, slotNames := [], subclasses := [.ref 155, .ref 167], abstract := false, collection := none }
noncomputable abbrev err0Obj : Obj := { cls := .type "type", dict := none, data := .cls err0Cls, slots := #[some (.ref 133), none, some (.str "Error" 339), some (.str "Error" 347), some (.builtin "Exception.__new__"), some (.bool true)] }
theorem TopOk.tail (T : TopOk C) : OwnTail C.hk excBases errBm := by
  obtain ⟨m, h, v⟩ := T.err0
  exact .own (show C.hk.get? 142 = some err0Obj from T.obj 34 rfl rfl) h (v 0 rfl) .base
theorem mro_exc : mroOf (.type "Exception") = pure excBases := by rw [mroOf_type]; kernel_rfl
theorem look_exc_str : typeLookup (.type "Exception") "__str__" = pure (some (.builtin "BaseException.__str__")) := by rw [typeLookup_type, builtinLookup_eq_fast]; kernel_rfl
theorem slot_exc_str : Slot "Exception" "__str__" "BaseException.__str__" := .of (owner := "BaseException") (n := "__str__") look_exc_str (by decide +kernel) (by decide +kernel) (by decide +kernel)
  (by first | exact .inl (by decide +kernel) | exact .inr (by decide +kernel)) (by rw [isSubtype_type]; kernel_rfl)
inductive ErrObj (C : Cx) (s : Shared) (e : Addr) (b : Bool) (x : Str) (tk : Tok) : Prop
  | mk (keep : ∀ b o, C.hk.get? b = some o → s.heap.get? b = some o) (oe : Obj) (ws : Array Value) (t0 : Addr) (he : s.heap.get? e = some oe) (hc : oe.cls = .ref (errAddr b)) (hd : oe.data = .fields ws) (h0 : ws[0]? = some (.ref t0)) (ot : Obj) (k : Nat) (hto : s.heap.get? t0 = some ot) (htd : ot.data = .seq #[.str x tk] k) : ErrObj C s e b x tk
variable {e : Addr} {b : Bool} {x : Str} {tk : Tok}
theorem ErrObj.special {Q : Option Value → Shared → Prop} (T : TopOk C) (P : ErrObj C s e b x tk) (q : Q (some (.builtin "BaseException.__str__")) s) : wpAny (model C.prog C.w) A (specialOf (.ref e) "__str__") Q E s := by
  obtain ⟨keep, oe, ws, t0, he, hc, _⟩ := P
  obtain ⟨mN, hn, v⟩ := T.errNs b
  obtain ⟨mA, h2, v'⟩ := T.err0
  have hC' := keep _ _ (T.err b)
  have hn' := hn.keeps keep
  have h1' := keep _ _ (show C.hk.get? 142 = some err0Obj from T.obj 34 rfl rfl)
  have h2' := h2.keeps keep
  unfold specialOf
  refine wpAny_bind (wpAny_typeOf_ref he ?_)
  rw [hc]
  obtain ⟨hp, g, d, t, os⟩ := s
  have hrest : lookupAlong excBases "__str__" = pure (some (.builtin "BaseException.__str__")) := by
    have := look_exc_str
    rw [typeLookup_eq, mro_exc] at this
    exact this
  show wpAny _ _ (typeLookup (.ref (errAddr b)) "__str__") _ _ _
  rw [typeLookup_eq]
  refine wpAny_bind (wpAny_mroOf_exc hC' ?_)
  rw [lookupAlong_cons]
  refine wpAny_bind (wpAny_classOwn_exc hC' hn' ?_)
  rw [v 1 rfl]
  dsimp only
  rw [lookupAlong_cons]
  refine wpAny_bind (wpAny_classOwn_cls h1' h2' ?_)
  rw [v' 1 rfl]
  dsimp only
  rw [hrest]
  exact wpAny_pure q
theorem ErrObj.bstr {Q : Value → Shared → Prop} (T : TopOk C) (P : ErrObj C s e b x tk) (q : Q (.str x tk) s) : wpAny (model C.prog C.w) A (PySem.call (.builtin "BaseException.__str__") [.ref e]) Q E s := by
  obtain ⟨keep, oe, ws, t0, he, hc, hd, h0, ot, k, hto, htd⟩ := P
  have hC' := keep _ _ (T.err b)
  refine wpAny_call (codeAny_call_builtin slot_exc_str.plain F.entry_bexc_str ?_)
  have hsp : splitId "BaseException.__str__" = some ("BaseException", "__str__") := by decide +kernel
  have hk : builtinKind "BaseException.__str__" = some .slot := by decide +kernel
  have ha := F.args_bexc_str (.ref e)
  simp only [checkBuiltinCall, hk, hsp]
  refine wpAny_bind ?_
  unfold isInstance
  refine wpAny_bind (wpAny_typeOf_ref he ?_)
  rw [hc]
  have ec : ((Value.ref (errAddr b) :: errBm).contains (.type "BaseException")) = true := by rw [List.contains_cons]; rfl
  obtain ⟨hp, g, d, t, os⟩ := s
  refine wpAny_isSubtype_exc hC' ?_
  rw [ec]
  simp only [Bool.not_true, Bool.false_eq_true, if_false]
  have fin : ∀ {Q : PySem.Fin → Shared → Prop}, Q (.done (.ret (.str x tk))) ⟨hp, g, d, t, os⟩ → wpAny (model C.prog C.w) A.in1 (Builtin.«BaseException.__str__» ⟨[.ref e], []⟩) Q E ⟨hp, g, d, t, os⟩ := fun q => by
    unfold Builtin.«BaseException.__str__»
    have ba : ∀ {Q : Value × List Value → Shared → Prop} {E : Value → Shared → Prop}, Q (.ref t0, [.str x tk]) ⟨hp, g, d, t, os⟩ → wpAny (model C.prog C.w) A.in1 (Builtin.BaseException.bexcArgs (.ref e)) Q E ⟨hp, g, d, t, os⟩ := fun q => by
      unfold Builtin.BaseException.bexcArgs
      exact wpAny_bind (wpAny_field he hd h0 (wpAny_bind (wpAny_seqItems hto htd (wpAny_pure q))))
    repeat (first | with_reducible refine ba ?_ | wp_step)
    exact q
  cases hsig : Manifest.signature? "BaseException.__str__" with
  | none => exact wpAny_pure (fin q)
  | some sig =>
    simp only [argsOk, hsig] at ha
    have h2 : Bind.checkArgs "BaseException.__str__" sig ⟨[.ref e], []⟩ = pure () := ha
    show wpAny _ _ (Bind.checkArgs "BaseException.__str__" sig ⟨[.ref e], []⟩) _ _ _
    rw [h2]; exact wpAny_pure (fin q)
theorem ErrObj.str {Q : Value → Shared → Prop} (T : TopOk C) (P : ErrObj C s e b x tk) (hu : A.in1.in1.units < cLine) (q : Q (.str x tk) s) : wpAny (model C.prog C.w) A (PySem.call (.type "str") [.ref e]) Q E s := by
  refine str_by hu fun k1 _ => ?_
  unfold callSpecial?
  refine wpAny_bind (P.special T ?_)
  refine wpAny_holding (wpAny_bind ?_)
  rw [slot_exc_str.bind]
  exact wpAny_pure (wpAny_bind (P.bstr T (wpAny_pure (k1 _ _ _ q))))
end Mine
end
section
namespace Mine
open PySem PySem.W PyProof.Rows PySem.Calls
variable {n : Nat} {ρ ρ' ρ₀ : Rho} {σ σ' : H} {s s' : Shared} {h h' h₀ : Heap} {A : Around} {E : Value → Shared → Prop} {sc : Scope} {ns : List Str} {env : Env} {f f' : Fm} {a b c : X} {W : Addr → Prop} {p : Addr × Addr} {vs : List Value} {m : Int}
  {g : Array GenState} {d : AD} {t : Sd} {os : OsState} {body : List Stmt}
noncomputable def isRaise (st : Option Stmt) (nm x0 : Str) : Prop := ∃ p1 p2 p3 p4, st = some (.Raise (some (.Call (.Name nm p1) [.Name x0 p2] [] p3)) none p4)
inductive Raised (C : Cx) (n : Nat) (sc : Scope) (ns : List Str) (env : Env) (A : Around) (ρ : Rho) (s : Shared) (σ' : H) (b : Bool) (x : Str) : Value → Shared → Prop
  | mk (e : Addr) (tk : Tok) (sr : Shared) (ρr : Rho) (fr : Fm) (h' : Heap) (hm : Heap.MadeExcOf sr.heap h' e (.ref (errAddr b)) [.str x tk]) (N : Now C n sc ns env A fr ρr σ' sr) (S : Stp C (Own env) ρ s.heap ρr sr.heap) (O : OwnOk C env ρr sr.heap) : Raised C n sc ns env A ρ s σ' b x (.ref e) { sr with heap := h' }
theorem Raised.trans {b : Bool} {x : Str} {v : Value} {s₂ : Shared} (S : Stp C (Own env) ρ s.heap ρ' s'.heap) : Raised C n sc ns env A ρ' s' σ' b x v s₂ → Raised C n sc ns env A ρ s σ' b x v s₂ :=
  fun ⟨e, tk, sr, ρr, fr, h', h3, h4, h5, h6⟩ => ⟨e, tk, sr, ρr, fr, h', h3, h4, S.trans h5, h6⟩
theorem raise_walk {b : Bool} {x : Str} {st : Stmt} {Q : Flow → Shared → Prop} (T : TopOk C) (N : Now C n sc ns env A f ρ σ s) (O : OwnOk C env ρ s.heap) (hg : gOk sc (errName b) = true) (hs : isRaise (some st) (errName b) (ns.getD 0 Str.empty)) (hx : f[0]? = some (some (.d (.str x)))) :
    wpAny (model C.prog C.w) A (exec st env) Q (Raised C n sc ns env A ρ s σ b x) s := by
  obtain ⟨p1, p2, p3, p4, e⟩ := hs
  cases e
  obtain ⟨mg, hm, v⟩ := T.glob
  have hv : mg (errName b) = some (.ref (errAddr b)) := by
    cases b
    · exact v 17 rfl
    · exact v 16 rfl
  have hdb : (errName b == ("__debug__" : Str)) = false := by cases b <;> decide
  obtain ⟨mN, hn, w⟩ := T.errNs b
  refine wpAny_Raise_call_subT (nm := errName b) (q := errName b) (N := errNs b) (bs := [.ref 142]) (hdct := true) (sn := []) (sub := []) (ab := false) (col := Option.none) (dd := Option.none) (k0 := some (errDoc b)) (k1 := Option.none) (k2 := some (.str (errName b) (359 + errK b))) (k3 := some (.str (errName b) (367 + errK b))) (k5 := some (.bool true)) (bm := errBm) (bmB := excBases) (C := errAddr b) PySem.F.excBase_Exception (by decide) N.ac.hd rfl (w 0 rfl) ?_
  refine Name_function_global N.ev.kind (N.ev.kk _ _ (.inr (.inr rfl)) hg) (loadGlobal_global (by rw [N.ev.glob]; exact hm.keeps N.st.inv.keep) hv ⟨rfl, ?_⟩) hdb
  refine evalArgs_ok rfl rfl (spliced_cons (N.look (i := 0) hx fun v hv => ?_))
  have hv : VR ρ s.heap (.str x) v := hv
  rw [VR] at hv
  obtain ⟨tk, rfl⟩ := hv
  exact spliced_nil (wpAny_pure ⟨rfl, (by show 1 ≤ sizeLine; decide), N.st.inv.keep _ _ (T.err b), hn.keeps N.st.inv.keep, T.tail.keeps N.st.inv.keep, fun h' e hm => ⟨e, tk, s, ρ, f, h', hm, N, .refl, O⟩⟩)
end Mine
end
section
namespace Mine
open PySem PySem.W PyProof.Rows PySem.Calls
variable {n : Nat} {ρ ρ' ρ₀ : Rho} {σ σ' σ₁ : H} {s s' : Shared} {h h' h₀ : Heap} {A : Around} {E : Value → Shared → Prop} {sc : Scope} {ns : List Str} {env : Env} {f f' : Fm} {a b c : X} {W : Addr → Prop} {p : Addr × Addr} {vs : List Value} {m : Int}
  {g : Array GenState} {d : AD} {t : Sd} {os : OsState} {body : List Stmt}
noncomputable abbrev psc : Scope := scopeOf .parse
noncomputable abbrev pns : List Str := slotsOf .parse
noncomputable def Rz (n : Nat) (t : Sd) (b : Bool) (x : Str) (y : X) (f : Fm) (σ : H) : Prop := Hyp C → ∀ (env : Env) (A : Around) (ρ : Rho) (s : Shared), (un psc pns y t).ok = true → Now C n psc pns env A f ρ σ s → OwnOk C env ρ s.heap →
  ∀ Q, wpAny (model C.prog C.w) A (execs (un psc pns y t).nd.toB env) Q (Raised C n psc pns env A ρ s σ b x) s
noncomputable abbrev rzOf (t : Sd) : Option Stmt := (((t.k 0).k 1).k 0).st
theorem Rz.hit {a r : X} {b : Bool} {x : Str} (h : Ev n a f σ (.b true) σ) (hx : f[0]? = some (some (.d (.str x)))) (hg : gOk psc (errName b) = true) (hs : isRaise (rzOf t) (errName b) (pns.getD 0 Str.empty)) : Rz n t b x (.sc (.ife a (.sc .boom .sn) .sn) r) f σ := fun Y env A ρ s ok N O Q => by
  obtain ⟨p1, p2, p3, p4, hs'⟩ := hs
  show wpAny _ _ (execs (.If (un psc pns a ((t.k 0).k 0)).nd.toE [(rzOf t).getD (.Pass default)] [] (t.k 0).p :: (un psc pns r (t.k 1)).nd.toB) env) _ _ _
  refine wpAny_execs_cons (wpAny_If (wpAny_mono (h Y _ _ _ _ _ _ _ (and1 (and1 (and1 ok))) N _) (fun v s₁ hv => ?_) fun _ _ e => e))
  obtain ⟨rfl, ρ₁, X₁, S₁⟩ := hv
  rw [hs']
  exact wpAny_execs_cons (wpAny_mono (raise_walk (b := b) (x := x) (Q := fun _ _ => False) Y.top (N.step X₁ S₁) (O.mono S₁ N.st.inv.tabs0) hg ⟨p1, p2, p3, p4, rfl⟩ hx) (fun _ _ z => z.elim) fun _ _ r => Raised.trans S₁.own r)
theorem Rz.skip {a r : X} {b : Bool} {x : Str} (h : Ev n a f σ (.b false) σ) (hr : Rz n (t.k 1) b x r f σ) : Rz n t b x (.sc (.ife a (.sc .boom .sn) .sn) r) f σ := fun Y env A ρ s ok N O Q => by
  show wpAny _ _ (execs (.If (un psc pns a ((t.k 0).k 0)).nd.toE [(rzOf t).getD (.Pass default)] [] (t.k 0).p :: (un psc pns r (t.k 1)).nd.toB) env) _ _ _
  refine wpAny_execs_cons (wpAny_If (wpAny_mono (h Y _ _ _ _ _ _ _ (and1 (and1 (and1 ok))) N _) (fun v s₁ hv => ?_) fun _ _ e => e))
  obtain ⟨rfl, ρ₁, X₁, S₁⟩ := hv
  exact wpAny_execs_nil (wpAny_mono (hr Y _ _ _ _ (and2 ok) (N.step X₁ S₁) (O.mono S₁ N.st.inv.tabs0) Q) (fun _ _ q => q) fun _ _ r => Raised.trans S₁.own r)
theorem Rz.set {i : Nat} {r : X} {b : Bool} {x : Str} (h : Ev n (.asg i a) f σ (.f .next f') σ) (hr : Rz n (t.k 1) b x r f' σ) : Rz n t b x (.sc (.asg i a) r) f σ := fun Y env A ρ s ok N O Q => by
  show wpAny _ _ (execs ((un psc pns (.asg i a) (t.k 0)).nd.toS :: (un psc pns r (t.k 1)).nd.toB) env) _ _ _
  refine wpAny_execs_cons (wpAny_mono (h Y _ _ _ _ _ _ _ (and1 ok) N O _) (fun fl s₁ hv => ?_) fun _ _ e => e)
  obtain ⟨ρ₁, X₁, S₁, V₁, O₁, hfl⟩ := hv
  cases fl <;> first | exact hfl.elim | skip
  exact wpAny_mono (hr Y _ _ _ _ (and2 ok) (N.stepF X₁ S₁ V₁) O₁ Q) (fun _ _ q => q) fun _ _ r => Raised.trans S₁ r
section
set_option maxHeartbeats 4000000
noncomputable def pTk : Nat → Sd
  | 0 => sideOf .parse
  | i + 1 => (pTk i).k 1
theorem ok_parse : (unOf .parse).ok = true := by with_unfolding_all rfl
theorem go_reply : gOk (scopeOf .parse) "error_reply" = true := by with_unfolding_all rfl
theorem go_proto : gOk (scopeOf .parse) "error_proto" = true := by with_unfolding_all rfl
theorem rz1 : isRaise (rzOf (pTk 0)) "error_reply" "resp" := ⟨_, _, _, _, by with_unfolding_all exact rfl⟩
theorem rz2 : isRaise (rzOf (pTk 2)) "error_proto" "resp" := ⟨_, _, _, _, by with_unfolding_all exact rfl⟩
theorem rz3 : isRaise (rzOf (pTk 4)) "error_proto" "resp" := ⟨_, _, _, _, by with_unfolding_all exact rfl⟩
theorem rz4 : isRaise (rzOf (pTk 5)) "error_proto" "resp" := ⟨_, _, _, _, by with_unfolding_all exact rfl⟩
theorem rz5 : isRaise (rzOf (pTk 7)) "error_proto" "resp" := ⟨_, _, _, _, by with_unfolding_all exact rfl⟩
end
noncomputable abbrev parseFm (x : Str) : Fm := [some (.d (.str x)), some (.d (.tup [.str (Str.ofString "a"), .int 21])), .none, .none, .none, .none, .none]
structure Thrown (base : Heap) (l : List Env) (h₀ : Heap) (e : Addr) (b : Bool) (x : Str) (tk : Tok) (fl : Value) (h : Heap) : Prop where
  stays : base.StaysIn h
  fr : h.FunFrames base l
  new : base.get? e = none
  tr : ∃ t0, h.TracedAtW base e (.ref (errAddr b)) (.ref t0) fl ∧ ∃ ot k, h.get? t0 = some ot ∧ ot.data = .seq #[.str x tk] k
  up : h₀.UpToSlots h
theorem seq_up {t0 : Addr} {x : Str} {tk : Tok} (k : ∀ b o, h.get? b = some o → (∀ vs, o.data ≠ .fields vs) → ∃ sl, h'.get? b = some { o with slots := sl }) (e : ∃ ot k, h.get? t0 = some ot ∧ ot.data = .seq #[.str x tk] k) : ∃ ot k, h'.get? t0 = some ot ∧ ot.data = .seq #[.str x tk] k := by
  obtain ⟨ot, j, h1, h2⟩ := e
  obtain ⟨sl, h3⟩ := k _ _ h1 (fun vs q => by rw [h2] at q; cases q)
  exact ⟨_, j, h3, h2⟩
theorem Thrown.leave {base : Heap} {env₂ : Env} {l : List Env} {L₂ e : Addr} {b : Bool} {x : Str} {tk : Tok} {h₀ h' : Heap} {Q : Unit → Shared → Prop} (hfr : A.frames = some (env₂ :: l)) (hl : h₀.FunFrames base (env₂ :: l)) (hf : env₂.frame = some L₂) (hkb : base.StaysIn h₀) (hm : Heap.MadeExcOf h₀ h' e (.ref (errAddr b)) [.str x tk])
    (q : ∀ h2, Thrown base l h₀ e b x tk .none h2 → Q () { s with heap := h2 }) : wpAny (model C.prog C.w) A (leaving env₂ (.ref e)) Q E { s with heap := h' } := by
  obtain ⟨t0, he, ht0, ht⟩ := hm.there
  have hen : base.get? e = none := by
    cases z : base.get? e with
    | none => rfl
    | some o' => have := hkb e o' z; rw [hm.new] at this; cases this
  refine wpAny_leaving_firstW (s := { s with heap := h' }) hfr (hl.of_keeps fun b o hb _ => ⟨o, hm.keeps b o hb, rfl⟩) hf he (fun b o hb => hm.keeps b o (hkb b o hb)) hen rfl rfl rfl fun h2 hL => ?_
  obtain ⟨k1, ⟨_, _, k2⟩, k3, k4⟩ := hL
  exact q h2 ⟨k1, k2, hen, ⟨t0, k3.at, seq_up k4 ⟨_, 0, ht, rfl⟩⟩, (Heap.UpToSlots.of_keeps hm.keeps).trans k4⟩
theorem Thrown.note {base : Heap} {l : List Env} {L e : Addr} {b : Bool} {x : Str} {tk : Tok} {h₀ : Heap} {Q : Unit → Shared → Prop} (hfr : A.frames = some (env :: l)) (hf : env.frame = some L) (T : Thrown base (env :: l) h₀ e b x tk .none s.heap)
    (q : ∀ h2, Thrown base (env :: l) h₀ e b x tk (rawInt L) h2 → Q () { s with heap := h2 }) : wpAny (model C.prog C.w) A (noteFrame (.ref e) env) Q E s := by
  obtain ⟨t0, tr, ht⟩ := T.tr
  refine wpAny_noteFrame_onW hfr T.fr hf tr T.stays T.new fun h2 hN => ?_
  obtain ⟨k1, k2, k3, k4⟩ := hN
  exact q h2 ⟨k1, k2, T.new, ⟨t0, k3, seq_up k4 ht⟩, T.up.trans k4⟩
theorem Thrown.land {base : Heap} {l : List Env} {e : Addr} {b : Bool} {x : Str} {tk : Tok} {h₀ : Heap} {fl : Value} {Q : Unit → Shared → Prop} (T : Thrown base l h₀ e b x tk fl s.heap)
    (q : ∀ h2, Thrown base l h₀ e b x tk .none h2 → Q () { s with heap := h2 }) : wpAny (model C.prog C.w) A (setFlight (.ref e) none) Q E s := by
  obtain ⟨t0, tr, ht⟩ := T.tr
  refine wpAny_setFlight_noneW T.stays T.fr tr fun h2 k1 k2 k3 k4 => ?_
  have k4' : ∀ b o, s.heap.get? b = some o → (∀ vs, o.data ≠ .fields vs) → ∃ sl, h2.get? b = some { o with slots := sl } := fun b o hb hn => ⟨o.slots, k4 b o hb hn⟩
  exact q h2 ⟨k1, k2, T.new, ⟨t0, k3.at, seq_up k4' ht⟩, T.up.trans k4'⟩
theorem Thrown.obj {base : Heap} {l : List Env} {e : Addr} {b : Bool} {x : Str} {tk : Tok} {h₀ : Heap} {fl : Value} (T : Thrown base l h₀ e b x tk fl s.heap) (hb : ∀ b o, C.hk.get? b = some o → base.get? b = some o) : ErrObj C s e b x tk := by
  obtain ⟨t0, ⟨oe, ws, _, oT, ts, he, ⟨hc, h0⟩, hd, _⟩, ht⟩ := T.tr
  obtain ⟨ot, k, h1, h2⟩ := ht
  exact ⟨fun b o q => T.stays b o (hb b o q), oe, ws, t0, he, hc, hd, h0, ot, k, h1, h2⟩
theorem exc_match {e : Addr} {b b' : Bool} {x : Str} {tk : Tok} {Q : Bool → Shared → Prop} (T : TopOk C) (P : ErrObj C s e b x tk) (q : Q (b == b') s) : wpAny (model C.prog C.w) A (excMatches (.ref e) (.ref (errAddr b'))) Q E s := by
  obtain ⟨keep, oe, ws, t0, he, hcls, _⟩ := P
  have hD := keep _ _ (T.err b)
  have hE := keep _ _ (T.err b')
  have hcB : (Value.ref (errAddr b') :: errBm).contains (.type "BaseException") = true := by rw [List.contains_cons]; rfl
  have hcC : (Value.ref (errAddr b) :: errBm).contains (.ref (errAddr b')) = (b == b') := by cases b <;> cases b' <;> decide
  have f := tc_notTuple
  obtain ⟨hp, g, d, t, os⟩ := s
  unfold excMatches
  repeat (first | (with_reducible refine wpAny_loadPart_at he ?_; rw [hcls]) | with_reducible refine wpAny_loadPart_at hE ?_ | with_reducible refine wpAny_loadPart_at hD ?_ | (with_reducible refine wpAny_isSubtype_exc hE ?_; rw [hcB]) | (with_reducible refine wpAny_isSubtype_exc hD ?_; rw [hcC]) | wp_step)
  cases hb : (b == b') with
  | true => rw [hb] at q; repeat (first | exact q | wp_step)
  | false => rw [hb] at q; repeat (first | exact q | wp_step)
section
set_option maxHeartbeats 4000000
theorem rs_reply : (scopeOf .refusal).names.lookup ("reply" : Str) = some .local := by with_unfolding_all rfl
theorem rs_refused : (scopeOf .refusal).names.lookup ("refused" : Str) = some .local := by with_unfolding_all rfl
theorem rs_err (b : Bool) : (scopeOf .refusal).names.lookup (errName b) = some .globalImplicit := by cases b <;> with_unfolding_all rfl
theorem rs_str : (scopeOf .refusal).names.lookup ("str" : Str) = some .globalImplicit := by with_unfolding_all rfl
end
noncomputable def rfTag (b : Bool) : Str := bif b then Str.ofString "reply" else Str.ofString "proto"
noncomputable def rfLn (b : Bool) : Nat := bif b then 130 else 132
noncomputable def rfR (b : Bool) : Stmt := let l := rfLn b + 1
  .Return (some (.List [.Constant (.str (rfTag b)) 0 (P1 l 16 23), .Compare (.Call (.Name "str" (P1 l 25 28)) [.Name "refused" (P1 l 29 36)] [] (P1 l 25 37)) [.Eq] [.Name "reply" (P1 l 41 46)] (P1 l 25 46)] (P1 l 15 47))) (P1 l 8 47)
noncomputable abbrev rfS (b : Bool) : List Stmt := [rfR b]
noncomputable def rfP (b : Bool) : Pos := ⟨rfLn b, 4, rfLn b + 1, 47⟩
noncomputable def rfH (b : Bool) : ExceptHandler := .ExceptHandler (some (.Name (errName b) (P1 (rfLn b) 11 22))) (some "refused") (rfS b) (rfP b)
structure RfEnv (C : Cx) (env : Env) : Prop where
  sc : env.scope = scopeOf .refusal
  kind : env.scope.kind = .function
  glob : env.globals = mainGlobals
  bi : env.builtins = builtinsNs
theorem RfEnv.plain (V : RfEnv C env) : (env.scope.kind == .class || (env.scope.kind == .module && env.locals != env.globals)) = false := by rw [V.kind]; rfl
theorem RfEnv.kindOf (V : RfEnv C env) {x : Str} {k : Option NameKind} (h : (scopeOf .refusal).names.lookup x = k) : env.kindOf x = k := by show env.scope.names.lookup x = k; rw [V.sc]; exact h
theorem RfEnv.cls {b : Bool} {q : Pos} {Q : Value → Shared → Prop} (V : RfEnv C env) (T : TopOk C) (hk : ∀ b o, C.hk.get? b = some o → s.heap.get? b = some o) (q' : Q (.ref (errAddr b)) s) : wpAny (model C.prog C.w) A (eval (.Name (errName b) q) env) Q E s := by
  obtain ⟨mg, hm, v⟩ := T.glob
  have hv : mg (errName b) = some (.ref (errAddr b)) := by
    cases b
    · exact v 17 rfl
    · exact v 16 rfl
  exact Name_function_global V.kind (V.kindOf (rs_err b)) (loadGlobal_global (by rw [V.glob]; exact hm.keeps hk) hv q') (by cases b <;> decide)
theorem suite_walk {x : Str} {e : Addr} {b b' : Bool} {tk tx : Tok} {mm : Str → Option Value} {Q : Flow → Shared → Prop} (V : RfEnv C env) (T : TopOk C) (P : ErrObj C s e b x tk) (hn : s.heap.Ns env.locals mm) (hr : mm "reply" = some (.str x tx)) (he : mm "refused" = some (.ref e)) (hu : A.units + 5 < cLine)
    (q : ∀ k t1, Q (.ret (.ref s.heap.objs.size)) { s with heap := s.heap.push { cls := .type "list", data := .seq #[.str (rfTag b') t1, .bool true] }, toks := k }) :
    wpAny (model C.prog C.w) A (execs (rfS b') env) Q E s := by
  obtain ⟨keep, oe, ws, t0, g1, g2, g3, g4, ot, k0, g5, g6⟩ := id P
  obtain ⟨mb, hmb, hf'⟩ := T.blt
  obtain ⟨mg', hm', _⟩ := T.glob
  have bstr : bootBuiltins "str" = some (.type "str") := (boot_bi .str).1
  refine wpAny_execs_cons (wpAny_Return_some ?_)
  rw [arm_eval_List]
  refine wpAny_bind (wpAny_standAt (wpAny_bind ?_))
  refine spliced_cons ?_
  show wpAny _ _ (constValue env (.str (rfTag b'))) _ _ _
  refine wpAny_mkText (spliced_cons (wpAny_Compare1 ?_ (by rfl)))
  generalize rfLn b' + 1 = l
  show wpAny _ _ (do callWith (P1 l 25 37) (← eval (.Name "str" (P1 l 25 28)) env) [] (backTo (P1 l 25 37) (starEach [.Name "refused" (P1 l 29 36)] env)) []) _ _ _
  refine wpAny_bind (Name_function_global V.kind (V.kindOf rs_str) (loadGlobal_builtin (by rw [V.glob]; exact hm'.keeps keep) (T.lacks 20 rfl hm') (by rw [V.bi]; exact hmb.keeps keep) ((hf' _ (by decide)).trans bstr) ?_) (by decide))
  refine callWith_ok rfl rfl (evalArgs_ok rfl rfl (spliced_cons (wpAny_Name (wpAny_loadName_local V.kind (V.kindOf rs_refused) hn he ?_) (by decide))))
  refine spliced_nil (wpAny_pure ⟨fun Q q => wpAny_pure (q _), ?_⟩)
  have P' : ErrObj C { s with toks := s.toks + 1 } e b x tk := ⟨keep, oe, ws, t0, g1, g2, g3, g4, ot, k0, g5, g6⟩
  refine P'.str T (by show A.units + 1 + 1 < cLine; lia) ?_
  refine wpAny_Name (wpAny_loadName_local V.kind (V.kindOf rs_reply) hn hr ?_) (by decide)
  refine PySem.P.eq_str ?_
  rw [beq_self_eq_true]
  refine spliced_nil ?_
  exact wpAny_newList (q _ _)
theorem hit_walk {x : Str} {b : Bool} {e : Addr} {tk tx : Tok} {base : Heap} {l : List Env} {mm : Str → Option Value} {rest : List ExceptHandler} {Q : Flow → Shared → Prop} (V : RfEnv C env) (T : TopOk C) (hb : ∀ b o, C.hk.get? b = some o → base.get? b = some o)
    (Z : Thrown base l h₀ e b x tk .none s.heap) (hn : h₀.Ns env.locals mm) (hbL : base.get? env.locals = none) (hr : mm "reply" = some (.str x tx)) (hu : A.units + 5 < cLine)
    (q : ∀ h5 h6 h7 k t1 m', Thrown base l h₀ e b x tk .none h5 → Heap.SameBut env.locals h5 h6 → Heap.SameBut env.locals (h6.push { cls := .type "list", data := .seq #[.str (rfTag b) t1, .bool true] }) h7 → h7.Ns env.locals m' → Q (.ret (.ref h6.objs.size)) { s with heap := h7, toks := k }) :
    wpAny (model C.prog C.w) A (handleBy (.ref e) env (rfH b :: rest)) Q E s := by
  unfold rfH
  refine wpAny_handleBy_cons (codeAny_handlers_test (V.cls T (fun b o q => Z.stays b o (hb b o q)) ?_)) (by intro q; cases q)
  refine exc_match T (Z.obj hb) ?_
  rw [beq_self_eq_true]
  show codeAny _ _ _ _ _
  refine codeAny_handlers_suite_as ?_
  refine Z.land fun h5 Z5 => ?_
  have hn5 : h5.Ns env.locals mm := Z5.up.ns hn
  have P5 : ErrObj C { s with heap := h5 } e b x tk := Z5.obj (s := { s with heap := h5 }) hb
  refine wpAny_storeName_local (V.kindOf rs_refused) hn5 (fun h6 hn6 hs6 => ?_) V.plain
  have hs6 : Heap.SameBut env.locals h5 h6 := hs6
  have kb6 : ∀ b o, base.get? b = some o → h6.get? b = some o := fun b o eb => hs6.extBut b o (fun z => by rw [z, hbL] at eb; cases eb) (Z5.stays b o eb)
  obtain ⟨oL, esL, epL, hoL, hdL, _⟩ := hn5
  have P6 : ErrObj C { s with heap := h6, toks := s.toks + 1 } e b x tk := by
    obtain ⟨_, oe, ws, t0, g1, g2, g3, g4, ot, k, g5, g6⟩ := P5
    refine ⟨fun b o q => kb6 b o (hb b o q), oe, ws, t0, hs6.extBut _ _ (fun z => ?_) g1, g2, g3, g4, ot, k, hs6.extBut _ _ (fun z => ?_) g5, g6⟩
    · have g1 : h5.get? e = some oe := g1
      rw [z, hoL] at g1; cases g1; rw [hdL] at g3; cases g3
    · have g5 : h5.get? t0 = some ot := g5
      rw [z, hoL] at g5; cases g5; rw [hdL] at g6; cases g6
  have hr6 : (fun y => if y = ("refused" : Str) then some (Value.ref e) else mm y) "reply" = some (.str x tx) := hr
  have SW := suite_walk (b' := b) (A := A.mark (some (.ref e))) (s := { s with heap := h6, toks := s.toks + 1 }) (Q := fun fl s' => fl = .ret (.ref h6.objs.size) ∧ ∃ k t1, s' = { s with heap := h6.push { cls := .type "list", data := .seq #[.str (rfTag b) t1, .bool true] }, toks := k }) (E := fun _ _ => False) V T P6 hn6 hr6 rfl hu fun k t1 => ⟨rfl, k, t1, rfl⟩
  dsimp only
  with_reducible refine wpAny_mono SW ?_ ?_
  case refine_2 => exact fun _ _ z => False.elim z
  intro fl s' hq
  obtain ⟨rfl, k, t1, rfl⟩ := hq
  have hn7 := hn6.push (o := { cls := .type "list", data := .seq #[.str (rfTag b) t1, .bool true] })
  have NG := wpAny_nameGoes (M := model C.prog C.w) (A := A) (E := E) (n := "refused") (pos := rfP b) (s := { s with heap := h6.push { cls := .type "list", data := .seq #[.str (rfTag b) t1, .bool true] }, toks := k }) (Q := fun _ s₅ => Q (.ret (.ref h6.objs.size)) s₅) (V.kindOf rs_refused) hn7 V.plain fun h7 m' hm' hs7 => q h5 h6 h7 (k + 1) t1 m' Z5 hs6 hs7 hm'
  with_reducible exact NG
theorem miss_walk {x : Str} {b b' : Bool} {e : Addr} {tk : Tok} {base : Heap} {l : List Env} {rest : List ExceptHandler} {Q : Flow → Shared → Prop} (V : RfEnv C env) (T : TopOk C) (hb : ∀ b o, C.hk.get? b = some o → base.get? b = some o)
    (Z : Thrown base l h₀ e b x tk .none s.heap) (hne : (b == b') = false) (q : wpAny (model C.prog C.w) A (handleBy (.ref e) env rest) Q E s) :
    wpAny (model C.prog C.w) A (handleBy (.ref e) env (rfH b' :: rest)) Q E s := by
  unfold rfH
  refine wpAny_handleBy_cons (codeAny_handlers_test (V.cls T (fun b o q => Z.stays b o (hb b o q)) ?_)) (by intro q; cases q)
  refine exc_match T (Z.obj hb) ?_
  rw [hne]
  exact q
noncomputable def argsX : X := .cons (.v 0) (.cons (.tp (.cons (.c (.str (Str.ofString "a"))) (.cons (.c (.int 21)) .nil))) .nil)
noncomputable abbrev nsRf : List Str := ["reply", "refused"]
noncomputable def rfA : Rn := un (scopeOf .refusal) nsRf argsX (sdL (sdE 9) (exArgs (stV (nthS (tryB (nthS (bodyOf .refusal) 0)) 0))))
noncomputable def rfTry : Stmt := .Expr (.Call (.Name "parse229" (P1 129 8 16)) rfA.nd.toL [] (P1 129 8 34)) (P1 129 8 34)
section
set_option maxHeartbeats 4000000
theorem ok_rfA : rfA.ok = true := by with_unfolding_all rfl
theorem go_parse : gOk (scopeOf .refusal) "parse229" = true := by with_unfolding_all rfl
noncomputable def rfLast : Stmt := nthS (bodyOf .refusal) 1
noncomputable def rfText : List Stmt := [.Try [rfTry] [rfH true, rfH false] [] [] ⟨128, 4, 133, 47⟩, rfLast]
theorem tx_rf : bodyOf .refusal = rfText := by with_unfolding_all rfl
end
inductive Back (C : Cx) (ρ : Rho) (s : Shared) (σ' : H) (env : Env) (l : List Env) (b : Bool) (x : Str) : Value → Shared → Prop
  | mk (er : Addr) (tk : Tok) (sr : Shared) (ρr : Rho) (hd : Heap) (fs : List Addr) (X : St C ρr σ' sr) (S : Stp C NoW ρ s.heap ρr sr.heap) (hL : env.locals ∈ fs) (hf : ∀ q ∈ fs, C.h0.get? q = none ∧ ∃ o, sr.heap.get? q = some o ∧ isDict o.data = true)
      (Z : Thrown (hideH sr.heap fs) (env :: l) sr.heap er b x tk .none hd) : Back C ρ s σ' env l b x (.ref er) { sr with heap := hd }
theorem fun_frames {fs : List Addr} : ∀ {l : List Env}, (∀ e ∈ l, FrOk C h e) → (∀ b ∈ l.filterMap (·.frame), b ∈ fs) → h.FunFrames (hideH h fs) l
  | [], _, _ => trivial
  | env :: r, hf, hs => by
    obtain ⟨k1, _, _, _, _, L, o, e1, e2, e3, e4⟩ := hf env (.head _)
    have hL : L ∈ (env :: r).filterMap (·.frame) := by rw [List.filterMap_cons, e1]; exact .head _
    exact ⟨by rw [k1]; decide, ⟨L, o, e1, hideH_in (hs L hL), e3, fun vs q => by rw [q] at e4; cases e4⟩, fun_frames (fun e he => hf e (.tail _ he)) fun b hb => hs b (by
      rw [List.filterMap_cons, e1]; exact .tail _ hb)⟩
theorem call_raises {x : Str} {b : Bool} {l : List Env} (Y : Hyp C) (e : Rz n (pTk 0) b x b_parse (parseFm x) σ)
    (hfr : A.frames = some (env :: l)) (hf : env.frame = some env.locals) (N : Now C (n + 1) (scopeOf .refusal) nsRf env A [some (.d (.str x)), .none] ρ σ s) :
    wpAny (model C.prog C.w) A (execs [rfTry] env) (fun _ _ => False) (Back C ρ s σ env l b x) s := by
  have hst := noStar env (P1 129 8 34) argsX _ _ _ ok_rfA
  refine wpAny_execs_cons (wpAny_Expr (wpAny_mono (Q := fun _ _ => False) ?_ (fun _ _ z => z.elim) fun _ _ e => e) (by unfold interactive; rw [N.ev.kind]; rfl) rfl)
  show wpAny _ _ (do callWith (P1 129 8 34) (← eval (.Name (fName .parse) (P1 129 8 16)) env) [] (backTo (P1 129 8 34) (starEach rfA.nd.toL env)) []) _ _ _
  refine wpAny_bind (N.globF Y.top go_parse rfl ?_)
  refine callWith_ok hst rfl (evalArgs_ok hst rfl (wpAny_mono (e_cons (e_v rfl) (e_cons (e_tp (e_cons e_c (e_cons e_c e_nil)) rfl) e_nil) Y _ _ _ _ _ _ _ ok_rfA N (P1 129 8 34) _) (fun vs s₃ hv => wpAny_pure ?_) fun _ _ e => e))
  obtain ⟨ρ₃, X₃, S₃, v₃⟩ := hv
  have N₃ := N.step X₃ S₃
  refine enter_fn Y.top (Y.fns .parse rfl) (f := parseFm x) (key := .none) (kv := .none) rfl N₃.ac X₃ v₃ nofun rfl fun env₂ s₄ N₄ O₄ S₄ hfresh hf2 => ?_
  refine wpAny_mono (e Y _ _ _ _ ok_parse N₄ O₄ (fun _ _ => False)) (fun _ _ z => z.elim) (fun v s₅ hr => ?_)
  obtain ⟨er, tk, sr, ρr, fr, h', hm, Nr, Sr, Or⟩ := hr
  have S : Stp C NoW ρ s.heap ρr sr.heap := S₃.trans ((S₄.own.trans Sr).weaken fun b o q e => by rw [hfresh b q] at e; cases e)
  obtain ⟨l₂, hl₂, hFr⟩ := Nr.ac.fr
  have hl₂' : l₂ = env₂ :: env :: l := by
    have : A.frames.map (env₂ :: ·) = some l₂ := hl₂
    rw [hfr] at this; cases this; rfl
  subst hl₂'
  generalize hfs : (env₂ :: env :: l).filterMap (·.frame) = fs
  have hL : env.locals ∈ fs := by
    rw [← hfs, List.filterMap_cons, hf2, List.filterMap_cons, hf]
    exact .tail _ (.head _)
  have hfacts : ∀ q ∈ fs, C.h0.get? q = none ∧ ∃ o, sr.heap.get? q = some o ∧ isDict o.data = true := fun q hq => by
    rw [← hfs] at hq
    obtain ⟨en, he, heq⟩ := List.mem_filterMap.mp hq
    obtain ⟨_, _, _, _, _, L, o, e1, e2, e3, e4⟩ := hFr en he
    rw [e1] at heq; cases heq
    exact ⟨e2, o, e3, e4⟩
  have hFF := fun_frames (fs := fs) hFr (fun b hb => by rw [← hfs]; exact hb)
  exact Thrown.leave (base := hideH sr.heap fs) (s := sr) hl₂ hFF hf2 (fun b o q => (hideH_sub q).2) hm fun h2 Z => ⟨er, tk, sr, ρr, h2, fs, Nr.st, S, hL, hfacts, Z⟩
theorem refusal_walk {x : Str} {b : Bool} {l : List Env} (Y : Hyp C) (e : Rz n (pTk 0) b x b_parse (parseFm x) σ)
    (hfr : A.frames = some (env :: l)) (hf : env.frame = some env.locals) (V : RfEnv C env) (N : Now C (n + 1) (scopeOf .refusal) nsRf env A [some (.d (.str x)), .none] ρ σ s) :
    wpAny (model C.prog C.w) A (execs rfText env) (MRes C env ρ s σ (.lst [.str (rfTag b), .bool true])) E s := by
  have T := Y.top
  have hu : A.units + 5 < cLine := by have := N.ac.units; show A.units + 5 < 9900; lia
  unfold rfText
  refine wpAny_execs_cons (wpAny_Try_except ?_)
  refine wpAny_mono (call_raises Y e hfr hf N) (fun _ _ z => z.elim) (fun v s₂ hv => ?_)
  obtain ⟨er, tk, sr, ρr, hd, fs, Xr, Sr, hL, hfacts, Z⟩ := hv
  have Nr := N.step Xr Sr
  obtain ⟨o0, lk, kk⟩ := Nr.ev.slot 0 "reply" rfl
  obtain ⟨v0, rfl, hv0⟩ := kk _ rfl
  have hv0 : VR ρr sr.heap (.str x) v0 := hv0
  rw [VR] at hv0
  obtain ⟨tx, rfl⟩ := hv0
  obtain ⟨mm, hmm, hmr⟩ : ∃ mm, sr.heap.Ns env.locals mm ∧ mm "reply" = some (.str x tx) := by
    rcases lk with ⟨_, m, h1, h2⟩ | ⟨h1 | h1, _⟩
    · exact ⟨m, h1, h2⟩
    · rw [V.kindOf rs_reply] at h1; cases h1
    · rw [V.kindOf rs_reply] at h1; cases h1
  have hhk : ∀ b o, C.hk.get? b = some o → (hideH sr.heap fs).get? b = some o := fun q o eq => by
    rw [hideH_out (fun z => by have := Xr.inv.cok.sub _ _ eq; rw [(hfacts q z).1] at this; cases this)]
    exact Xr.inv.keep _ _ eq
  refine Z.note (s := { sr with heap := hd }) hfr hf fun h3 Z3 => ?_
  refine Z3.land (s := { sr with heap := h3 }) fun h4 Z4 => ?_
  have fin : ∀ (h5 h6 h7 : Heap) (k : Nat) (t1 : Tok) (m' : Str → Option Value), Thrown (hideH sr.heap fs) (env :: l) sr.heap er b x tk .none h5 → Heap.SameBut env.locals h5 h6 → Heap.SameBut env.locals (h6.push { cls := .type "list", data := .seq #[.str (rfTag b) t1, .bool true] }) h7 → h7.Ns env.locals m' →
      MRes C env ρ s σ (.lst [.str (rfTag b), .bool true]) (.ret (.ref h6.objs.size)) { sr with heap := h7, toks := k } := fun h5 h6 h7 k t1 m' Z5 s6 s7 n7 => by
    have k56 : ∀ q o, q ≠ env.locals → h5.get? q = some o → h7.get? q = some o := fun q o hq eq => s7.extBut _ _ hq (Heap.get?_push_of_some _ (s6.extBut _ _ hq eq))
    have hk : ∀ q o, q ∉ fs → q ∉ [env.locals] → sr.heap.get? q = some o → h7.get? q = some o := fun q o hq hw eq => k56 q o (fun z => hw (by simp [z])) (Z5.stays q o (by rw [hideH_out hq]; exact eq))
    have hs5 : ∀ q ∈ fs, ∃ o, h5.get? q = some o ∧ ∀ o', sr.heap.get? q = some o' → ∃ sl, o = { o' with slots := sl } := fun q hq => by
      obtain ⟨_, o', e', d'⟩ := hfacts q hq
      obtain ⟨sl, e5⟩ := Z5.up q o' e' (fun vs z => by rw [z] at d'; cases d')
      exact ⟨_, e5, fun o'' e'' => by rw [e'] at e''; cases e''; exact ⟨sl, rfl⟩⟩
    have hs : ∀ q ∈ fs, q ∉ [env.locals] → ∀ o, sr.heap.get? q = some o → ∃ sl, h7.get? q = some { o with slots := sl } := fun q hq hw o eq => by
      obtain ⟨o5, e5, r5⟩ := hs5 q hq
      obtain ⟨sl, rfl⟩ := r5 o eq
      exact ⟨sl, k56 q _ (fun z => hw (by simp [z])) e5⟩
    obtain ⟨oL, es, ep, hoL, hdL, _⟩ := n7
    obtain ⟨X7, S7⟩ := slots_st (tk := k) Xr hfacts (ws := [env.locals]) (fun q hq => by rw [List.mem_singleton] at hq; subst hq; exact ⟨(hfacts _ hL).1, Nr.ev.off, (hfacts _ hL).2⟩) hk hs (fun q hq => by rw [List.mem_singleton] at hq; subst hq; exact ⟨oL, hoL, by rw [hdL]; rfl⟩)
    refine .o ρr X7 ((Sr.own (W := fun q => q = env.locals)).trans (S7.weaken fun b o q e => List.mem_singleton.mp q)) ?_
    have hsz : env.locals ≠ h6.objs.size := fun z => by
      obtain ⟨_, e5, _⟩ := hs5 _ hL
      have := Heap.lt_size e5
      rw [← s6.1, z] at this
      exact Nat.lt_irrefl _ this
    rw [VR]
    refine ⟨h6.objs.size, [.str (rfTag b) t1, .bool true], rfl, ⟨_, s7.extBut _ _ (Ne.symm hsz) (Heap.get?_push_size _ rfl), rfl, 0, rfl⟩, fun q => ?_, .cons (by rw [VR]; exact ⟨t1, rfl⟩) (.cons (by rw [VR]) .nil)⟩
    obtain ⟨o', e', _⟩ := Xr.hr.solid q
    have : ∃ o, h6.get? h6.objs.size = some o := by
      by_cases hq : h6.objs.size ∈ fs
      · obtain ⟨_, e5, _⟩ := hs5 _ hq
        exact ⟨_, s6.extBut _ _ (Ne.symm hsz) e5⟩
      · exact ⟨_, s6.extBut _ _ (Ne.symm hsz) (Z5.stays _ o' (by rw [hideH_out hq]; exact e'))⟩
    obtain ⟨o, eo⟩ := this
    rw [get_size] at eo; cases eo
  have hbL : (hideH sr.heap fs).get? env.locals = none := hideH_in hL
  cases b with
  | true => exact hit_walk (s := { sr with heap := h4 }) V T hhk Z4 hmm hbL hmr hu fin
  | false => exact miss_walk (b' := true) (s := { sr with heap := h4 }) V T hhk Z4 rfl (hit_walk (s := { sr with heap := h4 }) V T hhk Z4 hmm hbL hmr hu fin)
noncomputable def tagD (v : Bool) : AD := .lst [.str (rfTag v), .bool true]
theorem refusal_call {x : Str} {v : Bool} (e : Rz n (pTk 0) v x b_parse (parseFm x) σ) : CallS (n + 2) (.fn .refusal) [.str x] .none σ (tagD v) σ := fun Y A ρ s gv vs kv E a X hg hv _ => by
  rw [show gv = _ from hg]
  obtain ⟨l, hl, _⟩ := a.fr
  exact meth0 Y.top (dv := dv0 1) (okRefuse Y.top) rfl a X hv rfl (Nat.le_succ 1) tx_rf fun L s₁ N S E =>
    PySem.wpAt_of_wpAny (refusal_walk Y e (by show A.frames.map _ = _; rw [hl]; rfl) rfl ⟨rfl, N.ev.kind, N.ev.glob, N.ev.bi⟩ N)
end Mine
end
section
namespace Mine
open PySem PySem.W PyProof.Rows PySem.Calls
noncomputable def keys127 (h : Heap) : Bool := h.isNs 127 && (h.nsKeys 127).all fun k => accRest.contains k || (accFns.lookup k).isSome
structure Says (h : Heap) : Prop where
  objs : ∀ p ∈ frag, h.get? p.1 = some p.2
  names : ∀ q ∈ nsTab, ∃ m, h.Ns q.1 m ∧ ∀ pr ∈ q.2, m pr.1 = pr.2
  rest : ∃ m, h.Ns 127 m ∧ ∀ x, x ∉ accRest → accFns.lookup x = none → m x = none
noncomputable def seeObjs (h : Heap) : List (Option Obj) := frag.map fun p => h.get? p.1
noncomputable def seeNames (h : Heap) : List (Bool × List (Option Value)) := nsTab.map fun q => (h.isNs q.1, q.2.map fun pr => h.nsMap q.1 pr.1)
theorem says_of {h : Heap} (e : (seeObjs h, seeNames h, keys127 h) = (frag.map (fun p => some p.2), nsTab.map (fun q => (true, q.2.map (·.2))), true)) : Says h := by
  have e1 : frag.map (fun p => h.get? p.1) = frag.map (fun p => some p.2) := congrArg Prod.fst e
  have e2 : nsTab.map (fun q => (h.isNs q.1, q.2.map fun pr => h.nsMap q.1 pr.1)) = nsTab.map (fun q => (true, q.2.map (·.2))) := congrArg (fun x => x.2.1) e
  have e3 : keys127 h = true := congrArg (fun x => x.2.2) e
  refine ⟨fun p hp => List.map_inj_left.mp e1 p hp, fun q hq => ?_, ?_⟩
  · have := List.map_inj_left.mp e2 q hq
    obtain ⟨a, b⟩ := Prod.mk.inj this
    exact ⟨_, .of_isNs a, fun pr hpr => List.map_inj_left.mp b pr hpr⟩
  · unfold keys127 at e3
    obtain ⟨a, b⟩ := Bool.and_eq_true_iff.mp e3
    refine ⟨_, .of_isNs a, fun x hx hf => Heap.nsMap_none fun hk => ?_⟩
    have := List.all_eq_true.mp b x hk
    rw [hf] at this
    simp at this
    exact hx this
theorem Says.keeps {h h' : Heap} (S : Says h) (k : ∀ b o, h.get? b = some o → h'.get? b = some o) : Says h' :=
  ⟨fun p hp => k _ _ (S.objs p hp), fun q hq => let ⟨m, hn, e⟩ := S.names q hq; ⟨m, hn.keeps k, e⟩, let ⟨m, hn, e⟩ := S.rest; ⟨m, hn.keeps k, e⟩⟩
noncomputable def headHook : Hook := ⟨List (Option Obj) × List (Bool × List (Option Value)) × Bool, fun s => (seeObjs s.heap, seeNames s.heap, keys127 s.heap), fun _ => (frag.map (fun p => some p.2), nsTab.map (fun q => (true, q.2.map (·.2))), true), fun _ h => Says h,
  fun _ _ e => says_of e, fun _ _ _ S k => S.keeps k⟩
end Mine
end
section
namespace Mine
open PySem PySem.W PyProof.Rows PySem.Calls PySem.NumText
theorem natOf_val {ds : List Nat} {n : Nat} (h : natOfText ds = some n) : ds ≠ [] ∧ AllDigits ds ∧ digitsVal ds = n := by
  obtain ⟨c, e⟩ := bIf_inv h
  simp only [Bool.and_eq_true, Bool.not_eq_true', List.isEmpty_eq_false_iff, List.all_eq_true, decide_eq_true_eq] at c
  refine ⟨c.1, c.2, ?_⟩
  have e := Option.some.inj e
  rw [← e]
  unfold digitsVal
  congr 1
  funext a c
  lia
theorem intText_mine {x : Str} {i : Int} (hl : x.length ≤ 8) (h : intOfText x.cps.toList = some i) : PySem.intText? x = some i := by
  cases hx : x.cps.toList with
  | nil => rw [hx] at h; cases h
  | cons c ds =>
    rw [hx] at h
    have h : (bif c == 45 then (match natOfText ds with | some n => some (-(n : Int)) | Option.none => Option.none) else match natOfText (c :: ds) with | some n => some (n : Int) | Option.none => Option.none) = some i := h
    cases q : (c == 45) with
    | true =>
      rw [q] at h
      cases hn : natOfText ds with
      | none => rw [hn] at h; cases h
      | some n =>
        rw [hn] at h
        obtain ⟨h1, h2, h3⟩ := natOf_val hn
        have hc : c = 45 := eq_of_beq q
        rw [intText_neg (cs := ds) (by rw [hx, hc]) h2 h1 (by lia), h3]
        exact h
    | false =>
      rw [q] at h
      cases hn : natOfText (c :: ds) with
      | none => rw [hn] at h; cases h
      | some n =>
        rw [hn] at h
        obtain ⟨h1, h2, h3⟩ := natOf_val hn
        rw [intText_digits (by rw [hx]; exact h2) (by rw [hx]; exact h1) (by lia), hx, h3]
        exact h
theorem noSpecial_int : typeLookup (.type "str") "__int__" = pure none ∧ typeLookup (.type "str") "__index__" = pure none ∧ typeLookup (.type "str") "__trunc__" = pure none := by
  refine ⟨?_, ?_, ?_⟩ <;> (rw [typeLookup_type, builtinLookup_eq_fast]; kernel_rfl)
structure Seen (text : List Nat) (n : Int) : Prop where
  few : (text.takeWhile (· != 0)).length ≤ 640
  read : (int_private% "readNumeral") 0 10 (text.takeWhile (· != 0)) = (int_private% "Numeral.value") n
  all : ((text.takeWhile (· != 0)).length == text.length) = true
theorem from_seen {M : Model} {A : Around} {E : Value → Shared → Prop} {s : Shared} {Q : Value → Shared → Prop} {v : Value} {text : List Nat} {n : Int} (S : Seen text n) (h : Q (.int n s.toks) { s with toks := s.toks + 1 }) :
    wpAny M A ((int_private% "intFromText") v text 10) Q E s := by
  have h1 := decide_eq_true S.few
  have h2 := decide_eq_true S.all
  obtain ⟨hp, g, d, tk, os⟩ := s
  repeat (any_goals (first | assumption | (with_reducible refine wpAny_ite_true h1 ?_) | (with_reducible refine wpAny_ite_true h2 ?_) | wp_step))
  rw [S.read]
  dsimp only
  repeat (any_goals (first | assumption | (with_reducible refine wpAny_ite_true h2 ?_) | wp_step))
theorem seen_of {x : Str} {i : Int} (hl : x.length ≤ 8) (h : PySem.intText? x = some i) : Seen (numTextOf x) i := by
  have hs : (numSeenOf x).length ≤ 640 := Nat.le_trans (seen_length x) (by lia)
  rcases read0 x hs with ⟨m, h1, h2, h3⟩ | ⟨h1, _⟩
  · rw [h] at h1; cases h1
    exact ⟨hs, h3, h2⟩
  · rw [h] at h1; cases h1
set_option maxHeartbeats 4000000 in
theorem new_of_text {x : Str} {u : Tok} {i : Int} (S : Seen (numTextOf x) i) : Gives (Builtin.«int.__new__» ⟨[.type "int", .str x u], []⟩) (.int i) :=
  .of_wp fun M A E s Q h => by
    obtain ⟨hp, g, d, tk, os⟩ := s
    have f1 := F.conv_sub_int
    have f2 := F.madeHere_int
    obtain ⟨f3, f4, f5⟩ := noSpecial_int
    have f6 : typeOf (.str x u) = pure (.type "str") := rfl
    repeat (any_goals (first | assumption | ((with_reducible show wpAny _ _ ((int_private% "intFromText") _ _ _) _ _ _); refine from_seen S ?_) | wp_step))
    exact ⟨_, rfl, h⟩
theorem intTextOk (C : Cx) : IntTextOk C := fun x i t A s E Q hl h q =>
  call_int_1 (new_of_text (seen_of hl (intText_mine hl h))).meets (show (Made.int i).post _ s from ⟨rfl, q⟩)
end Mine
end
section
namespace Mine
open PySem PySem.W PyProof.Rows PySem.Calls
noncomputable def freeO (o : Obj) : Obj := { o with data := .freed }
noncomputable def hkOf (h : Heap) : Heap := ((h.update 90 freeO).update 97 freeO).update 232 freeO
theorem upd_none {h : Heap} {a : Addr} : (h.update a freeO).get? a = none := by
  unfold Heap.get? Heap.update
  simp only [Array.getElem?_modify]
  cases h.objs[a]? <;> rfl
theorem hk_get {h : Heap} {b : Addr} (n : isTab b = false) : (hkOf h).get? b = h.get? b := by
  unfold isTab at n
  simp only [Bool.or_eq_false_iff, beq_eq_false_iff_ne, ne_eq] at n
  unfold hkOf
  rw [Heap.get?_update_ne _ _ _ _ n.2, Heap.get?_update_ne _ _ _ _ n.1.2, Heap.get?_update_ne _ _ _ _ n.1.1]
theorem hk_tab {h : Heap} {b : Addr} (n : isTab b = true) : (hkOf h).get? b = none := by
  unfold isTab at n
  simp only [Bool.or_eq_true, beq_iff_eq] at n
  unfold hkOf
  rcases n with (rfl | rfl) | rfl
  · rw [Heap.get?_update_ne _ _ _ _ (by decide), Heap.get?_update_ne _ _ _ _ (by decide)]; exact upd_none
  · rw [Heap.get?_update_ne _ _ _ _ (by decide)]; exact upd_none
  · exact upd_none
theorem hk_sub {h : Heap} {b : Addr} {o : Obj} (e : (hkOf h).get? b = some o) : h.get? b = some o := by
  cases n : isTab b with
  | true => rw [hk_tab n] at e; cases e
  | false => rw [hk_get n] at e; exact e
theorem hk_ns {h : Heap} {b : Addr} {m : Str → Option Value} (n : isTab b = false) (x : h.Ns b m) : (hkOf h).Ns b m := by
  obtain ⟨o, es, ep, e, r⟩ := x
  exact ⟨o, es, ep, (hk_get n).trans e, r⟩
noncomputable def tabs3 : List (Addr × Pos × Str) := [(90, lenPos, "_Accumulator.__len__.<locals>.<genexpr>"), (97, strPos, "_Accumulator.__str__.<locals>.<genexpr>"), (lamTab, lamPos, lamQual ++ "<lambda>")]
noncomputable def cxOf (w : World) (s : Shared) : Cx := ⟨PySem.Challenge.pw_xh0014_01, w, s.heap, hkOf s.heap, s.os, tabs3⟩
theorem Says.at {h : Heap} (S : Says h) {a : Addr} {o : Obj} (i : Nat) (e : frag[i]? = some (a, o)) : h.get? a = some o := S.objs _ (List.mem_of_getElem? e)
theorem Says.name {h : Heap} (S : Says h) {a : Addr} {l : List (Str × Option Value)} (i : Nat) (e : nsTab[i]? = some (a, l)) : ∃ m, h.Ns a m ∧ ∀ pr ∈ l, m pr.1 = pr.2 := S.names _ (List.mem_of_getElem? e)
variable {w : World} {s : Shared}
theorem cx_cok (S : Says s.heap) : COk (cxOf w s) := by
  refine ⟨fun b o e => hk_sub e, fun t ht => ?_, fun t ht u hu e => ?_⟩
  · simp only [cxOf, tabs3, List.mem_cons, List.not_mem_nil, or_false] at ht
    rcases ht with rfl | rfl | rfl
    · exact ⟨⟨_, S.objs (90, { cls := .none, dict := none, data := .fields #[], slots := #[] }) (List.mem_of_getElem? (i := 21) rfl)⟩, hk_tab rfl⟩
    · exact ⟨⟨_, S.objs (97, { cls := .none, dict := none, data := .fields #[], slots := #[] }) (List.mem_of_getElem? (i := 24) rfl)⟩, hk_tab rfl⟩
    · exact ⟨⟨_, S.objs (232, { cls := .none, dict := none, data := .fields #[], slots := #[] }) (List.mem_of_getElem? (i := 55) rfl)⟩, hk_tab rfl⟩
  · simp only [cxOf, tabs3, List.mem_cons, List.not_mem_nil, or_false] at ht hu
    rcases ht with rfl | rfl | rfl <;> rcases hu with rfl | rfl | rfl <;> first | rfl | (exact absurd e (by decide))
end Mine
namespace Mine
open PySem PySem.W PyProof.Rows PySem.Calls
variable {w : World} {s : Shared}
theorem topOk {q : Program} {loose : List Str} {mean : ExcName → Option Value} {mg mb : Str → Option Value} (S : Says s.heap) (T : Top q loose mean mg mb s.heap) (hs : s.heap.NoSeer) : TopOk (cxOf w s) := by
  have obj : ∀ (i : Nat) {a o}, frag[i]? = some (a, o) → isTab a = false → (cxOf w s).hk.get? a = some o := fun i _ _ e n => (hk_get n).trans (S.at i e)
  have ns : ∀ (i : Nat) {a l}, nsTab[i]? = some (a, l) → NsAt (cxOf w s).hk a l := fun i a l e => by
    obtain ⟨m, hn, k⟩ := S.name i e
    have z := List.all_eq_true.mp (by decide : (nsTab.all fun q => isTab q.1 == false) = true) _ (List.mem_of_getElem? e)
    exact ⟨m, hk_ns (eq_of_beq z) hn, fun j _ _ e => k _ (List.mem_of_getElem? e)⟩
  obtain ⟨mr, hr, er⟩ := S.rest
  obtain ⟨m3, h3, e3⟩ := S.name (a := 3) 0 rfl
  have gi : m3 "__builtins__" = some (.ref 4) := e3 _ (List.mem_of_getElem? (i := 30) rfl)
  have o4 := obj (a := 4) 0 rfl rfl
  refine ⟨cx_cok S, obj, ns, ⟨mr, hk_ns rfl hr, er⟩, ⟨mb, hk_ns rfl T.b, T.builtins⟩, ?_, ?_, ?_, rfl, rfl, ?_, ?_, ?_⟩
  · obtain ⟨mc, h1, h2⟩ := T.nolimit
    exact ⟨mc, hk_ns rfl h1, h2⟩
  · obtain ⟨mc, h1, h2⟩ := T.nodigits
    exact ⟨mc, hk_ns rfl h1, h2⟩
  · obtain ⟨mc, h1, h2⟩ := hs.statics
    obtain ⟨mm, h3', h4⟩ := hs.mods
    exact ⟨⟨mc, hk_ns rfl h1, h2⟩, ⟨mm, hk_ns rfl h3', h4⟩, ⟨mb, hk_ns rfl T.b, T.builtins⟩, ⟨m3, 4, _, hk_ns rfl h3, gi, o4, rfl, rfl⟩⟩
  · exact ⟨List.mem_of_getElem? (i := 2) rfl, ⟨_, _, _, _, _, _, _, _, _, _, S.at 56 rfl, rfl, rfl, rfl, rfl, rfl, rfl, S.at 55 rfl, rfl, trivial, by decide⟩, ⟨⟨_, _, S.at 56 rfl, rfl, rfl, rfl⟩, S.at 55 rfl⟩, ⟨_, obj 56 rfl rfl⟩, by decide⟩
  · exact ⟨List.mem_of_getElem? (i := 0) rfl, ⟨_, _, _, _, _, _, _, _, _, _, S.at 22 rfl, rfl, rfl, rfl, rfl, rfl, rfl, S.at 21 rfl, rfl, trivial, by decide⟩, ⟨⟨_, _, S.at 22 rfl, rfl, rfl, rfl⟩, S.at 21 rfl⟩, ⟨_, obj 22 rfl rfl⟩, by decide⟩
  · exact ⟨List.mem_of_getElem? (i := 1) rfl, ⟨_, _, _, _, _, _, _, _, _, _, S.at 25 rfl, rfl, rfl, rfl, rfl, rfl, rfl, S.at 24 rfl, rfl, trivial, by decide⟩, ⟨⟨_, _, S.at 25 rfl, rfl, rfl, rfl⟩, S.at 24 rfl⟩, ⟨_, obj 25 rfl rfl⟩, by decide⟩
section
set_option maxHeartbeats 4000000
theorem un_insort : bodyOf .insort = (unOf .insort).nd.toB := by with_unfolding_all rfl
theorem ok_insort : (unOf .insort).ok = true := by with_unfolding_all rfl
theorem sc_insort : scopeOkB (scopeOf .insort) (slotsOf .insort) = true := by with_unfolding_all rfl
theorem un_bright : bodyOf .bright = (unOf .bright).nd.toB := by with_unfolding_all rfl
theorem ok_bright : (unOf .bright).ok = true := by with_unfolding_all rfl
theorem sc_bright : scopeOkB (scopeOf .bright) (slotsOf .bright) = true := by with_unfolding_all rfl
theorem un_bleft : bodyOf .bleft = (unOf .bleft).nd.toB := by with_unfolding_all rfl
theorem ok_bleft : (unOf .bleft).ok = true := by with_unfolding_all rfl
theorem sc_bleft : scopeOkB (scopeOf .bleft) (slotsOf .bleft) = true := by with_unfolding_all rfl
theorem un_cells : bodyOf .cells = (unOf .cells).nd.toB := by with_unfolding_all rfl
theorem ok_cells : (unOf .cells).ok = true := by with_unfolding_all rfl
theorem sc_cells : scopeOkB (scopeOf .cells) (slotsOf .cells) = true := by with_unfolding_all rfl
theorem un_body : bodyOf .body = (unOf .body).nd.toB := by with_unfolding_all rfl
theorem ok_body : (unOf .body).ok = true := by with_unfolding_all rfl
theorem sc_body : scopeOkB (scopeOf .body) (slotsOf .body) = true := by with_unfolding_all rfl
theorem un_spoilt : bodyOf .spoilt = (unOf .spoilt).nd.toB := by with_unfolding_all rfl
theorem ok_spoilt : (unOf .spoilt).ok = true := by with_unfolding_all rfl
theorem sc_spoilt : scopeOkB (scopeOf .spoilt) (slotsOf .spoilt) = true := by with_unfolding_all rfl
theorem un_port : bodyOf .port = (unOf .port).nd.toB := by with_unfolding_all rfl
theorem ok_port : (unOf .port).ok = true := by with_unfolding_all rfl
theorem sc_port : scopeOkB (scopeOf .port) (slotsOf .port) = true := by with_unfolding_all rfl
theorem un_part : bodyOf .part = (unOf .part).nd.toB := by with_unfolding_all rfl
theorem ok_part : (unOf .part).ok = true := by with_unfolding_all rfl
theorem sc_part : scopeOkB (scopeOf .part) (slotsOf .part) = true := by with_unfolding_all rfl
theorem un_turn : bodyOf .turn = (unOf .turn).nd.toB := by with_unfolding_all rfl
theorem ok_turn : (unOf .turn).ok = true := by with_unfolding_all rfl
theorem sc_turn : scopeOkB (scopeOf .turn) (slotsOf .turn) = true := by with_unfolding_all rfl
theorem un_second : bodyOf .second = (unOf .second).nd.toB := by with_unfolding_all rfl
theorem ok_second : (unOf .second).ok = true := by with_unfolding_all rfl
theorem sc_second : scopeOkB (scopeOf .second) (slotsOf .second) = true := by with_unfolding_all rfl
theorem un_cut : bodyOf .cut = (unOf .cut).nd.toB := by with_unfolding_all rfl
theorem ok_cut : (unOf .cut).ok = true := by with_unfolding_all rfl
theorem sc_cut : scopeOkB (scopeOf .cut) (slotsOf .cut) = true := by with_unfolding_all rfl
theorem un_lows : bodyOf .lows = (unOf .lows).nd.toB := by with_unfolding_all rfl
theorem ok_lows : (unOf .lows).ok = true := by with_unfolding_all rfl
theorem sc_lows : scopeOkB (scopeOf .lows) (slotsOf .lows) = true := by with_unfolding_all rfl
theorem un_parse : bodyOf .parse = (unOf .parse).nd.toB := by with_unfolding_all rfl
theorem sc_parse : scopeOkB (scopeOf .parse) (slotsOf .parse) = true := by with_unfolding_all rfl
theorem un_law : bodyOf .law = (unOf .law).nd.toB := by with_unfolding_all rfl
theorem ok_law : (unOf .law).ok = true := by with_unfolding_all rfl
theorem sc_law : scopeOkB (scopeOf .law) (slotsOf .law) = true := by with_unfolding_all rfl
end
noncomputable def kPar (l c : Nat) : Arguments := ⟨[], [⟨"a", .none, P1 l c (c + 1)⟩, ⟨"x", .none, P1 l (c + 3) (c + 4)⟩, ⟨"lo", .none, P1 l (c + 6) (c + 8)⟩, ⟨"hi", .none, P1 l (c + 12) (c + 14)⟩], .none, [⟨"key", .none, P1 l (c + 24) (c + 27)⟩], [some (.Constant .none 0 (P1 l (c + 28) (c + 32)))], .none, [.Constant (.int 0) 0 (P1 l (c + 9) (c + 10)), .Constant .none 0 (P1 l (c + 15) (c + 19))]⟩
noncomputable def kAt (g : FN) : Nat × Nat := match g with | .insort => (5, 17) | .bright => (11, 17) | _ => (31, 16)
theorem pars_keyed {g : FN} (h : isKeyed g = true) : argsOf g = kPar (kAt g).1 (kAt g).2 := by
  cases g <;> first | (with_unfolding_all rfl) | cases h
noncomputable def kNs : List Str := ["a", "x", "lo", "hi", "key"]
noncomputable def dflV (t : Tok) (n : Nat) : List Value := match n with | 2 => [.int 0 t, .none] | 3 => [.none] | _ => []
noncomputable abbrev fnK (nm : Str) (l c : Nat) (body : List Stmt) (sc : Scope) (T D : Addr) (pm cdv : Value) : FuncData := fnR nm nm (kPar l c) body sc [] (.ref T) (.ref D) pm cdv .none
section
variable {s : Shared} {nm : Str} {l c n : Nat} {body : List Stmt} {sc : Scope} {T D : Addr} {pm cdv d0 d1 : Value} {o : Obj} (ho : s.heap.get? T = some o) (hs : o.data = .seq #[d0, d1] n)
include ho hs
theorem kb_two (v1 v2 kv : Value) : BindsTo s (fnK nm l c body sc T D pm cdv) ⟨[v1, v2], [("key", kv)]⟩ [("a", v1), ("x", v2), ("lo", d0), ("hi", d1), ("key", kv)] := .of_defaults rfl ho hs rfl rfl
theorem kb_four (v1 v2 v3 v4 kv : Value) : BindsTo s (fnK nm l c body sc T D pm cdv) ⟨[v1, v2, v3, v4], [("key", kv)]⟩ [("a", v1), ("x", v2), ("lo", v3), ("hi", v4), ("key", kv)] := .of_defaults rfl ho hs rfl rfl
theorem kb_three {m : Str → Option Value} (hn : s.heap.Ns D m) (hm : m "key" = some .none) (v1 v2 v3 : Value) : BindsTo s (fnK nm l c body sc T D pm cdv) ⟨[v1, v2, v3], []⟩ [("a", v1), ("x", v2), ("lo", v3), ("hi", d1), ("key", .none)] := fun M A E Q hq => by
  have h1 : bindArgs (fnK nm l c body sc T D pm cdv) ⟨[v1, v2, v3], []⟩ = seqItems? (.ref T) >>= _ := rfl
  rw [h1]
  refine wpAny_bind (wpAny_seqItems ho hs (wpAny_bind ?_))
  refine (show wpAny M A (pure [("a", v1), ("x", v2), ("lo", v3), ("hi", d1)] : Sem (List (Str × Value))) _ E s from wpAny_pure (wpAny_bind (wpAny_bind (wpAny_bind ?_))))
  refine (show wpAny M A (nsGet D "key") _ E s from wpAny_nsGet hn ?_)
  rw [hm]
  exact wpAny_pure (wpAny_pure (wpAny_pure hq))
end
noncomputable def ksV (key : Option AV) (kv : Value) : Value := match key with | some _ => kv | .none => .none
theorem keyed_binds {s : Shared} {nm : Str} {l c n : Nat} {body : List Stmt} {sc : Scope} {T D : Addr} {pm cdv : Value} {o : Obj} {t : Tok} {m : Str → Option Value} {key : Option AV} {kv : Value} (ho : s.heap.get? T = some o) (hs : o.data = .seq #[.int 0 t, .none] n) (hn : s.heap.Ns D m) (hm : m "key" = some .none) :
    ∀ {vs : List Value}, shapeK vs.length key.isSome = true → BindsTo s (fnK nm l c body sc T D pm cdv) ⟨vs, kwL key kv⟩ (kNs.zip (vs ++ (dflV t vs.length ++ [ksV key kv]))) ∧ (vs ++ (dflV t vs.length ++ [ksV key kv])).length = 5
  | [v1, v2], h => by cases key with
    | none => cases h
    | some k => exact ⟨kb_two ho hs v1 v2 kv, rfl⟩
  | [v1, v2, v3], h => by cases key with
    | none => exact ⟨kb_three ho hs hn hm v1 v2 v3, rfl⟩
    | some k => cases h
  | [v1, v2, v3, v4], h => by cases key with
    | none => cases h
    | some k => exact ⟨kb_four ho hs v1 v2 v3 v4 kv, rfl⟩
variable {w : World} {s : Shared} {args : List AD} {key : Option AV} {f : Fm}
noncomputable def tl5 (g : FN) : Fm := match g with | .insort => [] | _ => [Option.none]
theorem bindF_keyed {g : FN} (h : isKeyed g = true) (e : bindF g args key = some f) : shapeK args.length key.isSome = true ∧ f = args.map (fun a => some (AV.d a)) ++ (dfl args.length ++ ([some (keyV key)] ++ tl5 g)) := by
  have e : bIf (shapeK args.length key.isSome) (some (args.map (fun a => some (AV.d a)) ++ dfl args.length ++ [some (keyV key)] ++ tl5 g)) = some f := by cases g <;> first | exact e | cases h
  obtain ⟨c, e⟩ := bIf_inv e
  cases e
  exact ⟨c, by rw [List.append_assoc, List.append_assoc]⟩
theorem bindF_plain {g : FN} (h : isKeyed g = false) (e : bindF g args key = some f) : args.length = (bindN g).1 ∧ key = Option.none ∧ f = args.map (fun a => some (AV.d a)) ++ List.replicate ((bindN g).2 - (bindN g).1) Option.none := by
  unfold bindF at e
  rw [h] at e
  obtain ⟨c, e⟩ := bIf_inv (k := some (args.map (fun a => some (AV.d a)) ++ List.replicate ((bindN g).2 - (bindN g).1) Option.none)) e
  rw [Bool.and_eq_true, beq_iff_eq] at c
  cases e
  exact ⟨c.1, (by cases key; rfl; exact absurd c.2 Bool.false_ne_true), rfl⟩
theorem fn_plain {g : FN} (hk : isKeyed g = false) (ho : C.hk.get? (fAddr g) = some { cls := .type "function", dict := Option.none, data := .func (fdOf g), slots := #[] }) (tx : bodyOf g = (unOf g).nd.toB) (ok : (unOf g).ok = true) (code : C.hk.CodeRec (.ref (fnD g).cd) (fName g)) (sc : scopeOkB (scopeOf g) (slotsOf g) = true) (lam : slotsOf g = lamNs → (fnD g).cd = lamCode ∧ fName g ++ ".<locals>." = lamQual)
    (hN : (bindN g).2 = (slotsOf g).length) (hn : (bindN g).1 ≤ (bindN g).2) (hb : ∀ vs : List Value, vs.length = (bindN g).1 → bindArgs (fdOf g) ⟨vs, []⟩ = pure (((slotsOf g).take (bindN g).1).zip vs)) : FnAt C g :=
  ⟨ho, tx, ok, code, sc, lam, fun e => by
    obtain ⟨h1, _, rfl⟩ := bindF_plain hk e
    rw [List.length_append, List.length_map, List.length_replicate, h1, ← hN]; exact Nat.add_sub_of_le hn, fun e s vs kv _ hl => by
    obtain ⟨h1, rfl, rfl⟩ := bindF_plain hk e
    refine ⟨_, [], rfl, .nil _, ?_, ?_⟩ <;> rw [List.append_nil, hl, h1]
    · rw [← hN]; exact hn
    · exact .of_eq (hb vs (hl.trans h1))⟩
theorem lay_dfl {kv : Value} {t : Tok} {g : Fm} {ws : List Value} : ∀ {n : Nat}, LayT key kv g ws → LayT key kv (dfl n ++ g) (dflV t n ++ ws)
  | 0, h => h | 1, h => h | 2, h => .zero t (.non h) | 3, h => .non h | _ + 4, h => h
theorem lay_tl {kv : Value} : ∀ g, LayT key kv (tl5 g) [] := fun g => by cases g <;> first | exact .nil 0 | exact .nil 1
theorem len_dfl : ∀ {n : Nat} {b : Bool}, shapeK n b = true → n + (dfl n).length = 4
  | 2, _, _ => rfl | 3, _, _ => rfl | 4, _, _ => rfl
theorem lay_key {kv : Value} {g : FN} : LayT key kv ([some (keyV key)] ++ tl5 g) [ksV key kv] := by
  cases key with
  | none => exact .non (lay_tl g)
  | some k => exact .key rfl (lay_tl g)
theorem fn_keyed {g : FN} {T D : Addr} {t : Tok} {n : Nat} {o : Obj} {m : Str → Option Value} (hk : isKeyed g = true) (ho : C.hk.get? (fAddr g) = some { cls := .type "function", dict := Option.none, data := .func (fdOf g), slots := #[] }) (tx : bodyOf g = (unOf g).nd.toB) (ok : (unOf g).ok = true) (code : C.hk.CodeRec (.ref (fnD g).cd) (fName g)) (sc : scopeOkB (scopeOf g) (slotsOf g) = true) (lam : slotsOf g ≠ lamNs)
    (hT : (fnD g).dV = .ref T) (hD : (fnD g).kV = .ref D) (hoT : C.hk.get? T = some o) (hs : o.data = .seq #[.int 0 t, .none] n) (hn : C.hk.Ns D m) (hm : m "key" = some .none) (h5 : slotsOf g = kNs ++ (tl5 g).map fun _ => ("mid" : Str)) : FnAt C g := by
  have five : (slotsOf g).take 5 = kNs := by rw [h5]; exact List.take_left' rfl
  have len5 : (slotsOf g).length = 5 + (tl5 g).length := by rw [h5, List.length_append, List.length_map]; rfl
  refine ⟨ho, tx, ok, code, sc, fun e => absurd e lam, fun {args key f} e => ?_, fun {args key f} e s vs kv keep hl => ?_⟩ <;> obtain ⟨h1, rfl⟩ := bindF_keyed hk e
  · rw [List.length_append, List.length_append, List.length_append, List.length_map, len5, ← Nat.add_assoc, len_dfl h1, ← Nat.add_assoc]; rfl
  · have hfd : fdOf g = fnK (fName g) (kAt g).1 (kAt g).2 (bodyOf g) (scopeOf g) T D (fnD g).pm (.ref (fnD g).cd) := by unfold fdOf; rw [hT, hD, pars_keyed hk]
    rw [← hl] at h1
    obtain ⟨k1, k2⟩ := keyed_binds (nm := fName g) (l := (kAt g).1) (c := (kAt g).2) (body := bodyOf g) (sc := scopeOf g) (pm := (fnD g).pm) (cdv := .ref (fnD g).cd) (kv := kv) (keep _ _ hoT) hs (hn.keeps keep) hm h1
    rw [← hfd] at k1
    refine ⟨_, _, rfl, lay_dfl (t := t) lay_key, ?_, ?_⟩ <;> rw [← hl, k2]
    · rw [len5]; exact Nat.le_add_right _ _
    · rw [five]; exact k1
theorem vs1 {P : List Value → Prop} (h : ∀ a, P [a]) (vs : List Value) (hl : vs.length = 1) : P vs := by
  obtain ⟨a, r, rfl, h0⟩ := uncons hl
  cases List.length_eq_zero_iff.mp h0
  exact h a
theorem vs2 {P : List Value → Prop} (h : ∀ a b, P [a, b]) (vs : List Value) (hl : vs.length = 2) : P vs := by
  obtain ⟨a, r, rfl, h1⟩ := uncons hl
  exact vs1 (P := fun r => P (a :: r)) (h a) r h1
theorem vs3 {P : List Value → Prop} (h : ∀ a b c, P [a, b, c]) (vs : List Value) (hl : vs.length = 3) : P vs := by
  obtain ⟨a, r, rfl, h1⟩ := uncons hl
  exact vs2 (P := fun r => P (a :: r)) (h a) r h1
theorem vs4 {P : List Value → Prop} (h : ∀ a b c d, P [a, b, c, d]) (vs : List Value) (hl : vs.length = 4) : P vs := by
  obtain ⟨a, r, rfl, h1⟩ := uncons hl
  exact vs3 (P := fun r => P (a :: r)) (h a) r h1
section
set_option maxHeartbeats 4000000
theorem fn_insort (T : TopOk C) : FnAt C .insort := by
  obtain ⟨m, hn, v⟩ := T.nam 2 rfl
  exact fn_keyed rfl (T.obj 3 rfl rfl) un_insort ok_insort ⟨_, _, _, _, rfl, T.obj 2 rfl rfl, rfl, rfl⟩ sc_insort (by decide) rfl rfl (T.obj 1 rfl rfl) rfl hn (v 0 rfl) rfl
theorem fn_bright (T : TopOk C) : FnAt C .bright := by
  obtain ⟨m, hn, v⟩ := T.nam 3 rfl
  exact fn_keyed rfl (T.obj 6 rfl rfl) un_bright ok_bright ⟨_, _, _, _, rfl, T.obj 5 rfl rfl, rfl, rfl⟩ sc_bright (by decide) rfl rfl (T.obj 4 rfl rfl) rfl hn (v 0 rfl) rfl
theorem fn_bleft (T : TopOk C) : FnAt C .bleft := by
  obtain ⟨m, hn, v⟩ := T.nam 4 rfl
  exact fn_keyed rfl (T.obj 9 rfl rfl) un_bleft ok_bleft ⟨_, _, _, _, rfl, T.obj 8 rfl rfl, rfl, rfl⟩ sc_bleft (by decide) rfl rfl (T.obj 7 rfl rfl) rfl hn (v 0 rfl) rfl
theorem fn_cells (T : TopOk C) : FnAt C .cells := fn_plain rfl (T.obj 40 rfl rfl) un_cells ok_cells ⟨_, _, _, _, rfl, T.obj 39 rfl rfl, rfl, rfl⟩ sc_cells (fun e => absurd e (by decide)) rfl (by decide) (vs1 fun _ => by with_unfolding_all rfl)
theorem fn_body (T : TopOk C) : FnAt C .body := fn_plain rfl (T.obj 42 rfl rfl) un_body ok_body ⟨_, _, _, _, rfl, T.obj 41 rfl rfl, rfl, rfl⟩ sc_body (fun e => absurd e (by decide)) rfl (by decide) (vs3 fun _ _ _ => by with_unfolding_all rfl)
theorem fn_spoilt (T : TopOk C) : FnAt C .spoilt := fn_plain rfl (T.obj 46 rfl rfl) un_spoilt ok_spoilt ⟨_, _, _, _, rfl, T.obj 45 rfl rfl, rfl, rfl⟩ sc_spoilt (fun e => absurd e (by decide)) rfl (by decide) (vs2 fun _ _ => by with_unfolding_all rfl)
theorem fn_port (T : TopOk C) : FnAt C .port := fn_plain rfl (T.obj 48 rfl rfl) un_port ok_port ⟨_, _, _, _, rfl, T.obj 47 rfl rfl, rfl, rfl⟩ sc_port (fun e => absurd e (by decide)) rfl (by decide) (vs1 fun _ => by with_unfolding_all rfl)
theorem fn_part (T : TopOk C) : FnAt C .part := fn_plain rfl (T.obj 50 rfl rfl) un_part ok_part ⟨_, _, _, _, rfl, T.obj 49 rfl rfl, rfl, rfl⟩ sc_part (fun e => absurd e (by decide)) rfl (by decide) (vs1 fun _ => by with_unfolding_all rfl)
theorem fn_turn (T : TopOk C) : FnAt C .turn := fn_plain rfl (T.obj 54 rfl rfl) un_turn ok_turn ⟨_, _, _, _, rfl, T.obj 53 rfl rfl, rfl, rfl⟩ sc_turn (fun e => absurd e (by decide)) rfl (by decide) (vs1 fun _ => by with_unfolding_all rfl)
theorem fn_second (T : TopOk C) : FnAt C .second := fn_plain rfl (T.obj 52 rfl rfl) un_second ok_second ⟨_, _, _, _, rfl, T.obj 51 rfl rfl, rfl, rfl⟩ sc_second (fun e => absurd e (by decide)) rfl (by decide) (vs1 fun _ => by with_unfolding_all rfl)
theorem fn_cut (T : TopOk C) : FnAt C .cut := fn_plain rfl (T.obj 57 rfl rfl) un_cut ok_cut ⟨_, _, _, _, rfl, T.obj 56 rfl rfl, rfl, rfl⟩ sc_cut (fun _ => ⟨rfl, by decide⟩) rfl (by decide) (vs3 fun _ _ _ => by with_unfolding_all rfl)
theorem fn_lows (T : TopOk C) : FnAt C .lows := fn_plain rfl (T.obj 59 rfl rfl) un_lows ok_lows ⟨_, _, _, _, rfl, T.obj 58 rfl rfl, rfl, rfl⟩ sc_lows (fun e => absurd e (by decide)) rfl (by decide) (vs4 fun _ _ _ _ => by with_unfolding_all rfl)
theorem fn_parse (T : TopOk C) : FnAt C .parse := fn_plain rfl (T.obj 38 rfl rfl) un_parse ok_parse ⟨_, _, _, _, rfl, T.obj 37 rfl rfl, rfl, rfl⟩ sc_parse (fun e => absurd e (by decide)) rfl (by decide) (vs2 fun _ _ => by with_unfolding_all rfl)
theorem fn_law (T : TopOk C) : FnAt C .law := fn_plain rfl (T.obj 61 rfl rfl) un_law ok_law ⟨_, _, _, _, rfl, T.obj 60 rfl rfl, rfl, rfl⟩ sc_law (fun e => absurd e (by decide)) rfl (by decide) (vs1 fun _ => by with_unfolding_all rfl)
theorem fnAt (T : TopOk C) (g : FN) (hg : isPrim g = false) : FnAt C g := by
  cases g <;> first | cases hg | skip
  case insort => exact fn_insort T
  case bright => exact fn_bright T
  case bleft => exact fn_bleft T
  case cells => exact fn_cells T
  case body => exact fn_body T
  case spoilt => exact fn_spoilt T
  case port => exact fn_port T
  case part => exact fn_part T
  case second => exact fn_second T
  case turn => exact fn_turn T
  case cut => exact fn_cut T
  case lows => exact fn_lows T
  case parse => exact fn_parse T
  case law => exact fn_law T
end
end Mine
end
section
namespace Mine
open PySem
theorem p_small {n : Nat} (h : n < 100000) : smallI (Int.ofNat n) = true := by
  have e : Int.ofNat n = (n : Int) := rfl
  rewrite [e]; unfold smallI; rewrite [Bool.and_eq_true, decide_eq_true_eq, decide_eq_true_eq]; lia
noncomputable def idxK (σ : H) (a : AD) (i : Int) : Option AD := match a with
  | .lst xs => getIdx xs i
  | .tup xs => getIdx xs i
  | .str x => (match getIdx x.cps.toList i with | some c => some (.str ⟨#[c]⟩) | Option.none => Option.none)
  | .ref k => (match σ[k]? with | some o => (match o with | .list xs => getIdx xs i | .acc xs _ => bIf (decide (0 ≤ i)) (getIdx xs i)) | Option.none => Option.none)
  | _ => Option.none
theorem idxD_eq {σ : H} {a : AD} {i : Int} : idxD σ a (.int i) = bIf (smallI i) (idxK σ a i) := rfl
theorem bIf_t {β : Type} {c : Bool} {k : Option β} (h : c = true) : bIf c k = k := by rw [h]; rfl
theorem idx_at {σ : H} {a d : AD} {i : Nat} (hs : i < 100000) (h : idxK σ a (Int.ofNat i) = some d) : idxD σ a (.int i) = some d := by
  have e : (i : Int) = Int.ofNat i := rfl
  rw [e, idxD_eq, bIf_t (p_small hs)]; exact h
theorem idx_lst {xs : List AD} {σ : H} {i : Nat} {d : AD} (h : xs[i]? = some d) (hs : i < 100000) : idxD σ (.lst xs) (.int i) = some d := idx_at hs h
theorem idx_tup {xs : List AD} {σ : H} {i : Nat} {d : AD} (h : xs[i]? = some d) (hs : i < 100000) : idxD σ (.tup xs) (.int i) = some d := idx_at hs h
theorem idx_ref {xs : List AD} {σ : H} {i k : Nat} {d : AD} (hk : σ[k]? = some (.list xs)) (h : xs[i]? = some d) (hs : i < 100000) : idxD σ (.ref k) (.int i) = some d := idx_at hs (by
  unfold idxK; simp only [hk]; exact h)
theorem idx_acc {xs : List AD} {σ : H} {i k : Nat} {m : Int} {d : AD} (hk : σ[k]? = some (.acc xs m)) (h : xs[i]? = some d) (hs : i < 100000) : idxD σ (.ref k) (.int i) = some d := idx_at hs (by
  unfold idxK; simp only [hk]
  exact (bIf_t (decide_eq_true (Int.natCast_nonneg i))).trans h)
theorem Ev.to {n : Nat} {x : X} {f : Fm} {σ σ' : H} {o o' : O} (h : Ev n x f σ o σ') (e : o = o') : Ev n x f σ o' σ' := e ▸ h
theorem loopF_inv {st : AD → Fm → H → FL → Fm → H → Prop} {src : AD} {N : Nat} {P : Nat → Fm → H → Prop} {it : Nat → AD}
    (hi : ∀ i f σ, i < N → P i f σ → itemAt src σ i = some (some (it i))) (he : ∀ f σ, P N f σ → itemAt src σ N = some .none)
    (hs : ∀ i f σ, i < N → P i f σ → ∃ f' σ', st (it i) f σ .next f' σ' ∧ P (i + 1) f' σ') :
    ∀ (k i : Nat) (f : Fm) (σ : H), N - i < k → i ≤ N → P i f σ → ∃ f' σ', LF st src k i f σ .next f' σ' ∧ P N f' σ'
  | 0, i, f, σ, h, _, _ => absurd h (Nat.not_lt_zero _)
  | k + 1, i, f, σ, h, hle, p => by
    rcases Nat.lt_or_ge i N with hlt | hge
    · obtain ⟨f₁, σ₁, e, p₁⟩ := hs i f σ hlt p
      obtain ⟨f₂, σ₂, e₂, p₂⟩ := loopF_inv hi he hs k (i + 1) f₁ σ₁ (by lia) hlt p₁
      exact ⟨f₂, σ₂, .go (hi i f σ hlt p) e e₂, p₂⟩
    · have : i = N := by lia
      subst this
      exact ⟨f, σ, .done (he f σ p), p⟩
inductive TC (n : Nat) (cond elt : X) (g : Fm) (σ : H) : Option AD → H → Prop
  | yes {σ₁ σ' : H} {y : AD} (h : Ev n cond g σ (.i true) σ₁) (h' : Ev n elt g σ₁ (.v (.d y)) σ') : TC n cond elt g σ (some y) σ'
  | no {σ' : H} (h : Ev n cond g σ (.i false) σ') : TC n cond elt g σ .none σ'
theorem turn_yes {n : Nat} {cond elt : X} {g : Fm} {σ σ' : H} {y : AD} (h : Ev n cond g σ (.i true) σ) (h' : Ev n elt g σ (.v (.d y)) σ') : TC n cond elt g σ (some y) σ' := .yes h h'
theorem turn_if {n : Nat} {cond elt : X} {g : Fm} {σ : H} {y : AD} {B : Bool} (h : Ev n cond g σ (.i B) σ) (h' : Ev n elt g σ (.v (.d y)) σ) : TC n cond elt g σ (bif B then some y else .none) σ := by
  cases B
  · exact .no h
  · exact .yes h h'
theorem p_loopC {n : Nat} {cond elt : X} {ys : List AD} {src : AD} {N : Nat} {it : Nat → AD} {g : Nat → Option AD} {P : Nat → H → Prop}
    (hi : ∀ i σ, i < N → P i σ → itemAt src σ i = some (some (it i))) (he : ∀ σ, P N σ → itemAt src σ N = some .none) (hs : ∀ i σ, i < N → P i σ → ∃ σ', TC n cond elt (frameC (it i) ys) σ (g i) σ' ∧ P (i + 1) σ') :
    ∀ (k i : Nat) (σ : H), N - i < k → i ≤ N → P i σ → ∃ σ', LC (cC n cond ys) (cE n elt ys) src k i σ ((List.range' i (N - i)).filterMap g) σ' ∧ P N σ'
  | 0, i, _, h, _, _ => absurd h (Nat.not_lt_zero _)
  | k + 1, i, σ, h, hle, p => by
    rcases Nat.lt_or_ge i N with hlt | hge
    · obtain ⟨σ₁, e1, p1⟩ := hs i σ hlt p
      obtain ⟨σ₂, e2, p2⟩ := p_loopC hi he hs k (i + 1) σ₁ (by lia) hlt p1
      refine ⟨σ₂, ?_, p2⟩
      have : N - i = (N - (i + 1)) + 1 := by lia
      rw [this, List.range'_succ, List.filterMap_cons]
      generalize g i = o at e1 ⊢
      cases e1 with
      | yes h1 h2 => exact .yes (hi i σ hlt p) h1 h2 e2
      | no h1 => exact .no (hi i σ hlt p) h1 e2
    · have : i = N := by lia
      subst this
      refine ⟨σ, ?_, p⟩
      rw [Nat.sub_self]
      exact .done (he σ p)
theorem caps_cons {f : Fm} {i : Nat} {r : List Nat} {x : AD} {xs : List AD} (h : f[i]? = some (some (.d x))) (hr : capsD f r = some xs) : capsD f (i :: r) = some (x :: xs) := by
  unfold capsD
  rw [h]
  show (match capsD f r with | some xs => some (x :: xs) | Option.none => Option.none) = _
  rw [hr]
theorem CV.of {n : Nat} {elt cond : X} {d : AD} {f : Fm} {cs : List Nat} {σ σ' : H} {xs ys : List AD} (h : CV n elt cond d f cs σ xs σ') (e : xs = ys) : CV n elt cond d f cs σ ys σ' := e ▸ h
theorem compV_pure {R : Nat} {f : Fm} {caps : List Nat} {cs : List AD} {cond elt : X} {d : AD} {σ : H} {N : Nat} {it : Nat → AD} {g : Nat → Option AD}
    (hc : capsD f caps = some cs) (hn : N < cntOf d σ) (hi : ∀ i, i < N → itemAt d σ i = some (some (it i))) (he : itemAt d σ N = some .none) (hs : ∀ i, i < N → TC R cond elt (frameC (it i) cs) σ (g i) σ) :
    CV R elt cond d f caps σ ((List.range N).filterMap g) σ := by
  obtain ⟨σ', e, rfl⟩ := p_loopC (n := R) (cond := cond) (elt := elt) (ys := cs) (src := d) (it := it) (g := g) (P := fun _ τ => τ = σ) (fun i τ h q => by rw [q]; exact hi i h) (fun τ q => by rw [q]; exact he) (fun i τ h q => by rw [q]; exact ⟨σ, hs i h, rfl⟩) (cntOf d σ) 0 σ (by lia) (Nat.zero_le _) rfl
  exact ⟨cs, hc, by rw [List.range_eq_range']; exact e⟩
theorem rng_item {lo hi : Int} {σ : H} {i : Nat} (h : lo + i < hi) : itemAt (.rng lo hi) σ i = some (some (.int (lo + i))) := by
  show some (bif decide (lo + (i : Int) < hi) then some (AD.int (lo + i)) else .none) = _
  rw [decide_eq_true h]; rfl
theorem rng_end {lo hi : Int} {σ : H} {i : Nat} (h : ¬ lo + i < hi) : itemAt (.rng lo hi) σ i = some .none := by
  show some (bif decide (lo + (i : Int) < hi) then some (AD.int (lo + i)) else .none) = _
  rw [decide_eq_false h]; rfl
theorem rng_cnt {lo hi : Int} {σ : H} {n : Nat} (h : hi - lo ≤ n) (h0 : n ≤ hi - lo) : n < cntOf (.rng lo hi) σ := by
  show n < (hi - lo).toNat + 1; lia
theorem lst_item {xs : List AD} {σ : H} {i : Nat} {d : AD} (h : xs[i]? = some d) : itemAt (.lst xs) σ i = some (some d) := by
  show some xs[i]? = _; rw [h]
theorem lst_end {xs : List AD} {σ : H} : itemAt (.lst xs) σ xs.length = some .none := by
  show some xs[xs.length]? = _; simp
theorem lst_cnt {xs : List AD} {σ : H} (h : xs.length ≤ 5000) : xs.length < cntOf (.lst xs) σ := by
  have : cntOf (.lst xs) σ = xs.length + 1 := by
    show (match bIf (fewL xs) (some xs.length) with | some n => n + 1 | .none => 0) = _
    unfold fewL; rw [decide_eq_true h]; rfl
  lia
theorem ref_item {xs : List AD} {σ : H} {i k : Nat} {d : AD} (hk : σ[k]? = some (.list xs)) (h : xs[i]? = some d) : itemAt (.ref k) σ i = some (some d) := by
  show bO σ k (fun xs => some xs[i]?) = _; unfold bO; rw [hk]; show some xs[i]? = _; rw [h]
theorem ref_end {xs : List AD} {σ : H} {k : Nat} (hk : σ[k]? = some (.list xs)) : itemAt (.ref k) σ xs.length = some .none := by
  show bO σ k (fun ys => some ys[xs.length]?) = _; unfold bO; rw [hk]; show some xs[xs.length]? = _; simp
theorem ref_cnt {xs : List AD} {σ : H} {k : Nat} (hk : σ[k]? = some (.list xs)) (h : xs.length ≤ 5000) : xs.length < cntOf (.ref k) σ := by
  have : cntOf (.ref k) σ = xs.length + 1 := by
    show (match bO σ k (fun xs => bIf (fewL xs) (some xs.length)) with | some n => n + 1 | .none => 0) = _
    unfold bO; rw [hk]
    show (match bIf (fewL xs) (some xs.length) with | some n => n + 1 | .none => 0) = _
    unfold fewL; rw [decide_eq_true h]; rfl
  lia
noncomputable def bfr (a : AD) (x : Int) (lo hi : Nat) (kv : AV) (m : Option AV) : Fm := [some (.d a), some (.d (.int x)), some (.d (.int lo)), some (.d (.int hi)), some kv, m]
noncomputable def wT : X := .tst (.cmp .lt (.v 2) (.v 3))
noncomputable def wMid : X := .asg 5 (.bin .fdiv (.bin .add (.v 2) (.v 3)) (.c (.int 2)))
noncomputable def wKey : X := .cv 4 (.cons (.idx (.v 0) (.v 5)) .nil)
noncomputable def wItem : X := .idx (.v 0) (.v 5)
noncomputable def wUp : X := .sc (.asg 2 (.bin .add (.v 5) (.c (.int 1)))) .sn
noncomputable def wDown : X := .sc (.asg 3 (.v 5)) .sn
noncomputable def wL (k : X) : X := .sc wMid (.sc (.ife (.tst (.cmp .lt k (.v 1))) wUp wDown) .sn)
noncomputable def wR (k : X) : X := .sc wMid (.sc (.ife (.tst (.cmp .lt (.v 1) k)) wDown wUp) .sn)
variable {R : Nat} {σ : H} {a : AD} {x : Int} {kv : AV} {n c : Nat} {it : Nat → AD} {ks : Nat → Int} {go : Nat → Bool} {b : X}
theorem mid_cast {lo hi : Nat} : ((lo : Int) + hi).fdiv 2 = (((lo + hi) / 2 : Nat) : Int) := by
  rw [Int.fdiv_eq_ediv_of_nonneg _ (by decide)]; lia
noncomputable def nextFr (a : AD) (x : Int) (lo hi : Nat) (kv : AV) (g : Bool) : Fm := bif g then bfr a x ((lo + hi) / 2 + 1) hi kv (some (.d (.int ((lo + hi) / 2 : Nat)))) else bfr a x lo ((lo + hi) / 2) kv (some (.d (.int ((lo + hi) / 2 : Nat))))
theorem w_loop (hs : ∀ lo hi m, lo < hi → hi ≤ n → Ev R b (bfr a x lo hi kv m) σ (.g .next (nextFr a x lo hi kv (go ((lo + hi) / 2)))) σ) :
    ∀ (k lo hi : Nat) (m : Option AV), hi - lo < k → lo ≤ c → c ≤ hi → hi ≤ n → (∀ i, lo ≤ i → i < hi → (go i = true ↔ i < c)) →
    ∃ m', LW (whT R wT) (whS R b) k (bfr a x lo hi kv m) σ .next (bfr a x c c kv m') σ
  | 0, lo, hi, m, h, _, _, _, _ => absurd h (Nat.not_lt_zero _)
  | k + 1, lo, hi, m, h, h1, h2, h3, h4 => by
    have ht : Ev R wT (bfr a x lo hi kv m) σ (.b (decide ((lo : Int) < hi))) σ := e_tst (e_cmp (e_v rfl) (e_v rfl) rfl)
    by_cases hlt : lo < hi
    · rw [decide_eq_true (by lia : (lo : Int) < hi)] at ht
      have hg := h4 ((lo + hi) / 2) (by lia) (by lia)
      have h5 := hs lo hi m hlt h3
      cases hq : go ((lo + hi) / 2) with
      | true =>
        have : (lo + hi) / 2 < c := hg.mp hq
        rw [hq] at h5
        obtain ⟨m', e⟩ := w_loop hs k ((lo + hi) / 2 + 1) hi (some (.d (.int ((lo + hi) / 2 : Nat)))) (by lia) this h2 h3 fun i q1 q2 => h4 i (by lia) q2
        exact ⟨m', .go ht h5 e⟩
      | false =>
        have : ¬ (lo + hi) / 2 < c := fun z => by rw [hg.mpr z] at hq; cases hq
        rw [hq] at h5
        obtain ⟨m', e⟩ := w_loop hs k lo ((lo + hi) / 2) (some (.d (.int ((lo + hi) / 2 : Nat)))) (by lia) h1 (by lia) (by lia) fun i q1 q2 => h4 i q1 (by lia)
        exact ⟨m', .go ht h5 e⟩
    · rw [decide_eq_false (by lia : ¬ (lo : Int) < hi)] at ht
      have e1 : lo = c := by lia
      have e2 : hi = c := by lia
      subst e1; subst e2
      exact ⟨m, .stop ht⟩
theorem w_mid {lo hi : Nat} {m : Option AV} : Ev R wMid (bfr a x lo hi kv m) σ (.f .next (bfr a x lo hi kv (some (.d (.int ((lo + hi) / 2 : Nat)))))) σ :=
  e_asg (e_bin (e_bin (e_v rfl) (e_v rfl) rfl) e_c (show some (AD.int (((lo : Int) + hi).fdiv 2)) = _ by rw [mid_cast])) (by show 5 < 6; decide)
noncomputable def Tells (R : Nat) (σ : H) (a : AD) (x : Int) (kv : AV) (n : Nat) (ks : Nat → Int) (K : X) : Prop := ∀ lo hi i, i < n → Ev R K (bfr a x lo hi kv (some (.d (.int (i : Nat))))) σ (.v (.d (.int (ks i)))) σ
theorem tells_item (h : ∀ i, i < n → idxD σ a (.int (i : Nat)) = some (.int (ks i))) : Tells R σ a x kv n ks wItem := fun lo hi i hi' => e_idx (e_v rfl) (e_v rfl) (h i hi')
theorem tells_key (h : ∀ i, i < n → idxD σ a (.int (i : Nat)) = some (it i)) (hk : ∀ i, i < n → CallS R kv [it i] .none σ (.int (ks i)) σ) : Tells R σ a x kv n ks wKey := fun lo hi i hi' =>
  e_cv rfl (e_cons (e_idx (e_v rfl) (e_v rfl) (h i hi')) e_nil) (hk i hi')
theorem w_left {K : X} (T : Tells R σ a x kv n ks K) (lo hi : Nat) (m : Option AV) (h : lo < hi) (hn : hi ≤ n) : Ev R (wL K) (bfr a x lo hi kv m) σ (.g .next (nextFr a x lo hi kv (decide (ks ((lo + hi) / 2) < x)))) σ := by
  have hk := T lo hi ((lo + hi) / 2) (by lia)
  refine (e_sc w_mid (e_sc (f₁ := nextFr a x lo hi kv (decide (ks ((lo + hi) / 2) < x))) ?_ e_sn))
  by_cases q : ks ((lo + hi) / 2) < x
  · rw [decide_eq_true q]
    exact e_ife_t (e_tst (e_cmp hk (e_v rfl) (show some (decide _) = _ by rw [decide_eq_true q]))) (e_sc (e_asg (e_bin (e_v rfl) e_c rfl) (by show 2 < 6; decide)) e_sn)
  · rw [decide_eq_false q]
    exact e_ife_f (e_tst (e_cmp hk (e_v rfl) (show some (decide _) = _ by rw [decide_eq_false q]))) (e_sc (e_asg (e_v rfl) (by show 3 < 6; decide)) e_sn)
theorem w_right {K : X} (T : Tells R σ a x kv n ks K) (lo hi : Nat) (m : Option AV) (h : lo < hi) (hn : hi ≤ n) : Ev R (wR K) (bfr a x lo hi kv m) σ (.g .next (nextFr a x lo hi kv (!decide (x < ks ((lo + hi) / 2))))) σ := by
  have hk := T lo hi ((lo + hi) / 2) (by lia)
  refine (e_sc w_mid (e_sc (f₁ := nextFr a x lo hi kv (!decide (x < ks ((lo + hi) / 2)))) ?_ e_sn))
  by_cases q : x < ks ((lo + hi) / 2)
  · rw [decide_eq_true q]
    exact e_ife_t (e_tst (e_cmp (e_v rfl) hk (show some (decide _) = _ by rw [decide_eq_true q]))) (e_sc (e_asg (e_v rfl) (by show 3 < 6; decide)) e_sn)
  · rw [decide_eq_false q]
    exact e_ife_f (e_tst (e_cmp (e_v rfl) hk (show some (decide _) = _ by rw [decide_eq_false q]))) (e_sc (e_asg (e_bin (e_v rfl) e_c rfl) (by show 2 < 6; decide)) e_sn)
noncomputable def wFr (a : AD) (x : Int) (lo : Nat) (hi : Option Nat) (kv : AV) : Fm := [some (.d a), some (.d (.int x)), some (.d (.int lo)), some (.d (match hi with | some n => .int n | .none => .none)), some kv, .none]
noncomputable def HiOk (σ : H) (a : AD) (hi : Option Nat) (n : Nat) : Prop := match hi with | some m => m = n | .none => BiR σ .len [a] (.int n)
theorem w_head {rest : X} {lo : Nat} {hi : Option Nat} {q : FL} {f' : Fm} (hh : HiOk σ a hi n) (h : Ev R rest (bfr a x lo n kv .none) σ (.g q f') σ) :
    Ev R (.sc (.ife (.tst (.cmp .lt (.v 2) (.c (.int 0)))) (.sc .boom .sn) .sn) (.sc (.ife (.tst (.cmp .is (.v 3) (.c .none))) (.sc (.asg 3 (.bi .len (.cons (.v 0) .nil))) .sn) .sn) rest)) (wFr a x lo hi kv) σ (.g q f') σ := by
  refine e_sc (e_pass (e_tst (e_cmp (e_v rfl) e_c (show some (decide ((lo : Int) < 0)) = _ by rw [decide_eq_false (by lia)])))) ?_
  cases hi with
  | some m =>
    obtain rfl : m = n := hh
    exact e_sc (e_pass (e_tst (e_cmp (e_v rfl) e_c rfl))) h
  | none => exact e_sc (e_ife_t (e_tst (e_cmp (e_v rfl) e_c rfl)) (e_sc (e_asg (e_bi (e_cons (e_v rfl) e_nil) hh) (by show 3 < 6; decide)) e_sn)) h
noncomputable def KeyIs (kv : AV) (K : X) : Prop := (isNone kv = true ∧ K = wItem) ∨ (isNone kv = false ∧ isLen kv = false ∧ K = wKey)
theorem is_none {kv : AV} {B : Bool} (h : isNone kv = B) (h' : isLen kv = false) : cmpD .is kv (.d .none) = some B := by
  show bIf (isNone (.d .none) && !isLen kv) (some (isNone kv)) = _
  rw [h', h]; rfl
theorem none_len {kv : AV} (h : isNone kv = true) : isLen kv = false := by cases kv <;> first | rfl | cases h
theorem left_body {K : X} {lo : Nat} {hi : Option Nat} (hK : KeyIs kv K) (T : Tells R σ a x kv n ks K) (hh : HiOk σ a hi n) (hn : n < 64) (h1 : lo ≤ c) (h2 : c ≤ n) (h : ∀ i, lo ≤ i → i < n → (ks i < x ↔ i < c)) :
    ∃ f', Ev R b_bleft (wFr a x lo hi kv) σ (.g (.ret (.int c)) f') σ := by
  obtain ⟨m, hw⟩ := w_loop (c := c) (go := fun i => decide (ks i < x)) (w_left T) 64 lo n .none (by lia) h1 h2 (Nat.le_refl _) (fun i q1 q2 => by rw [decide_eq_true_eq]; exact h i q1 q2)
  refine ⟨_, w_head hh (e_sc (f₁ := bfr a x c c kv m) ?_ (e_sret (e_ret (e_v rfl))))⟩
  rcases hK with ⟨k1, rfl⟩ | ⟨k1, k2, rfl⟩
  · exact e_ife_t (e_tst (e_cmp (e_v rfl) e_c (is_none k1 (none_len k1)))) (e_sc (e_wh hw) e_sn)
  · exact e_ife_f (e_tst (e_cmp (e_v rfl) e_c (is_none k1 k2))) (e_sc (e_wh hw) e_sn)
theorem right_body {K : X} {lo : Nat} {hi : Option Nat} (hK : KeyIs kv K) (T : Tells R σ a x kv n ks K) (hh : HiOk σ a hi n) (hn : n < 64) (h1 : lo ≤ c) (h2 : c ≤ n) (h : ∀ i, lo ≤ i → i < n → (x < ks i ↔ c ≤ i)) :
    ∃ f', Ev R b_bright (wFr a x lo hi kv) σ (.g (.ret (.int c)) f') σ := by
  obtain ⟨m, hw⟩ := w_loop (c := c) (go := fun i => !decide (x < ks i)) (w_right T) 64 lo n .none (by lia) h1 h2 (Nat.le_refl _) (fun i q1 q2 => by
    rw [Bool.not_eq_true', decide_eq_false_iff_not]; have := h i q1 q2; lia)
  refine ⟨_, w_head hh (e_sc (f₁ := bfr a x c c kv m) ?_ (e_sret (e_ret (e_v rfl))))⟩
  rcases hK with ⟨k1, rfl⟩ | ⟨k1, k2, rfl⟩
  · exact e_ife_t (e_tst (e_cmp (e_v rfl) e_c (is_none k1 (none_len k1)))) (e_sc (e_wh hw) e_sn)
  · exact e_ife_f (e_tst (e_cmp (e_v rfl) e_c (is_none k1 k2))) (e_sc (e_wh hw) e_sn)
inductive Lay (a : AD) (x : Int) : List AD → Option AV → Nat → Option Nat → Prop
  | two (k : AV) : Lay a x [a, .int x] (some k) 0 .none
  | three (lo : Nat) : Lay a x [a, .int x, .int lo] .none lo .none
  | four (lo m : Nat) (k : AV) : Lay a x [a, .int x, .int lo, .int m] (some k) lo (some m)
  | fourN (k : AV) : Lay a x [a, .int x, .int 0, .none] (some k) 0 .none
theorem lay_left {args : List AD} {key : Option AV} {lo : Nat} {hi : Option Nat} (h : Lay a x args key lo hi) : bindF .bleft args key = some (wFr a x lo hi (keyV key)) := by
  cases (h) <;> rfl
theorem lay_right {args : List AD} {key : Option AV} {lo : Nat} {hi : Option Nat} (h : Lay a x args key lo hi) : bindF .bright args key = some (wFr a x lo hi (keyV key)) := by
  cases (h) <;> rfl
theorem bleft_call {N lo : Nat} {hi : Option Nat} {args : List AD} {key : Option AV} {K : X} (L : Lay a x args key lo hi) (hK : KeyIs (keyV key) K) (T : Tells N σ a x (keyV key) n ks K) (hh : HiOk σ a hi n) (hn : n < 64) (h1 : lo ≤ c) (h2 : c ≤ n)
    (h : ∀ i, lo ≤ i → i < n → (ks i < x ↔ i < c)) : CallS (N + 1) (.fn .bleft) args key σ (.int c) σ := by
  obtain ⟨f', e⟩ := left_body hK T hh hn h1 h2 h
  exact callF_fn rfl (lay_left L) e
theorem bright_call {N lo : Nat} {hi : Option Nat} {args : List AD} {key : Option AV} {K : X} (L : Lay a x args key lo hi) (hK : KeyIs (keyV key) K) (T : Tells N σ a x (keyV key) n ks K) (hh : HiOk σ a hi n) (hn : n < 64) (h1 : lo ≤ c) (h2 : c ≤ n)
    (h : ∀ i, lo ≤ i → i < n → (x < ks i ↔ c ≤ i)) : CallS (N + 1) (.fn .bright) args key σ (.int c) σ := by
  obtain ⟨f', e⟩ := right_body hK T hh hn h1 h2 h
  exact callF_fn rfl (lay_right L) e
theorem len_ref {k : Nat} {xs : List AD} (h : σ[k]? = some (.list xs)) (hn : xs.length ≤ 5000) : BiR σ .len [.ref k] (.int xs.length) := .lenR h hn
theorem len_lst {xs : List AD} (hn : xs.length ≤ 5000) : BiR σ .len [.lst xs] (.int xs.length) := .lenL hn
theorem insort_call {N k : Nat} {xs : List AD} {y : AD} {g : FN} {ks : Nat → Int} {kx : Int} {it : Nat → AD} (hb : σ[k]? = some (.list xs)) (hn : xs.length < 64) (hg : isLen (.fn g) = false) (hy : CallS (N + 1) (.fn g) [y] .none σ (.int kx) σ)
    (hit : ∀ i, i < xs.length → xs[i]? = some (it i)) (hk : ∀ i, i < xs.length → CallS N (.fn g) [it i] .none σ (.int (ks i)) σ) (h2 : c ≤ xs.length) (h : ∀ i, i < xs.length → (kx < ks i ↔ c ≤ i)) :
    CallS (N + 2) (.fn .insort) [.ref k, y] (some (.fn g)) σ .none (σ.set k (.list (xs.take c ++ y :: xs.drop c))) := by
  have hB := bright_call (N := N) (σ := σ) (a := .ref k) (x := kx) (args := [.ref k, .int kx, .int 0, .none]) (key := some (.fn g)) (K := wKey) (ks := ks) (n := xs.length) (c := c) (lo := 0) (hi := .none) (.fourN _) (.inr ⟨rfl, hg, rfl⟩)
    (tells_key (fun i hi => idx_ref hb (hit i hi) (by lia)) hk) (len_ref hb (by lia)) hn (Nat.zero_le _) h2 (fun i _ => h i)
  exact callF_fn (l := .next) (f := [some (.d (.ref k)), some (.d y), some (.d (.int 0)), some (.d .none), some (.fn g)]) rfl rfl (e_sc (e_ife_f (e_tst (e_cmp (e_v rfl) e_c (is_none rfl hg))) (e_sc (e_asg (e_fc (e_cons (e_v rfl) (e_cons (e_cv rfl (e_cons (e_v rfl) e_nil) hy) (e_cons (e_v rfl) (e_cons (e_v rfl) e_nil)))) (e_key (e_v rfl)) hB) (by show 2 < 5; decide)) e_sn)) (e_sc (e_ex (e_sm (e_v rfl) (show isListAt σ k = true by unfold isListAt; rw [hb]) (e_cons (e_v rfl) (e_cons (e_v rfl) e_nil)) (.insert hb h2 (by lia)))) e_sn))
noncomputable def T (l : List Nat) : Str := ⟨l.toArray⟩
theorem T_list (l : List Nat) : (T l).cps.toList = l := rfl
theorem T_len (l : List Nat) : (T l).length = l.length := by show l.toArray.size = _; simp
theorem T_app (a b : List Nat) : T a ++ T b = T (a ++ b) := by
  show Str.append (T a) (T b) = _
  unfold Str.append T; simp
theorem T_eta (s : Str) : T s.cps.toList = s := by cases s; rfl
theorem T_inj {a b : List Nat} (h : T a = T b) : a = b := by have := congrArg (fun s : Str => s.cps.toList) h; exact this
theorem add_T {a b : List Nat} (h : a.length + b.length ≤ 100000) : binD .add (.str (T a)) (.str (T b)) = some (.str (T (a ++ b))) := by
  show bIf (decide ((T a).length + (T b).length ≤ 100000)) (some (AD.str (T a ++ T b))) = _
  rw [T_len, T_len, decide_eq_true h, T_app]; rfl
theorem ne_T {a b : List Nat} : cmpD .ne (.d (.str (T a))) (.d (.str (T b))) = some (!decide (a = b)) := by
  show some (!(T a == T b)) = _
  by_cases h : a = b
  · subst h; simp
  · rw [decide_eq_false h]
    have : (T a == T b) = false := beq_eq_false_iff_ne.mpr fun z => h (T_inj z)
    rw [this]
theorem ne_int {a b : Int} : cmpD .ne (.d (.int a)) (.d (.int b)) = some (!decide (a = b)) := rfl
theorem eq_int {a b : Int} : cmpD .eq (.d (.int a)) (.d (.int b)) = some (decide (a = b)) := rfl
theorem lt_int {a b : Int} : cmpD .lt (.d (.int a)) (.d (.int b)) = some (decide (a < b)) := rfl
theorem le_int {a b : Int} : cmpD .le (.d (.int a)) (.d (.int b)) = some (decide (a ≤ b)) := rfl
section
variable {R : Nat} {f f₁ f₂ : Fm} {σ σ₁ σ₂ σ₃ σ₄ : H} {a b c t r s x : X}
theorem e_cs {s : Str} {l : List Nat} (h : s = T l) : Ev R (.c (.str s)) f σ (.v (.d (.str (T l)))) σ := by rw [h]; exact e_c
end
theorem l_229 : Str.ofString "229" = T [50, 50, 57] := by decide +kernel
theorem l_228 : Str.ofString "228" = T [50, 50, 56] := by decide +kernel
theorem l_209 : Str.ofString "209" = T [50, 48, 57] := by decide +kernel
theorem l_129 : Str.ofString "129" = T [49, 50, 57] := by decide +kernel
theorem l_op : Str.ofString "(" = T [40] := by decide +kernel
theorem l_cl : Str.ofString ")" = T [41] := by decide +kernel
theorem l_bo : Str.ofString "[" = T [91] := by decide +kernel
theorem l_bc : Str.ofString "]" = T [93] := by decide +kernel
theorem l_xc : Str.ofString "x)" = T [120, 41] := by decide +kernel
theorem l_2172 : Str.ofString "229 2172)" = T [50, 50, 57, 32, 50, 49, 55, 50, 41] := by decide +kernel
theorem l_marks : Str.ofString "|!/=" = T [124, 33, 47, 61] := by decide +kernel
theorem l_d0 : Str.ofString "0" = T [48] := by decide +kernel
theorem l_d1 : Str.ofString "1" = T [49] := by decide +kernel
theorem l_h : Str.ofString "h" = T [104] := by decide +kernel
theorem l_min : Str.ofString "-" = T [45] := by decide +kernel
theorem l_e : Str.ofString "" = T [] := by decide +kernel
theorem l_sp : Str.ofString " " = T [32] := by decide +kernel
theorem l_x : Str.ofString "x" = T [120] := by decide +kernel
theorem l_ok : Str.ofString "ok) " = T [111, 107, 41, 32] := by decide +kernel
theorem l_tail : Str.ofString " (|||9|)" = T [32, 40, 124, 124, 124, 57, 124, 41] := by decide +kernel
theorem findL_at {y : Nat} {rest : List Nat} : ∀ (pre : List Nat) (i : Nat), y ∉ pre → findL [y] (pre ++ y :: rest) i = some (i + pre.length)
  | [], i, _ => by
    show (bif [y].isPrefixOf (y :: rest) then some i else findL [y] rest (i + 1)) = _
    have : [y].isPrefixOf (y :: rest) = true := by simp [List.isPrefixOf]
    rw [this]; rfl
  | c :: pre, i, h => by
    show (bif [y].isPrefixOf (c :: (pre ++ y :: rest)) then some i else findL [y] (pre ++ y :: rest) (i + 1)) = _
    have : [y].isPrefixOf (c :: (pre ++ y :: rest)) = false := by
      simp only [List.isPrefixOf, Bool.and_eq_false_iff]
      left; exact beq_eq_false_iff_ne.mpr fun z => h (z ▸ List.mem_cons_self)
    rw [this]
    show findL [y] (pre ++ y :: rest) (i + 1) = _
    rw [findL_at pre (i + 1) (fun z => h (List.mem_cons_of_mem _ z)), List.length_cons]
    congr 1; lia
theorem findL_no {y : Nat} : ∀ (l : List Nat) (i : Nat), y ∉ l → findL [y] l i = Option.none
  | [], i, _ => rfl
  | c :: pre, i, h => by
    show (bif [y].isPrefixOf (c :: pre) then some i else findL [y] pre (i + 1)) = _
    have : [y].isPrefixOf (c :: pre) = false := by
      simp only [List.isPrefixOf, Bool.and_eq_false_iff]
      left; exact beq_eq_false_iff_ne.mpr fun z => h (z ▸ List.mem_cons_self)
    rw [this]
    exact findL_no pre (i + 1) fun z => h (List.mem_cons_of_mem _ z)
theorem splitL_no {m : Nat} : ∀ (w : List Nat), m ∉ w → splitL m w = [w]
  | [], _ => rfl
  | c :: w, h => by
    have hc : (c == m) = false := beq_eq_false_iff_ne.mpr fun z => h (z ▸ List.mem_cons_self)
    unfold splitL
    rw [hc, splitL_no w fun z => h (List.mem_cons_of_mem _ z)]; rfl
theorem splitL_at {m : Nat} {r : List Nat} : ∀ (w : List Nat), m ∉ w → splitL m (w ++ m :: r) = w :: splitL m r
  | [], _ => by
    show splitL m (m :: r) = _
    rw [splitL]
    have : (m == m) = true := by simp
    rw [this]; rfl
  | c :: w, h => by
    show splitL m (c :: (w ++ m :: r)) = _
    have hc : (c == m) = false := beq_eq_false_iff_ne.mpr fun z => h (z ▸ List.mem_cons_self)
    rw [splitL, hc, splitL_at w fun z => h (List.mem_cons_of_mem _ z)]; rfl
noncomputable def pz : Nat → X
  | 0 => b_parse
  | i + 1 => match pz i with | .sc _ r => r | x => x
structure Fam (R : Nat) (σ : H) (P : Nat → X → Fm → Prop) : Prop where
  skip : ∀ {i : Nat} {a r : X} {f : Fm}, Ev R a f σ (.b false) σ → P (i + 1) r f → P i (.sc (.ife a (.sc .boom .sn) .sn) r) f
  set : ∀ {i j : Nat} {a r : X} {f : Fm} {d : AD}, Ev R a f σ (.v (.d d)) σ → j < f.length → P (i + 1) r (setF f j (.d d)) → P i (.sc (.asg j a) r) f
theorem fam_told {R : Nat} {σ : H} {q : FL} : Fam R σ fun _ y f => ∃ f', Ev R y f σ (.g q f') σ := ⟨fun h ⟨f', e⟩ => ⟨f', e_sc (e_pass h) e⟩, fun h j ⟨f', e⟩ => ⟨f', e_sc (e_asg h j) e⟩⟩
theorem fam_rz {R : Nat} {σ : H} {b : Bool} {x : Str} : Fam R σ fun i y f => Rz R (pTk i) b x y f σ := ⟨.skip, fun h j => .set (e_asg h j)⟩
noncomputable def pfr (x : List Nat) (p : AD) (l r q h o : Option AV) : Fm := [some (.d (.str (T x))), some (.d p), l, r, q, h, o]
variable {R : Nat} {σ : H} {x : List Nat} {p : AD} {q : FL} {f' : Fm} {P : Nat → X → Fm → Prop}
theorem p_slc {y : List Nat} {l h : Option Int} (hx : x.length ≤ 100000) (e : slcL x l h = y) : slcD σ (.str (T x)) l h = some (.str (T y)) := by
  show bIf (decide ((T x).length ≤ 100000)) (some (AD.str ⟨(slcL (T x).cps.toList l h).toArray⟩)) = _
  rw [T_len, decide_eq_true hx, T_list, e]; rfl
theorem find_at {y : Nat} {from_ k : Nat} (h : findL [y] (x.drop from_) from_ = some k) : findS (T x) (T [y]) from_ = k := by
  unfold findS; rw [T_list, T_list, h]
theorem find_no {y : Nat} {from_ : Nat} (h : findL [y] (x.drop from_) from_ = Option.none) : findS (T x) (T [y]) from_ = -1 := by
  unfold findS; rw [T_list, T_list, h]
theorem sm_find {y : Nat} {i : Int} (h : findS (T x) (T [y]) 0 = i) : SmR σ .find (.str (T x)) [.str (T [y])] (.int i) σ := h ▸ .find
theorem sm_find2 {y n : Nat} {i : Int} (h : findS (T x) (T [y]) n = i) : SmR σ .find (.str (T x)) [.str (T [y]), .int n] (.int i) σ := h ▸ .find2
theorem sm_split {y : Nat} (hx : x.length ≤ 100000) : SmR σ .split (.str (T x)) [.str (T [y])] (.lst ((splitL y x).map fun w => .str (T w))) σ := .split (by rw [T_len]; exact hx)
theorem idx_T {i c : Nat} (h : x[i]? = some c) (hi : i < 100000) : idxD σ (.str (T x)) (.int i) = some (.str (T [c])) := idx_at hi (by
  show (match x[i]? with | some c => some (AD.str ⟨#[c]⟩) | Option.none => Option.none) = _
  rw [h]; rfl)
theorem p_code (hx : x.length ≤ 100000) (h3 : 3 ≤ x.length) (h : x.take 3 ≠ [50, 50, 57]) : Rz R (pTk 0) true (T x) b_parse (pfr x p .none .none .none .none .none) σ := by
  have e1 : slcL x Option.none (some 3) = x.take 3 := by
    show (x.drop 0).take ((if 3 ≤ x.length then 3 else x.length) - 0) = _
    rw [if_pos h3]; rfl
  exact .hit (e_tst (e_cmp (e_slc (e_v rfl) e_non (e_som e_c) rfl rfl (p_slc hx e1)) (e_cs l_229) (ne_T.trans (by rw [decide_eq_false h]; rfl)))) rfl go_reply rz1
theorem p_past (F : Fam R σ P) {rest : List Nat} (hx : x.length ≤ 100000) (h : x = 50 :: 50 :: 57 :: rest) (e : P 1 (pz 1) (pfr x p .none .none .none .none .none)) : P 0 b_parse (pfr x p .none .none .none .none .none) := by
  have e1 : slcL x Option.none (some 3) = [50, 50, 57] := by
    subst h
    show ((50 :: 50 :: 57 :: rest).drop 0).take ((if 3 ≤ (50 :: 50 :: 57 :: rest).length then 3 else (50 :: 50 :: 57 :: rest).length) - 0) = _
    rw [if_pos (by simp)]; rfl
  exact F.skip (e_tst (e_cmp (e_slc (e_v rfl) e_non (e_som e_c) rfl rfl (p_slc hx e1)) (e_cs l_229) (ne_T.trans (by rw [decide_eq_true rfl]; rfl)))) e
theorem p_open {rest : List Nat} (hx : x.length ≤ 100000) (h : x = 50 :: 50 :: 57 :: rest) (hn : 40 ∉ rest) : Rz R (pTk 0) false (T x) b_parse (pfr x p .none .none .none .none .none) σ := by
  have hf : findS (T x) (T [40]) 0 = -1 := find_no (findL_no _ _ (by subst h; simpa using hn))
  exact p_past fam_rz hx h (fam_rz.set (e_sm (e_v rfl) rfl (e_cons (e_cs l_op) e_nil) (sm_find hf)) (by show 2 < 7; decide) (.hit (e_tst (e_cmp (e_v rfl) e_c rfl)) rfl go_proto rz2))
structure Rp (x h m : List Nat) : Prop where
  eq : x = 50 :: 50 :: 57 :: (h ++ 40 :: m)
  no : 40 ∉ h
  len : x.length ≤ 1000
theorem Rp.left {h m : List Nat} (P : Rp x h m) : findS (T x) (T [40]) 0 = ((3 + h.length : Nat) : Int) := find_at (by
  rw [P.eq]
  show findL [40] ((50 :: 50 :: 57 :: h) ++ 40 :: m) 0 = _
  rw [findL_at _ _ (by simpa using P.no)]
  simp; lia)
theorem Rp.drop {h m : List Nat} (P : Rp x h m) : x.drop (3 + h.length + 1) = m := by
  rw [P.eq]
  show ((50 :: 50 :: 57 :: h) ++ ([40] ++ m)).drop (3 + h.length + 1) = m
  rw [← List.append_assoc]
  exact List.drop_left' (by simp; lia)
theorem Rp.lt {h m : List Nat} (P : Rp x h m) : 3 + h.length + 1 + m.length ≤ 1000 := by have := P.len; rw [P.eq] at this; simp at this; lia
theorem p_left (F : Fam R σ P) {h m : List Nat} (K : Rp x h m) (e : P 3 (pz 3) (pfr x p (some (.d (.int ((3 + h.length : Nat) : Int)))) .none .none .none .none)) : P 0 b_parse (pfr x p .none .none .none .none .none) :=
  p_past F (by have := K.len; lia) K.eq (F.set (e_sm (e_v rfl) rfl (e_cons (e_cs l_op) e_nil) (sm_find K.left)) (by show 2 < 7; decide) (F.skip (e_tst (e_cmp (e_v rfl) e_c (lt_int.trans (by rw [decide_eq_false (by lia)])))) e))
theorem add_one {n : Nat} : binD .add (.int (n : Nat)) (.int 1) = some (.int ((n + 1 : Nat) : Int)) := rfl
theorem p_close {h m : List Nat} (K : Rp x h m) (hn : 41 ∉ m) : Rz R (pTk 0) false (T x) b_parse (pfr x p .none .none .none .none .none) σ := by
  have hf : findS (T x) (T [41]) (3 + h.length + 1) = -1 := find_no (findL_no _ _ (by rw [K.drop]; exact hn))
  have := K.lt
  exact p_left fam_rz K (fam_rz.set (e_sm (e_v rfl) rfl (e_cons (e_cs l_cl) (e_cons (e_bin (e_v rfl) e_c add_one) e_nil)) (sm_find2 hf)) (by show 3 < 7; decide) (.hit (e_tst (e_cmp (e_v rfl) e_c rfl)) rfl go_proto rz3))
theorem p_right (F : Fam R σ P) {h b c : List Nat} (K : Rp x h (b ++ 41 :: c)) (hb : 41 ∉ b) (e : P 5 (pz 5) (pfr x p (some (.d (.int ((3 + h.length : Nat) : Int)))) (some (.d (.int ((3 + h.length + 1 + b.length : Nat) : Int)))) .none .none .none)) : P 0 b_parse (pfr x p .none .none .none .none .none) := by
  have hf : findS (T x) (T [41]) (3 + h.length + 1) = ((3 + h.length + 1 + b.length : Nat) : Int) := find_at (by rw [K.drop]; exact findL_at _ _ hb)
  have := K.lt
  exact p_left F K (F.set (e_sm (e_v rfl) rfl (e_cons (e_cs l_cl) (e_cons (e_bin (e_v rfl) e_c add_one) e_nil)) (sm_find2 hf)) (by show 3 < 7; decide) (F.skip (e_tst (e_cmp (e_v rfl) e_c (lt_int.trans (by rw [decide_eq_false (by lia)])))) e))
theorem sub_one {n : Nat} : binD .sub (.int ((n + 1 : Nat) : Int)) (.int 1) = some (.int (n : Nat)) := by
  show some (AD.int (((n + 1 : Nat) : Int) - 1)) = _
  congr 2; lia
theorem Rp.last {h c b : List Nat} {v : Nat} (P : Rp x h ((b ++ [v]) ++ 41 :: c)) : x[3 + h.length + 1 + b.length]? = some v := by
  have := P.drop
  have h2 : (x.drop (3 + h.length + 1))[b.length]? = some v := by rw [this]; simp
  rw [List.getElem?_drop] at h2; exact h2
theorem Rp.mid {h c b : List Nat} (P : Rp x h (b ++ 41 :: c)) : slcL x (some ((3 + h.length + 1 : Nat) : Int)) (some ((3 + h.length + 1 + b.length : Nat) : Int)) = b := by
  have hl : x.length = 3 + h.length + 1 + (b.length + (c.length + 1)) := by rw [P.eq]; simp; lia
  show (x.drop (if 3 + h.length + 1 ≤ x.length then 3 + h.length + 1 else x.length)).take ((if 3 + h.length + 1 + b.length ≤ x.length then 3 + h.length + 1 + b.length else x.length) - (if 3 + h.length + 1 ≤ x.length then 3 + h.length + 1 else x.length)) = b
  rw [if_pos (by lia), if_pos (by lia), P.drop]
  have : 3 + h.length + 1 + b.length - (3 + h.length + 1) = b.length := by lia
  rw [this]; simp
theorem p_marks {h b c : List Nat} {u v : Nat} (K : Rp x h ((b ++ [v]) ++ 41 :: c)) (hu : (b ++ [v])[0]? = some u) (hb : 41 ∉ b ++ [v]) (huv : u ≠ v) : Rz R (pTk 0) false (T x) b_parse (pfr x p .none .none .none .none .none) σ := by
  have := K.lt
  have h1 : x[3 + h.length + 1]? = some u := by
    have h2 : (x.drop (3 + h.length + 1))[0]? = some u := by rw [K.drop, List.getElem?_append_left (by simp)]; exact hu
    rw [List.getElem?_drop] at h2; exact h2
  have hl : (b ++ [v]).length = b.length + 1 := by simp
  simp only [List.length_append, List.length_cons, List.length_nil] at this
  exact p_right fam_rz K hb (.hit (e_tst (e_cmp (e_idx (e_v rfl) (e_bin (e_v rfl) e_c add_one) (idx_T h1 (by lia))) (e_idx (e_v rfl) (e_bin (e_v rfl) e_c (by rw [hl]; exact sub_one)) (idx_T K.last (by lia))) (ne_T.trans (by rw [decide_eq_false (by simpa using huv)]; rfl)))) rfl go_proto rz4)
theorem partD_int {i : Int} : partD (some (.int i)) = bIf (smallI i) (some (some i)) := rfl
theorem p_part {n : Nat} (hn : n < 100000) : partD (some (.int (n : Int))) = some (some (n : Int)) := by
  have e : (n : Int) = Int.ofNat n := rfl
  rw [partD_int, e, bIf_t (p_small hn)]
theorem p_parts (F : Fam R σ P) {h b c : List Nat} {u : Nat} (K : Rp x h ((b ++ [u]) ++ 41 :: c)) (hu : (b ++ [u])[0]? = some u) (hb : 41 ∉ b ++ [u])
    (e : P 7 (pz 7) (pfr x p (some (.d (.int ((3 + h.length : Nat) : Int)))) (some (.d (.int ((3 + h.length + 1 + (b ++ [u]).length : Nat) : Int)))) (some (.d (.lst ((splitL u (b ++ [u])).map fun w => .str (T w))))) .none .none)) : P 0 b_parse (pfr x p .none .none .none .none .none) := by
  have := K.lt
  have hxl := K.len
  have h1 : x[3 + h.length + 1]? = some u := by
    have h2 : (x.drop (3 + h.length + 1))[0]? = some u := by rw [K.drop, List.getElem?_append_left (by simp)]; exact hu
    rw [List.getElem?_drop] at h2; exact h2
  have hl : (b ++ [u]).length = b.length + 1 := by simp
  simp only [List.length_append, List.length_cons, List.length_nil] at this
  have sml : ∀ n : Nat, n ≤ 1000 → partD (some (.int (n : Int))) = some (some (n : Int)) := fun n hn => p_part (by lia)
  exact p_right F K hb (F.skip (e_tst (e_cmp (e_idx (e_v rfl) (e_bin (e_v rfl) e_c add_one) (idx_T h1 (by lia))) (e_idx (e_v rfl) (e_bin (e_v rfl) e_c (by rw [hl]; exact sub_one)) (idx_T K.last (by lia))) (ne_T.trans (by rw [decide_eq_true rfl]; rfl))))
    (F.set (e_sm (e_slc (e_v rfl) (e_som (e_bin (e_v rfl) e_c add_one)) (e_som (e_v rfl)) (sml _ (by lia)) (sml _ (by rw [hl]; lia)) (p_slc (by lia) K.mid)) rfl (e_cons (e_idx (e_v rfl) (e_bin (e_v rfl) e_c add_one) (idx_T h1 (by lia))) e_nil) (sm_split (by lia))) (by show 4 < 7; decide) e))
theorem p_count {h b c : List Nat} {u : Nat} (K : Rp x h ((b ++ [u]) ++ 41 :: c)) (hu : (b ++ [u])[0]? = some u) (hb : 41 ∉ b ++ [u]) (hn : (splitL u (b ++ [u])).length ≠ 5) (hm : (splitL u (b ++ [u])).length ≤ 5000) : Rz R (pTk 0) false (T x) b_parse (pfr x p .none .none .none .none .none) σ :=
  p_parts fam_rz K hu hb (.hit (e_tst (e_cmp (e_bi (e_cons (e_v rfl) e_nil) (len_lst (by simpa using hm))) e_c (ne_int.trans (by rw [List.length_map, decide_eq_false (by lia)]; rfl)))) rfl go_proto rz5)
theorem p_told {h b c w0 w1 w2 w3 w4 : List Nat} {u : Nat} {port : Int} {d0 : AD} {dr : List AD} (K : Rp x h ((b ++ [u]) ++ 41 :: c)) (hu : (b ++ [u])[0]? = some u) (hb : 41 ∉ b ++ [u]) (hs : splitL u (b ++ [u]) = [w0, w1, w2, w3, w4]) (h3 : w3.length ≤ 8) (hi : intOfText w3 = some port) :
    ∃ f', Ev R b_parse (pfr x (.tup (d0 :: dr)) .none .none .none .none .none) σ (.g (.ret (.tup [d0, .int port])) f') σ := by
  have hint : BiR σ .int [.str (T w3)] (.int port) := .int (by rw [T_len]; exact h3) hi
  refine p_parts fam_told K hu hb ?_
  rw [hs]
  exact ⟨_, e_sc (e_pass (e_tst (e_cmp (e_bi (e_cons (e_v rfl) e_nil) (len_lst (by simp))) e_c rfl))) (e_sc (e_asg (e_idx (e_v rfl) e_c rfl) (by show 5 < 7; decide)) (e_sc (e_asg (e_bi (e_cons (e_idx (e_v rfl) e_c rfl) e_nil) hint) (by show 6 < 7; decide))
    (e_sret (e_ret (e_tp (e_cons (e_v rfl) (e_cons (e_v rfl) e_nil)) rfl)))))⟩
structure Bd (b : List Nat) (port : Int) (m : Nat) (one two F : List Nat) : Prop where
  eq : b = m :: (one ++ m :: (two ++ m :: (F ++ [m])))
  mrk : m = 124 ∨ m = 33 ∨ m = 47 ∨ m = 61
  h1 : one = [] ∨ one = [49]
  h2 : two = [] ∨ two = [104]
  fig : ∀ c ∈ F, c = 45 ∨ (48 ≤ c ∧ c ≤ 57)
  len : F.length ≤ 8
  int : intOfText F = some port
noncomputable def figs (k n : Nat) : List Nat := (List.replicate k [48]).flatten ++ (intText (n : Int)).cps.toList
noncomputable def figOk (k n : Nat) : Bool := (figs k n).all (fun c => decide (48 ≤ c) && decide (c ≤ 57)) && decide ((figs k n).length ≤ 7) && (intOfText (figs k n) == some (n : Int)) && (intOfText (45 :: figs k n) == some (-(n : Int)))
theorem figs_ok : ∀ n, n < 48 → ∀ k, k < 3 → figOk k n = true := by decide +kernel
theorem fmod_nat (a : Int) {m : Nat} (hm : 0 < m) : ∃ q : Nat, q < m ∧ a.fmod m = q := by
  have h1 := Int.fmod_nonneg_of_pos a (show (0 : Int) < m by lia)
  have h2 := Int.fmod_lt_of_pos a (show (0 : Int) < m by lia)
  exact ⟨(a.fmod m).toNat, by lia, by lia⟩
theorem b_fdiv {a : Int} {n : Nat} (h : n ≠ 0) : binD .fdiv (.int a) (.int (n : Nat)) = some (.int (a.fdiv n)) := by
  show bIf ((n : Int) != 0) _ = _
  exact bIf_t (bne_iff_ne.mpr (by lia))
theorem b_mod {a : Int} {n : Nat} (h : n ≠ 0) : binD .mod (.int a) (.int (n : Nat)) = some (.int (a.fmod n)) := by
  show bIf ((n : Int) != 0) _ = _
  exact bIf_t (bne_iff_ne.mpr (by lia))
theorem b_add {a b : Int} : binD .add (.int a) (.int b) = some (.int (a + b)) := rfl
theorem mul_T {l : List Nat} {k : Nat} (hl : l.length ≤ 10) (hk : k ≤ 1000) : binD .mul (.str (T l)) (.int (k : Nat)) = some (.str (T (List.replicate k l).flatten)) := by
  show bIf (decide ((T l).length ≤ 10) && decide (k ≤ 1000)) (some (AD.str ⟨(List.replicate k (T l).cps.toList).flatten.toArray⟩)) = _
  exact bIf_t (by rw [T_len, decide_eq_true hl, decide_eq_true hk]; rfl)
variable {R : Nat} {σ : H} {N : Nat}
theorem biStr {a : Int} (h : a.natAbs < 100000) : BiR σ .str [.int a] (.str (T (intText a).cps.toList)) := by
  rw [T_eta]; exact .str h
noncomputable def bfm (place port cell : Int) (a b c d : Option AV) : Fm := [some (.d (.int place)), some (.d (.int port)), some (.d (.int cell)), a, b, c, d]
theorem two_way {c : Int} {n : Nat} {f : Fm} (hn : n ≠ 0) {a b : X} {x y : List Nat} (hf : f[2]? = some (some (.d (.int c)))) (ha : ∀ f, Ev R a f σ (.v (.d (.str (T x)))) σ) (hb : ∀ f, Ev R b f σ (.v (.d (.str (T y)))) σ) :
    ∃ z, (z = x ∨ z = y) ∧ Ev R (.idx (.ll (.cons a (.cons b .nil))) (.bin .mod (.bin .fdiv (.v 2) (.c (.int (n : Nat)))) (.c (.int (2 : Nat))))) f σ (.v (.d (.str (T z)))) σ := by
  obtain ⟨q, hq, e⟩ := fmod_nat (c.fdiv n) (m := 2) (by decide)
  have hL : Ev R (.ll (.cons a (.cons b .nil))) f σ (.v (.d (.lst [.str (T x), .str (T y)]))) σ := e_ll (e_cons (ha _) (e_cons (hb _) e_nil)) rfl
  have hI : Ev R (.bin .mod (.bin .fdiv (.v 2) (.c (.int (n : Nat)))) (.c (.int (2 : Nat)))) f σ (.v (.d (.int (q : Nat)))) σ := e_bin (e_bin (e_v hf) e_c (b_fdiv hn)) e_c ((b_mod (n := 2) (by decide)).trans (by rw [e]))
  match q, hq with
  | 0, _ => exact ⟨x, .inl rfl, e_idx hL hI (idx_lst rfl (by decide))⟩
  | 1, _ => exact ⟨y, .inr rfl, e_idx hL hI (idx_lst rfl (by decide))⟩
  | n + 2, h => lia
theorem body_call {place port cell : Int} (hp : port.natAbs < 48) : ∃ b m one two F, Bd b port m one two F ∧ CallS (N + 1) (.fn .body) [.int place, .int port, .int cell] .none σ (.str (T b)) σ := by
  obtain ⟨q, hq, eq⟩ := fmod_nat (cell + place) (m := 4) (by decide)
  obtain ⟨k, hk, ek⟩ := fmod_nat (cell.fdiv 4) (m := 3) (by decide)
  obtain ⟨m, hm, hm'⟩ : ∃ m, ([124, 33, 47, 61] : List Nat)[q]? = some m ∧ (m = 124 ∨ m = 33 ∨ m = 47 ∨ m = 61) := by
    match q, hq with
    | 0, _ => exact ⟨_, rfl, .inl rfl⟩
    | 1, _ => exact ⟨_, rfl, .inr (.inl rfl)⟩
    | 2, _ => exact ⟨_, rfl, .inr (.inr (.inl rfl))⟩
    | 3, _ => exact ⟨_, rfl, .inr (.inr (.inr rfl))⟩
    | n + 4, h => lia
  have hok := figs_ok port.natAbs hp k hk
  unfold figOk at hok
  simp only [Bool.and_eq_true, List.all_eq_true, decide_eq_true_eq, beq_iff_eq] at hok
  obtain ⟨⟨⟨h1, h2⟩, h3⟩, h4⟩ := hok
  have hfl : (List.replicate k [48]).flatten.length + (intText (port.natAbs : Int)).cps.toList.length ≤ 7 := by
    have := h2; unfold figs at this; rw [List.length_append] at this; exact this
  have s1 : Ev N (.asg 3 (.idx (.c (.str (Str.ofString "|!/="))) (.bin .mod (.bin .add (.v 2) (.v 0)) (.c (.int 4))))) (bfm place port cell .none .none .none .none) σ (.f .next (bfm place port cell (some (.d (.str (T [m])))) .none .none .none)) σ :=
    e_asg (e_idx (e_cs l_marks) (e_bin (e_bin (e_v rfl) (e_v rfl) b_add) e_c ((b_mod (n := 4) (by decide)).trans (by rw [eq]))) (idx_T hm (by lia))) (by show 3 < 7; decide)
  have s2 : Ev N (.asg 4 (.bin .add (.bin .mul (.c (.str (Str.ofString "0"))) (.bin .mod (.bin .fdiv (.v 2) (.c (.int 4))) (.c (.int 3)))) (.bi .str (.cons (.bi .abs (.cons (.v 1) .nil)) .nil)))) (bfm place port cell (some (.d (.str (T [m])))) .none .none .none) σ (.f .next (bfm place port cell (some (.d (.str (T [m])))) (some (.d (.str (T (figs k port.natAbs))))) .none .none)) σ :=
    e_asg (e_bin (e_bin (e_cs l_d0) (e_bin (e_bin (e_v rfl) e_c (b_fdiv (n := 4) (by decide))) e_c ((b_mod (n := 3) (by decide)).trans (by rw [show ((4 : Nat) : Int) = 4 from rfl, ek]))) (mul_T (by decide) (by lia))) (e_bi (e_cons (e_bi (e_cons (e_v rfl) e_nil) (.abs _)) e_nil) (biStr (by lia))) (add_T (by lia))) (by show 4 < 7; decide)
  obtain ⟨F, hF, s3, f1, f2, f3⟩ : ∃ F, F.length ≤ 8 ∧ Ev N (.ife (.tst (.cmp .lt (.v 1) (.c (.int 0)))) (.sc (.asg 4 (.bin .add (.c (.str (Str.ofString "-"))) (.v 4))) .sn) .sn) (bfm place port cell (some (.d (.str (T [m])))) (some (.d (.str (T (figs k port.natAbs))))) .none .none) σ (.f .next (bfm place port cell (some (.d (.str (T [m])))) (some (.d (.str (T F)))) .none .none)) σ ∧ (∀ c ∈ F, c = 45 ∨ (48 ≤ c ∧ c ≤ 57)) ∧ intOfText F = some port ∧ True := by
    by_cases hneg : port < 0
    · refine ⟨45 :: figs k port.natAbs, by simp only [List.length_cons]; lia, e_ife_t (e_tst (e_cmp (e_v rfl) e_c (lt_int.trans (by rw [decide_eq_true hneg])))) (e_sc (e_asg (e_bin (e_cs l_min) (e_v rfl) (add_T (by simp only [List.length_cons, List.length_nil]; lia))) (by show 4 < 7; decide)) e_sn), ?_, ?_, trivial⟩
      · intro c hc
        rcases List.mem_cons.mp hc with rfl | hc
        · exact .inl rfl
        · exact .inr (h1 c hc)
      · rw [h4]; congr 1; lia
    · exact ⟨figs k port.natAbs, by lia, e_pass (e_tst (e_cmp (e_v rfl) e_c (lt_int.trans (by rw [decide_eq_false hneg])))), fun c hc => .inr (h1 c hc), by rw [h3]; congr 1; lia, trivial⟩
  obtain ⟨w1, hw1, e1⟩ := two_way (R := N) (σ := σ) (c := cell) (n := 12) (f := bfm place port cell (some (.d (.str (T [m])))) (some (.d (.str (T F)))) .none .none) (by decide) rfl (fun f => e_cs l_e) (fun f => e_cs l_d1)
  obtain ⟨w2, hw2, e2⟩ := two_way (R := N) (σ := σ) (c := cell) (n := 24) (f := bfm place port cell (some (.d (.str (T [m])))) (some (.d (.str (T F)))) (some (.d (.str (T w1)))) .none) (by decide) rfl (fun f => e_cs l_e) (fun f => e_cs l_h)
  have k1 : w1.length ≤ 1 := by rcases hw1 with rfl | rfl <;> simp
  have k2 : w2.length ≤ 1 := by rcases hw2 with rfl | rfl <;> simp
  refine ⟨_, m, w1, w2, F, ⟨rfl, hm', hw1, hw2, f1, hF, f2⟩, callF_fn (f := bfm place port cell .none .none .none .none) (l := .ret _) rfl rfl (e_sc s1 (e_sc s2 (e_sc s3 (e_sc (e_asg e1 (by show 5 < 7; decide)) (e_sc (e_asg e2 (by show 6 < 7; decide)) (e_sret (e_ret ?_)))))))⟩
  refine Ev.to (e_bin (e_bin (e_bin (e_bin (e_bin (e_bin (e_v rfl) (e_v rfl) (add_T ?_)) (e_v rfl) (add_T ?_)) (e_v rfl) (add_T ?_)) (e_v rfl) (add_T ?_)) (e_v rfl) (add_T ?_)) (e_v rfl) (add_T ?_)) ?_
  all_goals first | (simp only [List.length_append, List.length_cons, List.length_nil]; lia) | skip
  simp only [List.append_assoc, List.cons_append, List.nil_append]
theorem Bd.no {b : List Nat} {port : Int} {m : Nat} {one two F : List Nat} (B : Bd b port m one two F) {y : Nat} (hy : y = 40 ∨ y = 41 ∨ y = 91 ∨ y = 93) : y ∉ b ∧ y ≠ m := by
  have hm : y ≠ m := by rcases B.mrk with h | h | h | h <;> lia
  refine ⟨fun h => ?_, hm⟩
  rw [B.eq] at h
  simp only [List.mem_cons, List.mem_append, List.not_mem_nil, or_false] at h
  rcases h with h | h | h | h | h | h | h
  · exact hm h
  · rcases B.h1 with e | e <;> rw [e] at h <;> simp at h; lia
  · exact hm h
  · rcases B.h2 with e | e <;> rw [e] at h <;> simp at h; lia
  · exact hm h
  · have := B.fig y h; lia
  · exact hm h
theorem Bd.mnot {b : List Nat} {port : Int} {m : Nat} {one two F : List Nat} (B : Bd b port m one two F) : m ∉ one ∧ m ∉ two ∧ m ∉ F ∧ m ≠ 120 ∧ m ≠ 49 ∧ m ≠ 41 := by
  refine ⟨fun h => ?_, fun h => ?_, fun h => ?_, ?_, ?_, ?_⟩
  · rcases B.h1 with e | e <;> rw [e] at h <;> simp at h; rcases B.mrk with h' | h' | h' | h' <;> lia
  · rcases B.h2 with e | e <;> rw [e] at h <;> simp at h; rcases B.mrk with h' | h' | h' | h' <;> lia
  · have := B.fig m h; rcases B.mrk with h' | h' | h' | h' <;> lia
  all_goals (rcases B.mrk with h' | h' | h' | h' <;> lia)
theorem Bd.len_le {b : List Nat} {port : Int} {m : Nat} {one two F : List Nat} (B : Bd b port m one two F) : b.length ≤ 14 := by
  have k1 : one.length ≤ 1 := by rcases B.h1 with rfl | rfl <;> simp
  have k2 : two.length ≤ 1 := by rcases B.h2 with rfl | rfl <;> simp
  have := B.len
  rw [B.eq]; simp only [List.length_append, List.length_cons, List.length_nil]; lia
theorem split_last {m : Nat} {w : List Nat} (h : m ∉ w) : splitL m (w ++ [m]) = [w, []] := by
  rw [splitL_at w h]; rfl
theorem Bd.split {b : List Nat} {port : Int} {m : Nat} {one two F : List Nat} (B : Bd b port m one two F) : splitL m b = [[], one, two, F, []] := by
  obtain ⟨h1, h2, h3, _⟩ := B.mnot
  rw [B.eq]
  show splitL m ([] ++ m :: _) = _
  rw [splitL_at [] (by simp), splitL_at one h1, splitL_at two h2, split_last h3]
theorem parse_call {h b c : List Nat} {port : Int} {m : Nat} {one two F : List Nat} {d0 : AD} {dr : List AD} (B : Bd b port m one two F) (hh : 40 ∉ h) (hl : h.length ≤ 10) (hc : c.length ≤ 20) :
    CallS (N + 1) (.fn .parse) [.str (T (50 :: 50 :: 57 :: (h ++ 40 :: (b ++ 41 :: c)))), .tup (d0 :: dr)] .none σ (.tup [d0, .int port]) σ := by
  have eb : b = (m :: (one ++ m :: (two ++ m :: F))) ++ [m] := by rw [B.eq]; simp
  have hn := (B.no (y := 41) (by lia)).1
  have hs := B.split
  have hlen := B.len_le
  obtain ⟨f', e⟩ := p_told (R := N) (σ := σ) (x := 50 :: 50 :: 57 :: (h ++ 40 :: (b ++ 41 :: c))) (h := h) (b := m :: (one ++ m :: (two ++ m :: F))) (c := c) (u := m) (d0 := d0) (dr := dr) (port := port)
    ⟨by rw [← eb], hh, by simp only [List.length_append, List.length_cons]; lia⟩ rfl (by rw [← eb]; exact hn) (by rw [← eb]; exact hs) B.len B.int
  exact callF_fn (l := .ret _) rfl rfl e
theorem tag_ne {v : Bool} {s : Str} (h : s = bif v then Str.ofString "reply" else Str.ofString "proto") : cmpD .ne (.d (tagD v)) (.d (.lst [.str s, .bool true])) = some false := by
  subst h
  generalize hs : (bif v then Str.ofString "reply" else Str.ofString "proto") = s
  show cmpD .ne (.d (.lst [.str (bif v then Str.ofString "reply" else Str.ofString "proto"), .bool true])) _ = _
  rw [hs]
  show some (!((s == s) && (((true : Bool) == true) && true))) = _
  simp
theorem rf_test {f : Fm} {a : X} {x : List Nat} {v : Bool} {w : String} (ha : Ev (N + 2) a f σ (.v (.d (.str (T x)))) σ) (hw : Str.ofString w = bif v then Str.ofString "reply" else Str.ofString "proto") (h : Rz N (pTk 0) v (T x) b_parse (parseFm (T x)) σ) {y : X} :
    Ev (N + 2) (.sc (.ife (.tst (.cmp .ne (.fc .refusal (.cons a .nil) .nok) (.ll (.cons (.c (.str (Str.ofString w))) (.cons (.c (.bool true)) .nil))))) y .sn) .sn) f σ (.g .next f) σ :=
  e_sc (e_pass (e_tst (e_cmp (e_fc (e_cons ha e_nil) e_nok (refusal_call h)) (e_ll (e_cons e_c (e_cons e_c e_nil)) rfl) (tag_ne hw)))) e_sn
end Mine
end
section
namespace Mine
open PySem
variable {R : Nat} {σ : H} {N : Nat} {b h : List Nat} {port : Int} {m : Nat} {one two F : List Nat}
noncomputable def sfr (h b : List Nat) (c k w t : Option AV) : Fm := [some (.d (.str (T h))), some (.d (.str (T b))), c, k, w, t]
theorem sp_code {c : List Nat} {f : Fm} (B : Bd b port m one two F) (hl : h.length ≤ 10) (hc : c.length = 3) (hne : c ≠ [50, 50, 57]) (hf : f = sfr h b (some (.d (.str (T c)))) .none .none .none) :
    Ev (N + 2) (.sc (.ife (.tst (.cmp .ne (.fc .refusal (.cons (.bin .add (.bin .add (.bin .add (.bin .add (.v 2) (.v 0)) (.c (.str (Str.ofString "(")))) (.v 1)) (.c (.str (Str.ofString ")")))) .nil) .nok) (.ll (.cons (.c (.str (Str.ofString "reply"))) (.cons (.c (.bool true)) .nil))))) (.sc (.ret (.c (.bool false))) .sn) .sn) .sn) f σ (.g .next f) σ := by
  subst hf
  have hbl := B.len_le
  refine rf_test (v := true) (e_bin (e_bin (e_bin (e_bin (e_v rfl) (e_v rfl) (add_T ?_)) (e_cs l_op) (add_T ?_)) (e_v rfl) (add_T ?_)) (e_cs l_cl) (add_T ?_)) rfl (p_code ?_ ?_ ?_)
  all_goals first | ((try simp only [List.length_append, List.length_cons, List.length_nil]); lia) | skip
  rw [List.append_assoc, List.append_assoc, List.append_assoc, List.take_left' hc]; exact hne
theorem sp_sq {f : Fm} (B : Bd b port m one two F) (hl : h.length ≤ 10) (hf : f = sfr h b (f.getD 2 .none) .none .none .none) :
    Ev (N + 2) (.sc (.ife (.tst (.cmp .ne (.fc .refusal (.cons (.bin .add (.bin .add (.bin .add (.bin .add (.c (.str (Str.ofString "228"))) (.v 0)) (.c (.str (Str.ofString "[")))) (.v 1)) (.c (.str (Str.ofString "]")))) .nil) .nok) (.ll (.cons (.c (.str (Str.ofString "reply"))) (.cons (.c (.bool true)) .nil))))) (.sc (.ret (.c (.bool false))) .sn) .sn) .sn) f σ (.g .next f) σ := by
  rw [hf]
  have hbl := B.len_le
  refine rf_test (v := true) (e_bin (e_bin (e_bin (e_bin (e_cs l_228) (e_v rfl) (add_T ?_)) (e_cs l_bo) (add_T ?_)) (e_v rfl) (add_T ?_)) (e_cs l_bc) (add_T ?_)) rfl (p_code ?_ ?_ ?_)
  all_goals first | ((try simp only [List.length_append, List.length_cons, List.length_nil]); lia) | skip
  rw [List.append_assoc, List.append_assoc, List.append_assoc, List.take_left' (by rfl)]; decide
noncomputable def worse (b : List Nat) (m : Nat) : List (List Nat) := [[91] ++ b ++ [41], [40] ++ b ++ [93], [40] ++ b ++ [120, 41], [40] ++ b ++ [m] ++ [41], [40] ++ b.drop 1 ++ [41]]
theorem worse_ok (B : Bd b port m one two F) (hh : 40 ∉ h) (hl : h.length ≤ 10) : ∀ w ∈ worse b m, w.length ≤ 18 ∧
    Rz N (pTk 0) false (T ([50, 50, 57] ++ h ++ w)) b_parse (parseFm (T ([50, 50, 57] ++ h ++ w))) σ := by
  have hbl := B.len_le
  have n40 := (B.no (y := 40) (by lia)).1
  have n41 := (B.no (y := 41) (by lia)).1
  obtain ⟨k1, k2, k3, k4, k5, k6⟩ := B.mnot
  have eb : b = (m :: (one ++ m :: (two ++ m :: F))) ++ [m] := by rw [B.eq]; simp
  have hd : b.drop 1 = one ++ m :: (two ++ m :: (F ++ [m])) := by rw [B.eq]; rfl
  have hdl : (b.drop 1).length ≤ 13 := by rw [List.length_drop]; lia
  have nd41 : 41 ∉ b.drop 1 := fun z => n41 (List.mem_of_mem_drop z)
  intro w hw
  simp only [worse, List.mem_cons, List.not_mem_nil, or_false] at hw
  rcases hw with rfl | rfl | rfl | rfl | rfl
  · refine ⟨by simp only [List.length_append, List.length_cons, List.length_nil]; lia, p_open (rest := h ++ ([91] ++ b ++ [41])) (by simp only [List.length_append, List.length_cons, List.length_nil]; lia) (by simp) ?_⟩
    simp only [List.mem_append, List.mem_cons, List.not_mem_nil, not_or, or_false]
    exact ⟨hh, ⟨by decide, n40⟩, by decide⟩
  · refine ⟨by simp only [List.length_append, List.length_cons, List.length_nil]; lia, p_close (h := h) (m := b ++ [93]) ⟨by simp, hh, by simp only [List.length_append, List.length_cons, List.length_nil]; lia⟩ ?_⟩
    simp only [List.mem_append, List.mem_cons, List.not_mem_nil, not_or, or_false]
    exact ⟨n41, by decide⟩
  · refine ⟨by simp only [List.length_append, List.length_cons, List.length_nil]; lia, p_marks (h := h) (b := b) (v := 120) (u := m) (c := []) ⟨by simp, hh, by simp only [List.length_append, List.length_cons, List.length_nil]; lia⟩ (by rw [B.eq]; rfl) ?_ k4⟩
    simp only [List.mem_append, List.mem_cons, List.not_mem_nil, not_or, or_false]
    exact ⟨n41, by decide⟩
  · have hs : splitL m (b ++ [m]) = [[], one, two, F, [], []] := by
      rw [B.eq]
      show splitL m ([] ++ m :: ((one ++ m :: (two ++ m :: (F ++ [m]))) ++ [m])) = _
      simp only [List.append_assoc, List.cons_append, List.nil_append]
      show splitL m ([] ++ m :: (one ++ m :: (two ++ m :: (F ++ m :: [m])))) = _
      rw [splitL_at [] (by simp), splitL_at one k1, splitL_at two k2, splitL_at F k3]
      show _ :: _ :: _ :: _ :: splitL m ([] ++ m :: []) = _
      rw [splitL_at [] (by simp)]; rfl
    refine ⟨by simp only [List.length_append, List.length_cons, List.length_nil]; lia, p_count (h := h) (b := b) (u := m) (c := []) ⟨by simp, hh, by simp only [List.length_append, List.length_cons, List.length_nil]; lia⟩ (by rw [B.eq]; rfl) ?_ (by rw [hs]; simp) (by rw [hs]; simp)⟩
    simp only [List.mem_append, List.mem_cons, List.not_mem_nil, not_or, or_false]
    exact ⟨n41, fun z => k6 z.symm⟩
  · have ed : b.drop 1 = (one ++ m :: (two ++ m :: F)) ++ [m] := by rw [hd]; simp
    have P : Rp ([50, 50, 57] ++ h ++ ([40] ++ b.drop 1 ++ [41])) h (((one ++ m :: (two ++ m :: F)) ++ [m]) ++ 41 :: []) := ⟨by rw [ed]; simp, hh, by simp only [List.length_append, List.length_cons, List.length_nil]; lia⟩
    refine ⟨by simp only [List.length_append, List.length_cons, List.length_nil]; lia, ?_⟩
    rcases B.h1 with e1 | e1
    · have hs : splitL m (one ++ m :: (two ++ m :: F) ++ [m]) = [[], two, F, []] := by
        rw [e1]
        simp only [List.append_assoc, List.cons_append, List.nil_append]
        show splitL m ([] ++ m :: (two ++ m :: (F ++ [m]))) = _
        rw [splitL_at [] (by simp), splitL_at two k2, split_last k3]
      exact p_count P (by rw [e1]; rfl) (by rw [← ed]; exact nd41) (by rw [hs]; simp) (by rw [hs]; simp)
    · exact p_marks (u := 49) P (by rw [e1]; rfl) (by rw [← ed]; exact nd41) (fun z => k5 z.symm)
theorem sp_worse {w : List Nat} {f : Fm} (B : Bd b port m one two F) (hh : 40 ∉ h) (hl : h.length ≤ 10) (hw : w ∈ worse b m) (f0 : f[0]? = some (some (.d (.str (T h))))) (f5 : f[5]? = some (some (.d (.str (T w))))) :
    Ev (N + 2) (.sc (.ife (.tst (.cmp .ne (.fc .refusal (.cons (.bin .add (.bin .add (.c (.str (Str.ofString "229"))) (.v 0)) (.v 5)) .nil) .nok) (.ll (.cons (.c (.str (Str.ofString "proto"))) (.cons (.c (.bool true)) .nil))))) (.sc (.ret (.c (.bool false))) .sn) .sn) .sn) f σ (.g .next f) σ := by
  obtain ⟨hwl, e⟩ := worse_ok (N := N) (σ := σ) B hh hl w hw
  refine rf_test (v := false) (e_bin (e_bin (e_cs l_229) (e_v f0) (add_T ?_)) (e_v f5) (add_T ?_)) rfl e
  all_goals (simp only [List.length_append, List.length_cons, List.length_nil]; lia)
theorem last_test {f : Fm} : Ev (N + 2) (.cmp .eq (.fc .refusal (.cons (.c (.str (Str.ofString "229 2172)"))) .nil) .nok) (.ll (.cons (.c (.str (Str.ofString "proto"))) (.cons (.c (.bool true)) .nil)))) f σ (.v (.d (.bool true))) σ := by
  refine e_cmp (e_fc (e_cons (e_cs l_2172) e_nil) e_nok (refusal_call (v := false) (p_open (rest := [32, 50, 49, 55, 50, 41]) (by decide) rfl (by decide)))) (e_ll (e_cons e_c (e_cons e_c e_nil)) rfl) ?_
  show some ((Str.ofString "proto" == Str.ofString "proto") && (((true : Bool) == true) && true)) = _
  simp
theorem spoilt_call (B : Bd b port m one two F) (hh : 40 ∉ h) (hl : h.length ≤ 10) : CallS (N + 3) (.fn .spoilt) [.str (T h), .str (T b)] .none σ (.bool true) σ := by
  have hbl := B.len_le
  have hcodes : ∀ f, Ev (N + 2) (.ll (.cons (.c (.str (Str.ofString "129"))) (.cons (.c (.str (Str.ofString "209"))) (.cons (.c (.str (Str.ofString "228"))) .nil)))) f σ (.v (.d (.lst [.str (T [49, 50, 57]), .str (T [50, 48, 57]), .str (T [50, 50, 56])]))) σ :=
    fun f => e_ll (e_cons (e_cs l_129) (e_cons (e_cs l_209) (e_cons (e_cs l_228) e_nil))) rfl
  obtain ⟨f1, σ1, l1, e1, ⟨o, p1⟩⟩ := loopF_inv (st := frS (N + 2) (.sc (.ife (.tst (.cmp .ne (.fc .refusal (.cons (.bin .add (.bin .add (.bin .add (.bin .add (.v 2) (.v 0)) (.c (.str (Str.ofString "(")))) (.v 1)) (.c (.str (Str.ofString ")")))) .nil) .nok) (.ll (.cons (.c (.str (Str.ofString "reply"))) (.cons (.c (.bool true)) .nil))))) (.sc (.ret (.c (.bool false))) .sn) .sn) .sn) 2)
    (src := .lst [.str (T [49, 50, 57]), .str (T [50, 48, 57]), .str (T [50, 50, 56])]) (N := 3) (P := fun _ f σ' => σ' = σ ∧ ∃ o, f = sfr h b o .none .none .none) (it := fun i => .str (T (([[49, 50, 57], [50, 48, 57], [50, 50, 56]] : List (List Nat)).getD i [])))
    (fun i f σ' hi _ => by match i, hi with | 0, _ => rfl | 1, _ => rfl | 2, _ => rfl) (fun f σ' _ => rfl)
    (fun i f σ' hi ⟨q, o, p⟩ => by
      subst q; subst p
      refine ⟨_, _, (sp_code (c := ([[49, 50, 57], [50, 48, 57], [50, 50, 56]] : List (List Nat)).getD i []) B hl ?_ ?_ rfl), rfl, _, rfl⟩
      · match i, hi with | 0, _ => rfl | 1, _ => rfl | 2, _ => rfl
      · match i, hi with | 0, _ => decide | 1, _ => decide | 2, _ => decide)
    4 0 (sfr h b .none .none .none .none) σ (by decide) (by decide) ⟨rfl, _, rfl⟩
  subst e1; subst p1
  have hm : b[0]? = some m := by rw [B.eq]; rfl
  have hsl : slcL b (some ((1 : Nat) : Int)) Option.none = b.drop 1 := by
    show (b.drop (if 1 ≤ b.length then 1 else b.length)).take (b.length - (if 1 ≤ b.length then 1 else b.length)) = _
    rw [if_pos (by rw [B.eq]; simp)]
    exact List.take_of_length_le (by simp)
  have hworse : Ev (N + 2) (.ll (.cons (.bin .add (.bin .add (.c (.str (Str.ofString "["))) (.v 1)) (.c (.str (Str.ofString ")")))) (.cons (.bin .add (.bin .add (.c (.str (Str.ofString "("))) (.v 1)) (.c (.str (Str.ofString "]")))) (.cons (.bin .add (.bin .add (.c (.str (Str.ofString "("))) (.v 1)) (.c (.str (Str.ofString "x)")))) (.cons (.bin .add (.bin .add (.bin .add (.c (.str (Str.ofString "("))) (.v 1)) (.v 3)) (.c (.str (Str.ofString ")")))) (.cons (.bin .add (.bin .add (.c (.str (Str.ofString "("))) (.slc (.v 1) (.som (.c (.int 1))) .non)) (.c (.str (Str.ofString ")")))) .nil)))))) (sfr h b o (some (.d (.str (T [m])))) .none .none) σ1 (.v (.d (.lst ((worse b m).map fun w => .str (T w))))) σ1 := by
    refine e_ll (e_cons (e_bin (e_bin (e_cs l_bo) (e_v rfl) (add_T ?_)) (e_cs l_cl) (add_T ?_)) (e_cons (e_bin (e_bin (e_cs l_op) (e_v rfl) (add_T ?_)) (e_cs l_bc) (add_T ?_)) (e_cons (e_bin (e_bin (e_cs l_op) (e_v rfl) (add_T ?_)) (e_cs l_xc) (add_T ?_))
      (e_cons (e_bin (e_bin (e_bin (e_cs l_op) (e_v rfl) (add_T ?_)) (e_v rfl) (add_T ?_)) (e_cs l_cl) (add_T ?_)) (e_cons (e_bin (e_bin (e_cs l_op) (e_slc (e_v rfl) (e_som e_c) e_non (p_part (n := 1) (by decide)) rfl (p_slc (by lia) hsl)) (add_T ?_)) (e_cs l_cl) (add_T ?_)) e_nil))))) rfl
    all_goals (simp only [List.length_append, List.length_cons, List.length_nil, List.length_drop]; lia)
  obtain ⟨f2, σ2, l2, e2, ⟨o2, p2⟩⟩ := loopF_inv (st := frS (N + 2) (.sc (.ife (.tst (.cmp .ne (.fc .refusal (.cons (.bin .add (.bin .add (.c (.str (Str.ofString "229"))) (.v 0)) (.v 5)) .nil) .nok) (.ll (.cons (.c (.str (Str.ofString "proto"))) (.cons (.c (.bool true)) .nil))))) (.sc (.ret (.c (.bool false))) .sn) .sn) .sn) 5)
    (src := .lst ((worse b m).map fun w => .str (T w))) (N := 5) (P := fun _ f σ' => σ' = σ1 ∧ ∃ t, f = sfr h b o (some (.d (.str (T [m])))) (some (.d (.lst ((worse b m).map fun w => .str (T w))))) t) (it := fun i => .str (T ((worse b m).getD i [])))
    (fun i f σ' hi _ => by match i, hi with | 0, _ => rfl | 1, _ => rfl | 2, _ => rfl | 3, _ => rfl | 4, _ => rfl) (fun f σ' _ => rfl)
    (fun i f σ' hi ⟨q, t, p⟩ => by
      subst q; subst p
      refine ⟨_, _, (sp_worse (w := (worse b m).getD i []) B hh hl ?_ rfl rfl), rfl, _, rfl⟩
      match i, hi with
      | 0, _ => exact .head _
      | 1, _ => exact .tail _ (.head _)
      | 2, _ => exact .tail _ (.tail _ (.head _))
      | 3, _ => exact .tail _ (.tail _ (.tail _ (.head _)))
      | 4, _ => exact .tail _ (.tail _ (.tail _ (.tail _ (.head _)))))
    6 0 (sfr h b o (some (.d (.str (T [m])))) (some (.d (.lst ((worse b m).map fun w => .str (T w))))) .none) σ1 (by decide) (by decide) ⟨rfl, _, rfl⟩
  subst e2; subst p2
  have sq := sp_sq (N := N) (σ := σ2) (f := sfr h b o .none .none .none) B hl rfl
  have sq1 : Ev (N + 2) (.ife (.tst (.cmp .ne (.fc .refusal (.cons (.bin .add (.bin .add (.bin .add (.bin .add (.c (.str (Str.ofString "228"))) (.v 0)) (.c (.str (Str.ofString "[")))) (.v 1)) (.c (.str (Str.ofString "]")))) .nil) .nok) (.ll (.cons (.c (.str (Str.ofString "reply"))) (.cons (.c (.bool true)) .nil))))) (.sc (.ret (.c (.bool false))) .sn) .sn) (sfr h b o .none .none .none) σ2 (.f .next (sfr h b o .none .none .none)) σ2 := by
    refine e_pass (e_tst (e_cmp (e_fc (e_cons (e_bin (e_bin (e_bin (e_bin (e_cs l_228) (e_v rfl) (add_T ?_)) (e_cs l_bo) (add_T ?_)) (e_v rfl) (add_T ?_)) (e_cs l_bc) (add_T ?_)) e_nil) e_nok (refusal_call (v := true) (p_code ?_ ?_ ?_))) (e_ll (e_cons e_c (e_cons e_c e_nil)) rfl) (tag_ne rfl)))
    all_goals first | ((try simp only [List.length_append, List.length_cons, List.length_nil]); lia) | skip
    rw [List.append_assoc, List.append_assoc, List.append_assoc, List.take_left' (by rfl)]; decide
  exact callF_fn (l := .ret _) (f := sfr h b .none .none .none .none) rfl rfl (e_sc (e_fr (hcodes _) (by show 2 < 6; decide) l1) (e_sc sq1 (e_sc (e_asg (e_idx (e_v rfl) e_c (idx_T (i := 0) hm (by decide))) (by show 3 < 6; decide)) (e_sc (e_asg hworse (by show 4 < 6; decide)) (e_sc (e_fr (e_v rfl) (by show 5 < 6; decide) l2) (e_sret (e_ret last_test)))))))
end Mine
end
section
namespace Mine
open PySem
noncomputable def ins (p : Nat → Int) (l : List Nat) (i : Nat) : List Nat := l.filter (fun j => decide (p j ≤ p i)) ++ i :: l.filter (fun j => !decide (p j ≤ p i))
noncomputable def bk (p : Nat → Int) : Nat → List Nat
  | 0 => []
  | k + 1 => ins p (bk p k) k
noncomputable def Srt (p : Nat → Int) (l : List Nat) : Prop := l.Pairwise fun a b => p a ≤ p b
noncomputable def Down (p : Nat → Int) (q : Nat → Bool) : Prop := ∀ a b, p a ≤ p b → q b = true → q a = true
variable {p : Nat → Int} {l : List Nat} {q : Nat → Bool}
theorem part_down (hq : Down p q) : ∀ {l : List Nat}, Srt p l → l.filter q ++ l.filter (fun x => !q x) = l
  | [], _ => rfl
  | a :: l, h => by
    obtain ⟨h1, h2⟩ := List.pairwise_cons.mp h
    cases hqa : q a with
    | true =>
      rw [List.filter_cons_of_pos hqa, List.filter_cons_of_neg (by simp [hqa]), List.cons_append, part_down hq h2]
    | false =>
      have hn : ∀ b ∈ l, q b = false := fun b hb => by
        cases hb' : q b with
        | false => rfl
        | true => have := hq a b (h1 b hb) hb'; rw [hqa] at this; cases this
      rw [List.filter_cons_of_neg (by simp [hqa]), List.filter_cons_of_pos (by simp [hqa])]
      have e1 : l.filter q = [] := List.filter_eq_nil_iff.mpr fun b hb => by rw [hn b hb]; decide
      have e2 : l.filter (fun x => !q x) = l := List.filter_eq_self.mpr fun b hb => by rw [hn b hb]; rfl
      rw [e1, e2]; rfl
theorem part_idx (hq : Down p q) (h : Srt p l) {i a : Nat} (hi : l[i]? = some a) : q a = true ↔ i < (l.filter q).length := by
  have e := part_down hq h
  have hg : (l.filter q ++ l.filter fun x => !q x)[i]? = some a := by rw [e]; exact hi
  by_cases hlt : i < (l.filter q).length
  · rw [List.getElem?_append_left hlt] at hg
    exact ⟨fun _ => hlt, fun _ => (List.mem_filter.mp (List.mem_of_getElem? hg)).2⟩
  · rw [List.getElem?_append_right (by lia)] at hg
    have h2 := (List.mem_filter.mp (List.mem_of_getElem? hg)).2
    constructor
    · intro h3; rw [h3] at h2; cases h2
    · intro h3; exact absurd h3 hlt
theorem filter_le (q : Nat → Bool) (l : List Nat) : (l.filter q).length ≤ l.length := List.length_filter_le _ _
theorem down_le (v : Int) : Down p fun j => decide (p j ≤ v) := fun a b h hb => decide_eq_true (Int.le_trans h (of_decide_eq_true hb))
theorem down_lt (v : Int) : Down p fun j => decide (p j < v) := fun a b h hb => decide_eq_true (Int.lt_of_le_of_lt h (of_decide_eq_true hb))
theorem ins_srt (h : Srt p l) (i : Nat) : Srt p (ins p l i) := by
  refine List.pairwise_append.mpr ⟨h.sublist List.filter_sublist, List.pairwise_cons.mpr ⟨fun b hb => ?_, h.sublist List.filter_sublist⟩, fun a ha b hb => ?_⟩
  · have := (List.mem_filter.mp hb).2; simp at this; lia
  · have h1 := (List.mem_filter.mp ha).2; simp at h1
    rcases List.mem_cons.mp hb with rfl | hb
    · exact h1
    · have h2 := (List.mem_filter.mp hb).2; simp at h2; lia
theorem ins_perm (i : Nat) : (ins p l i).Perm (i :: l) := by
  refine List.perm_middle.trans (.cons i ?_)
  exact List.filter_append_perm _ _
theorem ins_cut (h : Srt p l) (i : Nat) : l.take (l.filter fun j => decide (p j ≤ p i)).length ++ i :: l.drop (l.filter fun j => decide (p j ≤ p i)).length = ins p l i := by
  have e := part_down (down_le (p := p) (p i)) h
  generalize hA : (l.filter fun j => decide (p j ≤ p i)) = A at *
  generalize hB : (l.filter fun x => !decide (p x ≤ p i)) = B at *
  have e1 : l.take A.length = A := by rw [← e]; simp
  have e2 : l.drop A.length = B := by rw [← e]; simp
  rw [e1, e2]
  unfold ins; rw [hA, hB]
theorem ins_eq (i : Nat) (v : Int) : (ins p l i).filter (fun j => decide (p j = v)) = l.filter (fun j => decide (p j = v)) ++ [i].filter (fun j => decide (p j = v)) := by
  unfold ins
  rw [List.filter_append, List.filter_filter, show i :: l.filter (fun j => !decide (p j ≤ p i)) = [i] ++ l.filter (fun j => !decide (p j ≤ p i)) from rfl, List.filter_append, List.filter_filter]
  by_cases h : v ≤ p i
  · have e1 : l.filter (fun a => decide (p a = v) && decide (p a ≤ p i)) = l.filter (fun j => decide (p j = v)) := List.filter_congr fun a _ => by
      by_cases z : p a = v
      · simp [z, h]
      · simp [z]
    have e2 : l.filter (fun a => decide (p a = v) && !decide (p a ≤ p i)) = [] := List.filter_eq_nil_iff.mpr fun a _ => by simp; lia
    rw [e1, e2, List.append_nil]
  · have e1 : l.filter (fun a => decide (p a = v) && decide (p a ≤ p i)) = [] := List.filter_eq_nil_iff.mpr fun a _ => by simp; lia
    have e2 : l.filter (fun a => decide (p a = v) && !decide (p a ≤ p i)) = l.filter (fun j => decide (p j = v)) := List.filter_congr fun a _ => by
      by_cases z : p a = v
      · simp [z]; lia
      · simp [z]
    have e3 : [i].filter (fun j => decide (p j = v)) = [] := List.filter_eq_nil_iff.mpr fun a ha => by simp at ha; subst ha; simp; lia
    rw [e1, e2, e3]; simp
theorem bk_srt : ∀ k, Srt p (bk p k)
  | 0 => List.Pairwise.nil
  | k + 1 => ins_srt (bk_srt k) k
theorem bk_perm : ∀ k, (bk p k).Perm (List.range k)
  | 0 => .refl _
  | k + 1 => by
    refine (ins_perm (p := p) (l := bk p k) k).trans ((List.Perm.cons k (bk_perm k)).trans ?_)
    rw [List.range_succ]
    exact (List.perm_append_singleton k _).symm
theorem bk_len (k : Nat) : (bk p k).length = k := by rw [(bk_perm k).length_eq, List.length_range]
theorem bk_mem {k j : Nat} : j ∈ bk p k ↔ j < k := by rw [(bk_perm k).mem_iff, List.mem_range]
theorem bk_eq (v : Int) : ∀ k, (bk p k).filter (fun j => decide (p j = v)) = (List.range k).filter (fun j => decide (p j = v))
  | 0 => rfl
  | k + 1 => by
    show (ins p (bk p k) k).filter _ = _
    rw [ins_eq, bk_eq v k, List.range_succ, List.filter_append]
theorem bk_cnt (q : Nat → Bool) (k : Nat) : ((bk p k).filter q).length = ((List.range k).filter q).length := ((bk_perm k).filter q).length_eq
theorem slice_eq (h : Srt p l) (v : Int) : (l.filter fun j => decide (p j ≤ v)).length = (l.filter fun j => decide (p j < v)).length + (l.filter fun j => decide (p j = v)).length ∧
    (l.drop (l.filter fun j => decide (p j < v)).length).take (l.filter fun j => decide (p j = v)).length = l.filter fun j => decide (p j = v) := by
  have e := part_down (down_lt (p := p) v) h
  have hs : Srt p (l.filter fun x => !decide (p x < v)) := h.sublist List.filter_sublist
  have e' := part_down (down_le (p := p) v) hs
  have f1 : (l.filter fun x => !decide (p x < v)).filter (fun j => decide (p j ≤ v)) = l.filter fun j => decide (p j = v) := by
    rw [List.filter_filter]
    exact List.filter_congr fun a _ => by
      by_cases z : p a = v
      · simp [z]
      · by_cases z2 : p a ≤ v
        · simp [z, z2]; lia
        · simp [z, z2]
  have f2 : (l.filter fun j => decide (p j < v)).filter (fun j => decide (p j ≤ v)) = l.filter fun j => decide (p j < v) := List.filter_eq_self.mpr fun a ha => by
    have := (List.mem_filter.mp ha).2; simp at this; simp; lia
  constructor
  · have : (l.filter fun j => decide (p j ≤ v)) = (l.filter fun j => decide (p j < v)) ++ l.filter fun j => decide (p j = v) := by
      rw [← f1]
      conv => lhs; rw [← e]
      rw [List.filter_append, f2]
    rw [this, List.length_append]
  · have d : l.drop (l.filter fun j => decide (p j < v)).length = l.filter fun x => !decide (p x < v) := by
      conv => lhs; rhs; rw [← e]
      simp
    rw [d, ← e', f1]
    simp
theorem only_one {w : Nat} : ∀ {l : List Nat}, l.Nodup → (∀ x, x ∈ l ↔ x = w) → l = [w]
  | [], _, h => by have := (h w).mpr rfl; cases this
  | a :: t, hn, h => by
    obtain ⟨h1, _⟩ := List.nodup_cons.mp hn
    have ea : a = w := (h a).mp (.head _)
    subst ea
    have : t = [] := by
      cases t with
      | nil => rfl
      | cons b t =>
        have := (h b).mp (.tail _ (.head _))
        subst this
        exact absurd (.head _) h1
    rw [this]
theorem range_one {n w : Nat} (hw : w < n) (inj : ∀ i j, i < n → j < n → p i = p j → i = j) : (List.range n).filter (fun j => decide (p j = p w)) = [w] :=
  only_one (List.nodup_range.sublist List.filter_sublist) fun x => by
    rw [List.mem_filter, List.mem_range, decide_eq_true_eq]
    exact ⟨fun ⟨a, b⟩ => inj _ _ a hw b, fun e => by subst e; exact ⟨hw, rfl⟩⟩
theorem range_filterMap {α β : Type} (g : α → Option β) : ∀ (l : List α), (List.range l.length).filterMap (fun i => l[i]?.bind g) = l.filterMap g
  | [] => rfl
  | a :: l => by
    rw [List.length_cons, List.range_succ_eq_map, List.filterMap_cons, List.filterMap_map]
    have := range_filterMap g l
    have e : ((fun i => (a :: l)[i]?.bind g) ∘ Nat.succ) = fun i => l[i]?.bind g := by funext i; simp
    rw [e, this, List.filterMap_cons]
    rfl
theorem filterMap_bif {α β : Type} (q : α → Bool) (F : α → β) : ∀ (l : List α), l.filterMap (fun i => bif q i then some (F i) else Option.none) = (l.filter q).map F
  | [] => rfl
  | a :: l => by
    rw [List.filterMap_cons, List.filter_cons, filterMap_bif q F l]
    cases q a <;> rfl
theorem filterMap_some {α β : Type} (F : α → β) (l : List α) : l.filterMap (fun i => some (F i)) = l.map F := by
  rw [← List.filterMap_eq_map]; rfl
theorem compV_map {α : Type} {f : Fm} {caps : List Nat} {cs xs : List AD} {R : Nat} {cond elt : X} {d : AD} {σ : H} {l : List α} {F : α → AD} {g : α → Option AD}
    (hd : d = .lst xs ∨ ∃ k, d = .ref k ∧ σ[k]? = some (.list xs)) (hx : xs = l.map F) (hl : l.length ≤ 5000) (hc : capsD f caps = some cs) (hs : ∀ i ∈ l, TC R cond elt (frameC (F i) cs) σ (g i) σ) :
    CV R elt cond d f caps σ (l.filterMap g) σ := by
  subst hx
  have hlen : (l.map F).length = l.length := List.length_map _
  have key := compV_pure (f := f) (caps := caps) (cs := cs) (R := R) (cond := cond) (elt := elt) (d := d) (σ := σ) (N := l.length) (it := fun i => ((l.map F)[i]?).getD .none) (g := fun i => l[i]?.bind g) hc
    (by
      rcases hd with rfl | ⟨k, rfl, hk⟩
      · have := lst_cnt (xs := l.map F) (σ := σ) (by lia); lia
      · have := ref_cnt (xs := l.map F) hk (by lia); lia)
    (fun i hi => by
      have hg : (l.map F)[i]? = some (F l[i]) := by simp [hi]
      rw [hg]
      rcases hd with rfl | ⟨k, rfl, hk⟩
      · exact lst_item hg
      · exact ref_item hk hg)
    (by
      rw [← hlen]
      rcases hd with rfl | ⟨k, rfl, hk⟩
      · exact lst_end
      · exact ref_end hk)
    (fun i hi => by
      have hg : (l.map F)[i]? = some (F l[i]) := by simp [hi]
      rw [hg, List.getElem?_eq_getElem hi]
      exact hs _ (List.getElem_mem hi))
  rw [range_filterMap] at key
  exact key
section
variable {R : Nat} {f : Fm} {σ σ₁ σ₂ : H} {a b c : X} {u v w : AV} {p q : CO} {A B : Bool}
theorem e_cmp2 (ha : Ev R a f σ (.v u) σ) (hb : Ev R b f σ (.v v) σ) (h1 : cmpD p u v = some A) (hc : Ev R c f σ (.v w) σ) (h2 : cmpD q v w = some B) : Ev R (.cmp2 p q a b c) f σ (.b (A && B)) σ := by
  cases A
  · exact e_cmp2f ha hb h1
  · exact e_cmp2t ha hb h1 hc h2
end
noncomputable def En (i : Nat) : AD := .ref (1 + i)
noncomputable def Ents (p : Nat → Int) (σ : H) : Prop := ∀ i, i < 8 → σ[1 + i]? = some (.list [.int (p i), .int (i : Nat)])
variable {p kf : Nat → Int} {σ : H} {N k : Nat}
theorem at_app {σ : H} {i : Nat} {o x : AO} (h : σ[i]? = some o) : (σ ++ [x])[i]? = some o := by
  rw [List.getElem?_append_left (List.getElem?_eq_some_iff.mp h).1]; exact h
theorem at_end {σ : H} {x : AO} : (σ ++ [x])[σ.length]? = some x := by simp
theorem set_end {σ : H} {x y : AO} : (σ ++ [x]).set σ.length y = σ ++ [y] := by simp
theorem Ents.app {x : AO} (E : Ents p σ) : Ents p (σ ++ [x]) := fun i hi => at_app (E i hi)
theorem port_call {a b : AD} (h : σ[k]? = some (.list [a, b])) : CallS (N + 1) (.fn .port) [.ref k] .none σ a σ :=
  callF_fn (l := .ret _) rfl rfl (e_sret (e_ret (e_idx (e_v rfl) e_c (idx_ref (i := 0) h rfl (by decide)))))
theorem part_call {a : Int} {b : AD} (h : σ[k]? = some (.list [.int a, b])) : CallS (N + 1) (.fn .part) [.ref k] .none σ (.int (a.fdiv 24)) σ :=
  callF_fn (l := .ret _) rfl rfl (e_sret (e_ret (e_bin (e_idx (e_v rfl) e_c (idx_ref (i := 0) h rfl (by decide))) e_c (b_fdiv (n := 24) (by decide)))))
theorem map_at {F : Nat → AD} {l : List Nat} {i : Nat} (hi : i < l.length) : (l.map F)[i]? = some (F (l.getD i 0)) := by
  rw [List.getElem?_map, List.getElem?_eq_getElem hi, List.getD_eq_getElem?_getD, List.getElem?_eq_getElem hi]; rfl
theorem getD_at {l : List Nat} {i : Nat} (hi : i < l.length) : l[i]? = some (l.getD i 0) := by
  rw [List.getD_eq_getElem?_getD, List.getElem?_eq_getElem hi]; rfl
theorem ins_turn {g : FN} (hg : isLen (.fn g) = false) (hk : ∀ (σ : H) (M i : Nat), i < 8 → Ents p σ → CallS (M + 1) (.fn g) [En i] .none σ (.int (kf i)) σ) (E : Ents p σ) (h8 : k < 8) :
    CallS (N + 3) (.fn .insort) [.ref σ.length, En k] (some (.fn g)) (σ ++ [.list ((bk kf k).map En)]) .none (σ ++ [.list ((bk kf (k + 1)).map En)]) := by
  have hl := bk_len (p := kf) k
  have hc := filter_le (fun j => decide (kf j ≤ kf k)) (bk kf k)
  have h := insort_call (σ := σ ++ [.list ((bk kf k).map En)]) (N := N + 1) (k := σ.length) (xs := (bk kf k).map En) (y := En k) (g := g) (ks := fun i => kf ((bk kf k).getD i 0)) (kx := kf k) (it := fun i => En ((bk kf k).getD i 0)) (c := ((bk kf k).filter fun j => decide (kf j ≤ kf k)).length)
    at_end (by rw [List.length_map]; lia) hg (hk _ _ k h8 E.app) (fun i hi => map_at (by rw [List.length_map] at hi; exact hi)) (fun i hi => by
      rw [List.length_map] at hi
      have := bk_mem.mp (List.mem_of_getElem? (getD_at hi))
      exact hk _ _ _ (by lia) E.app) (by rw [List.length_map]; exact hc) (fun i hi => by
      rw [List.length_map] at hi
      have := part_idx (down_le (p := kf) (kf k)) (bk_srt k) (getD_at hi)
      rw [decide_eq_true_eq] at this
      lia)
  rw [set_end, ← List.map_take, ← List.map_drop, ← List.map_cons, ← List.map_append, ins_cut (bk_srt k)] at h
  exact h
theorem slc_ref {xs : List AD} {a b : Nat} (h : σ[k]? = some (.list xs)) (hn : xs.length ≤ 5000) (ha : a ≤ xs.length) (hb : b ≤ xs.length) : slcD σ (.ref k) (some (a : Nat)) (some (b : Nat)) = some (.lst ((xs.drop a).take (b - a))) := by
  show bQ σ (.ref k) (fun xs => bIf (fewL xs) (some (AD.lst (slcL xs (some (a : Nat)) (some (b : Nat)))))) = _
  unfold bQ bO; simp only [h]
  rw [bIf_t (show fewL xs = true from decide_eq_true hn)]
  show some (AD.lst ((xs.drop (if a ≤ xs.length then a else xs.length)).take ((if b ≤ xs.length then b else xs.length) - (if a ≤ xs.length then a else xs.length)))) = _
  rw [if_pos ha, if_pos hb]
theorem eqL_refs {g : AD → AD → Option Bool} : ∀ (l : List Nat), eqL (eqI g) (l.map En) (l.map En) = some true
  | [] => rfl
  | a :: l => by
    show (match eqI g (En a) (En a) with | some x => (match eqL (eqI g) (l.map En) (l.map En) with | some y => some (x && y) | Option.none => Option.none) | Option.none => Option.none) = _
    rw [eqL_refs l]
    have : eqI g (En a) (En a) = some true := by
      show bIf (1 + a == 1 + a) (some true) = _
      exact bIf_t (by simp)
    rw [this]; rfl
theorem ne_refs (l : List Nat) : cmpD .ne (.d (.lst (l.map En))) (.d (.lst (l.map En))) = some false := by
  show (match eqL (eqI (eqD 3)) (l.map En) (l.map En) with | some r => some (!r) | Option.none => Option.none) = _
  rw [eqL_refs]; rfl
theorem max2_ {a : Nat} : BiR σ .max2 [.int (a : Nat), .int 2] (.int ((max a 2 : Nat) : Int)) := by
  have h : ((max a 2 : Nat) : Int) = (if (2 : Int) > (a : Int) then (2 : Int) else (a : Int)) := by split <;> lia
  rw [h]; exact .max2 _ _
noncomputable def sf (e2 : Option AV) (book : Nat) (parts : List AD) (a4 a5 a6 a7 : Option AV) : Fm := [some (.d (.lst ((List.range 8).map En))), some (.d (.ref book)), e2, some (.d (.lst parts)), a4, a5, a6, a7]
noncomputable abbrev qf (p : Nat → Int) (i : Nat) : Int := (p i).fdiv 24
noncomputable def secBody : X := (.sc (.asg 5 (.bi .len (.cons (.comp (.v 0) [4] (.v 0) (.cnd (.tst (.cmp .lt (.idx (.v 0) (.c (.int 0))) (.bin .mul (.c (.int 24)) (.v 1)))))) .nil))) (.sc (.asgc 6 (.v 0) [4] (.v 0) (.cnd (.cmp2 .le .lt (.bin .mul (.c (.int 24)) (.v 1)) (.idx (.v 0) (.c (.int 0))) (.bin .add (.bin .mul (.c (.int 24)) (.v 1)) (.c (.int 24)))))) (.sc (.asg 7 (.bin .add (.v 5) (.bi .len (.cons (.v 6) .nil)))) (.sc (.ife (.or (.orv (.tst (.cmp .ne (.fc .bleft (.cons (.v 1) (.cons (.v 4) .nil)) (.key (.fv .part))) (.v 5))) (.orv (.tst (.cmp .ne (.fc .bright (.cons (.v 1) (.cons (.v 4) .nil)) (.key (.fv .part))) (.v 7))) .fls))) (.sc (.ret (.c (.bool false))) .sn) .sn) (.sc (.ife (.or (.orv (.tst (.cmp .ne (.fc .bleft (.cons (.v 3) (.cons (.v 4) (.cons (.c (.int 2)) .nil))) .nok) (.bi .max2 (.cons (.v 5) (.cons (.c (.int 2)) .nil))))) (.orv (.tst (.cmp .ne (.fc .bright (.cons (.v 3) (.cons (.v 4) (.cons (.c (.int 2)) .nil))) .nok) (.bi .max2 (.cons (.v 7) (.cons (.c (.int 2)) .nil))))) .fls))) (.sc (.ret (.c (.bool false))) .sn) .sn) (.sc (.ife (.tst (.cmp .ne (.slc (.v 1) (.som (.v 5)) (.som (.v 7))) (.v 6))) (.sc (.ret (.c (.bool false))) .sn) .sn) .sn))))))
theorem ne_same {a : Int} : cmpD .ne (.d (.int a)) (.d (.int a)) = some false := by rw [ne_int, decide_eq_true rfl]; rfl
theorem fdiv24 {a v : Int} : (a.fdiv 24 < v ↔ a < 24 * v) ∧ (a.fdiv 24 = v ↔ (24 * v ≤ a ∧ a < 24 * v + 24)) := by
  rw [Int.fdiv_eq_ediv_of_nonneg _ (by decide)]
  constructor <;> lia
theorem second_step {e2 a4 a5 a6 a7 : Option AV} {v : Int} (E : Ents p σ) (hB : σ[k]? = some (.list ((bk (qf p) 8).map En))) : ∃ b4 b5 b6 b7, Ev (N + 3) secBody (setF (sf e2 k ((bk (qf p) 8).map fun i => .int (qf p i)) a4 a5 a6 a7) 4 (.d (.int v))) σ (.g .next (sf e2 k ((bk (qf p) 8).map fun i => .int (qf p i)) b4 b5 b6 b7)) σ := by
  have e0 : ∀ i, i ∈ List.range 8 → ∀ c, Ev (N + 3) (.idx (.v 0) (.c (.int 0))) (frameC (En i) c) σ (.v (.d (.int (p i)))) σ := fun i hi c => e_idx (e_v rfl) e_c (idx_ref (i := 0) (E i (List.mem_range.mp hi)) rfl (by decide))
  have e24 : ∀ x, Ev (N + 3) (.bin .mul (.c (.int 24)) (.v 1)) (frameC x [.int v]) σ (.v (.d (.int (24 * v)))) σ := fun x => e_bin e_c (e_v rfl) rfl
  have hl8 := bk_len (p := qf p) 8
  have hs8 := bk_srt (p := qf p) 8
  have c1 : CV (N + 3) (.v 0) (.cnd (.tst (.cmp .lt (.idx (.v 0) (.c (.int 0))) (.bin .mul (.c (.int 24)) (.v 1))))) (.lst ((List.range 8).map En)) (setF (sf e2 k ((bk (qf p) 8).map fun i => .int (qf p i)) a4 a5 a6 a7) 4 (.d (.int v))) [4] σ (((List.range 8).filter fun i => decide (p i < 24 * v)).map En) σ := by
    have h1 : ∀ i ∈ List.range 8, TC (N + 3) (.cnd (.tst (.cmp .lt (.idx (.v 0) (.c (.int 0))) (.bin .mul (.c (.int 24)) (.v 1))))) (.v 0) (frameC (En i) [.int v]) σ (bif decide (p i < 24 * v) then some (En i) else Option.none) σ :=
      fun i hi => turn_if (e_cnd (e_tst (e_cmp (e0 i hi _) (e24 _) rfl))) (e_v rfl)
    exact CV.of (compV_map (.inl rfl) rfl (by simp) (cs := [.int v]) rfl h1) (by rw [filterMap_bif])
  generalize hL : ((List.range 8).filter fun i => decide (p i < 24 * v)) = L at *
  have c2 : ∀ a5, CV (N + 3) (.v 0) (.cnd (.cmp2 .le .lt (.bin .mul (.c (.int 24)) (.v 1)) (.idx (.v 0) (.c (.int 0))) (.bin .add (.bin .mul (.c (.int 24)) (.v 1)) (.c (.int 24))))) (.lst ((List.range 8).map En)) (sf e2 k ((bk (qf p) 8).map fun i => .int (qf p i)) (some (.d (.int v))) a5 a6 a7) [4] σ (((List.range 8).filter fun i => decide (24 * v ≤ p i) && decide (p i < 24 * v + 24)).map En) σ := fun a5 => by
    have h1 : ∀ i ∈ List.range 8, TC (N + 3) (.cnd (.cmp2 .le .lt (.bin .mul (.c (.int 24)) (.v 1)) (.idx (.v 0) (.c (.int 0))) (.bin .add (.bin .mul (.c (.int 24)) (.v 1)) (.c (.int 24))))) (.v 0) (frameC (En i) [.int v]) σ (bif decide (24 * v ≤ p i) && decide (p i < 24 * v + 24) then some (En i) else Option.none) σ :=
      fun i hi => turn_if (e_cnd (e_cmp2 (e24 _) (e0 i hi _) rfl (e_bin (e24 _) e_c rfl) rfl)) (e_v rfl)
    exact CV.of (compV_map (.inl rfl) rfl (by simp) (cs := [.int v]) rfl h1) (by rw [filterMap_bif])
  generalize hQ : ((List.range 8).filter fun i => decide (24 * v ≤ p i) && decide (p i < 24 * v + 24)) = Q at *
  have q1 : ((bk (qf p) 8).filter fun j => decide (qf p j < v)).length = L.length := by
    rw [bk_cnt, ← hL]
    exact congrArg List.length (List.filter_congr fun a _ => decide_eq_decide.mpr (fdiv24 (a := p a) (v := v)).1)
  have q2 : ((bk (qf p) 8).filter fun j => decide (qf p j = v)) = Q := by
    rw [bk_eq, ← hQ]
    exact List.filter_congr fun a _ => by
      have := fdiv24 (a := p a) (v := v)
      rw [← Bool.decide_and]
      exact decide_eq_decide.mpr this.2
  obtain ⟨q3, q4⟩ := slice_eq hs8 v
  rw [q1, q2] at q3 q4
  have hb8 := filter_le (fun j => decide (qf p j ≤ v)) (bk (qf p) 8)
  have hLl : L.length ≤ 8 := by lia
  have key : ∀ (M i : Nat), i < 8 → CallS (M + 1) (.fn .part) [En i] .none σ (.int (qf p i)) σ := fun M i hi => part_call (E i hi)
  have inb : ∀ i, i < 8 → (bk (qf p) 8).getD i 0 < 8 := fun i hi => bk_mem.mp (List.mem_of_getElem? (getD_at (by lia)))
  have idxl : ∀ i, i < 8 → (qf p ((bk (qf p) 8).getD i 0) < v ↔ i < L.length) := fun i hi => by
    have := part_idx (down_lt (p := qf p) v) hs8 (getD_at (l := bk (qf p) 8) (i := i) (by lia))
    rw [decide_eq_true_eq, q1] at this; exact this
  have idxr : ∀ i, i < 8 → (v < qf p ((bk (qf p) 8).getD i 0) ↔ L.length + Q.length ≤ i) := fun i hi => by
    have := part_idx (down_le (p := qf p) v) hs8 (getD_at (l := bk (qf p) 8) (i := i) (by lia))
    rw [decide_eq_true_eq, q3] at this; lia
  have tk : ∀ M x, Tells (M + 1) σ (.ref k) x (keyV (some (.fn .part))) 8 (fun i => qf p ((bk (qf p) 8).getD i 0)) wKey := fun M x => tells_key (it := fun i => En ((bk (qf p) 8).getD i 0)) (fun i hi => idx_ref hB (map_at (by lia)) (by lia)) fun i hi => key _ _ (inb i hi)
  have ti : ∀ M x, Tells M σ (.lst ((bk (qf p) 8).map fun i => .int (qf p i))) x (keyV .none) 8 (fun i => qf p ((bk (qf p) 8).getD i 0)) wItem := fun M x => tells_item fun i hi => idx_lst (map_at (F := fun i => .int (qf p i)) (by lia)) (by lia)
  have hb1 := bleft_call (N := N + 2) (σ := σ) (args := [.ref k, .int v]) (key := some (.fn .part)) (c := L.length) (.two _) (.inr ⟨rfl, rfl, rfl⟩) (tk _ v) (hi := .none) (by have := len_ref hB (by simp [hl8]); rw [List.length_map, hl8] at this; exact this) (by decide) (Nat.zero_le _) hLl fun i _ hi => idxl i hi
  have hb2 := bright_call (N := N + 2) (σ := σ) (args := [.ref k, .int v]) (key := some (.fn .part)) (c := L.length + Q.length) (.two _) (.inr ⟨rfl, rfl, rfl⟩) (tk _ v) (hi := .none) (by have := len_ref hB (by simp [hl8]); rw [List.length_map, hl8] at this; exact this) (by decide) (Nat.zero_le _) (by lia) fun i _ hi => idxr i hi
  have hlen : ∀ F : Nat → AD, BiR σ .len [.lst ((bk (qf p) 8).map F)] (.int (8 : Nat)) := fun F => by have := len_lst (σ := σ) (xs := (bk (qf p) 8).map F) (by simp [hl8]); rw [List.length_map, hl8] at this; exact this
  have hb3 := bleft_call (N := N + 2) (σ := σ) (args := [.lst ((bk (qf p) 8).map fun i => .int (qf p i)), .int v, .int (2 : Nat)]) (key := .none) (c := max L.length 2) (.three _) (.inl ⟨rfl, rfl⟩) (ti _ v) (hi := .none) (hlen _) (by decide) (Nat.le_max_right _ _) (by lia) fun i h2 hi => (idxl i hi).trans (by lia)
  have hb4 := bright_call (N := N + 2) (σ := σ) (args := [.lst ((bk (qf p) 8).map fun i => .int (qf p i)), .int v, .int (2 : Nat)]) (key := .none) (c := max (L.length + Q.length) 2) (.three _) (.inl ⟨rfl, rfl⟩) (ti _ v) (hi := .none) (hlen _) (by decide) (Nat.le_max_right _ _) (by lia) fun i h2 hi => (idxr i hi).trans (by lia)
  have hsl : slcD σ (.ref k) (some ((L.length : Nat) : Int)) (some ((L.length + Q.length : Nat) : Int)) = some (.lst (Q.map En)) := by
    rw [slc_ref hB (by simp [hl8]) (by simp; lia) (by simp; lia)]
    rw [← List.map_drop, ← List.map_take, Nat.add_sub_cancel_left, q4]
  refine ⟨some (.d (.int v)), some (.d (.int (L.length : Nat))), some (.d (.lst (Q.map En))), some (.d (.int ((L.length + Q.length : Nat) : Int))), ?_⟩
  refine e_sc (e_asg (e_bi (e_cons (e_comp (e_v rfl) c1) e_nil) (by have := len_lst (σ := σ) (xs := L.map En) (by simp; lia); rw [List.length_map] at this; exact this)) (by show 5 < 8; decide)) ?_
  refine e_sc (e_asgc (e_v rfl) (c2 (some (.d (.int (L.length : Nat))))) (by show 6 < 8; decide)) ?_
  refine e_sc (e_asg (e_bin (e_v rfl) (e_bi (e_cons (e_v rfl) e_nil) (by have := len_lst (σ := σ) (xs := Q.map En) (by simp; lia); rw [List.length_map] at this; exact this)) (z := .int ((L.length + Q.length : Nat) : Int)) rfl) (by show 7 < 8; decide)) ?_
  refine e_sc (e_pass (e_or (e_orv (e_tst (e_cmp (e_fc (e_cons (e_v rfl) (e_cons (e_v rfl) e_nil)) (e_key e_fv) hb1) (e_v rfl) ne_same)) (e_orv (e_tst (e_cmp (e_fc (e_cons (e_v rfl) (e_cons (e_v rfl) e_nil)) (e_key e_fv) hb2) (e_v rfl) ne_same)) e_fls)))) ?_
  refine e_sc (e_pass (e_or (e_orv (e_tst (e_cmp (e_fc (e_cons (e_v rfl) (e_cons (e_v rfl) (e_cons e_c e_nil))) e_nok hb3) (e_bi (e_cons (e_v rfl) (e_cons e_c e_nil)) max2_) ne_same)) (e_orv (e_tst (e_cmp (e_fc (e_cons (e_v rfl) (e_cons (e_v rfl) (e_cons e_c e_nil))) e_nok hb4) (e_bi (e_cons (e_v rfl) (e_cons e_c e_nil)) max2_) ne_same)) e_fls)))) ?_
  exact e_sc (e_pass (e_tst (e_cmp (e_slc (e_v rfl) (e_som (e_v rfl)) (e_som (e_v rfl)) (p_part (by lia)) (p_part (by lia)) hsl) (e_v rfl) (ne_refs Q)))) e_sn
theorem second_call (E : Ents p σ) : CallS (N + 4) (.fn .second) [.lst ((List.range 8).map En)] .none σ (.bool true) (σ ++ [.list ((bk (qf p) 8).map En)]) := by
  have hk : ∀ (σ : H) (M i : Nat), i < 8 → Ents p σ → CallS (M + 1) (.fn .part) [En i] .none σ (.int (qf p i)) σ := fun σ M i hi E => part_call (E i hi)
  have hl8 := bk_len (p := qf p) 8
  have n8 : ((List.range 8).map En).length = 8 := by simp
  obtain ⟨f1, σ1, l1, e1, e2, p1⟩ := loopF_inv (st := frS (N + 3) (.sc (.ex (.fc .insort (.cons (.v 1) (.cons (.v 2) .nil)) (.key (.fv .part)))) .sn) 2)
    (src := .lst ((List.range 8).map En)) (N := 8) (P := fun i f σ' => σ' = σ ++ [.list ((bk (qf p) i).map En)] ∧ ∃ o, f = [some (.d (.lst ((List.range 8).map En))), some (.d (.ref σ.length)), o, .none, .none, .none, .none, .none]) (it := En)
    (fun i f σ' hi _ => lst_item (by rw [List.getElem?_map, List.getElem?_range hi]; rfl)) (fun f σ' _ => by have := lst_end (xs := (List.range 8).map En) (σ := σ'); rw [n8] at this; exact this)
    (fun i f σ' hi ⟨q, o, q2⟩ => by
      subst q; subst q2
      exact ⟨_, _, (e_sc (e_ex (e_fc (e_cons (e_v rfl) (e_cons (e_v rfl) e_nil)) (e_key e_fv) (ins_turn (N := N) rfl hk E hi))) e_sn), rfl, _, rfl⟩)
    9 0 [some (.d (.lst ((List.range 8).map En))), some (.d (.ref σ.length)), .none, .none, .none, .none, .none, .none] (σ ++ [.list []]) (by decide) (by decide) ⟨rfl, _, rfl⟩
  subst e1; subst p1
  have EB : Ents p (σ ++ [.list ((bk (qf p) 8).map En)]) := E.app
  generalize hσ : σ ++ [AO.list ((bk (qf p) 8).map En)] = σB at *
  have hB : σB[σ.length]? = some (.list ((bk (qf p) 8).map En)) := by rw [← hσ]; exact at_end
  have cp : CV (N + 3) (.fc .part (.cons (.v 0) .nil) .nok) .yes (.ref σ.length) [some (.d (.lst ((List.range 8).map En))), some (.d (.ref σ.length)), e2, .none, .none, .none, .none, .none] [] σB ((bk (qf p) 8).map fun i => .int (qf p i)) σB := by
    have h1 : ∀ i ∈ bk (qf p) 8, TC (N + 3) .yes (.fc .part (.cons (.v 0) .nil) .nok) (frameC (En i) []) σB (some (.int (qf p i))) σB := fun i hi => turn_yes e_yes (e_fc (e_cons (e_v rfl) e_nil) e_nok (hk _ _ _ (bk_mem.mp hi) EB))
    exact CV.of (compV_map (g := fun i => some (.int (qf p i))) (l := bk (qf p) 8) (F := En) (cs := []) (.inr ⟨_, rfl, hB⟩) rfl (by lia) rfl h1) (by rw [filterMap_some])
  obtain ⟨f2, σ2, l2, e3, a4, a5, a6, a7, p2⟩ := loopF_inv (st := frS (N + 3) secBody 4)
    (src := .rng (-3) 3) (N := 6) (P := fun i f σ' => σ' = σB ∧ ∃ a4 a5 a6 a7, f = sf e2 σ.length ((bk (qf p) 8).map fun i => .int (qf p i)) a4 a5 a6 a7) (it := fun i => .int (-3 + (i : Int)))
    (fun i f σ' hi _ => rng_item (by lia)) (fun f σ' _ => rng_end (by lia))
    (fun i f σ' hi ⟨q, a4, a5, a6, a7, q2⟩ => by
      subst q; subst q2
      obtain ⟨b4, b5, b6, b7, h⟩ := second_step (N := N) (e2 := e2) (a4 := a4) (a5 := a5) (a6 := a6) (a7 := a7) (v := -3 + (i : Int)) EB hB
      exact ⟨_, _, h, rfl, b4, b5, b6, b7, rfl⟩)
    7 0 (sf e2 σ.length ((bk (qf p) 8).map fun i => .int (qf p i)) .none .none .none .none) σB (by decide) (by decide) ⟨rfl, _, _, _, _, rfl⟩
  subst e3; subst p2
  exact callF_fn (l := .ret _) (f := [some (.d (.lst ((List.range 8).map En))), .none, .none, .none, .none, .none, .none, .none]) rfl rfl (e_sc (e_asg (e_hl e_nil rfl) (by show 1 < 8; decide)) (e_sc (e_fr (e_v rfl) (by show 2 < 8; decide) l1) (e_sc (e_asgc (e_v rfl) cp (by show 3 < 8; decide)) (e_sc (e_fr (e_bi (e_cons (e_neg e_c) (e_cons e_c e_nil)) (.rng2 (by decide) (by decide) (by decide) (by decide))) (by show 4 < 8; decide) l2) (e_sret (e_ret e_c))))))
noncomputable def orb (w : Nat → Nat) (x0 : Nat) : Nat → Nat
  | 0 => x0
  | t + 1 => w (orb w x0 t)
theorem pigeon : ∀ (n : Nat) (f : Nat → Nat), (∀ i, i ≤ n → f i < n) → ∃ i j, i < j ∧ j ≤ n ∧ f i = f j
  | 0, f, h => absurd (h 0 (Nat.le_refl _)) (Nat.not_lt_zero _)
  | n + 1, f, h => by
    by_cases hv : ∃ i, i ≤ n ∧ f i = f (n + 1)
    · obtain ⟨i, hi, e⟩ := hv
      exact ⟨i, n + 1, by lia, Nat.le_refl _, e⟩
    · have hne : ∀ i, i ≤ n → f i ≠ f (n + 1) := fun i hi e => hv ⟨i, hi, e⟩
      have hlast := h (n + 1) (Nat.le_refl _)
      obtain ⟨i, j, hij, hj, e⟩ := pigeon n (fun i => if f i = n then f (n + 1) else f i) fun i hi => by
        have h1 := h i (by lia)
        have h2 := hne i hi
        show (if f i = n then f (n + 1) else f i) < n
        split
        · rename_i z; rw [z] at h2; lia
        · lia
      refine ⟨i, j, hij, by lia, ?_⟩
      have h1 := hne i (by lia)
      have h2 := hne j hj
      have e : (if f i = n then f (n + 1) else f i) = (if f j = n then f (n + 1) else f j) := e
      split at e <;> split at e
      · lia
      · exact absurd e.symm h2
      · exact absurd e h1
      · exact e
section
variable {w : Nat → Nat} {x0 : Nat} {p : Nat → Int}
theorem orb_lt (hw : ∀ i, i < 8 → w i < 8) (h0 : x0 < 8) : ∀ t, orb w x0 t < 8
  | 0 => h0
  | t + 1 => hw _ (orb_lt hw h0 t)
theorem orb_shift {i j : Nat} (e : orb w x0 i = orb w x0 j) : ∀ k, orb w x0 (i + k) = orb w x0 (j + k)
  | 0 => e
  | k + 1 => by show w (orb w x0 (i + k)) = w (orb w x0 (j + k)); rw [orb_shift e k]
theorem orb_per {i d : Nat} (e : orb w x0 (i + d) = orb w x0 i) : ∀ n k, orb w x0 (i + k + n * d) = orb w x0 (i + k)
  | 0, k => by simp
  | n + 1, k => by
    have h1 := orb_per e n k
    have h2 := orb_shift e (k + n * d)
    have e1 : i + k + (n + 1) * d = i + d + (k + n * d) := by rw [Nat.succ_mul]; lia
    have e2 : i + (k + n * d) = i + k + n * d := by lia
    rw [e1, h2, e2, h1]
structure Ring (w : Nat → Nat) (x0 : Nat) (p : Nat → Int) : Prop where
  hw : ∀ i, i < 8 → w i < 8
  h0 : x0 < 8
  inj : ∀ i j, i < 8 → j < 8 → p i = p j → i = j
variable (G : Ring w x0 p)
include G
theorem Ring.back : ∃ i d, 0 < d ∧ i + d ≤ 8 ∧ orb w x0 (i + d) = orb w x0 i := by
  obtain ⟨i, j, h1, h2, e⟩ := pigeon 8 (orb w x0) fun i _ => orb_lt G.hw G.h0 i
  exact ⟨i, j - i, by lia, by lia, by rw [show i + (j - i) = j from by lia]; exact e.symm⟩
theorem Ring.fold : ∀ t, 8 ≤ t → ∃ u, 8 ≤ u ∧ u < 16 ∧ orb w x0 u = orb w x0 t := by
  obtain ⟨i, d, hd, hi, e⟩ := G.back
  intro t
  induction t using Nat.strongRecOn with
  | _ t ih =>
    intro ht
    by_cases h : t < 16
    · exact ⟨t, ht, h, rfl⟩
    · obtain ⟨u, h1, h2, h3⟩ := ih (t - d) (by lia) (by lia)
      refine ⟨u, h1, h2, h3.trans ?_⟩
      have := orb_shift e (t - d - i)
      rw [show i + d + (t - d - i) = t from by lia, show i + (t - d - i) = t - d from by lia] at this
      exact this.symm
variable {m : Int} {tm : Nat} (h8 : 8 ≤ tm) (hm : p (orb w x0 tm) = m) (hmin : ∀ t, 8 ≤ t → t < 16 → m ≤ p (orb w x0 t))
include h8 hm hmin
theorem Ring.low (t : Nat) (ht : 8 ≤ t) : m ≤ p (orb w x0 t) := by
  obtain ⟨u, h1, h2, h3⟩ := G.fold t ht
  rw [← h3]; exact hmin u h1 h2
omit h8 hm hmin in
theorem Ring.apart {s t : Nat} (e : orb w x0 s = orb w x0 t) (h : s < t) : ∀ n k, orb w x0 (s + k + n * (t - s)) = orb w x0 (s + k) := orb_per (by rw [show s + (t - s) = t from by lia]; exact e.symm)
theorem Ring.on {s t u : Nat} (e : orb w x0 s = orb w x0 t) (h : s < t) (hu : s ≤ u) : m ≤ p (orb w x0 u) := by
  have h1 := G.apart e h 8 (u - s)
  rw [show s + (u - s) = u from by lia] at h1
  rw [← h1]
  exact G.low h8 hm hmin _ (by have : 1 ≤ t - s := by lia
                               lia)
theorem Ring.hit {s t : Nat} (e : orb w x0 s = orb w x0 t) (h : s < t) : ∃ u, s ≤ u ∧ u < t ∧ p (orb w x0 u) = m := by
  obtain ⟨i, d, hd, hi, eb⟩ := G.back
  have h1 := orb_per eb s (tm - i)
  rw [show i + (tm - i) = tm from by lia] at h1
  have hge : s ≤ tm + s * d := by
    have : s * 1 ≤ s * d := Nat.mul_le_mul_left s hd
    lia
  have h2 := G.apart e h ((tm + s * d - s) / (t - s)) ((tm + s * d - s) % (t - s))
  have h3 : s + (tm + s * d - s) % (t - s) + (tm + s * d - s) / (t - s) * (t - s) = tm + s * d := by
    have := Nat.div_add_mod (tm + s * d - s) (t - s)
    rw [Nat.mul_comm] at this
    lia
  rw [h3, h1] at h2
  have h4 := Nat.mod_lt (tm + s * d - s) (show 0 < t - s by lia)
  exact ⟨s + (tm + s * d - s) % (t - s), by lia, by lia, by rw [← h2]; exact hm⟩
theorem Ring.comings : ∃ a b r, (List.range 17).filter (fun t => decide (p (orb w x0 t) = m)) = a :: b :: r ∧ a < b ∧ b ≤ 15 ∧ p (orb w x0 a) = m ∧ p (orb w x0 b) = m ∧ ∀ t, t < b → p (orb w x0 t) = m → t = a := by
  obtain ⟨i, d, hd, hi, eb⟩ := G.back
  obtain ⟨u, hu1, hu2, hu3⟩ := G.hit h8 hm hmin eb.symm (by lia)
  have hu4 : p (orb w x0 (u + d)) = m := by
    have := orb_shift eb (u - i)
    rw [show i + d + (u - i) = u + d from by lia, show i + (u - i) = u from by lia] at this
    rw [this]; exact hu3
  generalize hL : (List.range 17).filter (fun t => decide (p (orb w x0 t) = m)) = L
  have mem : ∀ t, t ∈ L ↔ t < 17 ∧ p (orb w x0 t) = m := fun t => by rw [← hL, List.mem_filter, List.mem_range, decide_eq_true_eq]
  have pw : L.Pairwise (· < ·) := by rw [← hL]; exact List.pairwise_lt_range.sublist List.filter_sublist
  have m1 := (mem u).mpr ⟨by lia, hu3⟩
  have m2 := (mem (u + d)).mpr ⟨by lia, hu4⟩
  match L, mem, pw, m1, m2 with
  | [], _, _, m1, _ => cases m1
  | [a], _, _, m1, m2 => simp at m1 m2; lia
  | a :: b :: r, mem, pw, m1, m2 =>
    obtain ⟨p1, p2⟩ := List.pairwise_cons.mp pw
    obtain ⟨p3, _⟩ := List.pairwise_cons.mp p2
    have hab := p1 b (.head _)
    have ha := (mem a).mp (.head _)
    have hb := (mem b).mp (.tail _ (.head _))
    refine ⟨a, b, r, rfl, hab, ?_, ha.2, hb.2, fun t ht ht' => ?_⟩
    · have hu5 : a ≤ u := by
        rcases List.mem_cons.mp m1 with h | h
        · lia
        · have := p1 u h; lia
      rcases List.mem_cons.mp m2 with h | h
      · lia
      · rcases List.mem_cons.mp h with h | h
        · lia
        · have := p3 _ h; lia
    · have := (mem t).mpr ⟨by lia, ht'⟩
      rcases List.mem_cons.mp this with h | h
      · exact h
      · rcases List.mem_cons.mp h with h | h
        · lia
        · have := p3 _ h; lia
variable {a b : Nat} (hab : a < b) (ha : p (orb w x0 a) = m) (hb : p (orb w x0 b) = m) (hf : ∀ t, t < b → p (orb w x0 t) = m → t = a)
include hab ha hb hf
omit h8 hm hmin hf hab in
theorem Ring.same : orb w x0 a = orb w x0 b := G.inj _ _ (orb_lt G.hw G.h0 a) (orb_lt G.hw G.h0 b) (by rw [ha, hb])
theorem Ring.between {s : Nat} (h1 : a < s) (h2 : s < b) : m < p (orb w x0 s) := by
  have := G.on h8 hm hmin (G.same ha hb) hab (u := s) (by lia)
  have ne : p (orb w x0 s) ≠ m := fun z => by have := hf s h2 z; lia
  lia
theorem Ring.caught {s t : Nat} (hst : s < t) (ht : t ≤ b) (e : orb w x0 s = orb w x0 t) (hl : ∀ u, s < u → u < t → p (orb w x0 s) < p (orb w x0 u)) : t = b := by
  obtain ⟨u, h1, h2, h3⟩ := G.hit h8 hm hmin e hst
  have hs := G.on h8 hm hmin e hst (u := s) (Nat.le_refl _)
  by_cases hu : u = s
  · subst hu
    have hpt : p (orb w x0 t) = m := by rw [← e]; exact h3
    by_cases hb' : t < b
    · have := hf t hb' hpt
      have := hf u (by lia) h3
      lia
    · lia
  · have := hl u (by lia) h2
    lia
end
noncomputable def aliveB (P : Nat → Int) (t s : Nat) : Bool := (List.range t).all fun u => decide (u ≤ s) || decide (P s < P u)
noncomputable def stk (P : Nat → Int) (t : Nat) : List Nat := (List.range t).filter (aliveB P t)
variable {P : Nat → Int} {t : Nat}
theorem alive_iff {s : Nat} : aliveB P t s = true ↔ ∀ u, s < u → u < t → P s < P u := by
  unfold aliveB
  rw [List.all_eq_true]
  constructor
  · intro h u h1 h2
    have := h u (List.mem_range.mpr h2)
    simp at this; lia
  · intro h u hu
    have := h u
    rw [List.mem_range] at hu
    simp; lia
theorem stk_mem {s : Nat} : s ∈ stk P t ↔ s < t ∧ ∀ u, s < u → u < t → P s < P u := by
  unfold stk; rw [List.mem_filter, List.mem_range, alive_iff]
theorem stk_lt : (stk P t).Pairwise (· < ·) := List.pairwise_lt_range.sublist List.filter_sublist
theorem stk_up : (stk P t).Pairwise fun a b => P a < P b :=
  stk_lt.imp_of_mem fun {a b} ha hb h => (stk_mem.mp ha).2 b h (stk_mem.mp hb).1
theorem stk_srt : Srt P (stk P t) := by
  have h := stk_up (P := P) (t := t)
  exact List.Pairwise.imp (fun {a b} (h : P a < P b) => Int.le_of_lt h) h
theorem stk_len : (stk P t).length ≤ t := by
  have := List.length_filter_le (aliveB P t) (List.range t)
  rw [List.length_range] at this; exact this
theorem stk_succ : stk P (t + 1) = (stk P t).filter (fun s => decide (P s < P t)) ++ [t] := by
  have e1 : (List.range t).filter (aliveB P (t + 1)) = (stk P t).filter fun s => decide (P s < P t) := by
    unfold stk; rw [List.filter_filter]
    refine List.filter_congr fun s hs => ?_
    rw [List.mem_range] at hs
    rw [Bool.eq_iff_iff, Bool.and_eq_true, alive_iff, alive_iff, decide_eq_true_eq]
    constructor
    · intro h; exact ⟨h t hs (by lia), fun u h1 h2 => h u h1 (by lia)⟩
    · intro h u h1 h2
      by_cases hu : u = t
      · rw [hu]; exact h.1
      · exact h.2 u h1 (by lia)
  have e2 : [t].filter (aliveB P (t + 1)) = [t] := List.filter_eq_self.mpr fun s hs => by
    rw [List.mem_singleton] at hs; subst hs
    rw [alive_iff]; intro u h1 h2; lia
  show (List.range (t + 1)).filter (aliveB P (t + 1)) = _
  rw [List.range_succ, List.filter_append, e1, e2]
theorem stk_last (ht : 0 < t) : t - 1 ∈ stk P t := stk_mem.mpr ⟨by lia, fun u h1 h2 => by lia⟩
theorem stk_from : ∀ (n s : Nat), t - s ≤ n → s < t → ∃ u, s ≤ u ∧ u ∈ stk P t ∧ P u ≤ P s
  | 0, s, h, hs => by lia
  | n + 1, s, h, hs => by
    by_cases q : ∃ u, s < u ∧ u < t ∧ P u ≤ P s
    · obtain ⟨u, h1, h2, h3⟩ := q
      obtain ⟨v, g1, g2, g3⟩ := stk_from n u (by lia) h2
      exact ⟨v, by lia, g2, Int.le_trans g3 h3⟩
    · refine ⟨s, Nat.le_refl _, stk_mem.mpr ⟨hs, fun u h1 h2 => ?_⟩, Int.le_refl _⟩
      have : ¬ P u ≤ P s := fun z => q ⟨u, h1, h2, z⟩
      lia
theorem min_ex : ∀ (l : List Int), l ≠ [] → ∃ v ∈ l, ∀ x ∈ l, v ≤ x
  | [], h => absurd rfl h
  | [a], _ => ⟨a, .head _, fun x hx => by rw [List.mem_singleton] at hx; lia⟩
  | a :: b :: r, _ => by
    obtain ⟨v, h1, h2⟩ := min_ex (b :: r) (by simp)
    by_cases q : a ≤ v
    · refine ⟨a, .head _, fun x hx => ?_⟩
      rcases List.mem_cons.mp hx with h | h
      · lia
      · have := h2 x h; lia
    · refine ⟨v, .tail _ h1, fun x hx => ?_⟩
      rcases List.mem_cons.mp hx with h | h
      · lia
      · exact h2 x h
end Mine
end
section
namespace Mine
open PySem
variable {σ : H} {N k : Nat} {R : Nat} {f : Fm}
noncomputable def bl (s : Nat) : List Nat := (List.replicate s [32]).flatten
theorem bl_len (s : Nat) : (bl s).length = s := by unfold bl; simp
noncomputable def pc (o : Nat → Nat) (s : Nat) : AD := .tup [.str (T (bl s)), .str (T [97 + o s])]
noncomputable def portsL (p : Nat → Int) : List AD := (List.range 8).map fun i => .int (p i)
theorem ports_at {p : Nat → Int} {i : Nat} (h : i < 8) : (portsL p)[i]? = some (.int (p i)) := by
  unfold portsL; rw [List.getElem?_map, List.getElem?_range h]; rfl
theorem len_T {l : List Nat} (h : l.length ≤ 100000) : BiR σ .len [.str (T l)] (.int l.length) := by
  rw [← T_len]; exact .lenT (by rw [T_len]; exact h)
theorem len_bl {s : Nat} (h : s ≤ 100000) : BiR σ .len [.str (T (bl s))] (.int (s : Nat)) := by
  have := len_T (σ := σ) (l := bl s) (by rw [bl_len]; exact h)
  rw [bl_len] at this; exact this
theorem ord_T {c : Nat} : BiR σ .ord [.str (T [c])] (.int c) := .ord c
theorem chr_T {c : Nat} (h : c < 128) : BiR σ .chr [.int c] (.str (T [c])) := .chr h
theorem turn_call {o : Nat → Nat} {s : Nat} (hs : s < 1000) : CallS (N + 1) (.fn .turn) [pc o s] .none σ (.int s) σ :=
  callF_fn (l := .ret _) rfl rfl (e_sret (e_ret (e_bi (e_cons (e_idx (e_v rfl) e_c (idx_tup (i := 0) rfl (by decide))) e_nil) (len_bl (by lia)))))
theorem isAcc_at {xs : List AD} {n : Int} (h : σ[k]? = some (.acc xs n)) : isAcc σ k = true := by unfold isAcc; rw [h]
noncomputable def lamB : X := (.idx (.v 1) (.bin .sub (.bi .ord (.cons (.idx (.v 0) (.c (.int 1))) .nil)) (.c (.int 97))))
theorem sub97 {n : Nat} : binD .sub (.int ((97 + n : Nat) : Int)) (.int 97) = some (.int (n : Nat)) := by
  show some (AD.int (((97 + n : Nat) : Int) - 97)) = _
  congr 2; lia
variable {w : Nat → Nat} {x0 : Nat} {p : Nat → Int}
theorem lam_call (G : Ring w x0 p) {s : Nat} : CallS (N + 1) (.clo lamB [.lst (portsL p)]) [pc (orb w x0) s] .none σ (.int (p (orb w x0 s))) σ := by
  have h8 := orb_lt G.hw G.h0 s
  exact callF_clo (e_idx (e_v rfl) (e_bin (e_bi (e_cons (e_idx (e_v rfl) e_c (idx_tup (i := 1) rfl (by decide))) e_nil) ord_T) e_c sub97) (idx_lst (ports_at h8) (by lia)))
theorem cut_call (G : Ring w x0 p) {n x : Int} {l : List Nat} (h : σ[k]? = some (.acc (l.map (pc (orb w x0))) n)) (hl : l.length < 64) (hs : Srt (fun s => p (orb w x0 s)) l) :
    CallS (N + 4) (.fn .cut) [.ref k, .int x, .lst (portsL p)] .none σ (.int ((l.filter fun s => decide (p (orb w x0 s) < x)).length : Nat)) σ := by
  have hc := filter_le (fun s => decide (p (orb w x0 s) < x)) l
  have hB := bleft_call (N := N + 2) (σ := σ) (a := .ref k) (x := x) (args := [.ref k, .int x, .int (0 : Nat), .int (l.length : Nat)]) (key := some (.clo lamB [.lst (portsL p)])) (n := l.length) (c := (l.filter fun s => decide (p (orb w x0 s) < x)).length) (K := wKey) (ks := fun i => p (orb w x0 (l.getD i 0)))
    (.four ..) (.inr ⟨rfl, rfl, rfl⟩) (tells_key (it := fun i => pc (orb w x0) (l.getD i 0)) (fun i hi => idx_acc h (map_at hi) (by lia)) fun i hi => lam_call G) rfl hl (Nat.zero_le _) hc (fun i _ hi => by
      have := part_idx (down_lt (p := fun s => p (orb w x0 s)) x) hs (getD_at hi)
      rw [decide_eq_true_eq] at this; exact this)
  have hP : CallS (N + 3) (.fn .pcount) [.ref k] .none σ (.int (l.length : Nat)) σ := by
    have := pcount_call (n := N + 2) h
    rw [List.length_map] at this; exact this
  exact callF_fn (l := .ret _) (f := [some (.d (.ref k)), some (.d (.int x)), some (.d (.lst (portsL p)))]) rfl rfl (e_sret (e_ret (e_fc (e_cons (e_v rfl) (e_cons (e_v rfl) (e_cons e_c (e_cons (e_am (e_v rfl) (isAcc_at h) e_nil hP) e_nil)))) (e_key (e_lam rfl)) hB)))
theorem minl_map {α : Type} {F : α → Int} {l : List α} {m : Int} (h1 : m ∈ l.map F) (h2 : ∀ b ∈ l.map F, m ≤ b) : BiR σ .minl [.lst (l.map fun i => .int (F i))] (.int m) := by
  have h := BiR.minl (σ := σ) h1 h2
  rw [List.map_map] at h; exact h
theorem range'_mem {a b i : Nat} : i ∈ List.range' a b ↔ a ≤ i ∧ i < a + b := by
  rw [List.mem_range']
  constructor
  · rintro ⟨j, h1, h2⟩; lia
  · intro h; exact ⟨i - a, by lia, by lia⟩
theorem range_cut {n a b : Nat} (h : b ≤ n) (hab : a ≤ b) : ((List.range n).drop a).take (b - a) = List.range' a (b - a) := by
  refine List.ext_getElem? fun i => ?_
  by_cases hi : i < b - a
  · rw [List.getElem?_take_of_lt hi, List.getElem?_drop, List.getElem?_range (by lia), List.getElem?_range' hi]
    congr 1; lia
  · rw [List.getElem?_eq_none (by simp; lia), List.getElem?_eq_none (by simp; lia)]
noncomputable def plainL (o : Nat → Nat) (n : Nat) : List AD := (List.range n).map fun t => .int (o t : Nat)
theorem plain_at {o : Nat → Nat} {n i : Nat} (h : i < n) : (plainL o n)[i]? = some (.int (o i : Nat)) := by
  unfold plainL; rw [List.getElem?_map, List.getElem?_range h]; rfl
theorem plain_slc {o : Nat → Nat} {n a b : Nat} (hk : σ[k]? = some (.list (plainL o n))) (hn : n ≤ 5000) (ha : a ≤ b) (hb : b ≤ n) : slcD σ (.ref k) (some (a : Nat)) (some (b : Nat)) = some (.lst ((List.range' a (b - a)).map fun t => .int (o t : Nat))) := by
  rw [slc_ref hk (by unfold plainL; simp; lia) (by unfold plainL; simp; lia) (by unfold plainL; simp; lia)]
  unfold plainL
  rw [← List.map_drop, ← List.map_take, range_cut hb ha]
noncomputable def lowT : X := (.tst (.cmp .ne (.idx (.v 3) (.bin .sub (.bi .ord (.cons (.idx (.idx (.v 0) (.v 5)) (.c (.int 1))) .nil)) (.c (.int 97)))) (.bi .minl (.cons (.comp (.idx (.v 1) (.v 0)) [3] (.slc (.v 1) (.som (.v 4)) (.som (.v 2))) .yes) .nil))))
noncomputable def lowB : X := (.sc (.asg 5 (.fc .bleft (.cons (.v 0) (.cons (.v 4) (.cons (.c (.int 0)) (.cons (.am .pcount (.v 0) .nil) .nil)))) (.key (.fv .turn)))) (.sc (.ife lowT (.sc (.ret (.c (.bool false))) .sn) .sn) .sn))
theorem first_from {P : Nat → Int} {b s : Nat} (hs : s < b) : ∃ e, (stk P b)[((stk P b).filter fun u => decide (u < s)).length]? = some e ∧ s ≤ e ∧ e < b ∧ ∀ u, s ≤ u → u < b → P e ≤ P u := by
  have dn : Down (fun u => (u : Int)) fun u => decide (u < s) := fun a c h hc => decide_eq_true (by have := of_decide_eq_true hc; have h : (a : Int) ≤ c := h; lia)
  have sr : Srt (fun u => (u : Int)) (stk P b) := by
    have h := stk_lt (P := P) (t := b)
    exact List.Pairwise.imp (fun {a c} (h : a < c) => by show (a : Int) ≤ c; lia) h
  obtain ⟨z, z1, z2, _⟩ := stk_from (P := P) b s (by lia) hs
  have hidx := fun i a (h : (stk P b)[i]? = some a) => part_idx dn sr h
  obtain ⟨j, hj⟩ := List.getElem?_of_mem z2
  have hjl := (hidx j z hj)
  rw [decide_eq_true_eq] at hjl
  have hjl2 := (List.getElem?_eq_some_iff.mp hj).1
  generalize hc : ((stk P b).filter fun u => decide (u < s)).length = c at *
  have hcl : c < (stk P b).length := by lia
  refine ⟨(stk P b)[c], List.getElem?_eq_getElem hcl, ?_, ?_, fun u h1 h2 => ?_⟩
  · have := hidx c _ (List.getElem?_eq_getElem hcl)
    rw [decide_eq_true_eq] at this; lia
  · exact (stk_mem.mp (List.getElem_mem hcl)).1
  · obtain ⟨v, v1, v2, v3⟩ := stk_from (P := P) b u (by lia) h2
    obtain ⟨j', hj'⟩ := List.getElem?_of_mem v2
    have h3 := hidx j' v hj'
    rw [decide_eq_true_eq] at h3
    have hl' := (List.getElem?_eq_some_iff.mp hj').1
    have hcj : c ≤ j' := by lia
    rcases Nat.lt_or_eq_of_le hcj with h | h
    · have := List.pairwise_iff_getElem.mp (stk_up (P := P) (t := b)) c j' hcl hl' h
      have e : (stk P b)[j'] = v := (List.getElem?_eq_some_iff.mp hj').2
      rw [e] at this; lia
    · subst h
      have e : (stk P b)[c] = v := (List.getElem?_eq_some_iff.mp hj').2
      rw [e]; exact v3
noncomputable def lwf (k kp b : Nat) (p : Nat → Int) (c d : Option AV) : Fm := [some (.d (.ref k)), some (.d (.ref kp)), some (.d (.int (b : Nat))), some (.d (.lst (portsL p))), c, d]
theorem lows_step (G : Ring w x0 p) {n : Int} {kp b s : Nat} {c d : Option AV} (h : σ[k]? = some (.acc ((stk (fun t => p (orb w x0 t)) b).map (pc (orb w x0))) n)) (hp : σ[kp]? = some (.list (plainL (orb w x0) 17))) (hb : b ≤ 16) (hs : s < b) :
    ∃ d', Ev (N + 3) lowB (setF (lwf k kp b p c d) 4 (.d (.int (s : Nat)))) σ (.g .next (lwf k kp b p (some (.d (.int (s : Nat)))) d')) σ := by
  have hll : (stk (fun t => p (orb w x0 t)) b).length < 64 := by have := stk_len (P := fun t => p (orb w x0 t)) (t := b); lia
  have dn : Down (fun u => (u : Int)) fun u => decide (u < s) := fun a c h hc => decide_eq_true (by have := of_decide_eq_true hc; have h : (a : Int) ≤ c := h; lia)
  have sr : Srt (fun u => (u : Int)) (stk (fun t => p (orb w x0 t)) b) := by
    have h := stk_lt (P := fun t => p (orb w x0 t)) (t := b)
    exact List.Pairwise.imp (fun {a c} (h : a < c) => by show (a : Int) ≤ c; lia) h
  obtain ⟨e, he, he1, he2, hmin⟩ := first_from (P := fun t => p (orb w x0 t)) hs
  have hlt : ∀ x ∈ stk (fun t => p (orb w x0 t)) b, x < b := fun x hx => (stk_mem.mp hx).1
  generalize hl : stk (fun t => p (orb w x0 t)) b = l at *
  have hc := filter_le (fun u => decide (u < s)) l
  have hB := bleft_call (N := N + 2) (σ := σ) (a := .ref k) (x := (s : Int)) (args := [.ref k, .int (s : Nat), .int (0 : Nat), .int (l.length : Nat)]) (key := some (.fn .turn)) (n := l.length) (c := (l.filter fun u => decide (u < s)).length) (K := wKey) (ks := fun i => ((l.getD i 0 : Nat) : Int))
    (.four ..) (.inr ⟨rfl, rfl, rfl⟩) (tells_key (it := fun i => pc (orb w x0) (l.getD i 0)) (fun i hi => idx_acc h (map_at hi) (by lia)) fun i hi => turn_call (by have := hlt _ (List.mem_of_getElem? (getD_at hi)); lia)) rfl hll (Nat.zero_le _) hc (fun i _ hi => by
      have := part_idx dn sr (getD_at hi)
      rw [decide_eq_true_eq] at this; lia)
  have hP : CallS (N + 3) (.fn .pcount) [.ref k] .none σ (.int (l.length : Nat)) σ := by
    have := pcount_call (n := N + 2) h
    rw [List.length_map] at this; exact this
  generalize hcc : (l.filter fun u => decide (u < s)).length = cc at *
  refine ⟨some (.d (.int (cc : Nat))), e_sc (f₁ := lwf k kp b p (some (.d (.int (s : Nat)))) (some (.d (.int (cc : Nat))))) (e_asg (e_fc (e_cons (e_v rfl) (e_cons (e_v rfl) (e_cons e_c (e_cons (e_am (e_v rfl) (isAcc_at h) e_nil hP) e_nil)))) (e_key e_fv) hB) (by show 5 < 6; decide)) (e_sc (e_pass ?_) e_sn)⟩
  have h8 := orb_lt G.hw G.h0
  have hpe : (l.map (pc (orb w x0)))[cc]? = some (pc (orb w x0) e) := by rw [List.getElem?_map, he]; rfl
  have h1 : ∀ t ∈ List.range' s (b - s), TC (N + 3) .yes (.idx (.v 1) (.v 0)) (frameC (.int (orb w x0 t : Nat)) [.lst (portsL p)]) σ (some (.int (p (orb w x0 t)))) σ :=
    fun t _ => turn_yes e_yes (e_idx (e_v rfl) (e_v rfl) (idx_lst (ports_at (h8 t)) (by have := h8 t; lia)))
  have hcv : CV (N + 3) (.idx (.v 1) (.v 0)) .yes (.lst ((List.range' s (b - s)).map fun t => .int (orb w x0 t : Nat))) (lwf k kp b p (some (.d (.int (s : Nat)))) (some (.d (.int (cc : Nat))))) [3] σ ((List.range' s (b - s)).map fun t => .int (p (orb w x0 t))) σ :=
    CV.of (compV_map (R := (N + 3)) (cond := .yes) (elt := (.idx (.v 1) (.v 0))) (f := lwf k kp b p (some (.d (.int (s : Nat)))) (some (.d (.int (cc : Nat))))) (caps := [3]) (g := fun t => some (.int (p (orb w x0 t)))) (l := List.range' s (b - s)) (F := fun t => .int (orb w x0 t : Nat)) (cs := [.lst (portsL p)]) (.inl rfl) rfl (by simp; lia) rfl h1) (by rw [filterMap_some])
  exact e_tst (e_cmp (e_idx (e_v rfl) (e_bin (e_bi (e_cons (e_idx (e_idx (e_v rfl) (e_v rfl) (idx_acc h hpe (by lia))) e_c (idx_tup (i := 1) rfl (by decide))) e_nil) ord_T) e_c sub97) (idx_lst (ports_at (h8 e)) (by have := h8 e; lia)))
    (e_bi (e_cons (e_comp (e_slc (e_v rfl) (e_som (e_v rfl)) (e_som (e_v rfl)) (p_part (by lia)) (p_part (by lia)) (plain_slc hp (by decide) (by lia) (by lia))) hcv) e_nil) (minl_map (F := fun t => p (orb w x0 t)) (List.mem_map.mpr ⟨e, range'_mem.mpr ⟨he1, by lia⟩, rfl⟩) fun x hx => by
      obtain ⟨t, ht, rfl⟩ := List.mem_map.mp hx
      have := range'_mem.mp ht
      exact hmin t this.1 (by lia))) ne_same)
theorem rng_of {n : Nat} (h : n < 4096) : BiR σ .range [.int (n : Nat)] (.rng 0 (n : Nat)) := .rng1 (by lia) (by lia)
theorem rng0_item {n i : Nat} (h : i < n) : itemAt (.rng 0 (n : Nat)) σ i = some (some (.int (i : Nat))) := by
  have := rng_item (lo := 0) (hi := (n : Int)) (σ := σ) (i := i) (by lia)
  rw [Int.zero_add] at this; exact this
theorem rng0_end {n : Nat} : itemAt (.rng 0 (n : Nat)) σ n = some .none := rng_end (by lia)
theorem rng0_cnt {n : Nat} : n < cntOf (.rng 0 (n : Nat)) σ := rng_cnt (by lia) (by lia)
theorem lows_call (G : Ring w x0 p) {n : Int} {kp b : Nat} (h : σ[k]? = some (.acc ((stk (fun t => p (orb w x0 t)) b).map (pc (orb w x0))) n)) (hp : σ[kp]? = some (.list (plainL (orb w x0) 17))) (hb : b ≤ 16) :
    CallS (N + 4) (.fn .lows) [.ref k, .ref kp, .int (b : Nat), .lst (portsL p)] .none σ (.bool true) σ := by
  obtain ⟨f2, σ2, l2, e3, c, d, p2⟩ := loopF_inv (st := frS (N + 3) lowB 4)
    (src := .rng 0 (b : Nat)) (N := b) (P := fun i f σ' => σ' = σ ∧ ∃ c d, f = lwf k kp b p c d) (it := fun i => .int (i : Nat))
    (fun i f σ' hi _ => rng0_item hi) (fun f σ' _ => rng0_end)
    (fun i f σ' hi ⟨q, c, d, q2⟩ => by
      subst q; subst q2
      obtain ⟨d', h'⟩ := lows_step (N := N) (c := c) (d := d) G h hp hb hi
      exact ⟨_, _, h', rfl, _, _, rfl⟩)
    (cntOf (.rng 0 (b : Nat)) σ) 0 (lwf k kp b p .none .none) σ (by have := rng0_cnt (σ := σ) (n := b); lia) (Nat.zero_le _) ⟨rfl, _, _, rfl⟩
  subst e3; subst p2
  exact callF_fn (l := .ret _) (f := lwf k kp b p .none .none) rfl rfl (e_sc (e_fr (e_bi (e_cons (e_v rfl) e_nil) (rng_of (by lia))) (by show 4 < 6; decide) l2) (e_sret (e_ret e_c)))
end Mine
end
section
namespace Mine
open PySem
variable {σ : H} {N k : Nat} {R : Nat} {f : Fm} {o : Nat → Nat} {l : List Nat}
noncomputable def gtext (o : Nat → Nat) (l : List Nat) : List Nat := (l.map fun s => bl s ++ [97 + o s]).flatten
theorem gtext_len (h : ∀ s ∈ l, s < 20) : (gtext o l).length ≤ 21 * l.length := by
  induction l with
  | nil => simp [gtext]
  | cons a l ih =>
    have h1 := ih fun s hs => h s (.tail _ hs)
    have h2 := h a (.head _)
    show ((bl a ++ [97 + o a]) ++ gtext o l).length ≤ _
    simp only [List.length_append, bl_len, List.length_cons, List.length_nil]; lia
theorem beq_T {a b : List Nat} : (T a == T b) = decide (a = b) := by
  by_cases h : a = b
  · subst h; simp
  · rw [decide_eq_false h]; exact beq_eq_false_iff_ne.mpr fun z => h (T_inj z)
theorem eqI_piece {n s : Nat} : eqI (eqD (n + 2)) (pc o s) (pc o s) = some true := by
  show some ((T (bl s) == T (bl s)) && ((T [97 + o s] == T [97 + o s]) && true)) = _
  simp
theorem ne_piece {s : Nat} : cmpD .ne (.d (pc o s)) (.d (pc o s)) = some false := by
  show some (!((T (bl s) == T (bl s)) && ((T [97 + o s] == T [97 + o s]) && true))) = _
  simp
theorem eqL_pieces {n : Nat} : ∀ (l : List Nat), eqL (eqI (eqD (n + 2))) (l.map (pc o)) (l.map (pc o)) = some true
  | [] => rfl
  | a :: l => by
    show (match eqI (eqD (n + 2)) (pc o a) (pc o a) with | some x => (match eqL (eqI (eqD (n + 2))) (l.map (pc o)) (l.map (pc o)) with | some y => some (x && y) | Option.none => Option.none) | Option.none => Option.none) = _
    rw [eqL_pieces l, eqI_piece]; rfl
theorem ne_pieces (l : List Nat) : cmpD .ne (.d (.lst (l.map (pc o)))) (.d (.lst (l.map (pc o)))) = some false := by
  show (match eqL (eqI (eqD 3)) (l.map (pc o)) (l.map (pc o)) with | some r => some (!r) | Option.none => Option.none) = _
  rw [eqL_pieces]; rfl
theorem ne_empty {a : List Nat} : cmpD .ne (.d (.tup [.str (T a), .str (T a)])) (.d (.tup [.str (T a), .str (T a)])) = some false := by
  show some (!((T a == T a) && ((T a == T a) && true))) = _
  simp
theorem ne_told {a : List Nat} {b : Int} : cmpD .ne (.d (.tup [.str (T a), .int b])) (.d (.tup [.str (T a), .int b])) = some false := by
  show some (!((T a == T a) && ((b == b) && true))) = _
  simp
theorem eq_nil (xs : List AD) : cmpD .eq (.d (.lst xs)) (.d (.lst [])) = some xs.isEmpty := by cases xs <;> rfl
theorem ne_nil (xs : List AD) : cmpD .ne (.d (.lst xs)) (.d (.lst [])) = some (!xs.isEmpty) := by cases xs <;> rfl
theorem ne_bool {a b : Bool} (h : a = b) : cmpD .ne (.d (.bool a)) (.d (.bool b)) = some false := by subst h; cases a <;> rfl
theorem p_joinL : ∀ (l : List (List Nat)), joinL [] l = l.flatten
  | [] => rfl
  | [a] => by simp [joinL]
  | a :: b :: l => by
    show a ++ [] ++ joinL [] (b :: l) = _
    rw [p_joinL (b :: l)]; simp
theorem sum_le (h : ∀ s ∈ l, s < 20) : ((l.map fun s => T (bl s ++ [97 + o s])).map (·.length)).sum ≤ 21 * l.length := by
  induction l with
  | nil => simp
  | cons a l ih =>
    have h1 := ih fun s hs => h s (.tail _ hs)
    have h2 := h a (.head _)
    have e : (T (bl a ++ [97 + o a])).length = a + 1 := by rw [T_len, List.length_append, bl_len]; rfl
    rw [List.map_cons, List.map_cons, List.sum_cons, e, List.length_cons]
    lia
theorem join_call (h : ∀ s ∈ l, s < 20) (hl : l.length ≤ 20) : SmR σ .join (.str (T [])) [.lst (l.map fun s => .str (T (bl s ++ [97 + o s])))] (.str (T (gtext o l))) σ := by
  have h1 := sum_le (o := o) h
  have e := SmR.join (σ := σ) (x := T []) (l := l.map fun s => T (bl s ++ [97 + o s])) (by rw [T_len]; show _ + _ * 0 ≤ _; lia)
  have h3 : (l.map fun s => T (bl s ++ [97 + o s])).map (fun x => x.cps.toList) = l.map fun s => bl s ++ [97 + o s] := by rw [List.map_map]; rfl
  rw [h3, show (T []).cps.toList = [] from rfl, p_joinL, List.map_map] at e
  exact e
noncomputable def joinX (src : X) : X := .sm .join (.c (.str (Str.ofString ""))) (.cons (.comp (.bin .add (.idx (.v 0) (.c (.int 0))) (.idx (.v 0) (.c (.int 1)))) [] src .yes) .nil)
theorem e_join {src : X} {d : AD} (hs : Ev R src f σ (.v (.d d)) σ) (hd : d = .lst (l.map (pc o)) ∨ ∃ k, d = .ref k ∧ σ[k]? = some (.list (l.map (pc o)))) (h : ∀ s ∈ l, s < 20) (hl : l.length ≤ 20) : Ev R (joinX src) f σ (.v (.d (.str (T (gtext o l))))) σ := by
  have h1 : ∀ s ∈ l, TC R .yes (.bin .add (.idx (.v 0) (.c (.int 0))) (.idx (.v 0) (.c (.int 1)))) (frameC (pc o s) []) σ (some (.str (T (bl s ++ [97 + o s])))) σ := fun s hs =>
    turn_yes e_yes (e_bin (e_idx (e_v rfl) e_c (idx_tup (i := 0) rfl (by decide))) (e_idx (e_v rfl) e_c (idx_tup (i := 1) rfl (by decide))) (add_T (by rw [bl_len]; have := h s hs; simp; lia)))
  have h2 := CV.of (compV_map (R := R) (cond := .yes) (elt := (.bin .add (.idx (.v 0) (.c (.int 0))) (.idx (.v 0) (.c (.int 1))))) (f := f) (caps := []) (cs := []) (g := fun s => some (.str (T (bl s ++ [97 + o s])))) hd rfl (by lia) rfl h1) (by rw [filterMap_some])
  exact e_sm (e_cs l_e) rfl (e_cons (e_comp hs h2) e_nil) (join_call h hl)
theorem pieceText_map : ∀ (l : List Nat), (∀ s ∈ l, s < 20) → pieceText (l.map (pc o)) = some (gtext o l)
  | [], _ => rfl
  | a :: l, h => by
    have h2 := h a (.head _)
    show bP (pc o a) (fun x y => match pieceText (l.map (pc o)) with | some n => some (x.cps.toList ++ y.cps.toList ++ n) | Option.none => Option.none) = _
    rw [pieceText_map l fun s hs => h s (.tail _ hs)]
    show bIf (decide ((T (bl a)).length ≤ 5000) && decide ((T [97 + o a]).length ≤ 5000)) (some ((T (bl a)).cps.toList ++ (T [97 + o a]).cps.toList ++ gtext o l)) = _
    exact bIf_t (by rw [T_len, T_len, bl_len, decide_eq_true (by lia), decide_eq_true (by simp)]; rfl)
theorem pieceLen_map : ∀ (l : List Nat), (∀ s ∈ l, s < 20) → pieceLen (l.map (pc o)) = some ((gtext o l).length : Nat)
  | [], _ => rfl
  | a :: l, h => by
    have h2 := h a (.head _)
    show bP (pc o a) (fun x y => match pieceLen (l.map (pc o)) with | some n => some ((x.length : Int) + y.length + n) | Option.none => Option.none) = _
    rw [pieceLen_map l fun s hs => h s (.tail _ hs)]
    show bIf (decide ((T (bl a)).length ≤ 5000) && decide ((T [97 + o a]).length ≤ 5000)) (some (((T (bl a)).length : Int) + (T [97 + o a]).length + ((gtext o l).length : Nat))) = _
    rw [bIf_t (by rw [T_len, T_len, bl_len, decide_eq_true (by lia), decide_eq_true (by simp)]; rfl), T_len, T_len]
    have : (gtext o (a :: l)).length = (bl a).length + [97 + o a].length + (gtext o l).length := by
      show ((bl a ++ [97 + o a]) ++ gtext o l).length = _
      rw [List.length_append, List.length_append]
    rw [this]; congr 1
theorem astr_pc {n : Int} (h : σ[k]? = some (.acc (l.map (pc o)) n)) (hs : ∀ s ∈ l, s < 20) (hl : l.length ≤ 20) : CallS (N + 2) (.fn .astr) [.ref k] .none σ (.str (T (gtext o l))) σ :=
  astr_call h (by rw [List.length_map]; lia) (pieceText_map l hs) (by have := gtext_len (o := o) hs; lia)
theorem alen_pc {n : Nat} (h : σ[k]? = some (.acc (l.map (pc o)) n)) (hn : n ≤ 1000) (hs : ∀ s ∈ l, s < 20) (hl : l.length ≤ 20) : CallS (N + 2) (.fn .alen) [.ref k] .none σ (.int ((n + (gtext o l).length : Nat) : Int)) σ :=
  alen_call h (by rw [List.length_map]; lia) (pieceLen_map l hs) (by lia) (by have := gtext_len (o := o) hs; lia)
theorem fmod_cast {i m : Nat} (hm : 0 < m) : (i : Int).fmod m = ((i % m : Nat) : Int) := by
  rw [Int.fmod_eq_emod_of_nonneg _ (by lia)]; lia
theorem cells_step {i : Nat} {xs : List Int} {cs : List Int} {n : Nat} {x : Int} {c : Option AV} (hc : cs.length = 4) (hx : xs[i]? = some x) (hi : i < 5000) (hn : σ.length = n) :
    ∃ cs' : List Int, cs'.length = 4 ∧ Ev R (.sc (.aug 1 (.bin .mod (.v 2) (.c (.int 4))) (.idx (.v 0) (.v 2))) .sn) (setF [some (.d (.lst (xs.map .int))), some (.d (.ref n)), c] 2 (.d (.int (i : Nat)))) (σ ++ [.list (cs.map .int)]) (.g .next [some (.d (.lst (xs.map .int))), some (.d (.ref n)), some (.d (.int (i : Nat)))]) (σ ++ [.list (cs'.map .int)]) := by
  subst hn
  have h4 : i % 4 < cs.length := by rw [hc]; exact Nat.mod_lt _ (by decide)
  have hg : (cs.map AD.int)[i % 4]? = some (.int cs[i % 4]) := by rw [List.getElem?_map, List.getElem?_eq_getElem h4]; rfl
  have hgx : (xs.map AD.int)[i]? = some (.int x) := by rw [List.getElem?_map, hx]; rfl
  refine ⟨cs.set (i % 4) (cs[i % 4] + x), by rw [List.length_set]; exact hc, ?_⟩
  have h := e_aug (n := R) (i := 1) (k := σ.length) (j := i % 4) (f := [some (.d (.lst (xs.map .int))), some (.d (.ref σ.length)), some (.d (.int (i : Nat)))]) (σ := σ ++ [.list (cs.map .int)]) (a := .bin .mod (.v 2) (.c (.int 4))) (b := .idx (.v 0) (.v 2)) (xs := cs.map .int) (z := cs[i % 4]) (u := x) (ys := cs.map .int) rfl
    (e_bin (e_v rfl) e_c ((b_mod (n := 4) (by decide)).trans (by rw [fmod_cast (by decide)]))) at_end hg (by lia) (e_idx (e_v rfl) (e_v rfl) (idx_lst hgx (by lia))) at_end (by rw [List.length_map]; exact h4)
  rw [set_end] at h
  rw [List.map_set]
  exact e_sc h e_sn
theorem cells_call {xs : List Int} (hx : xs.length ≤ 1000) : ∃ cs : List Int, cs.length = 4 ∧ CallS (N + 1) (.fn .cells) [.lst (xs.map .int)] .none σ (.ref σ.length) (σ ++ [.list (cs.map .int)]) := by
  obtain ⟨f2, σ2, l2, cs, h4, e2, o, p2⟩ := loopF_inv (st := frS N (.sc (.aug 1 (.bin .mod (.v 2) (.c (.int 4))) (.idx (.v 0) (.v 2))) .sn) 2)
    (src := .rng 0 (xs.length : Nat)) (N := xs.length) (P := fun i f σ' => ∃ cs : List Int, cs.length = 4 ∧ σ' = σ ++ [.list (cs.map .int)] ∧ ∃ c, f = [some (.d (.lst (xs.map .int))), some (.d (.ref σ.length)), c]) (it := fun i => .int (i : Nat))
    (fun i f σ' hi _ => rng0_item hi) (fun f σ' _ => rng0_end)
    (fun i f σ' hi ⟨cs, hc, q, c, q2⟩ => by
      subst q; subst q2
      obtain ⟨cs', hc', h⟩ := cells_step (R := N) (c := c) hc (List.getElem?_eq_getElem hi) (by lia) rfl
      exact ⟨_, _, h, cs', hc', rfl, _, rfl⟩)
    (cntOf (.rng 0 (xs.length : Nat)) (σ ++ [.list [.int 576371, .int 38694572, .int 16, .int 186]])) 0 [some (.d (.lst (xs.map .int))), some (.d (.ref σ.length)), .none] (σ ++ [.list [.int 576371, .int 38694572, .int 16, .int 186]]) (by have := rng0_cnt (σ := σ ++ [.list [.int 576371, .int 38694572, .int 16, .int 186]]) (n := xs.length); lia) (Nat.zero_le _) ⟨[576371, 38694572, 16, 186], rfl, rfl, _, rfl⟩
  subst e2; subst p2
  have hlen : BiR (σ ++ [.list [.int 576371, .int 38694572, .int 16, .int 186]]) .len [.lst (xs.map .int)] (.int (xs.length : Nat)) := by
    have := len_lst (σ := σ ++ [.list [.int 576371, .int 38694572, .int 16, .int 186]]) (xs := xs.map .int) (by simp; lia)
    rw [List.length_map] at this; exact this
  exact ⟨cs, h4, callF_fn (l := .ret _) (f := [some (.d (.lst (xs.map .int))), .none, .none]) rfl rfl (e_sc (e_asg (e_hl (e_cons e_c (e_cons e_c (e_cons e_c (e_cons e_c e_nil)))) rfl) (by show 1 < 3; decide)) (e_sc (e_fr (e_bi (e_cons (e_bi (e_cons (e_v rfl) e_nil) hlen) e_nil) (rng_of (by lia))) (by show 2 < 3; decide) l2) (e_sret (e_ret (e_v rfl)))))⟩
end Mine
end
section
namespace Mine
open PySem
variable {σ : H} {N k : Nat} {R : Nat} {f g : Fm} {c0 c1 c2 c3 : Int}
theorem compV_rng {R : Nat} {cond elt : X} {caps : List Nat} {cs : List AD} {n : Nat} {G : Nat → Option AD} (hc : capsD f caps = some cs) (hs : ∀ i, i < n → TC R cond elt (frameC (.int (i : Nat)) cs) σ (G i) σ) : CV R elt cond (.rng 0 (n : Nat)) f caps σ ((List.range n).filterMap G) σ :=
  compV_pure hc rng0_cnt (fun _ hi => rng0_item hi) rng0_end hs
noncomputable def wayF (c0 : Int) (i : Nat) : Nat := ((c0.fdiv (8 ^ i)).fmod 8).toNat
noncomputable def portF (c1 : Int) (i : Nat) : Int := 8 * (c1.fdiv (10 ^ i)).fmod 10 + i - 37
noncomputable def wayL (w : Nat → Nat) : List AD := (List.range 8).map fun i => .int (w i : Nat)
theorem way_at {w : Nat → Nat} {i : Nat} (h : i < 8) : (wayL w)[i]? = some (.int (w i : Nat)) := by
  unfold wayL; rw [List.getElem?_map, List.getElem?_range h]; rfl
theorem wayF_eq (i : Nat) : (c0.fdiv (8 ^ i)).fmod 8 = (wayF c0 i : Nat) ∧ wayF c0 i < 8 := by
  obtain ⟨q, h, e⟩ := fmod_nat (c0.fdiv (8 ^ i)) (m := 8) (by decide)
  have e' : (c0.fdiv (8 ^ i)).fmod 8 = (q : Int) := e
  unfold wayF; rw [e']
  exact ⟨by simp, by simpa using h⟩
theorem portF_le (i : Nat) (hi : i < 8) : (portF c1 i).natAbs < 48 := by
  obtain ⟨q, h, e⟩ := fmod_nat (c1.fdiv (10 ^ i)) (m := 10) (by decide)
  have e' : (c1.fdiv (10 ^ i)).fmod 10 = (q : Int) := e
  unfold portF; rw [e']; lia
theorem portF_inj (i j : Nat) (hi : i < 8) (hj : j < 8) (h : portF c1 i = portF c1 j) : i = j := by
  unfold portF at h; lia
theorem ring_of (hx : x0 < 8) : Ring (wayF c0) x0 (portF c1) := ⟨fun i _ => (wayF_eq i).2, hx, portF_inj⟩
theorem pow_ne {a i : Nat} (ha : 0 < a) : ((a : Int) ^ i) ≠ 0 := by
  have : ((a : Int) ^ i) = ((a ^ i : Nat) : Int) := by simp
  rw [this]
  have := Nat.pow_pos (n := i) ha
  lia
theorem b_pow {a i : Nat} (ha : a < 1024) (hi : i < 1024) : binD .pow (.int (a : Nat)) (.int (i : Nat)) = some (.int ((a : Int) ^ i)) := by
  show bIf (decide ((a : Int).natAbs < 1024) && decide ((0 : Int) ≤ i) && decide ((i : Int) < 1024)) (some (AD.int ((a : Int) ^ i))) = _
  exact bIf_t (by rw [decide_eq_true (by lia), decide_eq_true (by lia), decide_eq_true (by lia)]; rfl)
theorem b_fdivI {a b : Int} (h : b ≠ 0) : binD .fdiv (.int a) (.int b) = some (.int (a.fdiv b)) := by
  show bIf (b != 0) _ = _
  exact bIf_t (bne_iff_ne.mpr h)
noncomputable def cellsL (c0 c1 c2 c3 : Int) : List AD := [.int c0, .int c1, .int c2, .int c3]
theorem s_way (hk : σ[k]? = some (.list (cellsL c0 c1 c2 c3))) (h1 : g[1]? = some (some (.d (.ref k)))) (hl : g.length = 26) : Ev R l_1 g σ (.f .next (setF g 3 (.d (.lst (wayL (wayF c0)))))) σ := by
  have hc : capsD g [1] = some [.ref k] := caps_cons h1 rfl
  have hs : ∀ i, i < 8 → TC R .yes (.bin .mod (.bin .fdiv (.idx (.v 1) (.c (.int 0))) (.bin .pow (.c (.int 8)) (.v 0))) (.c (.int 8))) (frameC (.int (i : Nat)) [.ref k]) σ (some (.int (wayF c0 i : Nat))) σ := fun i hi => by
    have h := wayF_eq (c0 := c0) i
    refine turn_yes e_yes (e_bin (e_bin (e_idx (e_v rfl) e_c (idx_ref (i := 0) hk rfl (by decide))) (e_bin e_c (e_v rfl) (b_pow (a := 8) (by decide) (by lia))) (b_fdivI (pow_ne (a := 8) (by decide)))) e_c ((b_mod (n := 8) (by decide)).trans ?_))
    rw [← h.1]; rfl
  exact e_asgc (e_bi (e_cons e_c e_nil) (.rng1 (by decide) (by decide))) (CV.of (compV_rng (n := 8) (R := R) (cond := .yes) (elt := (.bin .mod (.bin .fdiv (.idx (.v 1) (.c (.int 0))) (.bin .pow (.c (.int 8)) (.v 0))) (.c (.int 8)))) (G := fun i => some (.int (wayF c0 i : Nat))) hc hs) (by rw [filterMap_some]; rfl)) (by rw [hl]; decide)
theorem s_ports (hk : σ[k]? = some (.list (cellsL c0 c1 c2 c3))) (h1 : g[1]? = some (some (.d (.ref k)))) (hl : g.length = 26) : Ev R l_2 g σ (.f .next (setF g 4 (.d (.lst (portsL (portF c1)))))) σ := by
  have hc : capsD g [1] = some [.ref k] := caps_cons h1 rfl
  have hs : ∀ i, i < 8 → TC R .yes (.bin .sub (.bin .add (.bin .mul (.c (.int 8)) (.bin .mod (.bin .fdiv (.idx (.v 1) (.c (.int 1))) (.bin .pow (.c (.int 10)) (.v 0))) (.c (.int 10)))) (.v 0)) (.c (.int 37))) (frameC (.int (i : Nat)) [.ref k]) σ (some (.int (portF c1 i))) σ := fun i hi =>
    turn_yes e_yes (e_bin (e_bin (e_bin e_c (e_bin (e_bin (e_idx (e_v rfl) e_c (idx_ref (i := 1) hk rfl (by decide))) (e_bin e_c (e_v rfl) (b_pow (a := 10) (by decide) (by lia))) (b_fdivI (pow_ne (a := 10) (by decide)))) e_c (b_mod (n := 10) (by decide))) rfl) (e_v rfl) rfl) e_c rfl)
  exact e_asg (e_comp (e_bi (e_cons e_c e_nil) (.rng1 (by decide) (by decide))) (CV.of (compV_rng (n := 8) (R := R) (cond := .yes) (elt := (.bin .sub (.bin .add (.bin .mul (.c (.int 8)) (.bin .mod (.bin .fdiv (.idx (.v 1) (.c (.int 1))) (.bin .pow (.c (.int 10)) (.v 0))) (.c (.int 10)))) (.v 0)) (.c (.int 37)))) (G := fun i => some (.int (portF c1 i))) hc hs) (by rw [filterMap_some]; rfl))) (by rw [hl]; decide)
theorem s_first (hk : σ[k]? = some (.list (cellsL c0 c1 c2 c3))) (h1 : g[1]? = some (some (.d (.ref k)))) (hl : g.length = 26) : ∃ q : Nat, q < 3 ∧ Ev R l_3 g σ (.f .next (setF g 5 (.d (.int (q : Nat))))) σ := by
  obtain ⟨q, h, e⟩ := fmod_nat (c2.fdiv 8) (m := 3) (by decide)
  exact ⟨q, h, e_asg (e_bin (e_bin (e_idx (e_v h1) e_c (idx_ref (i := 2) hk rfl (by decide))) e_c (b_fdiv (n := 8) (by decide))) e_c ((b_mod (n := 3) (by decide)).trans (by rw [show ((8 : Nat) : Int) = 8 from rfl, e]))) (by rw [hl]; decide)⟩
theorem pick2 {d : Int} {m : Nat} {x y : List Nat} {a b e : X} (hm : m ≠ 0) (ha : Ev R a g σ (.v (.d (.str (T x)))) σ) (hb : Ev R b g σ (.v (.d (.str (T y)))) σ) (he : Ev R e g σ (.v (.d (.int d))) σ) :
    ∃ z, (z = x ∨ z = y) ∧ Ev R (.idx (.ll (.cons a (.cons b .nil))) (.bin .mod (.bin .fdiv e (.c (.int (m : Nat)))) (.c (.int (2 : Nat))))) g σ (.v (.d (.str (T z)))) σ := by
  obtain ⟨q, hq, h⟩ := fmod_nat (d.fdiv m) (m := 2) (by decide)
  have hL : Ev R (.ll (.cons a (.cons b .nil))) g σ (.v (.d (.lst [.str (T x), .str (T y)]))) σ := e_ll (e_cons ha (e_cons hb e_nil)) rfl
  have hI : Ev R (.bin .mod (.bin .fdiv e (.c (.int (m : Nat)))) (.c (.int (2 : Nat)))) g σ (.v (.d (.int (q : Nat)))) σ := e_bin (e_bin he e_c (b_fdiv hm)) e_c ((b_mod (n := 2) (by decide)).trans (by rw [h]))
  match q, hq with
  | 0, _ => exact ⟨x, .inl rfl, e_idx hL hI (idx_lst rfl (by decide))⟩
  | 1, _ => exact ⟨y, .inr rfl, e_idx hL hI (idx_lst rfl (by decide))⟩
  | n + 2, h => lia
theorem s_head (hk : σ[k]? = some (.list (cellsL c0 c1 c2 c3))) (h1 : g[1]? = some (some (.d (.ref k)))) (hl : g.length = 26) : ∃ h, (40 ∉ h ∧ h.length ≤ 10) ∧ Ev R l_4 g σ (.f .next (setF g 6 (.d (.str (T h))))) σ := by
  obtain ⟨z, hz, e⟩ := pick2 (R := R) (g := g) (σ := σ) (d := c3) (m := 48) (by decide) (e_cs l_e) (e_cs l_ok) (e_idx (e_v h1) e_c (idx_ref (i := 3) hk rfl (by decide)))
  refine ⟨[32] ++ z, ?_, e_asg (e_bin (e_cs l_sp) e (add_T (by rcases hz with rfl | rfl <;> simp))) (by rw [hl]; decide)⟩
  rcases hz with rfl | rfl <;> decide
theorem s_tail (hk : σ[k]? = some (.list (cellsL c0 c1 c2 c3))) (h1 : g[1]? = some (some (.d (.ref k)))) (hl : g.length = 26) : ∃ h : List Nat, h.length ≤ 20 ∧ Ev R l_5 g σ (.f .next (setF g 7 (.d (.str (T h))))) σ := by
  obtain ⟨z, hz, e⟩ := pick2 (R := R) (g := g) (σ := σ) (d := c3) (m := 96) (by decide) (e_cs l_e) (e_cs l_tail) (e_idx (e_v h1) e_c (idx_ref (i := 3) hk rfl (by decide)))
  refine ⟨z, ?_, e_asg e (by rw [hl]; decide)⟩
  rcases hz with rfl | rfl <;> decide
noncomputable def ent (p : Nat → Int) (i : Nat) : AO := .list [.int (p i), .int (i : Nat)]
noncomputable def entH (p : Nat → Int) (x : AO) (n : Nat) : H := [x] ++ (List.range n).map (ent p)
theorem entH_len {p : Nat → Int} {x : AO} {n : Nat} : (entH p x n).length = 1 + n := by unfold entH; simp; lia
theorem entH_ents {p : Nat → Int} {x : AO} : Ents p (entH p x 8) := fun i hi => by
  unfold entH
  rw [List.getElem?_append_right (by simp)]
  simp [hi, ent]
theorem entH_succ {p : Nat → Int} {x : AO} {n : Nat} : entH p x n ++ [ent p n] = entH p x (n + 1) := by
  unfold entH; rw [List.range_succ, List.map_append, List.append_assoc]; rfl
theorem s_entries {p : Nat → Int} {x : AO} (h4 : g[4]? = some (some (.d (.lst (portsL p))))) (hl : g.length = 26) : Ev R l_6 g [x] (.f .next (setF g 8 (.d (.lst ((List.range 8).map En))))) (entH p x 8) := by
  obtain ⟨σ', e, rfl⟩ := p_loopC (n := R) (cond := .yes) (elt := .hl (.cons (.idx (.v 1) (.v 0)) (.cons (.v 0) .nil))) (ys := [.lst (portsL p)]) (src := .rng 0 (8 : Nat)) (N := 8) (it := fun i => .int (i : Nat)) (g := fun i => some (En i)) (P := fun i σ => σ = entH p x i)
    (fun i σ hi _ => rng0_item hi) (fun σ _ => rng0_end) (fun i σ hi e => by
      subst e
      have h : En i = .ref (entH p x i).length := by rw [entH_len]; rfl
      rw [h]
      exact ⟨_, .yes e_yes (e_hl (e_cons (e_idx (e_v rfl) (e_v rfl) (idx_lst (ports_at hi) (by lia))) (e_cons (e_v rfl) e_nil)) rfl), entH_succ⟩) 9 0 [x] (by decide) (by decide) rfl
  rw [filterMap_some, ← List.range_eq_range'] at e
  exact e_asgc (d := .rng 0 (8 : Nat)) (e_bi (e_cons e_c e_nil) (.rng1 (by decide) (by decide))) ⟨_, caps_cons h4 rfl, e⟩ (by rw [hl]; decide)
end Mine
end
section
namespace Mine
open PySem
variable {σ : H} {N k : Nat} {R : Nat} {f g : Fm} {c0 c1 c2 c3 : Int} {p : Nat → Int} {w : Nat → Nat} {x0 : Nat}
theorem at_end' {x : AO} (h : σ.length = k) : (σ ++ [x])[k]? = some x := by subst h; exact at_end
theorem set_end' {x y : AO} (h : σ.length = k) : (σ ++ [x]).set k y = σ ++ [y] := by subst h; exact set_end
theorem set_back {n : Nat} (hl : g.length = 26) (hn : n < 26) : ∃ o, g = g.set n o := ⟨g[n], by simp⟩
theorem set_at {n : Nat} {o : Option AV} (hl : g.length = 26) (hn : n < 26) : (g.set n o)[n]? = some o := List.getElem?_set_self (by lia)
theorem set_off {n j : Nat} {o : Option AV} {v : Option (Option AV)} (hj : n ≠ j) (h : g[j]? = v) : (g.set n o)[j]? = v := by rw [List.getElem?_set_ne hj]; exact h
theorem e_hlN {es : X} {xs : List AD} {σ₁ : H} {n : Nat} (h : Ev R es f σ (.l xs) σ₁) (hn : fewL xs = true) (hl : σ₁.length = n) : Ev R (.hl es) f σ (.v (.d (.ref n))) (σ₁ ++ [.list xs]) := by
  subst hl; exact e_hl h hn
theorem s_book (E : Ents p σ) (hσ : σ.length = 9) (h8 : g[8]? = some (some (.d (.lst ((List.range 8).map En))))) (h9 : g[9]? = some (some (.d (.ref 9)))) (hl : g.length = 26) :
    ∃ o, Ev (N + 3) l_8 g (σ ++ [.list []]) (.f .next (g.set 10 o)) (σ ++ [.list ((bk p 8).map En)]) := by
  have hk : ∀ (σ : H) (M i : Nat), i < 8 → Ents p σ → CallS (M + 1) (.fn .port) [En i] .none σ (.int (p i)) σ := fun σ M i hi E => port_call (E i hi)
  have n8 : ((List.range 8).map En).length = 8 := by simp
  obtain ⟨o0, ho0⟩ := set_back (g := g) (n := 10) hl (by decide)
  obtain ⟨f1, σ1, l1, e1, o, p1⟩ := loopF_inv (st := frS (N + 3) (.sc (.ife (.tst (.cmp .isnot (.fc .insort (.cons (.v 9) (.cons (.v 10) .nil)) (.key (.fv .port))) (.c .none))) (.sc (.ret (.c (.bool false))) .sn) .sn) .sn) 10)
    (src := .lst ((List.range 8).map En)) (N := 8) (P := fun i f σ' => σ' = σ ++ [.list ((bk p i).map En)] ∧ ∃ o, f = g.set 10 o) (it := En)
    (fun i f σ' hi _ => lst_item (by rw [List.getElem?_map, List.getElem?_range hi]; rfl)) (fun f σ' _ => by have := lst_end (xs := (List.range 8).map En) (σ := σ'); rw [n8] at this; exact this)
    (fun i f σ' hi ⟨q, o, q2⟩ => by
      subst q; subst q2
      have hi' := ins_turn (N := N) (p := p) (kf := p) (g := .port) (σ := σ) rfl hk E hi
      rw [hσ] at hi'
      unfold frS setF
      rw [List.set_set]
      exact ⟨_, _, (e_sc (e_pass (e_tst (e_cmp (e_fc (e_cons (e_v (set_off (by decide) h9)) (e_cons (e_v (set_at hl (by decide))) e_nil)) (e_key e_fv) hi') e_c rfl))) e_sn), rfl, _, rfl⟩)
    9 0 g (σ ++ [.list []]) (by decide) (by decide) ⟨rfl, o0, ho0⟩
  subst e1; subst p1
  exact ⟨o, e_fr (e_v h8) (by rw [hl]; decide) l1⟩
theorem s_second (E : Ents p σ) (h8 : g[8]? = some (some (.d (.lst ((List.range 8).map En))))) : Ev (N + 4) l_9 g σ (.f .next g) (σ ++ [.list ((bk (qf p) 8).map En)]) :=
  e_pass (e_nott (e_tst (e_fc (e_cons (e_v h8) e_nil) e_nok (second_call E))))
theorem s_plain0 (hk : σ[0]? = some (.list (cellsL c0 c1 c2 c3))) (h1 : g[1]? = some (some (.d (.ref 0)))) (hl : g.length = 26) (hσ : σ.length = 11) : ∃ q : Nat, q < 8 ∧ Ev R l_10 g σ (.f .next (setF g 11 (.d (.ref 11)))) (σ ++ [.list [.int (q : Nat)]]) := by
  obtain ⟨q, h, e⟩ := fmod_nat c2 (m := 8) (by decide)
  exact ⟨q, h, e_asg (e_hlN (e_cons (e_bin (e_idx (e_v h1) e_c (idx_ref (i := 2) hk rfl (by decide))) e_c ((b_mod (n := 8) (by decide)).trans (by rw [e]))) e_nil) rfl hσ) (by rw [hl]; decide)⟩
theorem idx_m1 {xs : List AD} {x : AD} (h : σ[k]? = some (.list (xs ++ [x]))) : idxD σ (.ref k) (.int (-1)) = some x := by
  rw [idxD_eq, bIf_t (by decide)]
  unfold idxK; simp only [h]
  show (if 0 < (xs ++ [x]).length then (xs ++ [x])[(xs ++ [x]).length - 1 - 0]? else Option.none) = _
  simp
theorem append_at {l : List AD} {y : AD} (hσ : σ.length = k) (hl : l.length ≤ 5000) : SmR (σ ++ [.list l]) .append (.ref k) [y] .none (σ ++ [.list (l ++ [y])]) := by
  have h := SmR.append (y := y) (at_end' (x := AO.list l) hσ) hl
  rw [set_end' hσ] at h; exact h
theorem listAt {l : List AD} (h : σ[k]? = some (.list l)) : hasM σ .append (.ref k) = true := by
  show isListAt σ k = true
  unfold isListAt; rw [h]
theorem plainL_succ {o : Nat → Nat} {n : Nat} : plainL o n ++ [.int (o n : Nat)] = plainL o (n + 1) := by
  unfold plainL; rw [List.range_succ, List.map_append]; rfl
theorem s_plain (G : Ring w x0 p) (hσ : σ.length = 11) (h3 : g[3]? = some (some (.d (.lst (wayL w))))) (h11 : g[11]? = some (some (.d (.ref 11)))) (hl : g.length = 26) :
    ∃ o, Ev R l_11 g (σ ++ [.list [.int (x0 : Nat)]]) (.f .next (g.set 12 o)) (σ ++ [.list (plainL (orb w x0) 17)]) := by
  obtain ⟨o0, ho0⟩ := set_back (g := g) (n := 12) hl (by decide)
  obtain ⟨f1, σ1, l1, e1, o, p1⟩ := loopF_inv (st := frS R (.sc (.ex (.sm .append (.v 11) (.cons (.idx (.v 3) (.idx (.v 11) (.neg (.c (.int 1))))) .nil))) .sn) 12)
    (src := .rng 0 (16 : Nat)) (N := 16) (P := fun i f σ' => σ' = σ ++ [.list (plainL (orb w x0) (i + 1))] ∧ ∃ o, f = g.set 12 o) (it := fun i => .int (i : Nat))
    (fun i f σ' hi _ => rng0_item hi) (fun f σ' _ => rng0_end)
    (fun i f σ' hi ⟨q, o, q2⟩ => by
      subst q; subst q2
      unfold frS setF
      rw [List.set_set]
      have h8 := orb_lt G.hw G.h0 i
      have hat : (σ ++ [AO.list (plainL (orb w x0) (i + 1))])[11]? = some (.list (plainL (orb w x0) i ++ [.int (orb w x0 i : Nat)])) := by rw [plainL_succ]; exact at_end' hσ
      have hap := append_at (l := plainL (orb w x0) (i + 1)) (y := .int (orb w x0 (i + 1) : Nat)) hσ (by unfold plainL; simp; lia)
      rw [plainL_succ] at hap
      exact ⟨_, _, (e_sc (e_ex (e_sm (e_v (set_off (by decide) h11)) (listAt (at_end' hσ)) (e_cons (e_idx (e_v (set_off (by decide) h3)) (e_idx (e_v (set_off (by decide) h11)) (e_neg e_c) (idx_m1 hat)) (idx_lst (way_at h8) (by lia))) e_nil) hap)) e_sn), rfl, _, rfl⟩)
    17 0 g (σ ++ [.list [.int (x0 : Nat)]]) (by decide) (by decide) ⟨rfl, o0, ho0⟩
  subst e1; subst p1
  exact ⟨o, e_fr (e_bi (e_cons e_c e_nil) (.rng1 (by decide) (by decide))) (by rw [hl]; decide) l1⟩
theorem s_least (G : Ring w x0 p) (hp : σ[11]? = some (.list (plainL (orb w x0) 17))) (h4 : g[4]? = some (some (.d (.lst (portsL p))))) (h11 : g[11]? = some (some (.d (.ref 11)))) (hl : g.length = 26) :
    ∃ m tm, 8 ≤ tm ∧ p (orb w x0 tm) = m ∧ (∀ t, 8 ≤ t → t < 16 → m ≤ p (orb w x0 t)) ∧ Ev R l_12 g σ (.f .next (setF g 13 (.d (.int m)))) σ := by
  obtain ⟨m, h1, h2⟩ := min_ex ((List.range' 8 8).map fun t => p (orb w x0 t)) (by simp)
  obtain ⟨tm, ht, hm⟩ := List.mem_map.mp h1
  have ht' := range'_mem.mp ht
  have hmin : ∀ t, 8 ≤ t → t < 16 → m ≤ p (orb w x0 t) := fun t a b => h2 _ (List.mem_map.mpr ⟨t, range'_mem.mpr ⟨a, by lia⟩, rfl⟩)
  refine ⟨m, tm, ht'.1, hm, hmin, ?_⟩
  have hc : capsD g [4] = some [.lst (portsL p)] := caps_cons h4 rfl
  have h8 := orb_lt G.hw G.h0
  have hs : ∀ t ∈ List.range' 8 8, TC R .yes (.idx (.v 1) (.v 0)) (frameC (.int (orb w x0 t : Nat)) [.lst (portsL p)]) σ (some (.int (p (orb w x0 t)))) σ :=
    fun t _ => turn_yes e_yes (e_idx (e_v rfl) (e_v rfl) (idx_lst (ports_at (h8 t)) (by have := h8 t; lia)))
  have hcv := CV.of (compV_map (R := R) (cond := .yes) (elt := (.idx (.v 1) (.v 0))) (f := g) (caps := [4]) (g := fun t => some (.int (p (orb w x0 t)))) (l := List.range' 8 8) (F := fun t => .int (orb w x0 t : Nat)) (cs := [.lst (portsL p)]) (.inl rfl) rfl (by simp) hc hs) (by rw [filterMap_some])
  exact e_asg (e_bi (e_cons (e_comp (e_slc (e_v h11) (e_som e_c) (e_som e_c) (p_part (n := 8) (by decide)) (p_part (n := 16) (by decide)) (plain_slc (a := 8) (b := 16) hp (by decide) (by decide) (by decide))) hcv) e_nil) (minl_map (F := fun t => p (orb w x0 t)) h1 h2)) (by rw [hl]; decide)
theorem s_comings {m : Int} (G : Ring w x0 p) (hp : σ[11]? = some (.list (plainL (orb w x0) 17))) (h4 : g[4]? = some (some (.d (.lst (portsL p))))) (h11 : g[11]? = some (some (.d (.ref 11)))) (h13 : g[13]? = some (some (.d (.int m)))) (hl : g.length = 26) :
    Ev R l_13 g σ (.f .next (setF g 14 (.d (.lst (((List.range 17).filter fun t => decide (p (orb w x0 t) = m)).map fun t => .int (t : Nat)))))) σ := by
  have hc : capsD g [13, 11, 4] = some [.int m, .ref 11, .lst (portsL p)] := caps_cons h13 (caps_cons h11 (caps_cons h4 rfl))
  have h8 := orb_lt G.hw G.h0
  have hs : ∀ i, i < 17 → TC R (.cnd (.tst (.cmp .eq (.idx (.v 3) (.idx (.v 2) (.v 0))) (.v 1)))) (.v 0) (frameC (.int (i : Nat)) [.int m, .ref 11, .lst (portsL p)]) σ (bif decide (p (orb w x0 i) = m) then some (.int (i : Nat)) else Option.none) σ := fun i hi =>
    turn_if (e_cnd (e_tst (e_cmp (e_idx (e_v rfl) (e_idx (e_v rfl) (e_v rfl) (idx_ref hp (plain_at hi) (by lia))) (idx_lst (ports_at (h8 i)) (by have := h8 i; lia))) (e_v rfl) eq_int))) (e_v rfl)
  exact e_asg (e_comp (e_bi (e_cons e_c e_nil) (.rng1 (by decide) (by decide))) (CV.of (compV_rng (n := 17) (R := R) (cond := (.cnd (.tst (.cmp .eq (.idx (.v 3) (.idx (.v 2) (.v 0))) (.v 1))))) (elt := (.v 0)) (G := fun i => bif decide (p (orb w x0 i) = m) then some (.int (i : Nat)) else Option.none) hc hs) (by rw [filterMap_bif]))) (by rw [hl]; decide)
noncomputable def dueT : X := (.tst (.cmp .eq (.comp (.v 0) [11, 4, 12] (.slc (.v 11) (.som (.bin .add (.v 12) (.c (.int 1)))) (.som (.v 15))) (.cnd (.tst (.cmp .le (.idx (.v 2) (.v 0)) (.idx (.v 2) (.idx (.v 1) (.v 3))))))) (.ll .nil)))
noncomputable def dueA : X := (.sc (.ex (.sm .append (.v 16) (.cons (.tp (.cons (.bin .mul (.c (.str (Str.ofString " "))) (.v 12)) (.cons (.bi .chr (.cons (.bin .add (.c (.int 97)) (.idx (.v 11) (.v 12))) .nil)) .nil))) .nil))) .sn)
theorem alive_range {P : Nat → Int} {b i : Nat} : ((List.range' (i + 1) (b - (i + 1))).filter fun t => decide (P t ≤ P i)).isEmpty = aliveB P b i := by
  rw [Bool.eq_iff_iff, alive_iff, List.isEmpty_iff, List.filter_eq_nil_iff]
  constructor
  · intro h u h1 h2
    have := h u (range'_mem.mpr ⟨by lia, by lia⟩)
    simp at this; exact this
  · intro h u hu
    have := range'_mem.mp hu
    have := h u (by lia) (by lia)
    simp; exact this
theorem s_due_step (G : Ring w x0 p) {i b : Nat} {xs : List Nat} (hp : σ[11]? = some (.list (plainL (orb w x0) 17))) (hσ : σ.length = 12) (hi : i < b) (hb : b ≤ 16) (hx : xs.length ≤ 20)
    (h4 : f[4]? = some (some (.d (.lst (portsL p))))) (h11 : f[11]? = some (some (.d (.ref 11)))) (h12 : f[12]? = some (some (.d (.int (i : Nat))))) (h15 : f[15]? = some (some (.d (.int (b : Nat))))) (h16 : f[16]? = some (some (.d (.ref 12)))) :
    Ev R (.sc (.ife dueT dueA .sn) .sn) f (σ ++ [.list (xs.map (pc (orb w x0)))]) (.g .next f) (σ ++ [.list ((xs ++ [i].filter (aliveB (fun t => p (orb w x0 t)) b)).map (pc (orb w x0)))]) := by
  have h8 := orb_lt G.hw G.h0
  have hp' := at_app (x := .list (xs.map (pc (orb w x0)))) hp
  have hc : capsD f [11, 4, 12] = some [.ref 11, .lst (portsL p), .int (i : Nat)] := caps_cons h11 (caps_cons h4 (caps_cons h12 rfl))
  generalize hσ' : σ ++ [AO.list (xs.map (pc (orb w x0)))] = σ' at *
  have hs : ∀ t ∈ List.range' (i + 1) (b - (i + 1)), TC R (.cnd (.tst (.cmp .le (.idx (.v 2) (.v 0)) (.idx (.v 2) (.idx (.v 1) (.v 3)))))) (.v 0) (frameC (.int (orb w x0 t : Nat)) [.ref 11, .lst (portsL p), .int (i : Nat)]) σ' (bif decide (p (orb w x0 t) ≤ p (orb w x0 i)) then some (.int (orb w x0 t : Nat)) else Option.none) σ' := fun t _ =>
    turn_if (e_cnd (e_tst (e_cmp (e_idx (e_v rfl) (e_v rfl) (idx_lst (ports_at (h8 t)) (by have := h8 t; lia))) (e_idx (e_v rfl) (e_idx (e_v rfl) (e_v rfl) (idx_ref hp' (plain_at (by lia)) (by lia))) (idx_lst (ports_at (h8 i)) (by have := h8 i; lia))) le_int))) (e_v rfl)
  have hcv := CV.of (compV_map (R := R) (cond := (.cnd (.tst (.cmp .le (.idx (.v 2) (.v 0)) (.idx (.v 2) (.idx (.v 1) (.v 3))))))) (elt := (.v 0)) (f := f) (caps := [11, 4, 12]) (g := fun t => bif decide (p (orb w x0 t) ≤ p (orb w x0 i)) then some (.int (orb w x0 t : Nat)) else Option.none) (l := List.range' (i + 1) (b - (i + 1))) (F := fun t => .int (orb w x0 t : Nat)) (.inl rfl) rfl (by simp; lia) hc hs) (by rw [filterMap_bif])
  have hT : Ev R dueT f σ' (.b (aliveB (fun t => p (orb w x0 t)) b i)) σ' := by
    refine e_tst (e_cmp (e_comp (e_slc (e_v h11) (e_som (e_bin (e_v h12) e_c add_one)) (e_som (e_v h15)) (p_part (by lia)) (p_part (by lia)) (plain_slc hp' (by decide) (by lia) (by lia))) hcv) (e_ll e_nil rfl) ?_)
    rw [eq_nil, List.isEmpty_map, alive_range (P := fun t => p (orb w x0 t))]
  cases ha : aliveB (fun t => p (orb w x0 t)) b i with
  | true =>
    rw [ha] at hT
    have hf : [i].filter (aliveB (fun t => p (orb w x0 t)) b) = [i] := List.filter_eq_self.mpr fun a h => by rw [List.mem_singleton] at h; subst h; exact ha
    rw [hf]
    have hap := append_at (σ := σ) (l := xs.map (pc (orb w x0))) (y := pc (orb w x0) i) hσ (by simp; lia)
    rw [hσ'] at hap
    have hm : binD .mul (.str (T [32])) (.int (i : Nat)) = some (.str (T (bl i))) := mul_T (by decide) (by lia)
    refine e_sc (e_ife_t hT (e_sc (e_ex (e_sm (e_v h16) (listAt (by rw [← hσ']; exact at_end' hσ)) (e_cons (e_tp (e_cons (e_bin (e_cs l_sp) (e_v h12) hm) (e_cons (e_bi (e_cons (e_bin e_c (e_idx (e_v h11) (e_v h12) (idx_ref hp' (plain_at (by lia)) (by lia))) (z := .int ((97 + orb w x0 i : Nat) : Int)) rfl) e_nil) (chr_T (by have := h8 i; lia))) e_nil)) rfl) e_nil) hap)) e_sn)) ?_
    rw [List.map_append]; exact e_sn
  | false =>
    rw [ha] at hT
    have hf : [i].filter (aliveB (fun t => p (orb w x0 t)) b) = [] := List.filter_eq_nil_iff.mpr fun a h => by rw [List.mem_singleton] at h; subst h; rw [ha]; decide
    rw [hf, List.append_nil, hσ']
    exact e_sc (e_pass hT) e_sn
theorem s_due (G : Ring w x0 p) {b : Nat} (hp : σ[11]? = some (.list (plainL (orb w x0) 17))) (hσ : σ.length = 12) (hb : b ≤ 16)
    (h4 : g[4]? = some (some (.d (.lst (portsL p))))) (h11 : g[11]? = some (some (.d (.ref 11)))) (h15 : g[15]? = some (some (.d (.int (b : Nat))))) (h16 : g[16]? = some (some (.d (.ref 12)))) (hl : g.length = 26) :
    ∃ o, Ev R l_16 g (σ ++ [.list []]) (.f .next (g.set 12 o)) (σ ++ [.list ((stk (fun t => p (orb w x0 t)) b).map (pc (orb w x0)))]) := by
  obtain ⟨o0, ho0⟩ := set_back (g := g) (n := 12) hl (by decide)
  obtain ⟨f1, σ1, l1, e1, o, p1⟩ := loopF_inv (st := frS R (.sc (.ife dueT dueA .sn) .sn) 12)
    (src := .rng 0 (b : Nat)) (N := b) (P := fun i f σ' => σ' = σ ++ [.list (((List.range i).filter (aliveB (fun t => p (orb w x0 t)) b)).map (pc (orb w x0)))] ∧ ∃ o, f = g.set 12 o) (it := fun i => .int (i : Nat))
    (fun i f σ' hi _ => rng0_item hi) (fun f σ' _ => rng0_end)
    (fun i f σ' hi ⟨q, o, q2⟩ => by
      subst q; subst q2
      unfold frS setF
      rw [List.set_set]
      have hx : ((List.range i).filter (aliveB (fun t => p (orb w x0 t)) b)).length ≤ 20 := by
        have := List.length_filter_le (aliveB (fun t => p (orb w x0 t)) b) (List.range i)
        rw [List.length_range] at this; lia
      refine ⟨_, _, (s_due_step (R := R) (f := g.set 12 (some (.d (.int (i : Nat))))) G hp hσ hi hb hx (set_off (by decide) h4) (set_off (by decide) h11) (set_at hl (by decide)) (set_off (by decide) h15) (set_off (by decide) h16)), ?_, _, rfl⟩
      rw [List.range_succ, List.filter_append])
    (cntOf (.rng 0 (b : Nat)) (σ ++ [.list []])) 0 g (σ ++ [.list []]) (by have := rng0_cnt (σ := σ ++ [.list []]) (n := b); lia) (Nat.zero_le _) ⟨rfl, o0, ho0⟩
  subst e1; subst p1
  exact ⟨o, e_fr (e_bi (e_cons (e_v h15) e_nil) (rng_of (by lia))) (by rw [hl]; decide) l1⟩
theorem s_kept {o : Nat → Nat} {l : List Nat} {a : Nat} {r : List AD} (hk : σ[12]? = some (.list (l.map (pc o)))) (hlt : ∀ s ∈ l, s < 20) (hll : l.length ≤ 20) (h14 : g[14]? = some (some (.d (.lst (.int (a : Nat) :: r))))) (h16 : g[16]? = some (some (.d (.ref 12)))) (hl : g.length = 26) :
    Ev R l_17 g σ (.f .next (setF g 17 (.d (.int ((l.filter fun s => decide (s < a)).length : Nat))))) σ := by
  have hc : capsD g [14] = some [.lst (.int (a : Nat) :: r)] := caps_cons h14 rfl
  have hs : ∀ s ∈ l, TC R (.cnd (.tst (.cmp .lt (.bi .len (.cons (.idx (.v 0) (.c (.int 0))) .nil)) (.idx (.v 1) (.c (.int 0)))))) (.v 0) (frameC (pc o s) [.lst (.int (a : Nat) :: r)]) σ (bif decide (s < a) then some (pc o s) else Option.none) σ := fun s hs =>
    turn_if (e_cnd (e_tst (e_cmp (e_bi (e_cons (e_idx (e_v rfl) e_c (idx_tup (i := 0) rfl (by decide))) e_nil) (len_bl (by have := hlt s hs; lia))) (e_idx (e_v rfl) e_c (idx_lst (i := 0) rfl (by decide))) (lt_int.trans (congrArg some (decide_eq_decide.mpr (by lia))))))) (e_v rfl)
  have hcv := CV.of (compV_map (R := R) (cond := (.cnd (.tst (.cmp .lt (.bi .len (.cons (.idx (.v 0) (.c (.int 0))) .nil)) (.idx (.v 1) (.c (.int 0))))))) (elt := (.v 0)) (f := g) (caps := [14]) (g := fun s => bif decide (s < a) then some (pc o s) else Option.none) (l := l) (F := pc o) (.inr ⟨12, rfl, hk⟩) rfl (by lia) hc hs) (by rw [filterMap_bif])
  have hf := List.length_filter_le (fun s => decide (s < a)) l
  exact e_asg (e_bi (e_cons (e_comp (e_v h16) hcv) e_nil) (by have := len_lst (σ := σ) (xs := (l.filter fun s => decide (s < a)).map (pc o)) (by simp; lia); rw [List.length_map] at this; exact this)) (by rw [hl]; decide)
noncomputable def MF (s : AD) (w : Nat → Nat) (p : Nat → Int) (fi : Nat) (hd tl : List Nat) (a10 a14 : Option AV) (m : Int) (b kept : Nat) (txt : List Nat) (a2 a12 a20 a21 a22 a23 a24 a25 : Option AV) : Fm :=
  [some (.d s), some (.d (.ref 0)), a2, some (.d (.lst (wayL w))), some (.d (.lst (portsL p))), some (.d (.int (fi : Nat))), some (.d (.str (T hd))), some (.d (.str (T tl))), some (.d (.lst ((List.range 8).map En))), some (.d (.ref 9)), a10, some (.d (.ref 11)), a12, some (.d (.int m)), a14,
    some (.d (.int (b : Nat))), some (.d (.ref 12)), some (.d (.int (kept : Nat))), some (.d (.str (T txt))), some (.d (.ref 13)), a20, a21, a22, a23, a24, a25]
structure Low (w : Nat → Nat) (x0 : Nat) (p : Nat → Int) (c0 c1 c2 c3 : Int) (b : Nat) (σ : H) : Prop where
  e : Ents p σ
  h0 : σ[0]? = some (.list (cellsL c0 c1 c2 c3))
  h9 : σ[9]? = some (.list ((bk p 8).map En))
  h11 : σ[11]? = some (.list (plainL (orb w x0) 17))
  h12 : σ[12]? = some (.list ((stk (fun t => p (orb w x0 t)) b).map (pc (orb w x0))))
  len : σ.length = 13
theorem Low.app {b : Nat} {x : AO} (L : Low w x0 p c0 c1 c2 c3 b σ) : Ents p (σ ++ [x]) ∧ (σ ++ [x])[0]? = some (.list (cellsL c0 c1 c2 c3)) ∧ (σ ++ [x])[9]? = some (.list ((bk p 8).map En)) ∧ (σ ++ [x])[11]? = some (.list (plainL (orb w x0) 17)) ∧
    (σ ++ [x])[12]? = some (.list ((stk (fun t => p (orb w x0 t)) b).map (pc (orb w x0)))) ∧ (σ ++ [x])[13]? = some x :=
  ⟨L.e.app, at_app L.h0, at_app L.h9, at_app L.h11, at_app L.h12, at_end' L.len⟩
theorem book_find (G : Ring w x0 p) (E : Ents p σ) (h9 : σ[9]? = some (.list ((bk p 8).map En))) {j : Nat} (hj : j < 8) : ∃ c : Nat, c < 8 ∧ CallS (N + 3) (.fn .bleft) [.ref 9, .int (p j)] (some (.fn .port)) σ (.int (c : Nat)) σ ∧
    CallS (N + 3) (.fn .bright) [.ref 9, .int (p j)] (some (.fn .port)) σ (.int ((c + 1 : Nat) : Int)) σ ∧ idxD σ (.ref 9) (.int (c : Nat)) = some (En j) := by
  have hl8 := bk_len (p := p) 8
  have hs8 := bk_srt (p := p) 8
  obtain ⟨q3, q4⟩ := slice_eq hs8 (p j)
  have one1 : (bk p 8).filter (fun i => decide (p i = p j)) = [j] := by rw [bk_eq, range_one hj G.inj]
  rw [one1] at q3 q4
  have key : ∀ (M i : Nat), i < 8 → CallS (M + 1) (.fn .port) [En i] .none σ (.int (p i)) σ := fun M i hi => port_call (E i hi)
  have inb : ∀ i, i < 8 → (bk p 8).getD i 0 < 8 := fun i hi => bk_mem.mp (List.mem_of_getElem? (getD_at (by lia)))
  have idxl : ∀ i, i < 8 → (p ((bk p 8).getD i 0) < p j ↔ i < ((bk p 8).filter fun i => decide (p i < p j)).length) := fun i hi => by
    have := part_idx (down_lt (p := p) (p j)) hs8 (getD_at (l := bk p 8) (i := i) (by lia))
    rw [decide_eq_true_eq] at this; exact this
  have idxr : ∀ i, i < 8 → (p j < p ((bk p 8).getD i 0) ↔ ((bk p 8).filter fun i => decide (p i < p j)).length + 1 ≤ i) := fun i hi => by
    have := part_idx (down_le (p := p) (p j)) hs8 (getD_at (l := bk p 8) (i := i) (by lia))
    rw [decide_eq_true_eq, q3] at this; simp only [List.length_singleton] at this; lia
  have hb8 := filter_le (fun i => decide (p i ≤ p j)) (bk p 8)
  rw [q3, List.length_singleton] at hb8
  generalize hc : ((bk p 8).filter fun i => decide (p i < p j)).length = c at *
  have tk : ∀ M, Tells (M + 1) σ (.ref 9) (p j) (keyV (some (.fn .port))) 8 (fun i => p ((bk p 8).getD i 0)) wKey := fun M => tells_key (it := fun i => En ((bk p 8).getD i 0)) (fun i hi => idx_ref h9 (map_at (by lia)) (by lia)) fun i hi => key _ _ (inb i hi)
  have hlen : BiR σ .len [.ref 9] (.int (8 : Nat)) := by have := len_ref h9 (by simp [hl8]); rw [List.length_map, hl8] at this; exact this
  refine ⟨c, by lia, bleft_call (N := N + 2) (.two _) (.inr ⟨rfl, rfl, rfl⟩) (tk _) hlen (by decide) (Nat.zero_le _) (by lia) fun i _ hi => idxl i hi,
    bright_call (N := N + 2) (.two _) (.inr ⟨rfl, rfl, rfl⟩) (tk _) hlen (by decide) (Nat.zero_le _) (by lia) fun i _ hi => idxr i hi, idx_ref h9 ?_ (by lia)⟩
  have h1 : ((bk p 8).drop c).take 1 = [j] := q4
  have h2 : (((bk p 8).drop c).take 1)[0]? = some j := by rw [h1]; rfl
  rw [List.getElem?_take_of_lt (by decide), List.getElem?_drop] at h2
  rw [List.getElem?_map, show c = c + 0 from rfl, h2]; rfl
section
variable {s : AD} {fi : Nat} {hd tl : List Nat} {a10 a14 : Option AV} {m : Int} {b kept : Nat} {txt : List Nat} {a2 a12 a20 a21 a22 a23 a24 a25 : Option AV} {n : Int}
noncomputable def goTold : X := .fc .parse (.cons (.bin .add (.bin .add (.bin .add (.bin .add (.bin .add (.c (.str (Str.ofString "229"))) (.v 6)) (.c (.str (Str.ofString "(")))) (.fc .body (.cons (.v 21) (.cons (.v 24) (.cons (.idx (.v 1) (.c (.int 3))) .nil))) .nok)) (.c (.str (Str.ofString ")")))) (.v 7)) (.cons (.tp (.cons (.v 23) (.cons (.c (.int 21)) .nil))) .nil)) .nok
noncomputable def goX : X := (.sc (.ife (.tst (.cmp .isnot (.am .push (.v 19) (.cons (.bin .mul (.c (.str (Str.ofString " "))) (.v 12)) (.cons (.v 23) .nil))) (.c .none))) (.sc (.ret (.c (.bool false))) .sn) .sn) (.sc (.asg 24 (.idx (.v 4) (.idx (.v 3) (.v 21)))) (.sc (.asg 25 goTold) (.sc (.ife (.or (.orv (.tst (.cmp .ne (.v 25) (.tp (.cons (.v 23) (.cons (.v 24) .nil))))) (.orv (.tst (.cmp .ne (.bi .str (.cons (.idx (.v 25) (.c (.int 1))) .nil)) (.bi .str (.cons (.v 24) .nil)))) .fls))) (.sc (.ret (.c (.bool false))) .sn) .sn) (.sc (.asg 2 (.fc .bleft (.cons (.v 9) (.cons (.idx (.v 25) (.c (.int 1))) .nil)) (.key (.fv .port)))) (.sc (.ife (.or (.orv (.tst (.cmp .ne (.fc .bright (.cons (.v 9) (.cons (.idx (.v 25) (.c (.int 1))) .nil)) (.key (.fv .port))) (.bin .add (.v 2) (.c (.int 1))))) (.orv (.tst (.cmp .isnot (.idx (.v 9) (.v 2)) (.idx (.v 8) (.idx (.v 3) (.v 21))))) .fls))) (.sc (.ret (.c (.bool false))) .sn) .sn) (.sc (.asg 21 (.idx (.idx (.v 9) (.v 2)) (.c (.int 1)))) .sn)))))))
theorem told_ok {t : Nat} {port : Int} (L : Low w x0 p c0 c1 c2 c3 b σ) {x : AO} (hh : 40 ∉ hd) (hl : hd.length ≤ 10) (htl : tl.length ≤ 20) (hp : port.natAbs < 48) :
    Ev (N + 1) goTold (MF s w p fi hd tl a10 a14 m b kept txt a2 a12 a20 (some (.d (.int (t : Nat)))) a22 (some (.d (.str (T [97 + t])))) (some (.d (.int port))) a25) (σ ++ [x]) (.v (.d (.tup [.str (T [97 + t]), .int port]))) (σ ++ [x]) := by
  obtain ⟨hE, h0, h9, h11, h12, h13⟩ := L.app (x := x)
  obtain ⟨bd, mk, one, two, F, B, hb⟩ := body_call (N := N) (σ := σ ++ [x]) (place := (t : Int)) (port := port) (cell := c3) hp
  have hbl := B.len_le
  have hpar := parse_call (N := N) (σ := σ ++ [x]) (h := hd) (c := tl) (d0 := .str (T [97 + t])) (dr := [.int 21]) B hh hl htl
  have e : [50, 50, 57] ++ hd ++ [40] ++ bd ++ [41] ++ tl = 50 :: 50 :: 57 :: (hd ++ 40 :: (bd ++ 41 :: tl)) := by simp
  rw [← e] at hpar
  refine e_fc (e_cons (e_bin (e_bin (e_bin (e_bin (e_bin (e_cs l_229) (e_v rfl) (add_T ?_)) (e_cs l_op) (add_T ?_)) (e_fc (e_cons (e_v rfl) (e_cons (e_v rfl) (e_cons (e_idx (e_v rfl) e_c (idx_ref (i := 3) h0 rfl (by decide))) e_nil))) e_nok hb) (add_T ?_)) (e_cs l_cl) (add_T ?_)) (e_v rfl) (add_T ?_)) (e_cons (e_tp (e_cons (e_v rfl) (e_cons e_c e_nil)) rfl) e_nil)) e_nok hpar
  all_goals (simp only [List.length_append, List.length_cons, List.length_nil]; lia)
theorem go_ok (G : Ring w x0 p) {t : Nat} {l : List Nat} (L : Low w x0 p c0 c1 c2 c3 b σ) (hh : 40 ∉ hd) (hl : hd.length ≤ 10) (htl : tl.length ≤ 20) (hpl : ∀ i, i < 8 → (p i).natAbs < 48) (ht : t < 20) (hll : l.length ≤ 20) :
    ∃ a2 a24 a25, Ev (N + 4) goX (MF s w p fi hd tl a10 a14 m b kept txt a2' (some (.d (.int (t : Nat)))) a20 (some (.d (.int (orb w x0 t : Nat)))) a22 (some (.d (.str (T [97 + orb w x0 t])))) a24' a25') (σ ++ [.acc (l.map (pc (orb w x0))) n]) (.g .next (MF s w p fi hd tl a10 a14 m b kept txt a2 (some (.d (.int (t : Nat)))) a20 (some (.d (.int (orb w x0 (t + 1) : Nat)))) a22 (some (.d (.str (T [97 + orb w x0 t])))) a24 a25)) (σ ++ [.acc ((l ++ [t]).map (pc (orb w x0))) n]) := by
  have h8 := orb_lt G.hw G.h0
  have hw8 := h8 (t + 1)
  have hpush := push_call (n := N + 3) (σ := σ ++ [.acc (l.map (pc (orb w x0))) n]) (k := 13) (x := T (bl t)) (y := T [97 + orb w x0 t]) (at_end' L.len) (by simp; lia)
  rw [set_end' L.len] at hpush
  have hm : binD .mul (.str (T [32])) (.int (t : Nat)) = some (.str (T (bl t))) := mul_T (by decide) (by lia)
  have ep : l.map (pc (orb w x0)) ++ [.tup [.str (T (bl t)), .str (T [97 + orb w x0 t])]] = (l ++ [t]).map (pc (orb w x0)) := by rw [List.map_append]; rfl
  rw [ep] at hpush
  obtain ⟨hE, h0, h9, h11, h12, h13⟩ := L.app (x := .acc ((l ++ [t]).map (pc (orb w x0))) n)
  obtain ⟨c, hc, hb1, hb2, hb3⟩ := book_find (N := N + 1) (σ := σ ++ [.acc ((l ++ [t]).map (pc (orb w x0))) n]) (j := orb w x0 (t + 1)) G hE h9 hw8
  have hA := isAcc_at (at_end' (x := .acc (l.map (pc (orb w x0))) n) L.len)
  have htold := fun a2 a20 a22 a25 => told_ok (N := N + 3) (s := s) (fi := fi) (a10 := a10) (a14 := a14) (m := m) (kept := kept) (txt := txt) (a2 := a2) (a12 := some (.d (.int (t : Nat)))) (a20 := a20) (a22 := a22) (a25 := a25) (t := orb w x0 t) (port := p (orb w x0 (t + 1))) (x := .acc ((l ++ [t]).map (pc (orb w x0))) n) L hh hl htl (hpl _ hw8)
  have hstr := biStr (σ := σ ++ [.acc ((l ++ [t]).map (pc (orb w x0))) n]) (a := p (orb w x0 (t + 1))) (by have := hpl _ hw8; lia)
  refine ⟨some (.d (.int (c : Nat))), some (.d (.int (p (orb w x0 (t + 1))))), some (.d (.tup [.str (T [97 + orb w x0 t]), .int (p (orb w x0 (t + 1)))])), ?_⟩
  refine e_sc (e_pass (e_tst (e_cmp (e_am (e_v rfl) hA (e_cons (e_bin (e_cs l_sp) (e_v rfl) hm) (e_cons (e_v rfl) e_nil)) hpush) e_c rfl))) ?_
  refine e_sc (e_asg (e_idx (e_v rfl) (e_idx (e_v rfl) (e_v rfl) (idx_lst (way_at (h8 t)) (by have := h8 t; lia))) (idx_lst (ports_at (i := w (orb w x0 t)) hw8) (by have : w (orb w x0 t) < 8 := hw8; lia))) (by show 24 < 26; decide)) ?_
  refine e_sc (e_asg (htold _ _ _ _) (by show 25 < 26; decide)) ?_
  refine e_sc (e_pass (e_or (e_orv (e_tst (e_cmp (e_v rfl) (e_tp (e_cons (e_v rfl) (e_cons (e_v rfl) e_nil)) rfl) ne_told)) (e_orv (e_tst (e_cmp (e_bi (e_cons (e_idx (e_v rfl) e_c (idx_tup (i := 1) rfl (by decide))) e_nil) hstr) (e_bi (e_cons (e_v rfl) e_nil) hstr) (ne_T.trans (by rw [decide_eq_true rfl]; rfl)))) e_fls)))) ?_
  refine e_sc (e_asg (e_fc (e_cons (e_v rfl) (e_cons (e_idx (e_v rfl) e_c (idx_tup (i := 1) rfl (by decide))) e_nil)) (e_key e_fv) hb1) (by show 2 < 26; decide)) ?_
  refine e_sc (e_pass (e_or (e_orv (e_tst (e_cmp (e_fc (e_cons (e_v rfl) (e_cons (e_idx (e_v rfl) e_c (idx_tup (i := 1) rfl (by decide))) e_nil)) (e_key e_fv) hb2) (e_bin (e_v rfl) e_c add_one) ne_same)) (e_orv (e_tst (e_cmp (e_idx (e_v rfl) (e_v rfl) hb3) (e_idx (e_v rfl) (e_idx (e_v rfl) (e_v rfl) (idx_lst (way_at (h8 t)) (by have := h8 t; lia))) (idx_lst (d := En (orb w x0 (t + 1))) (i := w (orb w x0 t)) ?_ (by have : w (orb w x0 t) < 8 := hw8; lia))) ?_)) e_fls)))) ?_
  · rw [List.getElem?_map, List.getElem?_range (show w (orb w x0 t) < 8 from hw8)]; rfl
  · show some ((1 + orb w x0 (t + 1)) != (1 + orb w x0 (t + 1))) = _
    simp
  exact e_sc (e_asg (e_idx (e_idx (e_v rfl) (e_v rfl) hb3) e_c (idx_ref (i := 1) (hE _ hw8) rfl (by decide))) (by show 21 < 26; decide)) e_sn
end
structure Cat (w : Nat → Nat) (x0 : Nat) (p : Nat → Int) (m : Int) (a b : Nat) : Prop where
  G : Ring w x0 p
  hab : a < b
  b15 : b ≤ 15
  ha : p (orb w x0 a) = m
  hb : p (orb w x0 b) = m
  between : ∀ s, a < s → s < b → m < p (orb w x0 s)
  caught : ∀ s t, s < t → t ≤ b → orb w x0 s = orb w x0 t → (∀ u, s < u → u < t → p (orb w x0 s) < p (orb w x0 u)) → t = b
theorem Cat.same {m : Int} {a b : Nat} (C : Cat w x0 p m a b) : orb w x0 a = orb w x0 b := C.G.same C.ha C.hb
noncomputable abbrev PP (w : Nat → Nat) (x0 : Nat) (p : Nat → Int) : Nat → Int := fun t => p (orb w x0 t)
noncomputable def cutN (P : Nat → Int) (t : Nat) : Nat := ((stk P t).filter fun s => decide (P s < P t)).length
theorem cutN_le {P : Nat → Int} {t : Nat} : cutN P t ≤ (stk P t).length := filter_le _ _
theorem cut_take {P : Nat → Int} {t : Nat} : (stk P t).take (cutN P t) = (stk P t).filter fun s => decide (P s < P t) := by
  have e := part_down (down_lt (p := P) (P t)) (stk_srt (P := P) (t := t))
  unfold cutN
  conv => lhs; rhs; rw [← e]
  simp
theorem cut_drop {P : Nat → Int} {t : Nat} : (stk P t).drop (cutN P t) = (stk P t).filter fun s => !decide (P s < P t) := by
  have e := part_down (down_lt (p := P) (P t)) (stk_srt (P := P) (t := t))
  unfold cutN
  conv => lhs; rhs; rw [← e]
  simp
section
variable {m : Int} {a b : Nat} (C : Cat w x0 p m a b)
include C
theorem Cat.stands : a ∈ stk (PP w x0 p) b := stk_mem.mpr ⟨C.hab, fun u h1 h2 => by
  have := C.between u h1 h2
  show p (orb w x0 a) < p (orb w x0 u)
  rw [C.ha]; exact this⟩
theorem Cat.inDrop : a ∈ (stk (PP w x0 p) b).drop (cutN (PP w x0 p) b) := by
  rw [cut_drop, List.mem_filter]
  refine ⟨C.stands, ?_⟩
  have : ¬ PP w x0 p a < PP w x0 p b := by show ¬ p (orb w x0 a) < p (orb w x0 b); rw [C.ha, C.hb]; lia
  simp only [this, decide_false, Bool.not_false]
theorem Cat.catch {t : Nat} (ht : t ≤ b) : (((stk (PP w x0 p) t).drop (cutN (PP w x0 p) t)).filter fun s => decide (orb w x0 s = orb w x0 t)).isEmpty = !decide (t = b) := by
  by_cases h : t = b
  · subst h
    rw [decide_eq_true rfl]
    have : a ∈ ((stk (PP w x0 p) t).drop (cutN (PP w x0 p) t)).filter fun s => decide (orb w x0 s = orb w x0 t) := List.mem_filter.mpr ⟨C.inDrop, decide_eq_true C.same⟩
    cases hl : ((stk (PP w x0 p) t).drop (cutN (PP w x0 p) t)).filter fun s => decide (orb w x0 s = orb w x0 t) with
    | nil => rw [hl] at this; cases this
    | cons _ _ => rfl
  · rw [decide_eq_false h]
    show _ = true
    rw [List.isEmpty_iff, List.filter_eq_nil_iff]
    intro s hs hq
    have hs' := stk_mem.mp (List.mem_of_mem_drop hs)
    exact h (C.caught s t hs'.1 ht (of_decide_eq_true hq) hs'.2)
theorem Cat.kept : ((stk (PP w x0 p) b).filter fun s => decide (s < a)).length = cutN (PP w x0 p) b := by
  unfold cutN
  refine congrArg List.length (List.filter_congr fun s hs => decide_eq_decide.mpr ?_)
  obtain ⟨h1, h2⟩ := stk_mem.mp hs
  have hb : PP w x0 p b = m := C.hb
  rw [hb]
  constructor
  · intro h
    have h3 := h2 a h C.hab
    have : PP w x0 p a = m := C.ha
    rw [this] at h3; exact h3
  · intro h
    by_cases q : s < a
    · exact q
    · by_cases q2 : s = a
      · subst q2
        have : PP w x0 p s = m := C.ha
        lia
      · have := C.between s (by lia) h1
        have h' : p (orb w x0 s) < m := h
        lia
end
section
variable {s : AD} {fi : Nat} {hd tl : List Nat} {a10 a14 : Option AV} {m : Int} {a b : Nat} {a2 a12 a20 a21 a22 a23 a24 a25 : Option AV} {n : Int}
noncomputable abbrev KF (w : Nat → Nat) (x0 : Nat) (p : Nat → Int) (s : AD) (fi : Nat) (hd tl : List Nat) (a10 a14 : Option AV) (m : Int) (b : Nat) := MF s w p fi hd tl a10 a14 m b (cutN (PP w x0 p) b) (gtext (orb w x0) (stk (PP w x0 p) b))
noncomputable def catchT : X := (.tst (.cmp .ne (.cmp .ne (.comp (.v 0) [23] (.v 20) (.cnd (.tst (.cmp .eq (.idx (.v 0) (.c (.int 1))) (.v 1))))) (.ll .nil)) (.cmp .eq (.v 12) (.v 15))))
noncomputable def cutX (r : X) : X := (.sc (.asg 22 (.fc .cut (.cons (.v 19) (.cons (.idx (.v 4) (.v 21)) (.cons (.v 4) .nil))) .nok)) (.sc (.asg 20 (.am .popfrom (.v 19) (.cons (.v 22) .nil))) (.sc (.asg 23 (.bi .chr (.cons (.bin .add (.c (.int 97)) (.v 21)) .nil))) (.sc (.ife catchT (.sc (.ret (.c (.bool false))) .sn) .sn) r))))
theorem cut_ok (C : Cat w x0 p m a b) (L : Low w x0 p c0 c1 c2 c3 b σ) {t : Nat} (ht : t ≤ b) {r : X} {q : FL} {f' : Fm} {σ' : H}
    (h : Ev (N + 4) r (KF w x0 p s fi hd tl a10 a14 m b a2 (some (.d (.int (t : Nat)))) (some (.d (.lst (((stk (PP w x0 p) t).drop (cutN (PP w x0 p) t)).map (pc (orb w x0)))))) (some (.d (.int (orb w x0 t : Nat)))) (some (.d (.int (cutN (PP w x0 p) t : Nat)))) (some (.d (.str (T [97 + orb w x0 t])))) a24 a25) (σ ++ [.acc (((stk (PP w x0 p) t).take (cutN (PP w x0 p) t)).map (pc (orb w x0))) n]) (.g q f') σ') :
    Ev (N + 4) (cutX r) (KF w x0 p s fi hd tl a10 a14 m b a2 (some (.d (.int (t : Nat)))) a20 (some (.d (.int (orb w x0 t : Nat)))) a22 a23 a24 a25) (σ ++ [.acc ((stk (PP w x0 p) t).map (pc (orb w x0))) n]) (.g q f') σ' := by
  have h8 := orb_lt C.G.hw C.G.h0
  have hb15 := C.b15
  have hll : (stk (PP w x0 p) t).length ≤ 16 := by have := stk_len (P := PP w x0 p) (t := t); lia
  have h13 := at_end' (x := .acc ((stk (PP w x0 p) t).map (pc (orb w x0))) n) L.len
  have hcut := cut_call (N := N) (x := p (orb w x0 t)) (l := stk (PP w x0 p) t) C.G h13 (by lia) stk_srt
  have hpop := popfrom_call (n := N + 3) (kk := cutN (PP w x0 p) t) h13 (by simp; lia) (by rw [List.length_map]; exact cutN_le)
  rw [set_end' L.len, ← List.map_drop, ← List.map_take] at hpop
  refine e_sc (e_asg (e_fc (e_cons (e_v rfl) (e_cons (e_idx (e_v rfl) (e_v rfl) (idx_lst (ports_at (h8 t)) (by have := h8 t; lia))) (e_cons (e_v rfl) e_nil))) e_nok hcut) (by show 22 < 26; decide)) ?_
  refine e_sc (e_asg (e_am (e_v rfl) (isAcc_at h13) (e_cons (e_v rfl) e_nil) hpop) (by show 20 < 26; decide)) ?_
  refine e_sc (e_asg (e_bi (e_cons (e_bin e_c (e_v rfl) (z := .int ((97 + orb w x0 t : Nat) : Int)) rfl) e_nil) (chr_T (by have := h8 t; lia))) (by show 23 < 26; decide)) ?_
  refine e_sc (e_pass ?_) h
  generalize hσ : σ ++ [AO.acc (((stk (PP w x0 p) t).take (cutN (PP w x0 p) t)).map (pc (orb w x0))) n] = σ1 at *
  have hs : ∀ u ∈ (stk (PP w x0 p) t).drop (cutN (PP w x0 p) t), TC (N + 4) (.cnd (.tst (.cmp .eq (.idx (.v 0) (.c (.int 1))) (.v 1)))) (.v 0) (frameC (pc (orb w x0) u) [.str (T [97 + orb w x0 t])]) σ1 (bif decide (orb w x0 u = orb w x0 t) then some (pc (orb w x0) u) else Option.none) σ1 := fun u _ => by
    refine turn_if (e_cnd (e_tst (e_cmp (e_idx (e_v rfl) e_c (idx_tup (i := 1) rfl (by decide))) (e_v rfl) ?_))) (e_v rfl)
    show some (T [97 + orb w x0 u] == T [97 + orb w x0 t]) = _
    rw [beq_T]
    exact congrArg some (decide_eq_decide.mpr ⟨fun h => by have := List.cons.inj h; lia, fun h => by rw [h]⟩)
  have hdl : ((stk (PP w x0 p) t).drop (cutN (PP w x0 p) t)).length ≤ 16 := by rw [List.length_drop]; lia
  have hcv := CV.of (compV_map (R := (N + 4)) (cond := (.cnd (.tst (.cmp .eq (.idx (.v 0) (.c (.int 1))) (.v 1))))) (elt := (.v 0)) (f := KF w x0 p s fi hd tl a10 a14 m b a2 (some (.d (.int (t : Nat)))) (some (.d (.lst (((stk (PP w x0 p) t).drop (cutN (PP w x0 p) t)).map (pc (orb w x0)))))) (some (.d (.int (orb w x0 t : Nat)))) (some (.d (.int (cutN (PP w x0 p) t : Nat)))) (some (.d (.str (T [97 + orb w x0 t])))) a24 a25) (caps := [23])
    (cs := [.str (T [97 + orb w x0 t])]) (g := fun u => bif decide (orb w x0 u = orb w x0 t) then some (pc (orb w x0) u) else Option.none) (l := (stk (PP w x0 p) t).drop (cutN (PP w x0 p) t)) (F := pc (orb w x0)) (.inl rfl) rfl (by lia) rfl hs) (by rw [filterMap_bif])
  refine e_tst (e_cmp (e_cmp (e_comp (e_v rfl) hcv) (e_ll e_nil rfl) (ne_nil _)) (e_cmp (e_v rfl) (e_v rfl) eq_int) (ne_bool ?_))
  rw [List.isEmpty_map, C.catch ht, Bool.not_not]
  exact decide_eq_decide.mpr (by lia)
noncomputable def chkX : X := (.sc (.ife (.or (.orv (.tst (.cmp .ne (.ask .astr (.v 19)) (.v 18))) (.orv (.tst (.cmp .ne (.ask .alen (.v 19)) (.bin .add (.v 5) (.bi .len (.cons (.v 18) .nil))))) (.orv (.tst (.cmp .ne (.am .pcount (.v 19) .nil) (.bi .len (.cons (.v 16) .nil)))) .fls)))) (.sc (.ret (.c (.bool false))) .sn) .sn) (.sc (.ife (.nott (.tst (.fc .lows (.cons (.v 19) (.cons (.v 11) (.cons (.v 15) (.cons (.v 4) .nil)))) .nok))) (.sc (.ret (.c (.bool false))) .sn) .sn) .sn))
theorem chk_ok (C : Cat w x0 p m a b) (L : Low w x0 p c0 c1 c2 c3 b σ) (hfi : fi ≤ 1000) : Ev (N + 4) chkX (KF w x0 p s fi hd tl a10 a14 m b a2 a12 a20 a21 a22 a23 a24 a25) (σ ++ [.acc ((stk (PP w x0 p) b).map (pc (orb w x0))) (fi : Nat)]) (.g .next (KF w x0 p s fi hd tl a10 a14 m b a2 a12 a20 a21 a22 a23 a24 a25)) (σ ++ [.acc ((stk (PP w x0 p) b).map (pc (orb w x0))) (fi : Nat)]) := by
  have hb15 := C.b15
  obtain ⟨hE, h0, h9, h11, h12, h13⟩ := L.app (x := .acc ((stk (PP w x0 p) b).map (pc (orb w x0))) (fi : Nat))
  have hll : (stk (PP w x0 p) b).length ≤ 16 := by have := stk_len (P := PP w x0 p) (t := b); lia
  have hlt : ∀ s ∈ stk (PP w x0 p) b, s < 20 := fun s hs => by have := (stk_mem.mp hs).1; lia
  have hg := gtext_len (o := orb w x0) hlt
  have ha := astr_pc (N := N + 2) h13 hlt (by lia)
  have hl := alen_pc (N := N + 2) h13 hfi hlt (by lia)
  have hpc := pcount_call (n := N + 3) h13
  have hlows := lows_call (N := N) C.G h13 h11 (by lia)
  have hlen := len_ref h12 (by rw [List.length_map]; exact Nat.le_trans hll (by decide))
  exact e_sc (e_pass (e_or (e_orv (e_tst (e_cmp (e_ask (e_v rfl) ha) (e_v rfl) (ne_T.trans (by rw [decide_eq_true rfl]; rfl)))) (e_orv (e_tst (e_cmp (e_ask (e_v rfl) hl) (e_bin (e_v rfl) (e_bi (e_cons (e_v rfl) e_nil) (len_T (by lia))) (z := .int ((fi + (gtext (orb w x0) (stk (PP w x0 p) b)).length : Nat) : Int)) rfl) ne_same)) (e_orv (e_tst (e_cmp (e_am (e_v rfl) (isAcc_at h13) e_nil hpc) (e_bi (e_cons (e_v rfl) e_nil) hlen) ne_same)) e_fls)))))
    (e_sc (e_pass (e_nott (e_tst (e_fc (e_cons (e_v rfl) (e_cons (e_v rfl) (e_cons (e_v rfl) (e_cons (e_v rfl) e_nil)))) e_nok hlows)))) e_sn)
noncomputable def turnX : X := (.sc (.ife (.tst (.cmp .eq (.v 12) (.v 15))) chkX .sn) (cutX (.sc (.ife (.tst (.cmp .lt (.v 12) (.v 15))) goX .sn) .sn)))
theorem turnX_eq : l_22 = .fr 12 (.bi .range (.cons (.bin .add (.v 15) (.c (.int 1))) .nil)) turnX := rfl
theorem turn_ok (C : Cat w x0 p m a b) (L : Low w x0 p c0 c1 c2 c3 b σ) (hh : 40 ∉ hd) (hl : hd.length ≤ 10) (htl : tl.length ≤ 20) (hpl : ∀ i, i < 8 → (p i).natAbs < 48) {t : Nat} (ht : t < b) :
    ∃ b2 b20 b22 b23 b24 b25, Ev (N + 4) turnX (setF (KF w x0 p s fi hd tl a10 a14 m b a2 a12 a20 (some (.d (.int (orb w x0 t : Nat)))) a22 a23 a24 a25) 12 (.d (.int (t : Nat)))) (σ ++ [.acc ((stk (PP w x0 p) t).map (pc (orb w x0))) n]) (.g .next (KF w x0 p s fi hd tl a10 a14 m b b2 (some (.d (.int (t : Nat)))) b20 (some (.d (.int (orb w x0 (t + 1) : Nat)))) b22 b23 b24 b25)) (σ ++ [.acc ((stk (PP w x0 p) (t + 1)).map (pc (orb w x0))) n]) := by
  have hb15 := C.b15
  have hll : (stk (PP w x0 p) t).length ≤ 16 := by have := stk_len (P := PP w x0 p) (t := t); lia
  have hg := go_ok (N := N) (σ := σ) (s := s) (fi := fi) (a10 := a10) (a14 := a14) (m := m) (kept := cutN (PP w x0 p) b) (txt := gtext (orb w x0) (stk (PP w x0 p) b)) (n := n) (t := t) (a2' := a2) (a24' := a24) (a25' := a25) (a20 := some (.d (.lst (((stk (PP w x0 p) t).drop (cutN (PP w x0 p) t)).map (pc (orb w x0)))))) (a22 := some (.d (.int (cutN (PP w x0 p) t : Nat)))) (l := (stk (PP w x0 p) t).take (cutN (PP w x0 p) t)) C.G L hh hl htl hpl (by lia) (by rw [List.length_take]; lia)
  obtain ⟨b2, b24, b25, hg⟩ := hg
  have es : (stk (PP w x0 p) t).take (cutN (PP w x0 p) t) ++ [t] = stk (PP w x0 p) (t + 1) := by rw [cut_take, ← stk_succ]
  rw [es] at hg
  refine ⟨b2, _, _, _, b24, b25, e_sc (e_pass (e_tst (e_cmp (e_v rfl) (e_v rfl) (eq_int.trans (by rw [decide_eq_false (by lia)]))))) (cut_ok C L (Nat.le_of_lt ht) (e_sc (e_ife_t (e_tst (e_cmp (e_v rfl) (e_v rfl) (lt_int.trans (by rw [decide_eq_true (by lia)])))) hg) e_sn))⟩
theorem last_ok (C : Cat w x0 p m a b) (L : Low w x0 p c0 c1 c2 c3 b σ) (hfi : fi ≤ 1000) :
    ∃ b21 b22 b23, Ev (N + 4) turnX (setF (KF w x0 p s fi hd tl a10 a14 m b a2 a12 a20 (some (.d (.int (orb w x0 b : Nat)))) a22 a23 a24 a25) 12 (.d (.int (b : Nat)))) (σ ++ [.acc ((stk (PP w x0 p) b).map (pc (orb w x0))) (fi : Nat)]) (.g .next (KF w x0 p s fi hd tl a10 a14 m b a2 (some (.d (.int (b : Nat)))) (some (.d (.lst (((stk (PP w x0 p) b).drop (cutN (PP w x0 p) b)).map (pc (orb w x0)))))) b21 b22 b23 a24 a25)) (σ ++ [.acc (((stk (PP w x0 p) b).take (cutN (PP w x0 p) b)).map (pc (orb w x0))) (fi : Nat)]) :=
  ⟨_, _, _, e_sc (e_ife_t (e_tst (e_cmp (e_v rfl) (e_v rfl) (eq_int.trans (by rw [decide_eq_true rfl])))) (chk_ok C L hfi)) (cut_ok C L (Nat.le_refl _) (e_sc (e_pass (e_tst (e_cmp (e_v rfl) (e_v rfl) (lt_int.trans (by rw [decide_eq_false (by lia)]))))) e_sn))⟩
theorem walk_ok (C : Cat w x0 p m a b) (L : Low w x0 p c0 c1 c2 c3 b σ) (hh : 40 ∉ hd) (hl : hd.length ≤ 10) (htl : tl.length ≤ 20) (hpl : ∀ i, i < 8 → (p i).natAbs < 48) (hfi : fi ≤ 1000) :
    ∃ b2 b12 b21 b22 b23 b24 b25, Ev (N + 4) l_22 (KF w x0 p s fi hd tl a10 a14 m b a2 a12 a20 (some (.d (.int (x0 : Nat)))) a22 a23 a24 a25) (σ ++ [.acc [] (fi : Nat)]) (.f .next (KF w x0 p s fi hd tl a10 a14 m b b2 b12 (some (.d (.lst (((stk (PP w x0 p) b).drop (cutN (PP w x0 p) b)).map (pc (orb w x0)))))) b21 b22 b23 b24 b25)) (σ ++ [.acc (((stk (PP w x0 p) b).take (cutN (PP w x0 p) b)).map (pc (orb w x0))) (fi : Nat)]) := by
  have hb15 := C.b15
  obtain ⟨f1, σ1, l1, p1⟩ := loopF_inv (st := frS (N + 4) turnX 12) (src := .rng 0 ((b + 1 : Nat) : Int)) (N := b + 1)
    (P := fun i f σ' => (i ≤ b ∧ σ' = σ ++ [.acc ((stk (PP w x0 p) i).map (pc (orb w x0))) (fi : Nat)] ∧ ∃ b2 b12 b20 b22 b23 b24 b25, f = KF w x0 p s fi hd tl a10 a14 m b b2 b12 b20 (some (.d (.int (orb w x0 i : Nat)))) b22 b23 b24 b25) ∨
      (i = b + 1 ∧ σ' = σ ++ [.acc (((stk (PP w x0 p) b).take (cutN (PP w x0 p) b)).map (pc (orb w x0))) (fi : Nat)] ∧ ∃ b2 b12 b21 b22 b23 b24 b25, f = KF w x0 p s fi hd tl a10 a14 m b b2 b12 (some (.d (.lst (((stk (PP w x0 p) b).drop (cutN (PP w x0 p) b)).map (pc (orb w x0)))))) b21 b22 b23 b24 b25)) (it := fun i => .int (i : Nat))
    (fun i f σ' hi _ => rng0_item hi) (fun f σ' _ => rng0_end)
    (fun i f σ' hi q => by
      rcases q with ⟨q1, q2, b2, b12, b20, b22, b23, b24, b25, q3⟩ | ⟨q1, _⟩
      · subst q2; subst q3
        by_cases hlt : i < b
        · obtain ⟨d2, d20, d22, d23, d24, d25, h⟩ := turn_ok (N := N) (s := s) (fi := fi) (a10 := a10) (a14 := a14) (a2 := b2) (a12 := b12) (a20 := b20) (a22 := b22) (a23 := b23) (a24 := b24) (a25 := b25) (n := (fi : Nat)) C L hh hl htl hpl hlt
          exact ⟨_, _, h, .inl ⟨hlt, rfl, _, _, _, _, _, _, _, rfl⟩⟩
        · have : i = b := by lia
          subst this
          obtain ⟨d21, d22, d23, h⟩ := last_ok (N := N) (s := s) (hd := hd) (tl := tl) (a10 := a10) (a14 := a14) (a2 := b2) (a12 := b12) (a20 := b20) (a22 := b22) (a23 := b23) (a24 := b24) (a25 := b25) C L hfi
          exact ⟨_, _, h, .inr ⟨rfl, rfl, _, _, _, _, _, _, _, rfl⟩⟩
      · lia)
    (cntOf (.rng 0 ((b + 1 : Nat) : Int)) (σ ++ [.acc [] (fi : Nat)])) 0 (KF w x0 p s fi hd tl a10 a14 m b a2 a12 a20 (some (.d (.int (x0 : Nat)))) a22 a23 a24 a25) (σ ++ [.acc [] (fi : Nat)]) (by have := rng0_cnt (σ := σ ++ [.acc [] (fi : Nat)]) (n := b + 1); lia) (Nat.zero_le _) (.inl ⟨Nat.zero_le _, rfl, _, _, _, _, _, _, _, rfl⟩)
  rcases p1 with ⟨q1, _⟩ | ⟨_, q2, b2, b12, b21, b22, b23, b24, b25, q3⟩
  · lia
  · subst q2; subst q3
    refine ⟨b2, b12, b21, b22, b23, b24, b25, ?_⟩
    rw [turnX_eq]
    exact e_fr (e_bi (e_cons (e_bin (e_v rfl) e_c add_one) e_nil) (rng_of (by lia))) (by show 12 < 26; decide) l1
end
theorem slc_from {xs : List AD} {a : Nat} (h : σ[k]? = some (.list xs)) (hn : xs.length ≤ 5000) (ha : a ≤ xs.length) : slcD σ (.ref k) (some (a : Nat)) .none = some (.lst (xs.drop a)) := by
  show bQ σ (.ref k) (fun xs => bIf (fewL xs) (some (AD.lst (slcL xs (some (a : Nat)) .none)))) = _
  unfold bQ bO; simp only [h]
  rw [bIf_t (show fewL xs = true from decide_eq_true hn)]
  show some (AD.lst ((xs.drop (if a ≤ xs.length then a else xs.length)).take (xs.length - (if a ≤ xs.length then a else xs.length)))) = _
  rw [if_pos ha, List.take_of_length_le (by simp)]
theorem slc_to {xs : List AD} {b : Nat} (h : σ[k]? = some (.list xs)) (hn : xs.length ≤ 5000) (hb : b ≤ xs.length) : slcD σ (.ref k) .none (some (b : Nat)) = some (.lst (xs.take b)) := by
  show bQ σ (.ref k) (fun xs => bIf (fewL xs) (some (AD.lst (slcL xs .none (some (b : Nat)))))) = _
  unfold bQ bO; simp only [h]
  rw [bIf_t (show fewL xs = true from decide_eq_true hn)]
  show some (AD.lst ((xs.drop 0).take ((if b ≤ xs.length then b else xs.length) - 0))) = _
  rw [if_pos hb]; rfl
theorem idx_m1L {xs : List AD} {x : AD} : idxD σ (.lst (xs ++ [x])) (.int (-1)) = some x := by
  rw [idxD_eq, bIf_t (by decide)]
  show (if 0 < (xs ++ [x]).length then (xs ++ [x])[(xs ++ [x]).length - 1 - 0]? else Option.none) = _
  simp
section
variable {s : AD} {fi : Nat} {hd tl : List Nat} {a10 a14 : Option AV} {m : Int} {a b : Nat} {a2 a12 a21 a22 a23 a24 a25 : Option AV}
theorem end_ok (C : Cat w x0 p m a b) (L : Low w x0 p c0 c1 c2 c3 b σ) (hh : 40 ∉ hd) (hl : hd.length ≤ 10) (hpl : ∀ i, i < 8 → (p i).natAbs < 48) (hfi : fi ≤ 1000) :
    ∃ f' σ', Ev (N + 4) (.sc l_23 (.sc l_24 (.sc l_25 (.sc l_26 (.sc l_27 (.sc l_28 (.sc l_29 (.sc l_30 .sn)))))))) (KF w x0 p s fi hd tl a10 a14 m b a2 a12 (some (.d (.lst (((stk (PP w x0 p) b).drop (cutN (PP w x0 p) b)).map (pc (orb w x0)))))) a21 a22 a23 a24 a25) (σ ++ [.acc (((stk (PP w x0 p) b).take (cutN (PP w x0 p) b)).map (pc (orb w x0))) (fi : Nat)]) (.g (.ret (.bool true)) f') σ' := by
  have hb15 := C.b15
  have h8 := orb_lt C.G.hw C.G.h0
  have hst : (stk (PP w x0 p) b).length ≤ 16 := by have := stk_len (P := PP w x0 p) (t := b); lia
  have hc : cutN (PP w x0 p) b ≤ (stk (PP w x0 p) b).length := cutN_le
  have hlt : ∀ u ∈ (stk (PP w x0 p) b).drop (cutN (PP w x0 p) b), u < 20 := fun u hu => by have := (stk_mem.mp (List.mem_of_mem_drop hu)).1; lia
  have hne : (stk (PP w x0 p) b).drop (cutN (PP w x0 p) b) ≠ [] := fun z => by have := C.inDrop; rw [z] at this; cases this
  have hD12 := fun x => (L.app (x := x)).2.2.2.2.1
  have e1 : ((stk (PP w x0 p) b).map (pc (orb w x0))).drop (cutN (PP w x0 p) b) = ((stk (PP w x0 p) b).drop (cutN (PP w x0 p) b)).map (pc (orb w x0)) := (List.map_drop ..).symm
  have e2 : ((stk (PP w x0 p) b).map (pc (orb w x0))).take (cutN (PP w x0 p) b) = ((stk (PP w x0 p) b).take (cutN (PP w x0 p) b)).map (pc (orb w x0)) := (List.map_take ..).symm
  have hlD : ((stk (PP w x0 p) b).drop (cutN (PP w x0 p) b)).length = (stk (PP w x0 p) b).length - cutN (PP w x0 p) b := List.length_drop
  have hlA : ((stk (PP w x0 p) b).take (cutN (PP w x0 p) b)).length ≤ 16 := by rw [List.length_take]; lia
  unfold KF
  generalize hSS : stk (PP w x0 p) b = S at *
  generalize hcN : cutN (PP w x0 p) b = c at *
  generalize hA : S.take c = A at *
  generalize hD : S.drop c = D at *
  obtain ⟨D', z, rfl⟩ : ∃ D' z, D = D' ++ [z] := ⟨D.dropLast, D.getLast hne, (List.dropLast_concat_getLast hne).symm⟩
  have n1 : (D' ++ [z]).length ≤ 16 := by lia
  have nD' : D'.length + 1 ≤ 16 := by rw [List.length_append, List.length_singleton] at n1; exact n1
  have hS12 : ∀ x, (σ ++ [x])[12]? = some (.list (S.map (pc (orb w x0)))) := hD12
  have t1 : ∀ x, (σ ++ [x])[13]? = some x := fun x => at_end' L.len
  have nm : ∀ l : List Nat, (l.map (pc (orb w x0))).length = l.length := fun l => List.length_map _
  have p1 := popall_call (n := N + 3) (t1 (.acc (A.map (pc (orb w x0))) (fi : Nat))) (by rw [nm]; lia)
  rw [set_end' L.len] at p1
  have hl0 := alen_pc (N := N + 2) (l := []) (o := orb w x0) (t1 (.acc [] (fi : Nat))) hfi (by simp) (by simp)
  have hp0 := pop0_call (n := N + 2) (t1 (.acc [] (fi : Nat)))
  have hpu := push_call (n := N + 3) (x := T [32]) (y := T [120]) (t1 (.acc [] (fi : Nat))) (by simp)
  rw [set_end' L.len] at hpu
  have hrs := reset_call (n := N + 3) (ys := (D' ++ [z]).map (pc (orb w x0))) (t1 (.acc ([] ++ [.tup [.str (T [32]), .str (T [120])]]) (fi : Nat))) (by simp) (by rw [nm]; lia)
  rw [set_end' L.len] at hrs
  have hstr := astr_pc (N := N + 2) (l := D' ++ [z]) (t1 (.acc ((D' ++ [z]).map (pc (orb w x0))) 0)) hlt (by lia)
  have hlen := alen_pc (N := N + 2) (n := 0) (l := D' ++ [z]) (t1 (.acc ((D' ++ [z]).map (pc (orb w x0))) ((0 : Nat) : Int))) (by decide) hlt (by lia)
  rw [Nat.zero_add] at hlen
  have hg := gtext_len (o := orb w x0) hlt
  have hpop := pop_call (n := N + 2) (xs := D'.map (pc (orb w x0))) (d := pc (orb w x0) z) (m := 0) (σ := σ ++ [.acc ((D' ++ [z]).map (pc (orb w x0))) 0]) (k := 13) (by rw [t1, List.map_append]; rfl) (by rw [nm]; lia)
  rw [set_end' L.len] at hpop
  have hpc := pcount_call (n := N + 3) (t1 (.acc (D'.map (pc (orb w x0))) 0))
  rw [nm] at hpc
  have hr0 := reset0_call (n := N + 3) (t1 (.acc (D'.map (pc (orb w x0))) 0)) (by rw [nm]; lia)
  rw [set_end' L.len] at hr0
  have hpc0 := pcount_call (n := N + 3) (t1 (.acc [] 0))
  have hA0 : ∀ xs (n : Int), isAcc (σ ++ [.acc xs n]) 13 = true := fun xs n => isAcc_at (t1 _)
  have lenD : ∀ σ, BiR σ .len [.lst ((D' ++ [z]).map (pc (orb w x0)))] (.int ((D' ++ [z]).length : Nat)) := fun σ => by have := len_lst (σ := σ) (xs := (D' ++ [z]).map (pc (orb w x0))) (by rw [nm]; lia); rw [nm] at this; exact this
  obtain ⟨bd, mk, one, two, F, B, hbd⟩ := body_call (N := N + 3) (σ := σ ++ [.acc [] 0]) (place := ((orb w x0 0 : Nat) : Int)) (port := p (w (orb w x0 0))) (cell := c3) (hpl _ (h8 1))
  have hsp := spoilt_call (N := N + 1) (σ := σ ++ [.acc [] 0]) B hh hl
  obtain ⟨_, q0, _, q11, _, _⟩ := L.app (x := .acc [] 0)
  refine ⟨_, _, e_sc (e_pass (e_or (e_orv (e_tst (e_cmp (e_v rfl) (e_slc (e_v rfl) (e_som (e_v rfl)) e_non (p_part (by lia)) rfl ((slc_from (hS12 _) (by rw [nm]; lia) (by rw [nm]; exact hc)).trans (by rw [e1]))) (ne_pieces _))) (e_orv (e_tst (e_cmp (e_bi (e_cons (e_v rfl) e_nil) (lenD _)) (e_bin (e_bi (e_cons (e_v rfl) e_nil) (len_ref (hS12 _) (by rw [nm]; lia))) (e_v rfl) (z := .int ((D' ++ [z]).length : Nat)) ?_) ne_same)) (e_orv (e_tst (e_cmp (e_am (e_v rfl) (hA0 _ _) e_nil p1) (e_slc (e_v rfl) e_non (e_som (e_v rfl)) rfl (p_part (by lia)) ((slc_to (hS12 _) (by rw [nm]; lia) (by rw [nm]; exact hc)).trans (by rw [e2]))) (ne_pieces _))) e_fls)))))
    (e_sc (e_pass (e_or (e_orv (e_tst (e_cmp (e_ask (e_v rfl) hl0) (e_v rfl) ?_)) (e_orv (e_tst (e_cmp (e_am (e_v rfl) (hA0 _ _) e_nil hp0) (e_tp (e_cons (e_cs l_e) (e_cons (e_cs l_e) e_nil)) rfl) ne_empty)) e_fls))))
    (e_sc (e_ex (e_am (e_v rfl) (hA0 _ _) (e_cons (e_cs l_sp) (e_cons (e_cs l_x) e_nil)) hpu))
    (e_sc (e_pass (e_or (e_orv (e_tst (e_cmp (e_am (e_v rfl) (hA0 _ _) (e_cons (e_v rfl) e_nil) hrs) e_c rfl)) (e_orv (e_tst (e_cmp (e_ask (e_v rfl) hstr) (e_join (src := .v 20) (e_v rfl) (.inl rfl) hlt (by lia)) (ne_T.trans (by rw [decide_eq_true rfl]; rfl)))) e_fls))))
    (e_sc (e_pass (e_or (e_orv (e_tst (e_cmp (e_ask (e_v rfl) hlen) (e_bi (e_cons (e_ask (e_v rfl) hstr) e_nil) (len_T (by lia))) ne_same)) (e_orv (e_tst (e_cmp (e_am (e_v rfl) (hA0 _ _) e_nil hpop) (e_idx (e_v rfl) (e_neg e_c) ?_) ne_piece)) (e_orv (e_tst (e_cmp (e_am (e_v rfl) (hA0 _ _) e_nil hpc) (e_bin (e_bi (e_cons (e_v rfl) e_nil) (lenD _)) e_c (z := .int (D'.length : Nat)) ?_) ne_same)) e_fls)))))
    (e_sc (e_ex (e_am (e_v rfl) (hA0 _ _) e_nil hr0))
    (e_sc (e_pass (e_tst (e_cmp (e_am (e_v rfl) (hA0 _ _) e_nil hpc0) e_c rfl)))
    (e_sret (e_ret (e_fc (e_cons (e_v rfl) (e_cons (e_fc (e_cons (e_idx (e_v rfl) e_c (idx_ref (i := 0) q11 (plain_at (by decide)) (by decide))) (e_cons (e_idx (e_v rfl) (e_idx (e_v rfl) (e_idx (e_v rfl) e_c (idx_ref (i := 0) q11 (plain_at (by decide)) (by decide))) (idx_lst (way_at (h8 0)) (by have := h8 0; lia))) (idx_lst (ports_at (i := w (orb w x0 0)) (h8 1)) (by have : w (orb w x0 0) < 8 := h8 1; lia))) (e_cons (e_idx (e_v rfl) e_c (idx_ref (i := 3) q0 rfl (by decide))) e_nil))) e_nok hbd) e_nil)) e_nok hsp)))))))))⟩
  · show some (AD.int (((S.map (pc (orb w x0))).length : Int) - (c : Nat))) = _
    rw [nm]; congr 2; lia
  · show cmpD .ne (.d (.int ((fi + 0 : Nat) : Int))) _ = _
    exact ne_same
  · rw [List.map_append]; exact idx_m1L
  · show some (AD.int (((D' ++ [z]).length : Int) - 1)) = _
    rw [List.length_append, List.length_singleton]; congr 2; lia
end
end Mine
end
section
namespace Mine
open PySem
theorem cells_four : ∀ {cs : List Int}, cs.length = 4 → ∃ c0 c1 c2 c3, cs = [c0, c1, c2, c3]
  | [a, b, c, d], _ => ⟨a, b, c, d, rfl⟩
  | [], h | [_], h | [_, _], h | [_, _, _], h => by simp at h
  | _ :: _ :: _ :: _ :: _ :: _, h => by simp at h
set_option maxHeartbeats 4000000 in
theorem law_ok (xs : List Int) (hx : xs.length ≤ 63) : ∃ σ, CallS 12 (.fn .law) [.lst (xs.map .int)] .none [] (.bool true) σ := by
  obtain ⟨cs, h4, hcells⟩ := cells_call (N := 10) (σ := []) (xs := xs) (by lia)
  obtain ⟨c0, c1, c2, c3, rfl⟩ := cells_four h4
  have hk : ([AO.list (cellsL c0 c1 c2 c3)] : H)[0]? = some (.list (cellsL c0 c1 c2 c3)) := rfl
  generalize hf0 : some (AV.d (.lst (xs.map .int))) :: List.replicate 25 (Option.none : Option AV) = f0
  have L0 : f0.length = 26 := by rw [← hf0]; rfl
  have e0 : Ev 11 l_0 f0 [] (.f .next (setF f0 1 (.d (.ref 0)))) [.list (cellsL c0 c1 c2 c3)] := e_asg (e_fc (e_cons (e_v (by rw [← hf0]; rfl)) e_nil) e_nok hcells) (by rw [L0]; decide)
  generalize hs0 : some (AV.d (.lst (xs.map .int))) = s0 at hf0
  subst hf0
  have e1 := s_way (R := 11) (g := setF (s0 :: List.replicate 25 (Option.none : Option AV)) 1 (.d (.ref 0))) hk rfl rfl
  have e2 := s_ports (R := 11) (g := setF (setF (s0 :: List.replicate 25 (Option.none : Option AV)) 1 (.d (.ref 0))) 3 (.d (.lst (wayL (wayF c0))))) hk rfl rfl
  obtain ⟨fi, hfi, e3⟩ := s_first (R := 11) (g := setF (setF (setF (s0 :: List.replicate 25 (Option.none : Option AV)) 1 (.d (.ref 0))) 3 (.d (.lst (wayL (wayF c0))))) 4 (.d (.lst (portsL (portF c1))))) hk rfl rfl
  generalize hf3 : setF (setF (setF (setF (s0 :: List.replicate 25 (Option.none : Option AV)) 1 (.d (.ref 0))) 3 (.d (.lst (wayL (wayF c0))))) 4 (.d (.lst (portsL (portF c1))))) 5 (.d (.int (fi : Nat))) = f3 at e3
  have x3 : f3 = [s0, some (.d (.ref 0)), .none, some (.d (.lst (wayL (wayF c0)))), some (.d (.lst (portsL (portF c1)))), some (.d (.int (fi : Nat))), .none, .none, .none, .none, .none, .none, .none, .none, .none, .none, .none, .none, .none, .none, .none, .none, .none, .none, .none, .none] := by rw [← hf3]; rfl
  obtain ⟨hd, ⟨hh, hhl⟩, e4⟩ := s_head (R := 11) (g := f3) hk (by rw [x3]; rfl) (by rw [x3]; rfl)
  obtain ⟨tl, htl, e5⟩ := s_tail (R := 11) (g := setF f3 6 (.d (.str (T hd)))) hk (by rw [x3]; rfl) (by rw [x3]; rfl)
  have e6 := s_entries (R := 11) (g := setF (setF f3 6 (.d (.str (T hd)))) 7 (.d (.str (T tl)))) (p := portF c1) (x := AO.list (cellsL c0 c1 c2 c3)) (by rw [x3]; rfl) (by rw [x3]; rfl)
  generalize hf6 : setF (setF (setF f3 6 (.d (.str (T hd)))) 7 (.d (.str (T tl)))) 8 (.d (.lst ((List.range 8).map En))) = f6 at e6
  have x6 : f6 = [s0, some (.d (.ref 0)), .none, some (.d (.lst (wayL (wayF c0)))), some (.d (.lst (portsL (portF c1)))), some (.d (.int (fi : Nat))), some (.d (.str (T hd))), some (.d (.str (T tl))), some (.d (.lst ((List.range 8).map En))), .none, .none, .none, .none, .none, .none, .none, .none, .none, .none, .none, .none, .none, .none, .none, .none, .none] := by rw [← hf6, x3]; rfl
  have L6 : f6.length = 26 := by rw [x6]; rfl
  have E9 : Ents (portF c1) (entH (portF c1) (.list (cellsL c0 c1 c2 c3)) 8) := entH_ents
  have n9 : (entH (portF c1) (.list (cellsL c0 c1 c2 c3)) 8).length = 9 := entH_len
  have k9 : (entH (portF c1) (.list (cellsL c0 c1 c2 c3)) 8)[0]? = some (.list (cellsL c0 c1 c2 c3)) := rfl
  generalize entH (portF c1) (.list (cellsL c0 c1 c2 c3)) 8 = σ9 at *
  have e7 : Ev 11 l_7 f6 σ9 (.f .next (setF f6 9 (.d (.ref 9)))) (σ9 ++ [AO.list []]) := e_asg (e_hlN e_nil rfl n9) (by rw [L6]; decide)
  obtain ⟨o10, e8⟩ := s_book (N := 8) (g := setF f6 9 (.d (.ref 9))) E9 n9 (by rw [x6]; rfl) (by rw [x6]; rfl) (by rw [x6]; rfl)
  generalize hf8 : (setF f6 9 (.d (.ref 9))).set 10 o10 = f8 at e8
  have x8 : f8 = [s0, some (.d (.ref 0)), .none, some (.d (.lst (wayL (wayF c0)))), some (.d (.lst (portsL (portF c1)))), some (.d (.int (fi : Nat))), some (.d (.str (T hd))), some (.d (.str (T tl))), some (.d (.lst ((List.range 8).map En))), some (.d (.ref 9)), o10, .none, .none, .none, .none, .none, .none, .none, .none, .none, .none, .none, .none, .none, .none, .none] := by rw [← hf8, x6]; rfl
  have E10 := E9.app (x := AO.list ((bk (portF c1) 8).map En))
  have k10 := at_app (x := AO.list ((bk (portF c1) 8).map En)) k9
  have b10 := at_end' (x := AO.list ((bk (portF c1) 8).map En)) n9
  have n10 : (σ9 ++ [AO.list ((bk (portF c1) 8).map En)]).length = 10 := by rw [List.length_append, n9]; rfl
  generalize σ9 ++ [AO.list ((bk (portF c1) 8).map En)] = σ10 at *
  have e9 := s_second (N := 7) (g := f8) E10 (by rw [x8]; rfl)
  have E11 := E10.app (x := AO.list ((bk (qf (portF c1)) 8).map En))
  have k11 := at_app (x := AO.list ((bk (qf (portF c1)) 8).map En)) k10
  have b11 := at_app (x := AO.list ((bk (qf (portF c1)) 8).map En)) b10
  have n11 : (σ10 ++ [AO.list ((bk (qf (portF c1)) 8).map En)]).length = 11 := by rw [List.length_append, n10]; rfl
  generalize σ10 ++ [AO.list ((bk (qf (portF c1)) 8).map En)] = σ11 at *
  obtain ⟨x0, hx0, e10⟩ := s_plain0 (R := 11) (g := f8) k11 (by rw [x8]; rfl) (by rw [x8]; rfl) n11
  have G : Ring (wayF c0) x0 (portF c1) := ring_of hx0
  obtain ⟨o12, e11⟩ := s_plain (R := 11) (g := setF f8 11 (.d (.ref 11))) G n11 (by rw [x8]; rfl) (by rw [x8]; rfl) (by rw [x8]; rfl)
  generalize hf11 : (setF f8 11 (.d (.ref 11))).set 12 o12 = f11 at e11
  have x11 : f11 = [s0, some (.d (.ref 0)), .none, some (.d (.lst (wayL (wayF c0)))), some (.d (.lst (portsL (portF c1)))), some (.d (.int (fi : Nat))), some (.d (.str (T hd))), some (.d (.str (T tl))), some (.d (.lst ((List.range 8).map En))), some (.d (.ref 9)), o10, some (.d (.ref 11)), o12, .none, .none, .none, .none, .none, .none, .none, .none, .none, .none, .none, .none, .none] := by rw [← hf11, x8]; rfl
  have E12 := E11.app (x := AO.list (plainL (orb (wayF c0) x0) 17))
  have k12 := at_app (x := AO.list (plainL (orb (wayF c0) x0) 17)) k11
  have b12 := at_app (x := AO.list (plainL (orb (wayF c0) x0) 17)) b11
  have p12 := at_end' (x := AO.list (plainL (orb (wayF c0) x0) 17)) n11
  have n12 : (σ11 ++ [AO.list (plainL (orb (wayF c0) x0) 17)]).length = 12 := by rw [List.length_append, n11]; rfl
  generalize σ11 ++ [AO.list (plainL (orb (wayF c0) x0) 17)] = σ12 at *
  obtain ⟨m, tm, h8, hm, hmin, e12⟩ := s_least (R := 11) (g := f11) G p12 (by rw [x11]; rfl) (by rw [x11]; rfl) (by rw [x11]; rfl)
  have e13 := s_comings (R := 11) (g := setF f11 13 (.d (.int m))) (m := m) G p12 (by rw [x11]; rfl) (by rw [x11]; rfl) (by rw [x11]; rfl) (by rw [x11]; rfl)
  obtain ⟨a, b, r, hab0, hab, hb15, ha, hb, hfst⟩ := G.comings h8 hm hmin
  rw [hab0] at e13
  have C : Cat (wayF c0) x0 (portF c1) m a b := ⟨G, hab, hb15, ha, hb, fun s h1 h2 => G.between h8 hm hmin hab ha hb hfst h1 h2, fun s t h1 h2 h3 h4 => G.caught h8 hm hmin hab ha hb hfst h1 h2 h3 h4⟩
  generalize hf13 : setF (setF f11 13 (.d (.int m))) 14 (.d (.lst ((a :: b :: r).map fun t => .int (t : Nat)))) = f13 at e13
  have x13 : f13 = [s0, some (.d (.ref 0)), .none, some (.d (.lst (wayL (wayF c0)))), some (.d (.lst (portsL (portF c1)))), some (.d (.int (fi : Nat))), some (.d (.str (T hd))), some (.d (.str (T tl))), some (.d (.lst ((List.range 8).map En))), some (.d (.ref 9)), o10, some (.d (.ref 11)), o12, some (.d (.int m)), some (.d (.lst ((a :: b :: r).map fun t => .int (t : Nat)))), .none, .none, .none, .none, .none, .none, .none, .none, .none, .none, .none] := by rw [← hf13, x11]; rfl
  have e14 : Ev 11 l_14 f13 σ12 (.f .next (setF f13 15 (.d (.int (b : Nat))))) σ12 := e_asg (e_idx (e_v (by rw [x13]; rfl)) e_c (idx_lst (i := 1) rfl (by decide))) (by rw [x13]; show 15 < 26; decide)
  have e15 : Ev 11 l_15 (setF f13 15 (.d (.int (b : Nat)))) σ12 (.f .next (setF (setF f13 15 (.d (.int (b : Nat)))) 16 (.d (.ref 12)))) (σ12 ++ [AO.list []]) := e_asg (e_hlN e_nil rfl n12) (by rw [x13]; show 16 < 26; decide)
  generalize hf15 : setF (setF f13 15 (.d (.int (b : Nat)))) 16 (.d (.ref 12)) = f15 at e15
  have x15 : f15 = [s0, some (.d (.ref 0)), .none, some (.d (.lst (wayL (wayF c0)))), some (.d (.lst (portsL (portF c1)))), some (.d (.int (fi : Nat))), some (.d (.str (T hd))), some (.d (.str (T tl))), some (.d (.lst ((List.range 8).map En))), some (.d (.ref 9)), o10, some (.d (.ref 11)), o12, some (.d (.int m)), some (.d (.lst ((a :: b :: r).map fun t => .int (t : Nat)))), some (.d (.int (b : Nat))), some (.d (.ref 12)), .none, .none, .none, .none, .none, .none, .none, .none, .none] := by rw [← hf15, x13]; rfl
  obtain ⟨o12', e16⟩ := s_due (R := 11) (g := f15) (b := b) G p12 n12 (by lia) (by rw [x15]; rfl) (by rw [x15]; rfl) (by rw [x15]; rfl) (by rw [x15]; rfl) (by rw [x15]; rfl)
  generalize hf16 : f15.set 12 o12' = f16 at e16
  have x16 : f16 = [s0, some (.d (.ref 0)), .none, some (.d (.lst (wayL (wayF c0)))), some (.d (.lst (portsL (portF c1)))), some (.d (.int (fi : Nat))), some (.d (.str (T hd))), some (.d (.str (T tl))), some (.d (.lst ((List.range 8).map En))), some (.d (.ref 9)), o10, some (.d (.ref 11)), o12', some (.d (.int m)), some (.d (.lst ((a :: b :: r).map fun t => .int (t : Nat)))), some (.d (.int (b : Nat))), some (.d (.ref 12)), .none, .none, .none, .none, .none, .none, .none, .none, .none] := by rw [← hf16, x15]; rfl
  have E13 := E12.app (x := AO.list ((stk (PP (wayF c0) x0 (portF c1)) b).map (pc (orb (wayF c0) x0))))
  have k13 := at_app (x := AO.list ((stk (PP (wayF c0) x0 (portF c1)) b).map (pc (orb (wayF c0) x0)))) k12
  have b13 := at_app (x := AO.list ((stk (PP (wayF c0) x0 (portF c1)) b).map (pc (orb (wayF c0) x0)))) b12
  have p13 := at_app (x := AO.list ((stk (PP (wayF c0) x0 (portF c1)) b).map (pc (orb (wayF c0) x0)))) p12
  have d13 := at_end' (x := AO.list ((stk (PP (wayF c0) x0 (portF c1)) b).map (pc (orb (wayF c0) x0)))) n12
  have n13 : (σ12 ++ [AO.list ((stk (PP (wayF c0) x0 (portF c1)) b).map (pc (orb (wayF c0) x0)))]).length = 13 := by rw [List.length_append, n12]; rfl
  generalize σ12 ++ [AO.list ((stk (PP (wayF c0) x0 (portF c1)) b).map (pc (orb (wayF c0) x0)))] = σ13 at *
  have W : Low (wayF c0) x0 (portF c1) c0 c1 c2 c3 b σ13 := ⟨E13, k13, b13, p13, d13, n13⟩
  have hlt : ∀ u ∈ stk (PP (wayF c0) x0 (portF c1)) b, u < 20 := fun u hu => by have := (stk_mem.mp hu).1; lia
  have hll : (stk (PP (wayF c0) x0 (portF c1)) b).length ≤ 20 := by have := stk_len (P := PP (wayF c0) x0 (portF c1)) (t := b); lia
  have e17 := s_kept (R := 11) (g := f16) (a := a) (r := (b :: r).map fun t => .int (t : Nat)) d13 hlt hll (by rw [x16]; rfl) (by rw [x16]; rfl) (by rw [x16]; rfl)
  rw [C.kept] at e17
  generalize hf17 : setF f16 17 (.d (.int (cutN (PP (wayF c0) x0 (portF c1)) b : Nat))) = f17 at e17
  have x17 : f17 = [s0, some (.d (.ref 0)), .none, some (.d (.lst (wayL (wayF c0)))), some (.d (.lst (portsL (portF c1)))), some (.d (.int (fi : Nat))), some (.d (.str (T hd))), some (.d (.str (T tl))), some (.d (.lst ((List.range 8).map En))), some (.d (.ref 9)), o10, some (.d (.ref 11)), o12', some (.d (.int m)), some (.d (.lst ((a :: b :: r).map fun t => .int (t : Nat)))), some (.d (.int (b : Nat))), some (.d (.ref 12)), some (.d (.int (cutN (PP (wayF c0) x0 (portF c1)) b : Nat))), .none, .none, .none, .none, .none, .none, .none, .none] := by rw [← hf17, x16]; rfl
  have e18 : Ev 11 l_18 f17 σ13 (.f .next (setF f17 18 (.d (.str (T (gtext (orb (wayF c0) x0) (stk (PP (wayF c0) x0 (portF c1)) b))))))) σ13 :=
    e_asg (e_join (src := .v 16) (e_v (by rw [x17]; rfl)) (.inr ⟨12, rfl, d13⟩) hlt hll) (by rw [x17]; show 18 < 26; decide)
  generalize hf18 : setF f17 18 (.d (.str (T (gtext (orb (wayF c0) x0) (stk (PP (wayF c0) x0 (portF c1)) b))))) = f18 at e18
  have x18 : f18 = [s0, some (.d (.ref 0)), .none, some (.d (.lst (wayL (wayF c0)))), some (.d (.lst (portsL (portF c1)))), some (.d (.int (fi : Nat))), some (.d (.str (T hd))), some (.d (.str (T tl))), some (.d (.lst ((List.range 8).map En))), some (.d (.ref 9)), o10, some (.d (.ref 11)), o12', some (.d (.int m)), some (.d (.lst ((a :: b :: r).map fun t => .int (t : Nat)))), some (.d (.int (b : Nat))), some (.d (.ref 12)), some (.d (.int (cutN (PP (wayF c0) x0 (portF c1)) b : Nat))), some (.d (.str (T (gtext (orb (wayF c0) x0) (stk (PP (wayF c0) x0 (portF c1)) b))))), .none, .none, .none, .none, .none, .none, .none] := by rw [← hf18, x17]; rfl
  have hmk := mkacc_call (n := 9) (σ := σ13) (k := (fi : Nat))
  rw [n13] at hmk
  have e19 : Ev 11 l_19 f18 σ13 (.f .next (setF f18 19 (.d (.ref 13)))) (σ13 ++ [.acc [] (fi : Nat)]) :=
    e_asg (e_fc (e_cons (e_v (by rw [x18]; rfl)) e_nil) e_nok hmk) (by rw [x18]; show 19 < 26; decide)
  have e20 : Ev 11 l_20 (setF f18 19 (.d (.ref 13))) (σ13 ++ [.acc [] (fi : Nat)]) (.f .next (setF (setF f18 19 (.d (.ref 13))) 20 (.d (.lst [])))) (σ13 ++ [.acc [] (fi : Nat)]) :=
    e_asg (e_ll e_nil rfl) (by rw [x18]; show 20 < 26; decide)
  have e21 : Ev 11 l_21 (setF (setF f18 19 (.d (.ref 13))) 20 (.d (.lst []))) (σ13 ++ [.acc [] (fi : Nat)]) (.f .next (setF (setF (setF f18 19 (.d (.ref 13))) 20 (.d (.lst []))) 21 (.d (.int (x0 : Nat))))) (σ13 ++ [.acc [] (fi : Nat)]) :=
    e_asg (e_idx (e_v (by rw [x18]; rfl)) e_c (idx_ref (i := 0) (at_app p13) (plain_at (by decide)) (by decide))) (by rw [x18]; show 21 < 26; decide)
  have hfr : setF (setF (setF f18 19 (.d (.ref 13))) 20 (.d (.lst []))) 21 (.d (.int (x0 : Nat))) = KF (wayF c0) x0 (portF c1) (.lst (xs.map .int)) fi hd tl o10 (some (.d (.lst ((a :: b :: r).map fun t => .int (t : Nat))))) m b .none o12' (some (.d (.lst []))) (some (.d (.int (x0 : Nat)))) .none .none .none .none := by
    rw [x18, ← hs0]; rfl
  obtain ⟨q2, q12, q21, q22, q23, q24, q25, e22⟩ := walk_ok (N := 7) (s := .lst (xs.map .int)) (a10 := o10) (a14 := some (.d (.lst ((a :: b :: r).map fun t => .int (t : Nat))))) (a2 := .none) (a12 := o12') (a20 := some (.d (.lst []))) (a22 := .none) (a23 := .none) (a24 := .none) (a25 := .none) C W hh hhl htl portF_le (by lia : fi ≤ 1000)
  obtain ⟨f', σ', e23⟩ := end_ok (N := 7) (s := .lst (xs.map .int)) (tl := tl) (a10 := o10) (a14 := some (.d (.lst ((a :: b :: r).map fun t => .int (t : Nat))))) (a2 := q2) (a12 := q12) (a21 := q21) (a22 := q22) (a23 := q23) (a24 := q24) (a25 := q25) C W hh hhl portF_le (by lia : fi ≤ 1000)
  rw [← hfr] at e22
  refine ⟨σ', callF_fn (l := .ret (.bool true)) (f' := f') (f := some (.d (.lst (xs.map .int))) :: List.replicate 25 .none) rfl rfl ?_⟩
  rw [hs0]
  exact e_sc e0 (e_sc e1 (e_sc e2 (e_sc (f₁ := f3) e3 (e_sc e4 (e_sc e5 (e_sc (f₁ := f6) e6 (e_sc e7 (e_sc (f₁ := f8) e8 (e_sc e9 (e_sc e10 (e_sc (f₁ := f11) e11 (e_sc e12 (e_sc (f₁ := f13) e13 (e_sc e14 (e_sc (f₁ := f15) e15 (e_sc (f₁ := f16) e16 (e_sc (f₁ := f17) e17 (e_sc (f₁ := f18) e18 (e_sc e19 (e_sc e20 (e_sc e21 (e_sc e22 e23))))))))))))))))))))))
end Mine
end
section
namespace Mine
open PySem PySem.W PyProof.Rows PySem.Calls
theorem vrs_ints {ρ : Rho} {h : Heap} {vs : List Value} {xs : List Int} (I : IntsAre vs xs) : VRs ρ h (xs.map .int) vs := by
  induction I with
  | nil => exact VRs.nil
  | cons n t _ ih => exact .cons (by rw [VR]; exact ⟨t, rfl⟩) ih
theorem law_walk {w : World} {s : Shared} {q : Program} {loose : List Str} {mean : ExcName → Option Value} {mg mb : Str → Option Value} {l : Addr} {vs : List Value} {xs : List Int} {Q E : Value → Shared → Prop} (S : Says s.heap) (T : Top q loose mean mg mb s.heap) (hs : s.heap.NoSeer) (hg : s.gens = #[])
    (hl : s.heap.IsList l vs.toArray) (I : IntsAre vs xs) (hx : xs.length ≤ 63) (hq : ∀ s', OldK s.heap s'.heap → s'.os = s.os → AllBare s'.gens → Q (.bool true) s') :
    wpAny (model PySem.Challenge.pw_xh0014_01 w) callerA (PySem.call (.ref 247) [.ref l]) Q E s := by
  have TT := topOk (w := w) S T hs
  obtain ⟨σ, hlaw⟩ := for_all (fun T xs hx => (law_ok xs hx).imp fun σ h => h ⟨T, accItem T, accMeth T, intTextOk _, fnAt T⟩) TT xs hx
  have tab : ∀ t ∈ (cxOf w s).tabs, TabOk (cxOf w s) s.heap t := fun t ht => by
    simp only [cxOf, tabs3, List.mem_cons, List.not_mem_nil, or_false] at ht
    rcases ht with rfl | rfl | rfl
    · exact .inl (S.at (a := 90) 21 rfl)
    · exact .inl (S.at (a := 97) 24 rfl)
    · exact .inl (S.at (a := 232) 55 rfl)
  have X : St (cxOf w s) .no [] s := ⟨⟨cx_cok S, OldK.refl _, fun b o e => hk_sub e, .of_eq hg, rfl, tab⟩, ⟨rfl, fun k o e => by simp at e, fun i j p q e => by simp [Rho.no] at e, fun p hp => (nomatch hp), fun b hz => False.elim hz⟩⟩
  have a : AC (cxOf w s) 12 callerA s.heap := ⟨rfl, by decide +kernel, by decide +kernel, [], rfl, fun e he => (nomatch he)⟩
  have v : VRs Rho.no s.heap [.lst (xs.map .int)] [.ref l] := .cons (by rw [VR]; exact ⟨l, vs, rfl, hl, footNo, vrs_ints I⟩) VRs.nil
  refine wpAny_mono (hlaw callerA .no s (.ref 247) [.ref l] .none E a X rfl v nofun).2 (fun r s' h => ?_) fun _ _ e => e
  obtain ⟨ρ', X', _, hv⟩ := h
  have hr : r = .bool true := by
    have : VR ρ' s'.heap (.bool true) r := hv
    rw [VR] at this; exact this
  subst hr
  exact hq s' X'.inv.old X'.inv.os X'.inv.bare
theorem walkO {q : Program} {loose : List Str} {XP : (Str → Option Value) → Heap → Prop} {d : DefRec} {kwd : List (Str × Expr)} (hi : importsNone q = true) (hn : d.name = "law") :
    WalkO q loose XP headHook.says PySem.Challenge.rw_xh0014_01.row.toRowW d kwd fun f vs => PySem.call f vs := by
  intro w s₀ s₁ mg mb G Y a o pm cd doc dV kV ho hd hcd hD hmg hg args vals as hpre hlay hrd hwl hlo
  clear hD hcd hd ho
  have T := G.T
  obtain ⟨m, hm, em⟩ := Says.name (h := s₁.heap) Y 0 (a := 3) (l := gTab) rfl
  have ha : a = 247 := by
    have h1 : m "law" = some (.ref 247) := em ("law", some (.ref 247)) (List.mem_of_getElem? (i := 14) rfl)
    rw [← T.g.agree hm, ← hn, hmg] at h1
    cases h1; rfl
  subst ha
  wrow_args hpre hlay hrd hwl hlo
  refine law_walk (w := w) Y T (T.seer hi) hg (by assumption) (by assumption) (by omega) fun s' h1 h2 h3 => ?_
  exact ⟨.inl ⟨_, _, _, rfl, fun _ => rfl, .bool true, by wrow_post, fun _ => ⟨List.nodup_nil, fun _ h => (nomatch h)⟩⟩, h1, h2, h3⟩
end Mine
end
section
namespace Mine
open PySem PySem.W PyProof.Rows PySem.Calls
noncomputable def topView : Program := view PySem.Challenge.pw_xh0014_01 [0, 6, 7, 9, 10, 11, 12, 14, 15, 16, 17, 18, 19, 20, 21, 22, 23, 24]
noncomputable def topLoose : List Str := ["insort_right", "bisect_right", "bisect_left", "_Accumulator"]
theorem topLeft : LeftO PySem.Challenge.rw_xh0014_01.row.prog topView topLoose (fun s => xlAt topView [] s && recOk PySem.Challenge.rw_xh0014_01.row.records s) headHook.obs headHook.val 3494 := by
  intro w
  unfold openEnds fencedOpening topFrom
  rw [PySem.W.Fast.te14082659384304107361, PySem.W.Fast.te14364793385576792824, PySem.W.Fast.te10274390034422433532, PySem.W.Fast.te1435165496053646825, PySem.W.Fast.te14289696077712309145, PySem.W.Fast.te4187177175401517315, PySem.W.Fast.te8920871248978507458]
  kernel_rfl
theorem topSaid : PySem.Challenge.rw_xh0014_01.wellSaid = true := by
  rw [PySem.W.Fast.te9446332074065402090]
  kernel_rfl
theorem topHolds (said : PySem.Challenge.rw_xh0014_01.row.wellSaid = true) (hw : PySem.Challenge.rw_xh0014_01.row.toRowW.promised) : PySem.Challenge.rw_xh0014_01.row.Holds := by
  refine holds_open (q := topView) (loose := topLoose) (Xt := fun s => xlAt topView [] s && recOk PySem.Challenge.rw_xh0014_01.row.records s) (XP := XL topView []) (Yf := headHook.obs) (Ya := headHook.val) (YP := headHook.says) (N := 3494) topLeft headHook.of headHook.keeps
    (fun s e => xl_of s (Bool.and_eq_true_iff.mp e).1) XL.keeps (by rfl) (by rfl) (by rfl) (fun s e => recFacts_of (Bool.and_eq_true_iff.mp e).2) rfl said (by decide +kernel) ⟨rfl, rfl, rfl, rfl, rfl, by decide +kernel⟩ hw (walkO (by decide +kernel) rfl)
end Mine
open PySem PySem.W PyProof.Rows PySem.Calls
set_option maxHeartbeats 8000000 in
theorem PySem.Challenge.cw_xh0014_01_holds : PySem.Challenge.rw_xh0014_01.Holds := by
  w_on; refine holds_law Mine.topSaid fun said => Mine.topHolds said ?_
  w_witness2
#print axioms PySem.Challenge.cw_xh0014_01_holds
end
