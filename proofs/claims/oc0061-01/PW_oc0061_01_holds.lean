import PyProof.Rows.All
import Wide.All
import OpenK.AllK
import Wide.FinOn
import PySem.Challenge.RW_oc0061_01
set_option Elab.async false
set_option genSizeOf false
set_option linter.unusedVariables false
section
open PySem PySem.W PyProof.Rows
namespace Mine

/-- plain data: what the program's values are -/
inductive D where
  | none
  | bool (b : Bool)
  | int (i : Int)
  | list (ds : List D)
  | tup (ds : List D)

mutual
noncomputable def D.toP : D → PyData
  | .none => .none
  | .bool b => .bool b
  | .int i => .int i
  | .list ds => .list (D.toPs ds)
  | .tup ds => .tuple (D.toPs ds)
noncomputable def D.toPs : List D → List PyData
  | [] => []
  | d :: ds => D.toP d :: D.toPs ds
end

mutual
noncomputable def D.eq : D → D → Bool
  | .none, .none => true
  | .bool a, .bool b => a == b
  | .bool a, .int j => (if a then 1 else 0) == j
  | .int i, .bool b => i == (if b then 1 else 0)
  | .int i, .int j => i == j
  | .list xs, .list ys => D.eqs xs ys
  | .tup xs, .tup ys => D.eqs xs ys
  | _, _ => false
noncomputable def D.eqs : List D → List D → Bool
  | [], [] => true
  | x :: xs, y :: ys => D.eq x y && D.eqs xs ys
  | _, _ => false
end

mutual
noncomputable def D.dep : D → Nat
  | .list xs => D.deps xs + 1
  | .tup xs => D.deps xs + 1
  | _ => 0
noncomputable def D.deps : List D → Nat
  | [] => 0
  | x :: xs => max (D.dep x) (D.deps xs)
end

/-- `<` of ints and of tuples of such -/
noncomputable def D.lt : Nat → D → D → Option Bool
  | _, .int a, .int b => some (decide (a < b))
  | n + 1, .tup xs, .tup ys => go n xs ys
  | _, _, _ => Option.none
where
  go (n : Nat) : List D → List D → Option Bool
    | x :: xs, y :: ys => if D.dep x ≤ 8 ∨ D.dep y ≤ 8 then (if D.eq x y then go n xs ys else D.lt n x y) else Option.none
    | [], ys => some (decide (0 < ys.length))
    | _ :: _, [] => some false

noncomputable def kgo {α : Type} (lt : Nat → Nat → Option Bool) : KasT α → Option α
  | .ret a => some a
  | .ask i j k => match lt i j with
    | some b => kgo lt (k b)
    | Option.none => Option.none

noncomputable def D.isInt : D → Bool
  | .int _ => true
  | _ => false
noncomputable def D.toInt : D → Int
  | .int i => i
  | _ => 0
noncomputable def D.pairKey : D → Bool
  | .tup (.int _ :: _) => true
  | _ => false

noncomputable def insI (a : Int) : List Int → List Int
  | [] => [a]
  | b :: r => if a ≤ b then a :: b :: r else b :: insI a r
noncomputable def sortI : List Int → List Int
  | [] => []
  | a :: r => insI a (sortI r)

noncomputable def D.ltAt (ds : List D) (i j : Nat) : Option Bool := match ds[i]?, ds[j]? with
  | some x, some y => D.lt 3 x y
  | _, _ => Option.none

noncomputable def D.sort (ds : List D) : Option (List D) :=
  if ds.all D.isInt then some ((sortI (ds.map D.toInt)).map .int)
  else if ds.all D.pairKey && decide (2 ≤ ds.length) then
    (kgo (D.ltAt ds) (kas_sort ds.length)).map fun p => p.toList.map fun i => ds.getD i .none
  else Option.none

inductive BOp where | add | sub | mul | rsh | mod | fdiv | pow
inductive COp where | lt | gt | eq | ne | isin
inductive BI where | len | sorted | sum | tuple

/-- the small language's expressions; names are places in `names` -/
inductive E where
  | var (x : Nat)
  | int (i : Int)
  | neg (i : Int)
  | bool (b : Bool)
  | bin (op : BOp) (a b : E)
  | cmp (op : COp) (a b : E)
  | and (a b : E)
  | not (a : E)
  | ite (c a b : E)
  | list (es : List E)
  | tup (es : List E)
  | idx (a i : E)
  | midx (x : Nat) (i : E)
  | slc (a : E) (lo hi : Option E)
  | call (f : Nat) (es : List E)
  | bi (b : BI) (a : E)
  | mlen (x : Nat)
  | mtrue (x : Nat)
  | comp (caps : List Nat) (elt : E) (gens : List (Nat × E × List E))
  | pop (x : Nat)
  | range (a : E)

inductive S where
  | asg (x : Nat) (e : E)
  | new (x : Nat) (es : List E)
  | asg2 (x y : Nat) (i : Int)
  | unp (x y : Nat) (e : E)
  | set (x : Nat) (i v : E)
  | inc (x : Nat) (i : Int)
  | app (x : Nat) (e : E)
  | ext (x : Nat) (e : E)
  | exp (e : E)
  | ifs (c : E) (a b : List S)
  | whl (c : E) (b : List S)
  | for_ (x : Nat) (it : E) (b : List S)
  | ret (e : E)
  | brk
  | cont
  | trye (b h : List S)
  | tryf (b f : List S)
  | stop

/-! ### the evaluator -/
inductive V where
  | dat (d : D)
  | mref (k : Nat)
abbrev Rho := List (Nat × V)
abbrev Sto := List (Option (List D))

inductive Res (α : Type) where
  | ok (a : α) (W : Sto)
  | exc (cl : Bool) (W : Sto)
  | bad

noncomputable def Res.bind {α β : Type} : Res α → (α → Sto → Res β) → Res β
  | .ok a W, f => f a W
  | .exc c W, _ => .exc c W
  | .bad, _ => .bad

inductive Fl where
  | next | brk | cont
  | ret (d : D)
inductive SRes where
  | ok (f : Fl) (ρ : Rho) (W : Sto)
  | exc (cl : Bool) (ρ : Rho) (W : Sto)
  | bad

noncomputable def Res.to {α : Type} (ρ : Rho) : Res α → (α → Sto → SRes) → SRes
  | .ok a W, f => f a W
  | .exc c W, _ => .exc c ρ W
  | .bad, _ => .bad

noncomputable def SRes.bind : SRes → (Rho → Sto → SRes) → SRes
  | .ok .next ρ W, f => f ρ W
  | r, _ => r

noncomputable def setV (x : Nat) (v : V) : Rho → Rho
  | [] => [(x, v)]
  | (y, u) :: r => if y == x then (x, v) :: r else (y, u) :: setV x v r

noncomputable def getV (ρ : Rho) (x : Nat) : Option V := ρ.lookup x

/-- IndexError: plain; with another one handled (the new one bears a context); no more -/
noncomputable def raiseR {α : Type} (hd : Nat) (W : Sto) : Res α := if hd = 0 then .exc true W else if hd = 1 then .exc false W else .bad

noncomputable def mapR {α β : Type} (f : α → Sto → Res β) : List α → Sto → Res (List β)
  | [], W => .ok [] W
  | a :: as, W => (f a W).bind fun b W1 => (mapR f as W1).bind fun bs W2 => .ok (b :: bs) W2

noncomputable def lim : Nat := 1000000
noncomputable def fits (n : Nat) : Bool := decide (n ≤ lim)

noncomputable def binD (op : BOp) (a b : D) : Option D :=
  match op with
  | .add => (match a, b with
    | .int x, .int y => some (.int (x + y))
    | .list xs, .list ys => if fits (xs.length + ys.length) then some (.list (xs ++ ys)) else Option.none
    | .tup xs, .tup ys => if fits (xs.length + ys.length) then some (.tup (xs ++ ys)) else Option.none
    | _, _ => Option.none)
  | .sub => (match a, b with | .int x, .int y => some (.int (x - y)) | _, _ => Option.none)
  | .mul => (match a, b with | .int x, .int y => if x.natAbs < 2 ^ 32 then some (.int (x * y)) else Option.none | _, _ => Option.none)
  | .rsh => (match a, b with | .int x, .int y => if 0 ≤ y then some (.int (x.fdiv (2 ^ y.toNat))) else Option.none | _, _ => Option.none)
  | .mod => (match a, b with | .int x, .int y => if y ≠ 0 then some (.int (x.fmod y)) else Option.none | _, _ => Option.none)
  | .fdiv => (match a, b with | .int x, .int y => if 0 < y ∧ y < 1000 then some (.int (x.fdiv y)) else Option.none | _, _ => Option.none)
  | .pow => (match a, b with | .int x, .int y => if 0 ≤ y ∧ y ≤ 64 ∧ x.natAbs < 2 ^ 16 then some (.int (x ^ y.toNat)) else Option.none | _, _ => Option.none)

noncomputable def cmpD (op : COp) (a b : D) : Option D :=
  match op with
  | .eq => if a.dep ≤ 8 ∨ b.dep ≤ 8 then some (.bool (D.eq a b)) else Option.none
  | .ne => if a.dep ≤ 8 ∨ b.dep ≤ 8 then some (.bool (!D.eq a b)) else Option.none
  | .lt => (D.lt 3 a b).map .bool
  | .gt => match a, b with | .int x, .int y => some (.bool (decide (y < x))) | _, _ => Option.none
  | .isin => match a, b with | .int x, .list ys => some (.bool (ys.any fun y => D.eq y (.int x))) | _, _ => Option.none

noncomputable def biD (op : BI) (a : D) : Option D :=
  match op, a with
  | .len, .list xs => if fits xs.length then some (.int xs.length) else Option.none
  | .len, .tup xs => if fits xs.length then some (.int xs.length) else Option.none
  | .sorted, .list xs => if xs.length < 64 then (D.sort xs).map .list else Option.none
  | .sum, .list xs => if xs.all D.isInt then some (.int (xs.map D.toInt).sum) else Option.none
  | .tuple, .list xs => if fits xs.length then some (.tup xs) else Option.none
  | _, _ => Option.none

noncomputable def optR {α : Type} (o : Option α) (W : Sto) : Res α := match o with | some a => .ok a W | Option.none => .bad

noncomputable def idxD (hd : Nat) (a i : D) (W : Sto) : Res D :=
  match a, i with
  | .list xs, .int j => if 0 ≤ j ∧ j < 2 ^ 62 then (match xs[j.toNat]? with | some d => .ok d W | Option.none => raiseR hd W) else .bad
  | .tup xs, .int j => if -(2 ^ 62) ≤ j ∧ j < 2 ^ 62 then optR ((seqIndex? j xs.length).bind fun k => xs[k]?) W else .bad
  | _, _ => .bad

noncomputable def slcD (a : D) (lo hi : Option Int) : Option D :=
  match a, lo, hi with
  | .list xs, Option.none, some h => if 0 ≤ h ∧ fits xs.length = true then some (.list (xs.take h.toNat)) else Option.none
  | .list xs, some l, Option.none => if 0 ≤ l ∧ fits xs.length = true then some (.list (xs.drop l.toNat)) else Option.none
  | .tup xs, Option.none, some h => if h = -1 ∧ xs.isEmpty = false ∧ fits xs.length = true then some (.tup xs.dropLast) else Option.none
  | _, _, _ => Option.none

noncomputable def itemsD : D → Option (List D)
  | .tup xs => some xs
  | .list xs => some xs
  | _ => Option.none

structure Fn where
  params : List Nat
  body : List S

noncomputable def exFor (f : Rho → Sto → SRes) (x : Nat) : List D → Rho → Sto → SRes
  | [], ρ, W => .ok .next ρ W
  | d :: ds, ρ, W =>
    match f (setV x (.dat d) ρ) W with
    | .ok .next ρ' W' => exFor f x ds ρ' W'
    | .ok .cont ρ' W' => exFor f x ds ρ' W'
    | .ok .brk ρ' W' => .ok .next ρ' W'
    | .ok (.ret d) ρ' W' => .ok (.ret d) ρ' W'
    | _ => .bad

noncomputable def exSeq (f : S → Rho → Sto → SRes) : List S → Rho → Sto → SRes
  | [], ρ, W => .ok .next ρ W
  | s :: ss, ρ, W => (f s ρ W).bind (exSeq f ss)

noncomputable def noExc {α : Type} : Res α → Res α
  | .exc _ _ => .bad
  | r => r

noncomputable def testAll (f : E → Sto → Res Bool) : List E → Sto → Res Bool
  | [], W => .ok true W
  | c :: cs, W => (f c W).bind fun t W1 => if t then testAll f cs W1 else .ok false W1

/-- the items of one clause, one by one -/
noncomputable def exItems (f : D → Sto → Res Unit) : List D → Sto → Res Unit
  | [], W => .ok () W
  | d :: ds, W => (f d W).bind fun _ W1 => exItems f ds W1

/-- one more in the list under way -/
noncomputable def emitR (k : Nat) (r : D) (W : Sto) : Res Unit := match W[k]? with
  | some (some acc) => if fits (acc.length + 1) then .ok () (W.set k (some (acc ++ [r]))) else .bad
  | _ => .bad
noncomputable def takeR (k : Nat) (W : Sto) : Res D := match W[k]? with
  | some (some r) => if fits r.length then .ok (.list r) (W.take k) else .bad
  | _ => .bad

noncomputable def isLive (W : Sto) (k : Nat) : Bool := match W[k]? with
  | some (some _) => true
  | _ => false

noncomputable def bindArgsV : List Nat → List V → Option Rho
  | [], [] => some []
  | x :: xs, v :: vs => (bindArgsV xs vs).map ((x, v) :: ·)
  | _, _ => Option.none

/-- a comprehension's own names: all different, none captured -/
noncomputable def compOk (caps : List Nat) (gens : List (Nat × E × List E)) : Bool :=
  gens.all (fun g => !caps.contains g.1) && decide ((gens.map (·.1)).Nodup)

section
variable (fns : List Fn)
mutual
noncomputable def evE (n : Nat) (hd : Nat) (ρ : Rho) (e : E) (W : Sto) : Res D :=
  match n with
  | 0 => .bad
  | n + 1 =>
    match e with
    | .var x => match getV ρ x with
      | some (.dat d) => .ok d W
      | some (.mref k) => (match W[k]? with | some (some ds) => .ok (.list ds) (W.set k Option.none) | _ => .bad)
      | Option.none => .bad
    | .int i => .ok (.int i) W
    | .neg i => .ok (.int (-i)) W
    | .bool b => .ok (.bool b) W
    | .bin op a b => (evE n hd ρ a W).bind fun da W1 => (evE n hd ρ b W1).bind fun db W2 => optR (binD op da db) W2
    | .cmp op a b => (evE n hd ρ a W).bind fun da W1 => (evE n hd ρ b W1).bind fun db W2 => optR (cmpD op da db) W2
    | .and a b => (evE n hd ρ a W).bind fun da W1 => (match da with | .bool true => evE n hd ρ b W1 | .bool false => .ok (.bool false) W1 | _ => .bad)
    | .not _ => .bad
    | .ite c a b => (evT n hd ρ c W).bind fun t W1 => if t then evE n hd ρ a W1 else evE n hd ρ b W1
    | .list es => (mapR (fun e W => evE n hd ρ e W) es W).bind fun ds W1 => if fits ds.length then .ok (.list ds) W1 else .bad
    | .tup es => (mapR (fun e W => evE n hd ρ e W) es W).bind fun ds W1 => if fits ds.length then .ok (.tup ds) W1 else .bad
    | .idx a i => (evE n hd ρ a W).bind fun da W1 => (evE n hd ρ i W1).bind fun di W2 => idxD hd da di W2
    | .midx x i => match getV ρ x with
      | some (.mref k) => (evE n hd ρ i W).bind fun di W1 => (match W1[k]?, di with
        | some (some ds), .int j => if 0 ≤ j ∧ j < 2 ^ 62 then optR ds[j.toNat]? W1 else .bad
        | _, _ => .bad)
      | _ => .bad
    | .slc a lo hi => (evE n hd ρ a W).bind fun da W1 => (evO n hd ρ lo W1).bind fun l W2 => (evO n hd ρ hi W2).bind fun h W3 => optR (slcD da l h) W3
    | .call f es => if hd = 0 then (mapR (fun e W => evV n ρ e W) es W).bind fun vs W1 => callF n f vs W1 else .bad
    | .bi b a => if hd = 0 then (evE n hd ρ a W).bind fun da W1 => optR (biD b da) W1 else .bad
    | .mlen x => match getV ρ x with
      | some (.mref k) => (match W[k]? with | some (some ds) => if fits ds.length then .ok (.int ds.length) W else .bad | _ => .bad)
      | _ => .bad
    | .mtrue _ => .bad
    | .comp caps elt gens => if hd = 0 ∧ compOk caps gens = true then (match gens with
      | (x, it, ifs) :: rest => (evI n ρ it W).bind fun ds W1 => (noExc (evG n (ρ.filter fun p => caps.contains p.1) x ifs rest elt ds W1.length (W1 ++ [some []]))).bind fun _ W2 => takeR W1.length W2
      | [] => .bad) else .bad
    | .pop x => match getV ρ x with
      | some (.mref k) => (match W[k]? with
        | some (some ds) => (match ds.getLast? with | some d => if fits ds.length then .ok d (W.set k (some ds.dropLast)) else .bad | Option.none => .bad)
        | _ => .bad)
      | _ => .bad
    | .range _ => .bad
termination_by structural n
noncomputable def evO (n : Nat) (hd : Nat) (ρ : Rho) (e : Option E) (W : Sto) : Res (Option Int) :=
  match n with
  | 0 => .bad
  | n + 1 => match e with
    | Option.none => .ok Option.none W
    | some e => (evE n hd ρ e W).bind fun d W1 => match d with | .int j => (if -(2 ^ 62) ≤ j ∧ j < 2 ^ 62 then .ok (some j) W1 else .bad) | _ => .bad
termination_by structural n
/-- an argument: a mutable list goes by reference -/
noncomputable def evV (n : Nat) (ρ : Rho) (e : E) (W : Sto) : Res V :=
  match n with
  | 0 => .bad
  | n + 1 => match e with
    | .var x => match getV ρ x with
      | some v => .ok v W
      | Option.none => .bad
    | e => (evE n 0 ρ e W).bind fun d W1 => .ok (.dat d) W1
termination_by structural n
noncomputable def evT (n : Nat) (hd : Nat) (ρ : Rho) (e : E) (W : Sto) : Res Bool :=
  match n with
  | 0 => .bad
  | n + 1 => match e with
    | .cmp op a b => (evE n hd ρ a W).bind fun da W1 => (evE n hd ρ b W1).bind fun db W2 => (match cmpD op da db with | some (.bool t) => .ok t W2 | _ => .bad)
    | .and a b => (evT n hd ρ a W).bind fun t W1 => if t then evT n hd ρ b W1 else .ok false W1
    | .not a => (evT n hd ρ a W).bind fun t W1 => .ok (!t) W1
    | .mtrue x => match getV ρ x with
      | some (.mref k) => (match W[k]? with | some (some ds) => if fits ds.length then .ok (!ds.isEmpty) W else .bad | _ => .bad)
      | _ => .bad
    | .bool b => .ok b W
    | _ => .bad
termination_by structural n
/-- what a for runs over -/
noncomputable def evI (n : Nat) (ρ : Rho) (e : E) (W : Sto) : Res (List D) :=
  match n with
  | 0 => .bad
  | n + 1 => match e with
    | .range a => (evE n 0 ρ a W).bind fun d W1 => match d with | .int j => (if 0 ≤ j ∧ j < 1000 then .ok ((List.range j.toNat).map fun (i : Nat) => D.int (i : Int)) W1 else .bad) | _ => .bad
    | e => (evE n 0 ρ e W).bind fun d W1 => optR (itemsD d) W1
termination_by structural n
noncomputable def evG (n : Nat) (ρ : Rho) (x : Nat) (ifs : List E) (rest : List (Nat × E × List E)) (elt : E) (ds : List D) (k : Nat) (W : Sto) : Res Unit :=
  match n with
  | 0 => .bad
  | n + 1 => exItems (fun d W =>
      (testAll (fun c W => evT n 0 (setV x (.dat d) ρ) c W) ifs W).bind fun t W1 =>
        if t then (match rest with
          | [] => (evE n 0 (setV x (.dat d) ρ) elt W1).bind fun r W2 => emitR k r W2
          | (y, it, ifs') :: rest' => (evI n (setV x (.dat d) ρ) it W1).bind fun ds' W2 => evG n (setV x (.dat d) ρ) y ifs' rest' elt ds' k W2)
        else .ok () W1) ds W
termination_by structural n
noncomputable def callF (n : Nat) (f : Nat) (vs : List V) (W : Sto) : Res D :=
  match n with
  | 0 => .bad
  | n + 1 => match fns[f]? with
    | Option.none => .bad
    | some fn => match bindArgsV fn.params vs with
      | Option.none => .bad
      | some ρ => match exSeq (fun s ρ W => exS n 0 ρ s W) fn.body ρ W with
        | .ok (.ret d) _ W' => .ok d (W'.take W.length)
        | .ok .next _ W' => .ok .none (W'.take W.length)
        | _ => .bad
termination_by structural n
noncomputable def exS (n : Nat) (hd : Nat) (ρ : Rho) (s : S) (W : Sto) : SRes :=
  match n with
  | 0 => .bad
  | n + 1 => match s with
    | .asg x e => (evE n hd ρ e W).to ρ fun d W1 => .ok .next (setV x (.dat d) ρ) W1
    | .new x es => if hd = 0 then (mapR (fun e W => evE n hd ρ e W) es W).to ρ fun ds W1 => if fits ds.length then .ok .next (setV x (.mref W1.length) ρ) (W1 ++ [some ds]) else .bad else .bad
    | .asg2 x y i => .ok .next (setV y (.dat (.int i)) (setV x (.dat (.int i)) ρ)) W
    | .unp x y e => if hd = 0 then (evE n hd ρ e W).to ρ fun d W1 => (match d with | .tup [a, b] => .ok .next (setV y (.dat b) (setV x (.dat a) ρ)) W1 | _ => .bad) else .bad
    | .set x i v => match getV ρ x with
      | some (.mref k) => (evE n hd ρ v W).to ρ fun dv W1 => (evE n hd ρ i W1).to ρ fun di W2 => (match W2[k]?, di with
        | some (some ds), .int j => if 0 ≤ j ∧ j < ds.length ∧ j < 2 ^ 62 then .ok .next ρ (W2.set k (some (ds.set j.toNat dv))) else .bad
        | _, _ => .bad)
      | _ => .bad
    | .inc x i => match getV ρ x with
      | some (.dat (.int j)) => .ok .next (setV x (.dat (.int (j + i))) ρ) W
      | _ => .bad
    | .app x e => match getV ρ x with
      | some (.mref k) => if isLive W k = true then (evE n hd ρ e W).to ρ fun d W1 => (match W1[k]? with
        | some (some ds) => if fits (ds.length + 1) then .ok .next ρ (W1.set k (some (ds ++ [d]))) else .bad
        | _ => .bad) else .bad
      | _ => .bad
    | .ext x e => match getV ρ x with
      | some (.mref k) => if isLive W k = true then (evE n hd ρ e W).to ρ fun d W1 => (match W1[k]?, d with
        | some (some ds), .list es => if fits (ds.length + es.length) then .ok .next ρ (W1.set k (some (ds ++ es))) else .bad
        | _, _ => .bad) else .bad
      | _ => .bad
    | .exp e => (evE n hd ρ e W).to ρ fun d W1 => (match d with | .none => .ok .next ρ W1 | _ => .bad)
    | .ifs c a b => (evT n hd ρ c W).to ρ fun t W1 => exSeq (fun s ρ W => exS n hd ρ s W) (if t then a else b) ρ W1
    | .whl c b => (evT n hd ρ c W).to ρ fun t W1 =>
        if t then (match exSeq (fun s ρ W => exS n hd ρ s W) b ρ W1 with
          | .ok .next ρ' W' => exS n hd ρ' (.whl c b) W'
          | .ok .cont ρ' W' => exS n hd ρ' (.whl c b) W'
          | .ok .brk ρ' W' => .ok .next ρ' W'
          | r => r)
        else .ok .next ρ W1
    | .for_ x it b => if hd = 0 then (noExc (evI n ρ it W)).to ρ fun ds W1 => exFor (fun ρ W => exSeq (fun s ρ W => exS n 0 ρ s W) b ρ W) x ds ρ W1 else .bad
    | .ret e => (evE n hd ρ e W).to ρ fun d W1 => .ok (.ret d) ρ W1
    | .brk => .ok .brk ρ W
    | .cont => .ok .cont ρ W
    | .trye b h => if hd = 0 then (match exSeq (fun s ρ W => exS n 0 ρ s W) b ρ W with
      | .exc _ ρ' W' => (match exSeq (fun s ρ W => exS n 2 ρ s W) h ρ' W' with
        | .ok f ρ'' W'' => .ok f ρ'' W''
        | _ => .bad)
      | r => r) else .bad
    | .tryf b f => if hd = 0 then (match exSeq (fun s ρ W => exS n 0 ρ s W) b ρ W with
      | .ok .next ρ' W' => (match exSeq (fun s ρ W => exS n 0 ρ s W) f ρ' W' with
        | .ok .next ρ'' W'' => .ok .next ρ'' W''
        | .exc c ρ'' W'' => .exc c ρ'' W''
        | _ => .bad)
      | .exc true ρ' W' => (match exSeq (fun s ρ W => exS n 1 ρ s W) f ρ' W' with
        | .ok .next ρ'' W'' => .exc true ρ'' W''
        | .exc c ρ'' W'' => .exc c ρ'' W''
        | _ => .bad)
      | _ => .bad) else .bad
    | .stop => .bad
termination_by structural n
end
end
end Mine
end
section
open PySem PySem.W PyProof.Rows
namespace Mine

noncomputable def names : List Str := (["heap", "item", "lastelt", "returnitem", "startpos", "pos", "newitem", "parentpos", "parent", "endpos", "childpos", "rightpos", "data", "n",
  "expected", "actual", "i", "j", "missing", "unexpected", "e", "a", "base", "many", "built", "other", "gone", "come", "over", "whole", "thing", "script", "things", "given",
  "x", "c", "marks", "one", "core", "rim", "least", "prices", "off", "due", "number", "way", "places", "after", "picked", "k", "turned", "chosen", "total", "lost", "won"] : List String).map Str.ofString
noncomputable def nm (i : Nat) : Str := names.getD i "?"
/-- y is the i-th name -/
noncomputable def isNm (y : Str) (i : Nat) : Bool := decide (i < names.length) && y == nm i
noncomputable def fnames : List Str := ["heappush", "heappop", "_siftdown", "_siftup", "median_low", "median_high", "sorted_list_difference", "_law_ways", "_law_turned", "law"]
noncomputable def fnm (i : Nat) : Str := fnames.getD i "?"
noncomputable def biName : BI → Str
  | .len => "len" | .sorted => "sorted" | .sum => "sum" | .tuple => "tuple"

abbrev Sc := List (Str × NameKind)
noncomputable def isVar (sc : Sc) (x : Str) : Bool := x != ("__debug__" : Str) && x != ("__classdict__" : Str) && (match sc.lookup x with | some .local | some .cell | some .free => true | _ => false)
noncomputable def isTgt (sc : Sc) (x : Str) : Bool := match sc.lookup x with | some .local | some .cell => true | _ => false
noncomputable def isGlob (sc : Sc) (x : Str) : Bool := x != ("__debug__" : Str) && (match sc.lookup x with | some .globalImplicit => true | _ => false)

noncomputable def bopOf : BOp → Operator
  | .add => .Add | .sub => .Sub | .mul => .Mult | .rsh => .RShift | .mod => .Mod | .fdiv => .FloorDiv | .pow => .Pow
noncomputable def bopOk (op : BOp) (o : Operator) : Bool := o == bopOf op
theorem bop_of {op : BOp} {o : Operator} (h : bopOk op o = true) : o = bopOf op := beq_iff_eq.mp h
noncomputable def copOf : COp → CmpOp
  | .lt => .Lt | .gt => .Gt | .eq => .Eq | .ne => .NotEq | .isin => .In
noncomputable def copOk (op : COp) (o : CmpOp) : Bool := o == copOf op
theorem cop_of {op : COp} {o : CmpOp} (h : copOk op o = true) : o = copOf op := beq_iff_eq.mp h

noncomputable def all2 {α β : Type} (f : α → β → Bool) : List α → List β → Bool
  | [], [] => true
  | a :: as, b :: bs => f a b && all2 f as bs
  | _, _ => false

/-- a comprehension's own scope, beside the one around it -/
noncomputable def scopeOk (sc : Sc) (caps : List Nat) (scope : Scope) : Bool :=
  (match scope.kind with | .function => true | _ => false) &&
  scope.names.all (fun p => match p.2 with
    | .local => (match scope.names.lookup p.1 with | some .local => true | _ => false)
    | .cell => (match scope.names.lookup p.1 with | some .cell => true | _ => false)
    | .free => (match scope.names.lookup p.1 with | some .free => true | _ => false) && (match sc.lookup p.1 with | some .cell | some .free => true | _ => false)
    | _ => true) &&
  caps.all fun x => decide (x < names.length) && match scope.names.lookup (nm x) with | some .free => true | _ => false

/-- a getter bears the equation that it found -/
theorem aP {α : Type} {P : α → Prop} {x : Option {t : α // P t}} {z : {t : α // P t} → Bool} {G : Prop} (h : x.any z = true) (K : ∀ t (e : P t), z ⟨t, e⟩ = true → G) : G := by
  cases x with
  | none => exact absurd h Bool.false_ne_true
  | some t => exact K t.1 t.2 h
noncomputable def gE_Name (x : PySem.Expr) : Option {t : Str × Pos // x = .Name t.1 t.2} := if h : x.ctorIdx = 23 then PySem.Expr.Name.elim (motive_1 := fun x => Option {t : Str × Pos // x = .Name t.1 t.2}) x h fun y q => some ⟨(y, q), rfl⟩ else none
noncomputable def gE_Constant (x : PySem.Expr) : Option {t : Const × Nat × Pos // x = .Constant t.1 t.2.1 t.2.2} := if h : x.ctorIdx = 19 then PySem.Expr.Constant.elim (motive_1 := fun x => Option {t : Const × Nat × Pos // x = .Constant t.1 t.2.1 t.2.2}) x h fun c k p => some ⟨(c, k, p), rfl⟩ else none
noncomputable def gE_UnaryOp (x : PySem.Expr) : Option {t : UnaryOp × PySem.Expr × Pos // x = .UnaryOp t.1 t.2.1 t.2.2} := if h : x.ctorIdx = 3 then PySem.Expr.UnaryOp.elim (motive_1 := fun x => Option {t : UnaryOp × PySem.Expr × Pos // x = .UnaryOp t.1 t.2.1 t.2.2}) x h fun o l p => some ⟨(o, l, p), rfl⟩ else none
noncomputable def gE_BinOp (x : PySem.Expr) : Option {t : PySem.Expr × Operator × PySem.Expr × Pos // x = .BinOp t.1 t.2.1 t.2.2.1 t.2.2.2} := if h : x.ctorIdx = 2 then PySem.Expr.BinOp.elim (motive_1 := fun x => Option {t : PySem.Expr × Operator × PySem.Expr × Pos // x = .BinOp t.1 t.2.1 t.2.2.1 t.2.2.2}) x h fun l o r p => some ⟨(l, o, r, p), rfl⟩ else none
noncomputable def gE_Compare (x : PySem.Expr) : Option {t : PySem.Expr × List CmpOp × List PySem.Expr × Pos // x = .Compare t.1 t.2.1 t.2.2.1 t.2.2.2} := if h : x.ctorIdx = 15 then PySem.Expr.Compare.elim (motive_1 := fun x => Option {t : PySem.Expr × List CmpOp × List PySem.Expr × Pos // x = .Compare t.1 t.2.1 t.2.2.1 t.2.2.2}) x h fun l os rs p => some ⟨(l, os, rs, p), rfl⟩ else none
noncomputable def gE_BoolOp (x : PySem.Expr) : Option {t : BoolOp × List PySem.Expr × Pos // x = .BoolOp t.1 t.2.1 t.2.2} := if h : x.ctorIdx = 0 then PySem.Expr.BoolOp.elim (motive_1 := fun x => Option {t : BoolOp × List PySem.Expr × Pos // x = .BoolOp t.1 t.2.1 t.2.2}) x h fun o vs p => some ⟨(o, vs, p), rfl⟩ else none
noncomputable def gE_IfExp (x : PySem.Expr) : Option {t : PySem.Expr × PySem.Expr × PySem.Expr × Pos // x = .IfExp t.1 t.2.1 t.2.2.1 t.2.2.2} := if h : x.ctorIdx = 5 then PySem.Expr.IfExp.elim (motive_1 := fun x => Option {t : PySem.Expr × PySem.Expr × PySem.Expr × Pos // x = .IfExp t.1 t.2.1 t.2.2.1 t.2.2.2}) x h fun t l r p => some ⟨(t, l, r, p), rfl⟩ else none
noncomputable def gE_List (x : PySem.Expr) : Option {t : List PySem.Expr × Pos // x = .List t.1 t.2} := if h : x.ctorIdx = 24 then PySem.Expr.List.elim (motive_1 := fun x => Option {t : List PySem.Expr × Pos // x = .List t.1 t.2}) x h fun xs p => some ⟨(xs, p), rfl⟩ else none
noncomputable def gE_Tuple (x : PySem.Expr) : Option {t : List PySem.Expr × Nat × Pos // x = .Tuple t.1 t.2.1 t.2.2} := if h : x.ctorIdx = 25 then PySem.Expr.Tuple.elim (motive_1 := fun x => Option {t : List PySem.Expr × Nat × Pos // x = .Tuple t.1 t.2.1 t.2.2}) x h fun xs k p => some ⟨(xs, k, p), rfl⟩ else none
noncomputable def gE_Subscript (x : PySem.Expr) : Option {t : PySem.Expr × PySem.Expr × Pos // x = .Subscript t.1 t.2.1 t.2.2} := if h : x.ctorIdx = 21 then PySem.Expr.Subscript.elim (motive_1 := fun x => Option {t : PySem.Expr × PySem.Expr × Pos // x = .Subscript t.1 t.2.1 t.2.2}) x h fun v s p => some ⟨(v, s, p), rfl⟩ else none
noncomputable def gE_Slice (x : PySem.Expr) : Option {t : Option PySem.Expr × Option PySem.Expr × Option PySem.Expr × Pos // x = .Slice t.1 t.2.1 t.2.2.1 t.2.2.2} := if h : x.ctorIdx = 26 then PySem.Expr.Slice.elim (motive_1 := fun x => Option {t : Option PySem.Expr × Option PySem.Expr × Option PySem.Expr × Pos // x = .Slice t.1 t.2.1 t.2.2.1 t.2.2.2}) x h fun l u st p => some ⟨(l, u, st, p), rfl⟩ else none
noncomputable def gE_Call (x : PySem.Expr) : Option {t : PySem.Expr × List PySem.Expr × List Keyword × Pos // x = .Call t.1 t.2.1 t.2.2.1 t.2.2.2} := if h : x.ctorIdx = 16 then PySem.Expr.Call.elim (motive_1 := fun x => Option {t : PySem.Expr × List PySem.Expr × List Keyword × Pos // x = .Call t.1 t.2.1 t.2.2.1 t.2.2.2}) x h fun f as ks p => some ⟨(f, as, ks, p), rfl⟩ else none
noncomputable def gE_Attribute (x : PySem.Expr) : Option {t : PySem.Expr × Str × Pos // x = .Attribute t.1 t.2.1 t.2.2} := if h : x.ctorIdx = 20 then PySem.Expr.Attribute.elim (motive_1 := fun x => Option {t : PySem.Expr × Str × Pos // x = .Attribute t.1 t.2.1 t.2.2}) x h fun v m p => some ⟨(v, m, p), rfl⟩ else none
noncomputable def gE_ListComp (x : PySem.Expr) : Option {t : PySem.Expr × List Comprehension × Scope × Pos // x = .ListComp t.1 t.2.1 t.2.2.1 t.2.2.2} := if h : x.ctorIdx = 8 then PySem.Expr.ListComp.elim (motive_1 := fun x => Option {t : PySem.Expr × List Comprehension × Scope × Pos // x = .ListComp t.1 t.2.1 t.2.2.1 t.2.2.2}) x h fun ex gs scope p => some ⟨(ex, gs, scope, p), rfl⟩ else none
noncomputable def gS_Assign (x : PySem.Stmt) : Option {t : List PySem.Expr × PySem.Expr × Pos // x = .Assign t.1 t.2.1 t.2.2} := if h : x.ctorIdx = 5 then PySem.Stmt.Assign.elim (motive_2 := fun x => Option {t : List PySem.Expr × PySem.Expr × Pos // x = .Assign t.1 t.2.1 t.2.2}) x h fun ts v p => some ⟨(ts, v, p), rfl⟩ else none
noncomputable def gS_AugAssign (x : PySem.Stmt) : Option {t : PySem.Expr × Operator × PySem.Expr × Pos // x = .AugAssign t.1 t.2.1 t.2.2.1 t.2.2.2} := if h : x.ctorIdx = 7 then PySem.Stmt.AugAssign.elim (motive_2 := fun x => Option {t : PySem.Expr × Operator × PySem.Expr × Pos // x = .AugAssign t.1 t.2.1 t.2.2.1 t.2.2.2}) x h fun t o v p => some ⟨(t, o, v, p), rfl⟩ else none
noncomputable def gS_Expr (x : PySem.Stmt) : Option {t : PySem.Expr × Pos // x = .Expr t.1 t.2} := if h : x.ctorIdx = 24 then PySem.Stmt.Expr.elim (motive_2 := fun x => Option {t : PySem.Expr × Pos // x = .Expr t.1 t.2}) x h fun v p => some ⟨(v, p), rfl⟩ else none
noncomputable def gS_If (x : PySem.Stmt) : Option {t : PySem.Expr × List PySem.Stmt × List PySem.Stmt × Pos // x = .If t.1 t.2.1 t.2.2.1 t.2.2.2} := if h : x.ctorIdx = 12 then PySem.Stmt.If.elim (motive_2 := fun x => Option {t : PySem.Expr × List PySem.Stmt × List PySem.Stmt × Pos // x = .If t.1 t.2.1 t.2.2.1 t.2.2.2}) x h fun t bs os p => some ⟨(t, bs, os, p), rfl⟩ else none
noncomputable def gS_While (x : PySem.Stmt) : Option {t : PySem.Expr × List PySem.Stmt × List PySem.Stmt × Pos // x = .While t.1 t.2.1 t.2.2.1 t.2.2.2} := if h : x.ctorIdx = 11 then PySem.Stmt.While.elim (motive_2 := fun x => Option {t : PySem.Expr × List PySem.Stmt × List PySem.Stmt × Pos // x = .While t.1 t.2.1 t.2.2.1 t.2.2.2}) x h fun t bs os p => some ⟨(t, bs, os, p), rfl⟩ else none
noncomputable def gS_For (x : PySem.Stmt) : Option {t : PySem.Expr × PySem.Expr × List PySem.Stmt × List PySem.Stmt × Pos // x = .For t.1 t.2.1 t.2.2.1 t.2.2.2.1 t.2.2.2.2} := if h : x.ctorIdx = 9 then PySem.Stmt.For.elim (motive_2 := fun x => Option {t : PySem.Expr × PySem.Expr × List PySem.Stmt × List PySem.Stmt × Pos // x = .For t.1 t.2.1 t.2.2.1 t.2.2.2.1 t.2.2.2.2}) x h fun t ix bs os p => some ⟨(t, ix, bs, os, p), rfl⟩ else none
noncomputable def gS_Return (x : PySem.Stmt) : Option {t : Option PySem.Expr × Pos // x = .Return t.1 t.2} := if h : x.ctorIdx = 3 then PySem.Stmt.Return.elim (motive_2 := fun x => Option {t : Option PySem.Expr × Pos // x = .Return t.1 t.2}) x h fun v p => some ⟨(v, p), rfl⟩ else none
noncomputable def gS_Break (x : PySem.Stmt) : Option {t : Pos // x = .Break t} := if h : x.ctorIdx = 26 then PySem.Stmt.Break.elim (motive_2 := fun x => Option {t : Pos // x = .Break t}) x h fun p => some ⟨p, rfl⟩ else none
noncomputable def gS_Continue (x : PySem.Stmt) : Option {t : Pos // x = .Continue t} := if h : x.ctorIdx = 27 then PySem.Stmt.Continue.elim (motive_2 := fun x => Option {t : Pos // x = .Continue t}) x h fun p => some ⟨p, rfl⟩ else none
noncomputable def gS_Try (x : PySem.Stmt) : Option {t : List PySem.Stmt × List ExceptHandler × List PySem.Stmt × List PySem.Stmt × Pos // x = .Try t.1 t.2.1 t.2.2.1 t.2.2.2.1 t.2.2.2.2} := if h : x.ctorIdx = 17 then PySem.Stmt.Try.elim (motive_2 := fun x => Option {t : List PySem.Stmt × List ExceptHandler × List PySem.Stmt × List PySem.Stmt × Pos // x = .Try t.1 t.2.1 t.2.2.1 t.2.2.2.1 t.2.2.2.2}) x h fun bs hs os fs p => some ⟨(bs, hs, os, fs, p), rfl⟩ else none
noncomputable def gC_int (x : Const) : Option {t : Int // x = .int t} := if h : x.ctorIdx = 2 then Const.int.elim (motive := fun x => Option {t : Int // x = .int t}) x h fun i => some ⟨i, rfl⟩ else none
noncomputable def gC_bool (x : Const) : Option {t : Bool // x = .bool t} := if h : x.ctorIdx = 1 then Const.bool.elim (motive := fun x => Option {t : Bool // x = .bool t}) x h fun b => some ⟨b, rfl⟩ else none
noncomputable def gL_one {α : Type} : List α → Option α
  | [a] => some a
  | _ => none
theorem aL_one {α : Type} {x : List α} {z : α → Bool} {G : Prop} (h : (gL_one x).any z = true) (K : ∀ a, x = [a] → z a = true → G) : G := by
  cases x with
  | nil => exact absurd h Bool.false_ne_true
  | cons a x => cases x with
    | nil => exact K a rfl h
    | cons b x => exact absurd h Bool.false_ne_true
noncomputable def gL_cons {α : Type} : List α → Option (α × List α)
  | a :: l => some (a, l)
  | [] => none
theorem aL_cons {α : Type} {x : List α} {z : α × List α → Bool} {G : Prop} (h : (gL_cons x).any z = true) (K : ∀ a l, x = a :: l → z (a, l) = true → G) : G := by
  cases x with
  | nil => exact absurd h Bool.false_ne_true
  | cons a x => exact K a x rfl h
noncomputable def gL_nil {α : Type} : List α → Option Unit
  | [] => some ()
  | _ => none
theorem aL_nil {α : Type} {x : List α} {z : Unit → Bool} {G : Prop} (h : (gL_nil x).any z = true) (K : x = [] → z () = true → G) : G := by
  cases x with
  | nil => exact K rfl h
  | cons a x => exact absurd h Bool.false_ne_true
noncomputable def gO_none {α : Type} : Option α → Option Unit
  | none => some ()
  | _ => none
theorem aO_none {α : Type} {x : Option α} {z : Unit → Bool} {G : Prop} (h : (gO_none x).any z = true) (K : x = none → z () = true → G) : G := by
  cases x with
  | none => exact K rfl h
  | some a => exact absurd h Bool.false_ne_true
noncomputable def gO_some {α : Type} (x : Option α) : Option α := x
theorem aO_some {α : Type} {x : Option α} {z : α → Bool} {G : Prop} (h : (gO_some x).any z = true) (K : ∀ a, x = some a → z a = true → G) : G := by
  cases x with
  | none => exact absurd h Bool.false_ne_true
  | some a => exact K a rfl h
noncomputable def gK_USub : UnaryOp → Option Unit
  | .USub => some ()
  | _ => none
theorem aK_USub {x : UnaryOp} {z : Unit → Bool} {G : Prop} (h : (gK_USub x).any z = true) (K : x = .USub → z () = true → G) : G := by
  cases x
  case USub => exact K rfl h
  all_goals exact absurd h Bool.false_ne_true
noncomputable def gK_Not : UnaryOp → Option Unit
  | .Not => some ()
  | _ => none
theorem aK_Not {x : UnaryOp} {z : Unit → Bool} {G : Prop} (h : (gK_Not x).any z = true) (K : x = .Not → z () = true → G) : G := by
  cases x
  case Not => exact K rfl h
  all_goals exact absurd h Bool.false_ne_true
noncomputable def gK_And : BoolOp → Option Unit
  | .And => some ()
  | _ => none
theorem aK_And {x : BoolOp} {z : Unit → Bool} {G : Prop} (h : (gK_And x).any z = true) (K : x = .And → z () = true → G) : G := by
  cases x
  case And => exact K rfl h
  all_goals exact absurd h Bool.false_ne_true
noncomputable def gK_Add : Operator → Option Unit
  | .Add => some ()
  | _ => none
theorem aK_Add {x : Operator} {z : Unit → Bool} {G : Prop} (h : (gK_Add x).any z = true) (K : x = .Add → z () = true → G) : G := by
  cases x
  case Add => exact K rfl h
  all_goals exact absurd h Bool.false_ne_true
noncomputable def gH (x : ExceptHandler) : Option PySem.Expr × Option Str × List PySem.Stmt × Pos := match x with
  | .ExceptHandler a b c d => (a, b, c, d)
section
variable (rE : Sc → E → PySem.Expr → Bool) (rO : Sc → Option E → Option PySem.Expr → Bool) (rG : Sc → Nat × E × List E → Comprehension → Bool) (sc : Sc)
noncomputable def kE_var (i : Nat) (x : PySem.Expr) : Bool := (gE_Name x).any fun z0 => isNm z0.1.1 i && isVar sc z0.1.1
noncomputable def kE_int (i : Int) (x : PySem.Expr) : Bool := (gE_Constant x).any fun z0 => (gC_int z0.1.1).any fun z1 => i == z1.1
noncomputable def kE_neg (i : Int) (x : PySem.Expr) : Bool := (gE_UnaryOp x).any fun z0 => (gK_USub z0.1.1).any fun _ => (gE_Constant z0.1.2.1).any fun z2 => (gC_int z2.1.1).any fun z3 => i == z3.1
noncomputable def kE_bool (b : Bool) (x : PySem.Expr) : Bool := (gE_Constant x).any fun z0 => (gC_bool z0.1.1).any fun z1 => b == z1.1
noncomputable def kE_bin (op : BOp) (a b : E) (x : PySem.Expr) : Bool := (gE_BinOp x).any fun z0 => bopOk op z0.1.2.1 && rE sc a z0.1.1 && rE sc b z0.1.2.2.1
noncomputable def kE_cmp (op : COp) (a b : E) (x : PySem.Expr) : Bool := (gE_Compare x).any fun z0 => (gL_one z0.1.2.1).any fun z1 => (gL_one z0.1.2.2.1).any fun z2 => copOk op z1 && !behindInMarks z1 z2 && rE sc a z0.1.1 && rE sc b z2
noncomputable def kE_and (a b : E) (x : PySem.Expr) : Bool := (gE_BoolOp x).any fun z0 => (gK_And z0.1.1).any fun _ => (gL_cons z0.1.2.1).any fun z2 => (gL_one z2.2).any fun z3 => rE sc a z2.1 && rE sc b z3
noncomputable def kE_not (a : E) (x : PySem.Expr) : Bool := (gE_UnaryOp x).any fun z0 => (gK_Not z0.1.1).any fun _ => rE sc a z0.1.2.1
noncomputable def kE_ite (c a b : E) (x : PySem.Expr) : Bool := (gE_IfExp x).any fun z0 => rE sc c z0.1.1 && rE sc a z0.1.2.1 && rE sc b z0.1.2.2.1
noncomputable def kE_list (es : List E) (x : PySem.Expr) : Bool := (gE_List x).any fun z0 => all2 (rE sc) es z0.1.1
noncomputable def kE_tup (es : List E) (x : PySem.Expr) : Bool := (gE_Tuple x).any fun z0 => all2 (rE sc) es z0.1.1
noncomputable def kE_idx (a i : E) (x : PySem.Expr) : Bool := (gE_Subscript x).any fun z0 => rE sc a z0.1.1 && rE sc i z0.1.2.1
noncomputable def kE_midx (a : Nat) (i : E) (x : PySem.Expr) : Bool := (gE_Subscript x).any fun z0 => (gE_Name z0.1.1).any fun z1 => isNm z1.1.1 a && isVar sc z1.1.1 && rE sc i z0.1.2.1
noncomputable def kE_slc (a : E) (lo hi : Option E) (x : PySem.Expr) : Bool := (gE_Subscript x).any fun z0 => (gE_Slice z0.1.2.1).any fun z1 => (gO_none z1.1.2.2.1).any fun _ => rE sc a z0.1.1 && rO sc lo z1.1.1 && rO sc hi z1.1.2.1
noncomputable def kE_call (f : Nat) (es : List E) (x : PySem.Expr) : Bool := (gE_Call x).any fun z0 => (gE_Name z0.1.1).any fun z1 => (gL_nil z0.1.2.2.1).any fun _ => z1.1.1 == fnm f && isGlob sc z1.1.1 && all2 (rE sc) es z0.1.2.1 && decide (z0.1.2.1.length < 20) && decide (f < 10)
noncomputable def kE_bi (b : BI) (a : E) (x : PySem.Expr) : Bool := (gE_Call x).any fun z0 => (gE_Name z0.1.1).any fun z1 => (gL_one z0.1.2.1).any fun z2 => (gL_nil z0.1.2.2.1).any fun _ => z1.1.1 == biName b && isGlob sc z1.1.1 && rE sc a z2
noncomputable def kE_mlen (a : Nat) (x : PySem.Expr) : Bool := (gE_Call x).any fun z0 => (gE_Name z0.1.1).any fun z1 => (gL_one z0.1.2.1).any fun z2 => (gL_nil z0.1.2.2.1).any fun _ => (gE_Name z2).any fun z4 => z1.1.1 == ("len" : Str) && isGlob sc z1.1.1 && isNm z4.1.1 a && isVar sc z4.1.1
noncomputable def kE_mtrue (a : Nat) (x : PySem.Expr) : Bool := (gE_Name x).any fun z0 => isNm z0.1.1 a && isVar sc z0.1.1
noncomputable def kE_pop (a : Nat) (x : PySem.Expr) : Bool := (gE_Call x).any fun z0 => (gE_Attribute z0.1.1).any fun z1 => (gE_Name z1.1.1).any fun z2 => (gL_nil z0.1.2.1).any fun _ => (gL_nil z0.1.2.2.1).any fun _ => isNm z2.1.1 a && isVar sc z2.1.1 && z1.1.2.1 == ("pop" : Str) && z1.1.2.2.endLine == z0.1.2.2.2.line
noncomputable def kE_range (a : E) (x : PySem.Expr) : Bool := (gE_Call x).any fun z0 => (gE_Name z0.1.1).any fun z1 => (gL_one z0.1.2.1).any fun z2 => (gL_nil z0.1.2.2.1).any fun _ => z1.1.1 == ("range" : Str) && isGlob sc z1.1.1 && rE sc a z2
noncomputable def kE_comp (caps : List Nat) (elt : E) (gens : List (Nat × E × List E)) (x : PySem.Expr) : Bool := (gE_ListComp x).any fun a => (gL_cons a.1.2.1).any fun b => (gE_Name b.1.target).any fun c => (gL_cons gens).any fun d =>
  (b.1.is_async == 0) && scopeOk sc caps a.1.2.2.1 && isNm c.1.1 d.1.1 && isTgt a.1.2.2.1.names c.1.1 && rE sc d.1.2.1 b.1.iter && all2 (rE a.1.2.2.1.names) d.1.2.2 b.1.ifs && all2 (rG a.1.2.2.1.names) d.2 b.2 && rE a.1.2.2.1.names elt a.1.1 && decide (d.2.length ≤ 1)
noncomputable def kE (e : E) (x : PySem.Expr) : Bool :=
  match e with
  | .var i => kE_var sc i x
  | .int i => kE_int i x
  | .neg i => kE_neg i x
  | .bool b => kE_bool b x
  | .bin op a b => kE_bin rE sc op a b x
  | .cmp op a b => kE_cmp rE sc op a b x
  | .and a b => kE_and rE sc a b x
  | .not a => kE_not rE sc a x
  | .ite c a b => kE_ite rE sc c a b x
  | .list es => kE_list rE sc es x
  | .tup es => kE_tup rE sc es x
  | .idx a i => kE_idx rE sc a i x
  | .midx a i => kE_midx rE sc a i x
  | .slc a lo hi => kE_slc rE rO sc a lo hi x
  | .call f es => kE_call rE sc f es x
  | .bi b a => kE_bi rE sc b a x
  | .mlen a => kE_mlen sc a x
  | .mtrue a => kE_mtrue sc a x
  | .pop a => kE_pop sc a x
  | .range a => kE_range rE sc a x
  | .comp caps elt gens => kE_comp rE rG sc caps elt gens x
end
noncomputable def kG (sc : Sc) (rE : E → PySem.Expr → Bool) (g : Nat × E × List E) (x : Comprehension) : Bool := (gE_Name x.target).any fun a => (x.is_async == 0) && isNm a.1.1 g.1 && isTgt sc a.1.1 && rE g.2.1 x.iter && all2 rE g.2.2 x.ifs
mutual
noncomputable def chE (n : Nat) (sc : Sc) (e : E) (x : PySem.Expr) : Bool :=
  match n with
  | 0 => false
  | n + 1 => kE (chE n) (chO n) (chG n) sc e x
noncomputable def chO (n : Nat) (sc : Sc) (e : Option E) (x : Option PySem.Expr) : Bool :=
  match n with
  | 0 => false
  | n + 1 => match e, x with
    | none, none => true
    | some e, some x => chE n sc e x
    | _, _ => false
noncomputable def chG (n : Nat) (sc : Sc) (g : Nat × E × List E) (x : Comprehension) : Bool :=
  match n with
  | 0 => false
  | n + 1 => kG sc (chE n sc) g x
end
noncomputable def isCall (x : PySem.Expr) : Bool := (gE_Call x).any fun _ => true
noncomputable def isLC (x : PySem.Expr) : Bool := (gE_ListComp x).any fun _ => true
section
variable (sc : Sc) (rE : E → PySem.Expr → Bool) (rS : S → PySem.Stmt → Bool)
noncomputable def kS_asg (i : Nat) (e : E) (x : PySem.Stmt) : Bool := (gS_Assign x).any fun z0 => (gL_one z0.1.1).any fun z1 => (gE_Name z1).any fun z2 => isNm z2.1.1 i && isTgt sc z2.1.1 && rE e z0.1.2.1
noncomputable def kS_new (i : Nat) (es : List E) (x : PySem.Stmt) : Bool := (gS_Assign x).any fun z0 => (gL_one z0.1.1).any fun z1 => (gE_Name z1).any fun z2 => (gE_List z0.1.2.1).any fun z3 => isNm z2.1.1 i && isTgt sc z2.1.1 && all2 rE es z3.1.1
noncomputable def kS_asg2 (i j : Nat) (k : Int) (x : PySem.Stmt) : Bool := (gS_Assign x).any fun z0 => (gL_cons z0.1.1).any fun z1 => (gL_one z1.2).any fun z2 => (gE_Name z1.1).any fun z3 => (gE_Name z2).any fun z4 => (gE_Constant z0.1.2.1).any fun z5 => (gC_int z5.1.1).any fun z6 => isNm z3.1.1 i && isTgt sc z3.1.1 && isNm z4.1.1 j && isTgt sc z4.1.1 && k == z6.1
noncomputable def kS_unp (i j : Nat) (e : E) (x : PySem.Stmt) : Bool := (gS_Assign x).any fun z0 => (gL_one z0.1.1).any fun z1 => (gE_Tuple z1).any fun z2 => (gL_cons z2.1.1).any fun z3 => (gL_one z3.2).any fun z4 => (gE_Name z3.1).any fun z5 => (gE_Name z4).any fun z6 => isNm z5.1.1 i && isTgt sc z5.1.1 && isNm z6.1.1 j && isTgt sc z6.1.1 && rE e z0.1.2.1 && isCall z0.1.2.1
noncomputable def kS_set (a : Nat) (i e : E) (x : PySem.Stmt) : Bool := (gS_Assign x).any fun z0 => (gL_one z0.1.1).any fun z1 => (gE_Subscript z1).any fun z2 => (gE_Name z2.1.1).any fun z3 => isNm z3.1.1 a && isVar sc z3.1.1 && rE i z2.1.2.1 && rE e z0.1.2.1 && !isLC z0.1.2.1
noncomputable def kS_inc (i : Nat) (k : Int) (x : PySem.Stmt) : Bool := (gS_AugAssign x).any fun z0 => (gE_Name z0.1.1).any fun z1 => (gK_Add z0.1.2.1).any fun _ => (gE_Constant z0.1.2.2.1).any fun z3 => (gC_int z3.1.1).any fun z4 => isNm z1.1.1 i && isTgt sc z1.1.1 && isVar sc z1.1.1 && k == z4.1
noncomputable def kS_app (a : Nat) (e : E) (x : PySem.Stmt) : Bool := (gS_Expr x).any fun z0 => (gE_Call z0.1.1).any fun z1 => (gE_Attribute z1.1.1).any fun z2 => (gE_Name z2.1.1).any fun z3 => (gL_one z1.1.2.1).any fun z4 => (gL_nil z1.1.2.2.1).any fun _ => isNm z3.1.1 a && isVar sc z3.1.1 && z2.1.2.1 == ("append" : Str) && z2.1.2.2.endLine == z1.1.2.2.2.line && rE e z4
noncomputable def kS_ext (a : Nat) (e : E) (x : PySem.Stmt) : Bool := (gS_Expr x).any fun z0 => (gE_Call z0.1.1).any fun z1 => (gE_Attribute z1.1.1).any fun z2 => (gE_Name z2.1.1).any fun z3 => (gL_one z1.1.2.1).any fun z4 => (gL_nil z1.1.2.2.1).any fun _ => isNm z3.1.1 a && isVar sc z3.1.1 && z2.1.2.1 == ("extend" : Str) && z2.1.2.2.endLine == z1.1.2.2.2.line && rE e z4
noncomputable def kS_exp (e : E) (x : PySem.Stmt) : Bool := (gS_Expr x).any fun z0 => rE e z0.1.1 && isCall z0.1.1
noncomputable def kS_ifs (c : E) (a b : List S) (x : PySem.Stmt) : Bool := (gS_If x).any fun z0 => rE c z0.1.1 && all2 rS a z0.1.2.1 && all2 rS b z0.1.2.2.1
noncomputable def kS_whl (c : E) (b : List S) (x : PySem.Stmt) : Bool := (gS_While x).any fun z0 => (gL_nil z0.1.2.2.1).any fun _ => rE c z0.1.1 && all2 rS b z0.1.2.1
noncomputable def kS_for_ (i : Nat) (it : E) (b : List S) (x : PySem.Stmt) : Bool := (gS_For x).any fun z0 => (gE_Name z0.1.1).any fun z1 => (gL_nil z0.1.2.2.2.1).any fun _ => isNm z1.1.1 i && isTgt sc z1.1.1 && rE it z0.1.2.1 && all2 rS b z0.1.2.2.1
noncomputable def kS_ret (e : E) (x : PySem.Stmt) : Bool := (gS_Return x).any fun z0 => (gO_some z0.1.1).any fun z1 => rE e z1
noncomputable def kS_brk  (x : PySem.Stmt) : Bool := (gS_Break x).any fun z0 => true
noncomputable def kS_cont  (x : PySem.Stmt) : Bool := (gS_Continue x).any fun z0 => true
noncomputable def kS_trye (b h : List S) (x : PySem.Stmt) : Bool := (gS_Try x).any fun z0 => (gL_one z0.1.2.1).any fun z1 => (gO_some (gH z1).1).any fun z2 => (gE_Name z2).any fun z3 => (gO_none (gH z1).2.1).any fun _ => (gL_nil z0.1.2.2.1).any fun _ => (gL_nil z0.1.2.2.2.1).any fun _ => z3.1.1 == ("IndexError" : Str) && isGlob sc z3.1.1 && all2 rS b z0.1.1 && all2 rS h (gH z1).2.2.1 && !(gH z1).2.2.1.isEmpty
noncomputable def kS_tryf (b f : List S) (x : PySem.Stmt) : Bool := (gS_Try x).any fun z0 => (gL_nil z0.1.2.1).any fun _ => (gL_nil z0.1.2.2.1).any fun _ => all2 rS b z0.1.1 && all2 rS f z0.1.2.2.2.1 && !z0.1.2.2.2.1.isEmpty
noncomputable def kS_stop (x : PySem.Stmt) : Bool := decide (x.ctorIdx = 16)
noncomputable def kS (s : S) (x : PySem.Stmt) : Bool :=
  match s with
  | .asg i e => kS_asg sc rE i e x
  | .new i es => kS_new sc rE i es x
  | .asg2 i j k => kS_asg2 sc i j k x
  | .unp i j e => kS_unp sc rE i j e x
  | .set a i e => kS_set sc rE a i e x
  | .inc i k => kS_inc sc i k x
  | .app a e => kS_app sc rE a e x
  | .ext a e => kS_ext sc rE a e x
  | .exp e => kS_exp rE e x
  | .ifs c a b => kS_ifs rE rS c a b x
  | .whl c b => kS_whl rE rS c b x
  | .for_ i it b => kS_for_ sc rE rS i it b x
  | .ret e => kS_ret rE e x
  | .brk  => kS_brk  x
  | .cont  => kS_cont  x
  | .trye b h => kS_trye sc rS b h x
  | .tryf b f => kS_tryf rS b f x
  | .stop => kS_stop x
end
noncomputable def chS (n : Nat) (sc : Sc) (s : S) (x : PySem.Stmt) : Bool :=
  match n with
  | 0 => false
  | n + 1 => kS sc (chE n sc) (chS n sc) s x


/-! the program, in the small language -/
noncomputable def fHeappush : Fn := ⟨[0, 1], [.app 0 (.var 1), .exp (.call 2 [.var 0, .int 0, .bin .sub (.mlen 0) (.int 1)])]⟩
noncomputable def fHeappop : Fn := ⟨[0], [.asg 2 (.pop 0),
  .ifs (.mtrue 0) [.asg 3 (.midx 0 (.int 0)), .set 0 (.int 0) (.var 2), .exp (.call 3 [.var 0, .int 0]), .ret (.var 3)] [], .ret (.var 2)]⟩
noncomputable def sdLoop : S := .whl (.cmp .gt (.var 5) (.var 4)) [.asg 7 (.bin .rsh (.bin .sub (.var 5) (.int 1)) (.int 1)), .asg 8 (.midx 0 (.var 7)),
    .ifs (.cmp .lt (.var 6) (.var 8)) [.set 0 (.var 5) (.var 8), .asg 5 (.var 7), .cont] [], .brk]
noncomputable def fSiftdown : Fn := ⟨[0, 4, 5], [.asg 6 (.midx 0 (.var 5)), sdLoop, .set 0 (.var 5) (.var 6)]⟩
noncomputable def suLoop : S := .whl (.cmp .lt (.var 10) (.var 9)) [.asg 11 (.bin .add (.var 10) (.int 1)),
    .ifs (.and (.cmp .lt (.var 11) (.var 9)) (.not (.cmp .lt (.midx 0 (.var 10)) (.midx 0 (.var 11))))) [.asg 10 (.var 11)] [],
    .set 0 (.var 5) (.midx 0 (.var 10)), .asg 5 (.var 10), .asg 10 (.bin .add (.bin .mul (.int 2) (.var 5)) (.int 1))]
noncomputable def fSiftup : Fn := ⟨[0, 5], [.asg 9 (.mlen 0), .asg 4 (.var 5), .asg 6 (.midx 0 (.var 5)), .asg 10 (.bin .add (.bin .mul (.int 2) (.var 5)) (.int 1)),
  suLoop, .set 0 (.var 5) (.var 6), .exp (.call 2 [.var 0, .var 4, .var 5])]⟩
noncomputable def fMedianLow : Fn := ⟨[12], [.asg 12 (.bi .sorted (.var 12)), .asg 13 (.bi .len (.var 12)), .ifs (.cmp .eq (.var 13) (.int 0)) [.stop] [],
  .ifs (.cmp .eq (.bin .mod (.var 13) (.int 2)) (.int 1)) [.ret (.idx (.var 12) (.bin .fdiv (.var 13) (.int 2)))]
    [.ret (.idx (.var 12) (.bin .sub (.bin .fdiv (.var 13) (.int 2)) (.int 1)))]]⟩
noncomputable def fMedianHigh : Fn := ⟨[12], [.asg 12 (.bi .sorted (.var 12)), .asg 13 (.bi .len (.var 12)), .ifs (.cmp .eq (.var 13) (.int 0)) [.stop] [],
  .ret (.idx (.var 12) (.bin .fdiv (.var 13) (.int 2)))]⟩
noncomputable def wlE : S := .whl (.cmp .eq (.idx (.var 14) (.var 16)) (.var 20)) [.inc 16 1]
noncomputable def wlA : S := .whl (.cmp .eq (.idx (.var 15) (.var 17)) (.var 21)) [.inc 17 1]
noncomputable def sldTry : List S := [.asg 20 (.idx (.var 14) (.var 16)), .asg 21 (.idx (.var 15) (.var 17)),
      .ifs (.cmp .lt (.var 20) (.var 21)) [.app 18 (.var 20), .inc 16 1, wlE]
        [.ifs (.cmp .gt (.var 20) (.var 21)) [.app 19 (.var 21), .inc 17 1, wlA]
          [.inc 16 1, .tryf [wlE] [.inc 17 1, wlA]]]]
noncomputable def sldEnd : List S := [.ext 18 (.slc (.var 14) (some (.var 16)) none), .ext 19 (.slc (.var 15) (some (.var 17)) none), .brk]
noncomputable def sldLoop : S := .whl (.bool true) [.trye sldTry sldEnd]
noncomputable def fSld : Fn := ⟨[14, 15], [.asg2 16 17 0, .new 18 [], .new 19 [], sldLoop, .ret (.tup [.var 18, .var 19])]⟩
noncomputable def fWays : Fn := ⟨[22, 23], [.asg 24 (.int 0), .for_ 25 (.var 23) [.unp 26 27 (.call 6 [.var 22, .var 25]),
  .asg 24 (.bin .add (.bin .add (.var 24) (.bi .len (.var 26))) (.bi .len (.var 27)))], .ret (.var 24)]⟩
noncomputable def fTurned : Fn := ⟨[22, 28, 29], [.ret (.comp [22, 28] (.var 30) [(30, .var 29, [.cmp .ne (.cmp .isin (.var 30) (.var 22)) (.cmp .isin (.var 30) (.var 28))])])]⟩
noncomputable def eThings : E := .ite (.cmp .lt (.bi .len (.var 31)) (.int 2)) (.list [.int 0, .int 1, .int 2]) (.list [.int 0, .int 1, .int 2, .int 3])
noncomputable def eGiven : E := .comp [32] (.comp [34] (.var 35) [(35, .var 32, [.cmp .eq (.bin .mod (.bin .rsh (.var 34) (.var 35)) (.int 2)) (.int 1)])])
  [(34, .bin .add (.list [.int 3, .int 6]) (.slc (.var 31) none (some (.int 10))), [])]
noncomputable def eMarks : E := .comp [33] (.comp [35] (.ite (.cmp .isin (.var 35) (.var 37)) (.int 1) (.int 0)) [(37, .var 33, [])]) [(35, .var 32, [])]
noncomputable def eCore (f : Nat) : E := .comp [36] (.var 35) [(35, .var 32, [.cmp .eq (.call f [.idx (.var 36) (.var 35)]) (.int 1)])]
noncomputable def ePrices : E := .bi .sorted (.comp [38, 33, 40, 32] (.tup [.bin .sub (.call 7 [.call 8 [.var 38, .list [.var 35], .var 32], .var 33]) (.var 40), .var 35]) [(35, .var 32, [])])
noncomputable def pushes : S := .ifs (.cmp .lt (.var 47) (.bi .len (.var 32))) [
      .exp (.call 0 [.var 0, .tup [.bin .add (.var 45) (.idx (.idx (.var 41) (.var 47)) (.int 0)), .bin .add (.var 46) (.tup [.var 47])]]),
      .ifs (.cmp .ne (.var 46) (.tup [])) [
        .exp (.call 0 [.var 0, .tup [.bin .sub (.bin .add (.var 45) (.idx (.idx (.var 41) (.var 47)) (.int 0))) (.idx (.idx (.var 41) (.bin .sub (.var 47) (.int 1))) (.int 0)),
          .bin .add (.slc (.var 46) none (some (.neg 1))) (.tup [.var 47])]])] []] []
noncomputable def loopHead : List S := [.unp 45 46 (.call 1 [.var 0]), .app 42 (.tup [.var 45, .var 46]),
  .asg 47 (.ite (.cmp .ne (.var 46) (.tup [])) (.bin .add (.idx (.var 46) (.neg 1)) (.int 1)) (.int 0)), pushes]
noncomputable def loopTail : List S := [
   .asg 48 (.bi .tuple (.comp [44] (.var 49) [(49, .range (.bi .len (.var 32)), [.cmp .eq (.bin .mod (.bin .rsh (.var 44) (.var 49)) (.int 2)) (.int 1)])])),
   .asg 50 (.comp [41] (.idx (.idx (.var 41) (.var 49)) (.int 1)) [(49, .var 48, [])]),
   .asg 51 (.call 8 [.var 38, .var 50, .var 32]),
   .asg 52 (.bi .sum (.comp [51, 32] (.int 1) [(37, .var 33, []), (35, .var 32, [.cmp .ne (.cmp .isin (.var 35) (.var 37)) (.cmp .isin (.var 35) (.var 51))])])),
   .app 43 (.tup [.var 52, .var 48]),
   .unp 53 54 (.call 6 [.var 38, .var 51]),
   .ifs (.cmp .ne (.tup [.var 53, .var 54]) (.tup [.comp [50] (.var 35) [(35, .var 38, [.cmp .isin (.var 35) (.var 50)])],
     .comp [50] (.var 35) [(35, .var 51, [.cmp .isin (.var 35) (.var 50)])]])) [.ret (.bool false)] [],
   .ifs (.cmp .ne (.and (.cmp .eq (.var 53) (.list [])) (.cmp .eq (.idx (.call 6 [.var 51, .var 39]) (.int 0)) (.list []))) (.cmp .eq (.var 52) (.var 40))) [.ret (.bool false)] []]
noncomputable def lawPre : List S := [.asg 32 eThings, .asg 33 eGiven, .asg 36 eMarks, .asg 38 (eCore 4), .asg 39 (eCore 5), .asg 40 (.call 7 [.var 38, .var 33]), .asg 41 ePrices,
  .new 0 [.tup [.var 40, .tup []]], .new 42 [], .new 43 []]
noncomputable def lawLoop : S := .for_ 44 (.range (.bin .pow (.int 2) (.bi .len (.var 32)))) (loopHead ++ loopTail)
noncomputable def lawEnd : S := .ret (.and (.cmp .eq (.var 0) (.list [])) (.cmp .eq (.var 42) (.bi .sorted (.var 43))))
noncomputable def fLaw : Fn := ⟨[31], lawPre ++ [lawLoop, lawEnd]⟩
noncomputable def fns : List Fn := [fHeappush, fHeappop, fSiftdown, fSiftup, fMedianLow, fMedianHigh, fSld, fWays, fTurned, fLaw]

/-- the program's own defs, by name -/
noncomputable def defOf (f : Str) : List PySem.Stmt → Option (Arguments × List PySem.Stmt × Scope)
  | [] => none
  | .FunctionDef name args body _ _ _ scope _ _ _ :: r => if name == f then some (args, body, scope) else defOf f r
  | _ :: r => defOf f r
noncomputable def chF (i : Nat) : Bool :=
  match defOf (fnm i) PySem.Challenge.pw_oc0061_01.main.body, fns[i]? with
  | some (args, body, scope), some fn => all2 (fun (a : Arg) x => isNm a.arg x && isTgt scope.names a.arg) args.args fn.params && all2 (chS 40 scope.names) fn.body body
  | _, _ => false
theorem ch_all : ∀ i < 10, chF i = true := by decide +kernel

end Mine
end
section
open PySem PySem.W PyProof.Rows PySem.Calls
namespace Mine

/-! ### data -/
theorem toPs_eq : ∀ ds : List D, D.toPs ds = ds.map D.toP
  | [] => rfl
  | d :: ds => by rw [D.toPs, toPs_eq ds]; rfl
theorem toPs_length (ds : List D) : (D.toPs ds).length = ds.length := by rw [toPs_eq, List.length_map]
mutual
theorem canLay_toP : ∀ d : D, d.toP.canLay0 = true
  | .none => rfl
  | .bool _ => rfl
  | .int _ => rfl
  | .list ds => by rw [D.toP, PyData.canLay0]; exact canLay_toPs ds
  | .tup ds => by rw [D.toP, PyData.canLay0]; exact canLay_toPs ds
theorem canLay_toPs : ∀ ds : List D, PyData.canLayAll0 (D.toPs ds) = true
  | [] => rfl
  | d :: ds => by rw [D.toPs, PyData.canLayAll0, canLay_toP d, canLay_toPs ds]; rfl
end
mutual
theorem dep_toP : ∀ d : D, d.toP.depth = d.dep
  | .none => rfl
  | .bool _ => rfl
  | .int _ => rfl
  | .list ds => by rw [D.toP, PyData.depth, D.dep, dep_toPs ds]
  | .tup ds => by rw [D.toP, PyData.depth, D.dep, dep_toPs ds]
theorem dep_toPs : ∀ ds : List D, PyData.depthAll (D.toPs ds) = D.deps ds
  | [] => rfl
  | d :: ds => by rw [D.toPs, PyData.depthAll, D.deps, dep_toP d, dep_toPs ds]
end
mutual
theorem eqv_toP : ∀ a b : D, PyData.eqv a.toP b.toP = D.eq a b
  | .none, b => by cases b <;> simp [D.toP, PyData.eqv, D.eq]
  | .bool x, b => by cases b <;> simp [D.toP, PyData.eqv, D.eq]
  | .int x, b => by cases b <;> simp [D.toP, PyData.eqv, D.eq]
  | .list xs, b => by
    cases b with
    | list ys => simp only [D.toP, PyData.eqv, D.eq]; exact eqv_toPs xs ys
    | _ => simp [D.toP, PyData.eqv, D.eq]
  | .tup xs, b => by
    cases b with
    | tup ys => simp only [D.toP, PyData.eqv, D.eq]; exact eqv_toPs xs ys
    | _ => simp [D.toP, PyData.eqv, D.eq]
theorem eqv_toPs : ∀ as bs : List D, PyData.eqvAll (D.toPs as) (D.toPs bs) = D.eqs as bs
  | [], [] => rfl
  | [], _ :: _ => rfl
  | _ :: _, [] => rfl
  | a :: as, b :: bs => by rw [D.toPs, D.toPs, PyData.eqvAll, D.eqs, eqv_toP a b, eqv_toPs as bs]
end

/-! ### heaps -/
noncomputable def NsO (o : Obj) (m : Str → Option Value) : Prop := ∃ es ep, o.data = .dict es ep ∧ StrKeys es ∧ ∀ name, nsFind es name = m name
/-- the same object; of a young namespace: the same names -/
noncomputable def Same (B : Nat) (a : Addr) (o o' : Obj) : Prop := o' = o ∨ (B ≤ a ∧ (∃ es ep, o.data = .dict es ep) ∧ (∃ es ep, o'.data = .dict es ep) ∧ ∀ m, NsO o m → NsO o' m)
theorem Same.refl {B : Nat} {a : Addr} {o : Obj} : Same B a o o := .inl rfl
theorem Same.eq {B : Nat} {a : Addr} {o o' : Obj} (h : Same B a o o') (hd : ∀ es ep, o.data ≠ .dict es ep) : o' = o := by
  rcases h with rfl | ⟨_, ⟨es, ep, e⟩, _⟩
  · rfl
  · exact absurd e (hd es ep)
theorem Same.ns {B : Nat} {a : Addr} {o o' : Obj} {m} (h : Same B a o o') (n : NsO o m) : NsO o' m := by
  rcases h with rfl | ⟨_, _, _, h⟩
  · exact n
  · exact h m n
theorem Same.trans {B : Nat} {a : Addr} {o o' o'' : Obj} (h : Same B a o o') (h' : Same B a o' o'') : Same B a o o'' := by
  rcases h with rfl | ⟨hb, hd, hd1, h⟩
  · exact h'
  · rcases h' with rfl | ⟨_, _, hd2, h'⟩
    · exact .inr ⟨hb, hd, hd1, h⟩
    · exact .inr ⟨hb, hd, hd2, fun m n => h' m (h m n)⟩

abbrev Adr := Addr → Prop
structure Keep (B : Nat) (T : Adr) (h h' : Heap) : Prop where
  obj : ∀ a o, h.get? a = some o → ¬ T a → ∃ o', h'.get? a = some o' ∧ Same B a o o'
  all : ∀ a o, h.get? a = some o → ∃ o', h'.get? a = some o'

abbrev Kept (h h' : Heap) : Prop := ∀ a o, h.get? a = some o → h'.get? a = some o

theorem Kept.keep {B : Nat} {T : Adr} {h h' : Heap} (k : Kept h h') : Keep B T h h' := ⟨fun a o e _ => ⟨o, k a o e, .refl⟩, fun a o e => ⟨o, k a o e⟩⟩
theorem Kept.trans {h h' h'' : Heap} (k : Kept h h') (k' : Kept h' h'') : Kept h h'' := fun a o e => k' a o (k a o e)
theorem Keep.refl {B : Nat} {T : Adr} {h : Heap} : Keep B T h h := Kept.keep fun _ _ e => e
theorem Keep.trans {B : Nat} {T T' : Adr} {h h' h'' : Heap} (k : Keep B T h h') (k' : Keep B T' h' h'') (hT : ∀ a o, h.get? a = some o → T' a → T a) : Keep B T h h'' :=
  ⟨fun a o e n => by
    obtain ⟨o', e', s⟩ := k.obj a o e n
    obtain ⟨o'', e'', s'⟩ := k'.obj a o' e' fun t => n (hT a o e t)
    exact ⟨o'', e'', s.trans s'⟩,
   fun a o e => by obtain ⟨o', e'⟩ := k.all a o e; exact k'.all a o' e'⟩
theorem Keep.mono {B : Nat} {T T' : Adr} {h h' : Heap} (k : Keep B T h h') (hT : ∀ a o, h.get? a = some o → T a → T' a) : Keep B T' h h' :=
  ⟨fun a o e n => k.obj a o e fun t => n (hT a o e t), k.all⟩
theorem Keep.sameBut {B : Nat} {T : Adr} {h h' : Heap} {a : Addr} {o' : Obj} (hs : Heap.SameBut a h h') (ha : T a) (h1 : h'.get? a = some o') : Keep B T h h' :=
  ⟨fun b o e n => ⟨o, (hs.2 b fun q => n (q ▸ ha)).trans e, .refl⟩, fun b o e => by
    by_cases q : b = a
    · exact ⟨o', q ▸ h1⟩
    · exact ⟨o, (hs.2 b q).trans e⟩⟩

theorem Keep.ns {B : Nat} {T : Adr} {h h' : Heap} {L : Addr} {m} (k : Keep B T h h') (hn : h.Ns L m) (hT : ¬ T L) : h'.Ns L m := by
  obtain ⟨o, es, ep, ho, r⟩ := hn
  obtain ⟨o', ho', s⟩ := k.obj L o ho hT
  obtain ⟨es', ep', r'⟩ := s.ns ⟨es, ep, r⟩
  exact ⟨o', es', ep', ho', r'⟩
theorem Keep.isCell {B : Nat} {T : Adr} {h h' : Heap} {c : Addr} {v} (k : Keep B T h h') (hc : h.IsCell c v) (hT : ¬ T c) : h'.IsCell c v := by
  obtain ⟨o, ho, hd⟩ := hc
  obtain ⟨o', ho', s⟩ := k.obj c o ho hT
  rw [s.eq fun es ep q => by rw [hd] at q; cases q] at ho'
  exact ⟨o, ho', hd⟩
theorem Keep.isList {B : Nat} {T : Adr} {h h' : Heap} {a : Addr} {xs} (k : Keep B T h h') (hc : h.IsList a xs) (hT : ¬ T a) : h'.IsList a xs := by
  obtain ⟨o, ho, hc, n, hd⟩ := hc
  obtain ⟨o', ho', s⟩ := k.obj a o ho hT
  rw [s.eq fun es ep q => by rw [hd] at q; cases q] at ho'
  exact ⟨o, ho', hc, n, hd⟩
theorem Keep.listIter {B : Nat} {T : Adr} {h h' : Heap} {a l : Addr} {i} (k : Keep B T h h') (hc : h.IsListIter a l i) (hT : ¬ T a) : h'.IsListIter a l i := by
  obtain ⟨o, ho, hc, hd⟩ := hc
  obtain ⟨o', ho', s⟩ := k.obj a o ho hT
  rw [s.eq fun es ep q => by rw [hd] at q; cases q] at ho'
  exact ⟨o, ho', hc, hd⟩

/-- nothing in T is a tuple -/
noncomputable def NoTup (T : Adr) (h : Heap) : Prop := ∀ a o, T a → h.get? a = some o → o.cls ≠ .type "tuple"

mutual
/-- the value v reads as d in h; all lists and tuples are plain, no list is one of N -/
inductive Rd (h : Heap) (N : Adr) : Value → D → Prop
  | none : Rd h N .none .none
  | bool (b : Bool) : Rd h N (.bool b) (.bool b)
  | int (i : Int) (t : Tok) : Rd h N (.int i t) (.int i)
  | list {a : Addr} {vs : List Value} {n : Nat} {ds : List D} : h.get? a = some { cls := .type "list", data := .seq vs.toArray n } → RdAll h N vs ds → ¬ N a → Rd h N (.ref a) (.list ds)
  | tup {a : Addr} {vs : List Value} {n : Nat} {ds : List D} : h.get? a = some { cls := .type "tuple", data := .seq vs.toArray n } → RdAll h N vs ds → Rd h N (.ref a) (.tup ds)
inductive RdAll (h : Heap) (N : Adr) : List Value → List D → Prop
  | nil : RdAll h N [] []
  | cons {v : Value} {vs : List Value} {d : D} {ds : List D} : Rd h N v d → RdAll h N vs ds → RdAll h N (v :: vs) (d :: ds)
end

section
variable {B : Nat} {T N : Adr} {h h' : Heap}
mutual
theorem Rd.keep (k : Keep B T h h') (hT : NoTup T h) (hN : ∀ a o, h.get? a = some o → N a → T a) : ∀ {v : Value} {d : D}, Rd h T v d → Rd h' N v d
  | _, _, .none => .none
  | _, _, .bool b => .bool b
  | _, _, .int i t => .int i t
  | _, _, .list h1 h2 h3 => by
    obtain ⟨o', e', s⟩ := k.obj _ _ h1 h3
    rw [s.eq fun es ep q => by cases q] at e'
    exact .list e' (RdAll.keep k hT hN h2) fun q => h3 (hN _ _ h1 q)
  | _, _, .tup h1 h2 => by
    obtain ⟨o', e', s⟩ := k.obj _ _ h1 (fun t => hT _ _ t h1 rfl)
    rw [s.eq fun es ep q => by cases q] at e'
    exact .tup e' (RdAll.keep k hT hN h2)
theorem RdAll.keep (k : Keep B T h h') (hT : NoTup T h) (hN : ∀ a o, h.get? a = some o → N a → T a) : ∀ {vs : List Value} {ds : List D}, RdAll h T vs ds → RdAll h' N vs ds
  | _, _, .nil => .nil
  | _, _, .cons r rs => .cons (Rd.keep k hT hN r) (RdAll.keep k hT hN rs)
end
mutual
theorem Rd.kpt (k : Keep B (fun _ => False) h h') : ∀ {v : Value} {d : D}, Rd h N v d → Rd h' N v d
  | _, _, .none => .none
  | _, _, .bool b => .bool b
  | _, _, .int i t => .int i t
  | _, _, .list h1 h2 h3 => by
    obtain ⟨o', e', s⟩ := k.obj _ _ h1 id
    rw [s.eq fun es ep q => by cases q] at e'
    exact .list e' (RdAll.kpt k h2) h3
  | _, _, .tup h1 h2 => by
    obtain ⟨o', e', s⟩ := k.obj _ _ h1 id
    rw [s.eq fun es ep q => by cases q] at e'
    exact .tup e' (RdAll.kpt k h2)
theorem RdAll.kpt (k : Keep B (fun _ => False) h h') : ∀ {vs : List Value} {ds : List D}, RdAll h N vs ds → RdAll h' N vs ds
  | _, _, .nil => .nil
  | _, _, .cons r rs => .cons (Rd.kpt k r) (RdAll.kpt k rs)
end
theorem Rd.kept {v : Value} {d : D} (r : Rd h N v d) (k : Kept h h') : Rd h' N v d := Rd.kpt (B := 0) k.keep r
theorem RdAll.kept {vs : List Value} {ds : List D} (r : RdAll h N vs ds) (k : Kept h h') : RdAll h' N vs ds := RdAll.kpt (B := 0) k.keep r
mutual
theorem Rd.weaken {N' : Adr} (hN : ∀ a o, h.get? a = some o → N' a → N a) : ∀ {v : Value} {d : D}, Rd h N v d → Rd h N' v d
  | _, _, .none => .none
  | _, _, .bool b => .bool b
  | _, _, .int i t => .int i t
  | _, _, .list h1 h2 h3 => .list h1 (RdAll.weaken hN h2) fun q => h3 (hN _ _ h1 q)
  | _, _, .tup h1 h2 => .tup h1 (RdAll.weaken hN h2)
theorem RdAll.weaken {N' : Adr} (hN : ∀ a o, h.get? a = some o → N' a → N a) : ∀ {vs : List Value} {ds : List D}, RdAll h N vs ds → RdAll h N' vs ds
  | _, _, .nil => .nil
  | _, _, .cons r rs => .cons (Rd.weaken hN r) (RdAll.weaken hN rs)
end
mutual
theorem Rd.reads : ∀ {v : Value} {d : D}, Rd h N v d → ∃ as, Reads h v d.toP as
  | _, _, .none => ⟨_, .none⟩
  | _, _, .bool b => ⟨_, .bool b⟩
  | _, _, .int i t => ⟨_, .int i t⟩
  | _, _, .list h1 h2 _ => let ⟨_, r⟩ := RdAll.reads h2; ⟨_, .list h1 rfl rfl (by simpa using r)⟩
  | _, _, .tup h1 h2 => let ⟨_, r⟩ := RdAll.reads h2; ⟨_, .tuple h1 rfl rfl (by simpa using r)⟩
theorem RdAll.reads : ∀ {vs : List Value} {ds : List D}, RdAll h N vs ds → ∃ as, ReadsAll h vs (D.toPs ds) as
  | _, _, .nil => ⟨_, .nil⟩
  | _, _, .cons r rs => let ⟨_, r⟩ := Rd.reads r; let ⟨_, rs⟩ := RdAll.reads rs; ⟨_, .cons r rs⟩
end

theorem RdAll.uncons {vs : List Value} {d : D} {ds : List D} (r : RdAll h N vs (d :: ds)) : ∃ v vs', vs = v :: vs' ∧ Rd h N v d ∧ RdAll h N vs' ds := by
  cases r with
  | cons h1 h2 => exact ⟨_, _, rfl, h1, h2⟩
theorem RdAll.unnil {vs : List Value} (r : RdAll h N vs []) : vs = [] := by cases r; rfl
theorem RdAll.length : ∀ {ds : List D} {vs : List Value}, RdAll h N vs ds → vs.length = ds.length
  | [], vs, r => by rw [r.unnil]; rfl
  | d :: ds, vs, r => by
    obtain ⟨v, vs', rfl, _, r'⟩ := r.uncons
    rw [List.length_cons, List.length_cons, r'.length]
theorem RdAll.append : ∀ {ds es : List D} {vs ws : List Value}, RdAll h N vs ds → RdAll h N ws es → RdAll h N (vs ++ ws) (ds ++ es)
  | [], es, vs, ws, r, r' => by rw [r.unnil]; exact r'
  | d :: ds, es, vs, ws, r, r' => by
    obtain ⟨v, vs', rfl, q, r⟩ := r.uncons
    exact .cons q (r.append r')
theorem RdAll.get : ∀ {ds : List D} {vs : List Value}, RdAll h N vs ds → ∀ {k : Nat} {d : D}, ds[k]? = some d → ∃ v, vs[k]? = some v ∧ Rd h N v d
  | [], vs, r, k, d, e => by simp at e
  | x :: ds, vs, r, k, d, e => by
    obtain ⟨v, vs', rfl, q, r⟩ := r.uncons
    cases k with
    | zero => simp at e; subst e; exact ⟨v, rfl, q⟩
    | succ k => simp at e; obtain ⟨u, e', q'⟩ := r.get e; exact ⟨u, by simpa using e', q'⟩
theorem RdAll.set : ∀ {ds : List D} {vs : List Value}, RdAll h N vs ds → ∀ {k : Nat} {v : Value} {d : D}, Rd h N v d → RdAll h N (vs.set k v) (ds.set k d)
  | [], vs, r, k, v, d, _ => by rw [r.unnil]; exact .nil
  | x :: ds, vs, r, k, v, d, q => by
    obtain ⟨u, vs', rfl, q', r⟩ := r.uncons
    cases k with
    | zero => exact .cons q r
    | succ k => exact .cons q' (r.set q)
theorem RdAll.take : ∀ {ds : List D} {vs : List Value}, RdAll h N vs ds → ∀ k : Nat, RdAll h N (vs.take k) (ds.take k)
  | [], vs, r, k => by rw [r.unnil]; simp; exact .nil
  | x :: ds, vs, r, k => by
    obtain ⟨u, vs', rfl, q', r⟩ := r.uncons
    cases k with
    | zero => exact .nil
    | succ k => exact .cons q' (r.take k)
theorem RdAll.drop : ∀ {ds : List D} {vs : List Value}, RdAll h N vs ds → ∀ k : Nat, RdAll h N (vs.drop k) (ds.drop k)
  | [], vs, r, k => by rw [r.unnil]; simp; exact .nil
  | x :: ds, vs, r, k => by
    obtain ⟨u, vs', rfl, q', r⟩ := r.uncons
    cases k with
    | zero => exact .cons q' r
    | succ k => exact r.drop k

theorem Rd.ofInt {v : Value} {i : Int} (r : Rd h N v (.int i)) : ∃ t, v = .int i t := by cases r; exact ⟨_, rfl⟩
theorem Rd.ofBool {v : Value} {b : Bool} (r : Rd h N v (.bool b)) : v = .bool b := by cases r; rfl
theorem Rd.ofNone {v : Value} (r : Rd h N v .none) : v = .none := by cases r; rfl
theorem Rd.ofList {v : Value} {ds : List D} (r : Rd h N v (.list ds)) : ∃ a vs n, v = .ref a ∧ h.get? a = some { cls := .type "list", data := .seq vs.toArray n } ∧ RdAll h N vs ds ∧ ¬ N a := by
  cases r with
  | list h1 h2 h3 => exact ⟨_, _, _, rfl, h1, h2, h3⟩
theorem Rd.ofTup {v : Value} {ds : List D} (r : Rd h N v (.tup ds)) : ∃ a vs n, v = .ref a ∧ h.get? a = some { cls := .type "tuple", data := .seq vs.toArray n } ∧ RdAll h N vs ds := by
  cases r with
  | tup h1 h2 => exact ⟨_, _, _, rfl, h1, h2⟩
theorem RdAll.ints : ∀ {ds : List D} {vs : List Value}, RdAll h N vs ds → ds.all D.isInt = true → IntsAre vs (ds.map D.toInt)
  | [], vs, r, _ => by rw [r.unnil]; exact .nil
  | d :: ds, vs, r, e => by
    obtain ⟨v, vs', rfl, q, r2⟩ := r.uncons
    rw [List.all_cons, Bool.and_eq_true] at e
    cases d with
    | int i =>
      obtain ⟨t, rfl⟩ := q.ofInt
      exact .cons _ t (RdAll.ints r2 e.2)
    | _ => exact absurd e.1 Bool.false_ne_true
theorem RdAll.ofInts : ∀ {ns : List Int} {vs : List Value}, IntsAre vs ns → RdAll h N vs (ns.map .int)
  | _, _, .nil => .nil
  | _, _, .cons n t r => .cons (.int n t) (RdAll.ofInts r)
theorem isList_of {a : Addr} {vs : List Value} {n : Nat} (e : h.get? a = some { cls := .type "list", data := .seq vs.toArray n }) : h.IsList a vs.toArray := ⟨_, e, rfl, n, rfl⟩
theorem isTup_of {a : Addr} {vs : List Value} {n : Nat} (e : h.get? a = some { cls := .type "tuple", data := .seq vs.toArray n }) : IsTup h a vs.toArray := ⟨_, e, rfl, n, rfl⟩
end

/-! ### states -/
structure Cx where
  prog : Program
  w : World
  h₀ : Heap
  mg : Str → Option Value
  mb : Str → Option Value
noncomputable def Cx.B (X : Cx) : Nat := X.h₀.objs.size

noncomputable def live (σ : List Addr) (W : Sto) : Adr := fun a => ∃ (k : Nat) (ds : List D), W[k]? = some (some ds) ∧ σ[k]? = some a

structure StoAt (X : Cx) (h : Heap) (σ : List Addr) (W : Sto) : Prop where
  len : W.length = σ.length
  nodup : ∀ (j k : Nat) (ds es : List D) (a : Addr), W[j]? = some (some ds) → W[k]? = some (some es) → σ[j]? = some a → σ[k]? = some a → j = k
  lo : ∀ a ∈ σ, X.B ≤ a
  lst : ∀ (k : Nat) (ds : List D) (a : Addr), W[k]? = some (some ds) → σ[k]? = some a → ∃ vs n, h.get? a = some { cls := .type "list", data := .seq vs.toArray n } ∧ RdAll h (live σ W) vs ds

theorem StoAt.noTup {X : Cx} {h : Heap} {σ : List Addr} {W : Sto} (s : StoAt X h σ W) : NoTup (live σ W) h := by
  rintro a o ⟨k, ds, h1, h2⟩ e q
  obtain ⟨vs, n, e', _⟩ := s.lst k ds a h1 h2
  rw [e] at e'; cases e'
  exact absurd (show Value.type "list" = Value.type "tuple" from q) (by decide)

noncomputable def VarAt (h : Heap) (env : Env) (x : Str) (val : Value) : Prop :=
  (env.kindOf x = some .local ∧ ∃ m, h.Ns env.locals m ∧ m x = some val) ∨
  ((env.kindOf x = some .cell ∨ env.kindOf x = some .free) ∧ ∃ c, env.cells.lookup x = some c ∧ h.IsCell c (some val))

noncomputable def VAt (h : Heap) (σ : List Addr) (W : Sto) : V → Value → Prop
  | .dat d, val => Rd h (live σ W) val d
  | .mref k, val => ∃ a, σ[k]? = some a ∧ val = .ref a

noncomputable def Frs (X : Cx) (h : Heap) (fs : List Env) : Prop := ∀ env ∈ fs, env.scope.kind = .function ∧ ∃ L m, env.frame = some L ∧ X.B ≤ L ∧ h.Ns L m

structure EnvOk (X : Cx) (env : Env) (sc : Sc) : Prop where
  kind : env.scope.kind = .function
  globals : env.globals = mainGlobals
  builtins : env.builtins = builtinsNs
  lo : X.B ≤ env.locals
  scn : ∀ x k, sc.lookup x = some k → k ≠ .free → env.kindOf x = some k
  scf : ∀ x, sc.lookup x = some .free → env.kindOf x = some .cell ∨ env.kindOf x = some .free
  cap : ∀ x, (env.kindOf x = some .cell ∨ env.kindOf x = some .free) → ∃ c, env.cells.lookup x = some c
  clo : ∀ x c, env.cells.lookup x = some c → X.B ≤ c
  inj : ∀ x y c, env.cells.lookup x = some c → env.cells.lookup y = some c → x = y

/-- an exception's object without a context -/
noncomputable def ExcClean (h : Heap) (e : Addr) : Prop := ∃ o vs, h.get? e = some o ∧ o.data = .fields vs ∧ vs[2]? = some .none

structure Hd (hd : Nat) (A : Around) (h : Heap) : Prop where
  zero : hd = 0 → A.handled = none
  one : hd = 1 → ∃ e, A.handled = some (.ref e) ∧ ExcClean h e

structure St (X : Cx) (A : Around) (env : Env) (hd : Nat) (σ : List Addr) (ρ : Rho) (W : Sto) (h : Heap) : Prop where
  base : Kept X.h₀ h
  frs : ∃ fs, A.frames = some fs ∧ Frs X h fs
  ns : ∃ m, h.Ns env.locals m
  cel : ∀ x c, env.cells.lookup x = some c → ∃ v, h.IsCell c v
  vars : ∀ x v, getV ρ x = some v → x < names.length ∧ ∃ val, VarAt h env (nm x) val ∧ VAt h σ W v val
  sto : StoAt X h σ W
  hnd : Hd hd A h

noncomputable def Dec (W W' : Sto) : Prop := W'.length = W.length ∧ ∀ k : Nat, W[k]? = some Option.none → W'[k]? = some Option.none
theorem Dec.refl (W : Sto) : Dec W W := ⟨rfl, fun _ e => e⟩
theorem Dec.trans {W W' W'' : Sto} (d : Dec W W') (d' : Dec W' W'') : Dec W W'' := ⟨d'.1.trans d.1, fun k e => d'.2 k (d.2 k e)⟩
theorem Dec.live {W W' : Sto} (d : Dec W W') (σ : List Addr) : ∀ a, live σ W' a → live σ W a := by
  rintro a ⟨k, ds, h1, h2⟩
  have hk : k < W'.length := (List.getElem?_eq_some_iff.mp h1).1
  have hk' : k < W.length := d.1 ▸ hk
  cases e : W[k] with
  | none =>
    have := d.2 k (by rw [List.getElem?_eq_getElem hk', e])
    rw [h1] at this; cases this
  | some es => exact ⟨k, es, by rw [List.getElem?_eq_getElem hk', e], h2⟩

noncomputable def Stp (s s' : Shared) : Prop := ∃ h tk, s' = { s with heap := h, toks := tk }
theorem Stp.refl (s : Shared) : Stp s s := ⟨s.heap, s.toks, rfl⟩
theorem Stp.trans {s s' s'' : Shared} (a : Stp s s') (b : Stp s' s'') : Stp s s'' := by
  obtain ⟨h, t, rfl⟩ := a
  obtain ⟨h', t', rfl⟩ := b
  exact ⟨h', t', rfl⟩
theorem Stp.mk (s : Shared) (h : Heap) (t : Nat) : Stp s { s with heap := h, toks := t } := ⟨h, t, rfl⟩

/-- a state goes on where everything is kept -/
theorem Frs.keep {X : Cx} {T : Adr} {h h' : Heap} {fs : List Env} (f : Frs X h fs) (k : Keep X.B T h h') (hT : ∀ L m, T L → h.Ns L m → ∃ m', h'.Ns L m') : Frs X h' fs := by
  intro env he
  obtain ⟨hk, L, m, h1, h2, h3⟩ := f env he
  by_cases t : T L
  · obtain ⟨m', hm'⟩ := hT L m t h3
    exact ⟨hk, L, m', h1, h2, hm'⟩
  · exact ⟨hk, L, m, h1, h2, k.ns h3 t⟩

/-- no namespace, cell, record of T: what T may hold while an expression runs -/
theorem live_isList {X : Cx} {h : Heap} {σ : List Addr} {W : Sto} (s : StoAt X h σ W) {a : Addr} {o : Obj} (l : live σ W a) (e : h.get? a = some o) : o.cls = .type "list" ∧ ∃ xs n, o.data = .seq xs n := by
  obtain ⟨k, ds, h1, h2⟩ := l
  obtain ⟨vs, n, e', _⟩ := s.lst k ds a h1 h2
  rw [e] at e'; cases e'
  exact ⟨rfl, _, n, rfl⟩
theorem live_ge {X : Cx} {h : Heap} {σ : List Addr} {W : Sto} (s : StoAt X h σ W) {a : Addr} (l : live σ W a) : X.B ≤ a := by
  obtain ⟨k, ds, h1, h2⟩ := l
  exact s.lo a (List.mem_of_getElem? h2)
theorem live_there {X : Cx} {h : Heap} {σ : List Addr} {W : Sto} (s : StoAt X h σ W) {a : Addr} (l : live σ W a) : ∃ o, h.get? a = some o := by
  obtain ⟨k, ds, h1, h2⟩ := l
  obtain ⟨vs, n, e', _⟩ := s.lst k ds a h1 h2
  exact ⟨_, e'⟩
theorem not_live_ns {X : Cx} {h : Heap} {σ : List Addr} {W : Sto} (s : StoAt X h σ W) {L : Addr} {m} (hn : h.Ns L m) : ¬ live σ W L := by
  intro l
  obtain ⟨o, es, ep, ho, hd, _⟩ := hn
  obtain ⟨_, xs, n, hd'⟩ := live_isList s l ho
  rw [hd] at hd'; cases hd'
theorem not_live_cell {X : Cx} {h : Heap} {σ : List Addr} {W : Sto} (s : StoAt X h σ W) {c : Addr} {v} (hn : h.IsCell c v) : ¬ live σ W c := by
  intro l
  obtain ⟨o, ho, hd⟩ := hn
  obtain ⟨_, xs, n, hd'⟩ := live_isList s l ho
  rw [hd] at hd'; cases hd'

theorem VarAt.keep {B : Nat} {T : Adr} {h h' : Heap} {env : Env} {x : Str} {val : Value} (v : VarAt h env x val) (k : Keep B T h h')
    (h1 : ∀ m, h.Ns env.locals m → ¬ T env.locals) (h2 : ∀ c v, env.cells.lookup x = some c → h.IsCell c v → ¬ T c) : VarAt h' env x val := by
  rcases v with ⟨hk, m, hn, hm⟩ | ⟨hk, c, hc, hv⟩
  · exact .inl ⟨hk, m, k.ns hn (h1 m hn), hm⟩
  · exact .inr ⟨hk, c, hc, k.isCell hv (h2 c _ hc hv)⟩

/-- a step of an expression: the mutable lists alone may turn, and W' says how they stand -/
theorem St.step {X : Cx} {A : Around} {env : Env} {hd : Nat} {σ : List Addr} {ρ : Rho} {W W' : Sto} {h h' : Heap} (st : St X A env hd σ ρ W h) (k : Keep X.B (live σ W) h h') (d : Dec W W')
    (sto : StoAt X h' σ W') : St X A env hd σ ρ W' h' where
  base := fun a o e => by
    have e' := st.base a o e
    obtain ⟨o', e'', s⟩ := k.obj a o e' fun l => absurd (Heap.lt_size e) (Nat.not_lt.mpr (live_ge st.sto l))
    rcases s with rfl | ⟨hb, _⟩
    · exact e''
    · exact absurd (Heap.lt_size e) (Nat.not_lt.mpr hb)
  frs := let ⟨fs, h1, h2⟩ := st.frs; ⟨fs, h1, h2.keep k fun L m t hn => absurd t (not_live_ns st.sto hn)⟩
  ns := let ⟨m, hm⟩ := st.ns; ⟨m, k.ns hm (not_live_ns st.sto hm)⟩
  cel := fun x c hc => let ⟨v, hv⟩ := st.cel x c hc; ⟨v, k.isCell hv (not_live_cell st.sto hv)⟩
  vars := fun x v hx => by
    obtain ⟨hlt, val, h1, h2⟩ := st.vars x v hx
    refine ⟨hlt, val, h1.keep k (fun m hn => not_live_ns st.sto hn) (fun c v _ hv => not_live_cell st.sto hv), ?_⟩
    cases v with
    | dat d => exact Rd.keep k st.sto.noTup (fun a o _ l => Dec.live ‹_› σ a l) h2
    | mref j => exact h2
  sto := sto
  hnd := ⟨st.hnd.zero, fun q => by
    obtain ⟨e, h1, o, vs, ho, hd', h2⟩ := st.hnd.one q
    obtain ⟨o', ho', s⟩ := k.obj e o ho fun l => by
      obtain ⟨_, xs, n, hd''⟩ := live_isList st.sto l ho
      rw [hd'] at hd''; cases hd''
    rw [s.eq fun es ep q => by rw [hd'] at q; cases q] at ho'
    exact ⟨e, h1, o, vs, ho', hd', h2⟩⟩

/-- nothing turns -/
abbrev Kp (X : Cx) (h h' : Heap) : Prop := Keep X.B (fun _ => False) h h'
theorem Kp.get {X : Cx} {h h' : Heap} {a : Addr} {c : Value} {xs : Array Value} {n : Nat} (k : Kp X h h') (e : h.get? a = some { cls := c, data := .seq xs n }) : h'.get? a = some { cls := c, data := .seq xs n } := by
  obtain ⟨o', e', s⟩ := k.obj _ _ e id
  rw [s.eq fun es ep q => by cases q] at e'
  exact e'
theorem StoAt.kp {X : Cx} {h h' : Heap} {σ : List Addr} {W : Sto} (s : StoAt X h σ W) (k : Kp X h h') : StoAt X h' σ W :=
  ⟨s.len, s.nodup, s.lo, fun j ds a h1 h2 => by
    obtain ⟨vs, n, h3, h4⟩ := s.lst j ds a h1 h2
    exact ⟨vs, n, k.get h3, h4.kpt k⟩⟩
theorem St.kp {X : Cx} {A : Around} {env : Env} {hd : Nat} {σ : List Addr} {ρ : Rho} {W : Sto} {h h' : Heap} (st : St X A env hd σ ρ W h) (k : Kp X h h') : St X A env hd σ ρ W h' :=
  st.step (k.mono fun _ _ _ t => t.elim) (.refl W) (st.sto.kp k)
end Mine
end
section
open PySem PySem.W PyProof.Rows PySem.Calls
set_option maxRecDepth 100000
namespace Mine

/-! ### the library's ledger over a whole heap -/
noncomputable def allBut (h : Heap) (L : Addr) : List (Addr × Obj) := (List.range h.objs.size).filterMap fun a => if a = L then none else (h.get? a).map (a, ·)
theorem mem_allBut {h : Heap} {L a : Addr} {o : Obj} : (a, o) ∈ allBut h L ↔ h.get? a = some o ∧ a ≠ L := by
  unfold allBut
  rw [List.mem_filterMap]
  constructor
  · rintro ⟨b, hb, e⟩
    by_cases q : b = L
    · simp [q] at e
    · rw [if_neg q] at e
      cases hg : h.get? b with
      | none => rw [hg] at e; cases e
      | some o' => rw [hg] at e; simp at e; obtain ⟨rfl, rfl⟩ := e; exact ⟨hg, q⟩
  · rintro ⟨e, q⟩
    exact ⟨a, List.mem_range.mpr (Heap.lt_size e), by rw [if_neg q, e]; rfl⟩
noncomputable def hNil : Heap := {}
theorem hNil_get (a : Addr) : hNil.get? a = none := by
  cases e : hNil.get? a with
  | none => rfl
  | some o => exact absurd (Heap.lt_size e) (Nat.not_lt_zero _)
theorem fr_in {h : Heap} {L : Addr} {m} (hn : h.Ns L m) : Fr hNil L h m := ⟨hn, fun b o e => by (rw [hNil_get] at e; cases e), Nat.zero_le _⟩
theorem news_in {h : Heap} {L : Addr} : News hNil L h (allBut h L) := fun p hp => by
  obtain ⟨a, o⟩ := p
  obtain ⟨e, q⟩ := mem_allBut.mp hp
  exact ⟨e, q, hNil_get _⟩
theorem kp_out {X : Cx} {h h' : Heap} {L : Addr} {m} {news : List (Addr × Obj)} (hn : h.Ns L m) (hb : X.B ≤ L) (F : Fr hNil L h' m) (N : News hNil L h' news) (hs : ∀ p ∈ allBut h L, p ∈ news) : Kp X h h' := by
  have main : ∀ a o, h.get? a = some o → ∃ o', h'.get? a = some o' ∧ Same X.B a o o' := fun a o e => by
    by_cases q : a = L
    · subst q
      obtain ⟨o1, es, ep, e1, hd, r⟩ := hn
      rw [e] at e1; cases e1
      obtain ⟨o2, es2, ep2, e2, hd2, r2⟩ := F.ns
      refine ⟨o2, e2, .inr ⟨hb, ⟨es, ep, hd⟩, ⟨es2, ep2, hd2⟩, fun m' n' => ?_⟩⟩
      obtain ⟨es3, ep3, hd3, hk3, r3⟩ := n'
      rw [hd] at hd3; cases hd3
      exact ⟨es2, ep2, hd2, r2.1, fun name => (r2.2 name).trans ((r.2 name).symm.trans (r3 name))⟩
    · exact ⟨o, (N _ (hs _ (mem_allBut.mpr ⟨e, q⟩))).1, .refl⟩
  exact ⟨fun a o e _ => main a o e, fun a o e => let ⟨o', e', _⟩ := main a o e; ⟨o', e'⟩⟩

/-- what an operation may lean on -/
structure Am (X : Cx) (N : Adr) (h : Heap) : Prop where
  ns : ∃ L m, X.B ≤ L ∧ h.Ns L m
  old : ∀ a, N a → ∃ o, h.get? a = some o
theorem Am.kp {X : Cx} {N : Adr} {h h' : Heap} (a : Am X N h) (k : Kp X h h') : Am X N h' :=
  ⟨let ⟨L, m, h1, h2⟩ := a.ns; ⟨L, m, h1, k.ns h2 id⟩, fun b hb => let ⟨o, e⟩ := a.old b hb; k.all b o e⟩

noncomputable def Gv (X : Cx) (A : Around) (N : Adr) (s : Shared) (t : Sem Value) (d : D) : Prop :=
  ∀ (Q : Value → Shared → Prop) (E : Value → Shared → Prop), (∀ v h' tk, Kp X s.heap h' → Rd h' N v d → Q v { s with heap := h', toks := tk }) → wpAny (model X.prog X.w) A t Q E s

theorem Kept.kp {X : Cx} {h h' : Heap} (k : Kept h h') : Kp X h h' := Kept.keep k
theorem kept_push (h : Heap) (o : Obj) : Kept h (h.push o) := fun _ _ e => Heap.get?_push_of_some _ e

section
variable {X : Cx} {A : Around} {N : Adr} {s : Shared}

theorem not_new (am : Am X N s.heap) : ¬ N s.heap.objs.size := fun q => by
  obtain ⟨o, e⟩ := am.old _ q
  exact absurd (Heap.lt_size e) (Nat.lt_irrefl _)

theorem gv_newList (am : Am X N s.heap) {vs : List Value} {ds : List D} (r : RdAll s.heap N vs ds) (hz : fits ds.length = true) : Gv X A N s (newList vs) (.list ds) := fun Q E K => by
  have hz' : ds.length ≤ 1000000 := of_decide_eq_true hz
  refine wpAny_newList (K _ _ s.toks (kept_push _ _).kp (.list (n := 0) ?_ (r.kept (kept_push _ _)) (not_new am))) (by rw [sizeLine_eq]; rw [r.length]; omega)
  exact Heap.get?_push_size _ rfl
theorem gv_newTuple {vs : List Value} {ds : List D} (r : RdAll s.heap N vs ds) (hz : fits ds.length = true) : Gv X A N s (newTuple vs) (.tup ds) := fun Q E K => by
  have hz' : ds.length ≤ 1000000 := of_decide_eq_true hz
  refine wpAny_newTuple (K _ _ s.toks (kept_push _ _).kp (.tup (n := 0) ?_ (r.kept (kept_push _ _)))) (by rw [sizeLine_eq]; rw [r.length]; omega)
  exact Heap.get?_push_size _ rfl

theorem bits_small {x : Int} (h : x.natAbs < 2 ^ 32) : Builtin.Int.intBits x ≤ 64 := by
  unfold Builtin.Int.intBits
  split
  · omega
  · have : x.natAbs.log2 ≤ 32 := by
      by_cases h0 : x.natAbs = 0
      · rw [h0]; decide
      · exact Nat.le_of_lt ((Nat.log2_lt h0).mpr h)
    omega

theorem gv_bin (am : Am X N s.heap) {op : BOp} {o : Operator} {va vb : Value} {da db d : D} (ho : bopOk op o = true) (ra : Rd s.heap N va da) (rb : Rd s.heap N vb db) (e : binD op da db = some d) :
    Gv X A N s (binaryOp o va vb) d := fun Q E K => by
  obtain rfl := bop_of ho
  unfold binD at e
  cases op
  case add =>
    dsimp only at e
    split at e
    · cases e
      obtain ⟨t, rfl⟩ := ra.ofInt; obtain ⟨u, rfl⟩ := rb.ofInt
      exact PyProof.Rows.add_int (K _ _ _ .refl (.int _ _))
    · split at e
      · cases e
        rename_i hz
        obtain ⟨a, vs, n, rfl, ea, ra', na⟩ := ra.ofList; obtain ⟨b, us, k, rfl, eb, rb', nb⟩ := rb.ofList
        obtain ⟨L, m, hb, hn⟩ := am.ns
        have hz' := of_decide_eq_true hz
        refine add_lists (fr_in hn) news_in (isList_of ea) (isList_of eb) (fun h' F' N' => ?_) (by rw [sizeLine_eq, ra'.length, rb'.length]; unfold lim at hz'; omega)
        have k := kp_out (X := X) hn hb F' N' fun p hp => .tail _ hp
        exact K _ h' s.toks k (.list (n := 0) (N' _ (.head _)).1 ((ra'.append rb').kpt k) (not_new am))
      · cases e
    · split at e
      · cases e
        rename_i hz
        obtain ⟨a, vs, n, rfl, ea, ra'⟩ := ra.ofTup; obtain ⟨b, us, k, rfl, eb, rb'⟩ := rb.ofTup
        obtain ⟨L, m, hb, hn⟩ := am.ns
        have hz' := of_decide_eq_true hz
        refine add_tuples (fr_in hn) news_in (isTup_of ea) (isTup_of eb) (fun hv => ?_) (fun _ hw => ?_) (fun _ _ h' F' N' => ?_) (by rw [sizeLine_eq, ra'.length, rb'.length]; unfold lim at hz'; omega)
        · subst hv
          have := ra'.length
          have e0 : (_ : List D) = [] := List.eq_nil_of_length_eq_zero this.symm
          rw [e0, List.nil_append] at K
          exact K _ s.heap s.toks .refl (.tup eb rb')
        · subst hw
          have := rb'.length
          have e0 : (_ : List D) = [] := List.eq_nil_of_length_eq_zero this.symm
          rw [e0, List.append_nil] at K
          exact K _ s.heap s.toks .refl (.tup ea ra')
        · have k := kp_out (X := X) hn hb F' N' fun p hp => .tail _ hp
          exact K _ h' s.toks k (.tup (n := 0) (N' _ (.head _)).1 ((ra'.append rb').kpt k))
      · cases e
    · cases e
  case sub =>
    dsimp only at e
    split at e
    · cases e
      obtain ⟨t, rfl⟩ := ra.ofInt; obtain ⟨u, rfl⟩ := rb.ofInt
      exact PyProof.Rows.sub_int (K _ _ _ .refl (.int _ _))
    · cases e
  case mul =>
    dsimp only at e
    split at e
    · split at e
      · cases e
        obtain ⟨t, rfl⟩ := ra.ofInt; obtain ⟨u, rfl⟩ := rb.ofInt
        rename_i hx
        exact PyProof.Rows.mul_int (K _ _ _ .refl (.int _ _)) (IntMulOk.of_left (bits_small hx))
      · cases e
    · cases e
  case rsh =>
    dsimp only at e
    split at e
    · split at e
      · cases e
        obtain ⟨t, rfl⟩ := ra.ofInt; obtain ⟨u, rfl⟩ := rb.ofInt
        rename_i hx
        exact PyProof.Rows.rshift_int hx (K _ _ _ .refl (.int _ _))
      · cases e
    · cases e
  case mod =>
    dsimp only at e
    split at e
    · split at e
      · cases e
        obtain ⟨t, rfl⟩ := ra.ofInt; obtain ⟨u, rfl⟩ := rb.ofInt
        rename_i hx
        exact PyProof.Rows.mod_int' hx (K _ _ _ .refl (.int _ _))
      · cases e
    · cases e
  case fdiv =>
    dsimp only at e
    split at e
    · split at e
      · cases e
        obtain ⟨t, rfl⟩ := ra.ofInt; obtain ⟨u, rfl⟩ := rb.ofInt
        rename_i hx
        exact PyProof.Rows.floordiv_int (by first | decide | omega) (K _ _ _ .refl (.int _ _)) (.inl (PyProof.noPylong_small (by first | decide | omega)))
      · cases e
    · cases e
  case pow =>
    dsimp only at e
    split at e
    · split at e
      · cases e
        obtain ⟨t, rfl⟩ := ra.ofInt; obtain ⟨u, rfl⟩ := rb.ofInt
        rename_i hx
        exact PyProof.Rows.pow_int_small hx.1 (by first | decide | omega) (by first | decide | omega) (K _ _ _ .refl (.int _ _))
      · cases e
    · cases e
end
end Mine
end
section
open PySem PySem.W PyProof.Rows PySem.Calls
set_option maxRecDepth 100000
namespace Mine

section
variable {X : Cx} {N : Adr}
theorem eqB_rule {A : Around} {E : Value → Shared → Prop} {s : Shared} {va vb : Value} {a b : D} {Q : Bool → Shared → Prop} (ra : Rd s.heap N va a) (rb : Rd s.heap N vb b) (hd : a.dep ≤ 8 ∨ b.dep ≤ 8) (hu : A.units + 8 < cLine)
    (h : Q (D.eq a b) s) : wpAny (model X.prog X.w) A (eqBool va vb) Q E s := by
  obtain ⟨as, ra⟩ := ra.reads
  obtain ⟨bs, rb⟩ := rb.reads
  refine SeqAt.eqBoolOverData _ _ _ _ _ _ _ _ _ _ _ _ ra rb (canLay_toP a) (canLay_toP b) ?_ (by rw [eqv_toP]; exact h)
  rw [dep_toP, dep_toP]
  have := Nat.min_le_left a.dep b.dep
  have := Nat.min_le_right a.dep b.dep
  omega
theorem eq_rule {A : Around} {E : Value → Shared → Prop} {s : Shared} {va vb : Value} {a b : D} {Q : Value → Shared → Prop} (ra : Rd s.heap N va a) (rb : Rd s.heap N vb b) (hd : a.dep ≤ 8 ∨ b.dep ≤ 8) (hu : A.units + 8 < cLine)
    (h : Q (.bool (D.eq a b)) s) : wpAny (model X.prog X.w) A (compareOp .Eq va vb) Q E s := by
  obtain ⟨as, ra⟩ := ra.reads
  obtain ⟨bs, rb⟩ := rb.reads
  refine SeqAt.compareEq_reads ra rb (canLay_toP a) (canLay_toP b) ?_ (by rw [eqv_toP]; exact h)
  rw [dep_toP, dep_toP]
  have := Nat.min_le_left a.dep b.dep
  have := Nat.min_le_right a.dep b.dep
  omega
theorem ne_rule {A : Around} {E : Value → Shared → Prop} {s : Shared} {va vb : Value} {a b : D} {Q : Value → Shared → Prop} (ra : Rd s.heap N va a) (rb : Rd s.heap N vb b) (hd : a.dep ≤ 8 ∨ b.dep ≤ 8) (hu : A.units + 8 < cLine)
    (h : Q (.bool (!D.eq a b)) s) : wpAny (model X.prog X.w) A (compareOp .NotEq va vb) Q E s := by
  obtain ⟨as, ra⟩ := ra.reads
  obtain ⟨bs, rb⟩ := rb.reads
  refine SeqAt.compareNe_reads ra rb (canLay_toP a) (canLay_toP b) ?_ (by rw [eqv_toP]; exact h)
  rw [dep_toP, dep_toP]
  have := Nat.min_le_left a.dep b.dep
  have := Nat.min_le_right a.dep b.dep
  omega

theorem lt_tree {n : Nat} {A : Around} {s : Shared}
    (ih : ∀ {E : Value → Shared → Prop} {va vb : Value} {a b : D} {t : Bool} {Q : Value → Shared → Prop}, Rd s.heap N va a → Rd s.heap N vb b → D.lt n a b = some t → Q (.bool t) s → wpAny (model X.prog X.w) A (richCompare .Lt va vb) Q E s)
    (hu : A.units + 8 < cLine) {a b : Addr} {vs us : List Value} {k l : Nat} {xs ys : List D} {t : Bool} {E : Value → Shared → Prop} {P : PySem.Fin → Shared → Prop}
    (ha : s.heap.get? a = some { cls := .type "tuple", data := .seq vs.toArray k }) (hb : s.heap.get? b = some { cls := .type "tuple", data := .seq us.toArray l })
    (rx : RdAll s.heap N vs xs) (ry : RdAll s.heap N us ys) (e : D.lt.go n xs ys = some t) (h : P (.done (.ret (.bool t))) s) :
    wpAny (model X.prog X.w) A (Builtin.«tuple.__lt__» ⟨[.ref a, .ref b], []⟩) P E s := by
  show wpAny _ _ (isInstance (.ref b) (.type "tuple") >>= _) _ _ s
  refine wpAny_bind (wpAny_isInstance (T := "tuple") ⟨_, hb, rfl⟩ isSubtype_tuple_tuple ?_)
  simp only [Bool.not_true, Bool.false_eq_true, if_false]
  refine wpAny_bind (wpAny_tupleItemsOf ha rfl ?_)
  refine wpAny_bind (wpAny_tupleItemsOf hb rfl ?_)
  refine wpAny_bind ?_
  refine wpAny_forIn_list _
    (fun rest r s' => r.1 = none ∧ s' = s ∧ ∃ xs' ys' vs' us', rest = List.zip vs' us' ∧ RdAll s.heap N vs' xs' ∧ RdAll s.heap N us' ys' ∧ D.lt.go n xs' ys' = some t ∧ (decide (vs'.length < us'.length) = decide (vs.length < us.length)))
    _ ?_ ?_ _ _ ⟨rfl, rfl, xs, ys, vs, us, by simp, rx, ry, e, rfl⟩
  · rintro ⟨u, v⟩ rest r s' ⟨hr, rfl, xs', ys', vs', us', hz, hx', hy', hg, hlen⟩
    cases hx' with
    | nil => simp at hz
    | cons r1 hx' =>
      cases hy' with
      | nil => simp at hz
      | cons r2 hy' =>
        simp only [List.zip_cons_cons, List.cons.injEq, Prod.mk.injEq] at hz
        obtain ⟨⟨rfl, rfl⟩, rfl⟩ := hz
        rw [D.lt.go] at hg
        split at hg
        · rename_i hdep
          refine wpAny_bind (eqB_rule r1 r2 hdep hu ?_)
          split at hg
          · rename_i he
            rw [he]
            simp only [Bool.not_true, Bool.false_eq_true, if_false]
            exact wpAny_pure ⟨rfl, rfl, _, _, _, _, rfl, hx', hy', hg, by rw [← hlen]; simp⟩
          · rename_i he
            simp only [he, Bool.not_false, if_true]
            refine wpAny_bind (wpAny_rule ?_)
            exact wpAny_bind (ih r1 r2 hg (wpAny_bind (wpAny_pure (wpAny_pure (wpAny_pure h)))))
        · cases hg
  · rintro r s' ⟨hr, rfl, xs', ys', vs', us', hz, hx', hy', hg, hlen⟩
    rw [hr]
    have ht : t = decide (vs.length < us.length) := by
      rw [← hlen]
      cases hx' with
      | nil =>
        rw [D.lt.go] at hg
        have := hy'.length
        rw [← Option.some.inj hg, this]; rfl
      | cons r1 hx' =>
        cases hy' with
        | nil => rw [D.lt.go] at hg; rw [← Option.some.inj hg]; simp
        | cons r2 hy' => simp at hz
    show wpAny _ _ (ret (.bool (decide (vs.toArray.size < us.toArray.size)))) _ _ s'
    rw [List.size_toArray, List.size_toArray, ← ht]
    exact wpAny_pure h

theorem lt_rule : ∀ (n : Nat) {A : Around} {s : Shared} {E : Value → Shared → Prop} {va vb : Value} {a b : D} {t : Bool} {Q : Value → Shared → Prop}, Rd s.heap N va a → Rd s.heap N vb b → D.lt n a b = some t →
    A.units + 8 + n < cLine → Q (.bool t) s → wpAny (model X.prog X.w) A (richCompare .Lt va vb) Q E s := by
  intro n
  induction n with
  | zero =>
    intro A s E va vb a b t Q ra rb e hu h
    unfold D.lt at e
    split at e
    · obtain ⟨_, rfl⟩ := ra.ofInt; obtain ⟨_, rfl⟩ := rb.ofInt
      cases e
      exact PyProof.Rows.lt_int h
    · rename_i h2; exact absurd h2 (by simp)
    · cases e
  | succ n ih =>
    intro A s E va vb a b t Q ra rb e hu h
    unfold D.lt at e
    split at e
    · obtain ⟨_, rfl⟩ := ra.ofInt; obtain ⟨_, rfl⟩ := rb.ofInt
      cases e
      exact PyProof.Rows.lt_int h
    · rename_i h2
      cases h2
      obtain ⟨x, vs, k, rfl, ex, rx⟩ := ra.ofTup; obtain ⟨y, us, l, rfl, ey, ry⟩ := rb.ofTup
      refine wpAny_richCompare_same_room (T := "tuple") ⟨_, ex, rfl⟩ ⟨_, ey, rfl⟩ PySem.F.slot_tuple_lt ?_ (by first | decide | omega)
      refine wpAny_call_entry PySem.F.slot_tuple_lt ⟨_, ex, rfl⟩ PySem.F.entry_tuple_lt ?_ (PySem.F.args_tuple_lt_2 _ _)
      refine lt_tree (fun r1 r2 e' h' => ih r1 r2 e' ?_ h') ?_ ex ey rx ry e ⟨_, rfl, (by intro q; cases q), h⟩
      · show A.units + 1 + 8 + n < cLine; omega
      · show A.units + 1 + 8 < cLine; omega
    · cases e

theorem gv_cmp {A : Around} {s : Shared} {op : COp} {o : CmpOp} {va vb : Value} {da db d : D} (ho : copOk op o = true) (ra : Rd s.heap N va da) (rb : Rd s.heap N vb db) (e : cmpD op da db = some d) (hu : A.units + 20 < cLine)
    {Q : Value → Shared → Prop} {E : Value → Shared → Prop} (K : ∀ t, d = .bool t → Q (.bool t) s) : wpAny (model X.prog X.w) A (compareOp o va vb) Q E s := by
  obtain rfl := cop_of ho
  unfold cmpD at e
  split at e
  · split at e
    · rename_i hd
      exact eq_rule ra rb hd (by first | decide | omega) (K _ (Option.some.inj e).symm)
    · cases e
  · split at e
    · rename_i hd
      exact ne_rule ra rb hd (by first | decide | omega) (K _ (Option.some.inj e).symm)
    · cases e
  · cases ht : D.lt 3 da db with
    | none => rw [ht] at e; cases e
    | some t =>
      rw [ht] at e
      exact lt_rule 3 ra rb ht (by first | decide | omega) (K _ (Option.some.inj e).symm)
  · split at e
    · obtain ⟨_, rfl⟩ := ra.ofInt; obtain ⟨_, rfl⟩ := rb.ofInt
      exact PyProof.Rows.gt_int (K _ (Option.some.inj e).symm)
    · cases e
  · split at e
    · rename_i x ys
      obtain ⟨as, ra⟩ := ra.reads
      obtain ⟨bs, rb⟩ := rb.reads
      refine SeqAt.in_list_reads rb ra (canLay_toPs ys) (canLay_toP _) ?_ ?_
      · rw [show (D.toP (.int x)).depth = 0 from rfl, Nat.min_zero]; omega
      · have : (D.toPs ys).any (fun y => PyData.eqv y (D.toP (.int x))) = ys.any fun y => D.eq y (.int x) := by
          rw [toPs_eq, List.any_map]
          congr 1
          funext y
          exact eqv_toP y (.int x)
        rw [this]
        exact K _ (Option.some.inj e).symm
    · cases e
end
end Mine
end
section
open PySem PySem.W PyProof.Rows PySem.Calls
set_option maxRecDepth 100000
namespace Mine

noncomputable def biVal : BI → Value
  | .len => .builtin "len"
  | .sorted => .builtin "sorted"
  | .sum => .builtin "sum"
  | .tuple => .type "tuple"

theorem insI_perm (a : Int) : ∀ l : List Int, (insI a l).Perm (a :: l)
  | [] => .refl _
  | b :: r => by
    unfold insI
    split
    · exact .refl _
    · exact ((insI_perm a r).cons b).trans (.swap a b r)
theorem sortI_perm : ∀ l : List Int, (sortI l).Perm l
  | [] => .refl _
  | a :: r => (insI_perm a _).trans ((sortI_perm r).cons a)
theorem insI_sorted (a : Int) : ∀ l : List Int, l.Pairwise (· ≤ ·) → (insI a l).Pairwise (· ≤ ·)
  | [], _ => by simp [insI]
  | b :: r, h => by
    unfold insI
    obtain ⟨h1, h2⟩ := List.pairwise_cons.mp h
    split
    · rename_i hab
      refine List.pairwise_cons.mpr ⟨fun x hx => ?_, h⟩
      rcases List.mem_cons.mp hx with rfl | hx
      · exact hab
      · exact Int.le_trans hab (h1 x hx)
    · rename_i hab
      refine List.pairwise_cons.mpr ⟨fun x hx => ?_, insI_sorted a r h2⟩
      rcases List.mem_cons.mp ((insI_perm a r).mem_iff.mp hx) with rfl | hx
      · omega
      · exact h1 x hx
theorem sortI_sorted : ∀ l : List Int, (sortI l).Pairwise (· ≤ ·)
  | [] => .nil
  | a :: r => insI_sorted a _ (sortI_sorted r)
theorem sortI_unique {ns ns' : List Int} (p : ns'.Perm ns) (o : ns'.Pairwise (· ≤ ·)) : ns' = sortI ns :=
  lks_uniq (p.trans (sortI_perm ns).symm) o (sortI_sorted ns)

section
variable {X : Cx} {A : Around} {N : Adr} {s : Shared}

/-- the keys of a sort are pairs with an int ahead -/
theorem kat_lex {n : Nat} {fin b : Bool} {s : Shared} {Q : Bool → Shared → Prop} (hu : A.units + 8 + 8 < cLine) (hn : n ≤ 4) : ∀ {xs ys : List D} {vs us : List Value} {i : Nat} {t : Bool}, RdAll s.heap N vs xs → RdAll s.heap N us ys →
    (i = 0 → ∀ x y, xs.head? = some x → ys.head? = some y → x.isInt = true ∧ y.isInt = true) →
    D.lt.go n xs ys = some t → (vs.length < us.length ↔ fin = true) → Q t s → KatLex X.prog X.w A b fin Q (vs.zip us) i s := by
  intro xs
  induction xs with
  | nil =>
    intro ys vs us i t rx ry _ e hf h
    rw [rx.unnil] at hf ⊢
    rw [D.lt.go] at e
    rw [List.zip_nil_left]
    refine kat_nil ?_
    have : t = fin := by
      rw [← Option.some.inj e, ← ry.length]
      cases fin
      · simpa using hf
      · simpa using hf
    rw [← this]; exact h
  | cons x xs ih =>
    intro ys vs us i t rx ry hi e hf h
    obtain ⟨v, vs, rfl, r1, rx⟩ := rx.uncons
    cases ys with
    | nil =>
      rw [ry.unnil] at hf ⊢
      rw [D.lt.go] at e
      rw [List.zip_nil_right]
      refine kat_nil ?_
      have : t = fin := by
        rw [← Option.some.inj e]
        cases fin
        · rfl
        · simp at hf
      rw [← this]; exact h
    | cons y ys =>
      obtain ⟨u, us, rfl, r2, ry⟩ := ry.uncons
      rw [D.lt.go] at e
      rw [List.zip_cons_cons]
      split at e
      · rename_i hdep
        refine kat_cons (eqB_rule r1 r2 hdep (by first | decide | omega) ?_)
        split at e
        · rename_i he
          rw [he]
          exact kat_yes (ih rx ry (fun q => by omega) e (by simpa using hf) h)
        · rename_i he
          rw [Bool.not_eq_true] at he
          rw [he]
          refine kat_no ?_
          by_cases h0 : (b && i == 0) = true
          · rw [h0]
            have hi0 : i = 0 := by simpa using (Bool.and_eq_true_iff.mp h0).2
            obtain ⟨q1, q2⟩ := hi hi0 x y rfl rfl
            cases x <;> first | (exact absurd q1 Bool.false_ne_true) | skip
            cases y <;> first | (exact absurd q2 Bool.false_ne_true) | skip
            obtain ⟨_, rfl⟩ := r1.ofInt; obtain ⟨_, rfl⟩ := r2.ofInt
            refine oneLt_int ?_
            cases n <;> (rw [D.lt] at e; rw [Option.some.inj e]; exact h)
          · rw [Bool.not_eq_true] at h0
            rw [h0]
            exact kat_one _ _ (lt_rule n r1 r2 e (by first | decide | omega) h)
      · cases e

theorem pair_parts {v : Value} {d : D} (r : Rd s.heap N v d) (hp : d.pairKey = true) : ∃ a f t xs vs n, d = .tup (.int f :: xs) ∧ v = .ref a ∧ s.heap.get? a = some { cls := .type "tuple", data := .seq (Value.int f t :: vs).toArray n } ∧ RdAll s.heap N vs xs := by
  unfold D.pairKey at hp
  split at hp
  · obtain ⟨a, vs, n, rfl, ea, ra⟩ := r.ofTup
    obtain ⟨v, vs, rfl, q, ra2⟩ := ra.uncons
    obtain ⟨t, rfl⟩ := q.ofInt
    exact ⟨a, _, t, _, vs, n, rfl, rfl, ea, ra2⟩
  · cases hp

theorem kat_tups : ∀ {ds : List D} {vs : List Value}, RdAll s.heap N vs ds → ds.all D.pairKey = true → ∃ fs, KatTups s.heap vs fs ∧ fs.length = vs.length ∧ ∀ f ∈ fs, ∃ i t, f = Value.int i t
  | [], vs, r, _ => ⟨[], by rw [r.unnil]; exact .nil, by rw [r.unnil], fun _ h => nomatch h⟩
  | d :: ds, vs, r, e => by
    obtain ⟨v, vs, rfl, q, r⟩ := r.uncons
    rw [List.all_cons, Bool.and_eq_true] at e
    obtain ⟨fs, h1, h2, h3⟩ := kat_tups r e.2
    obtain ⟨a, f, t, xs, us, n, rfl, rfl, ea, ra⟩ := pair_parts q e.1
    exact ⟨Value.int f t :: fs, KatTups.cons ea rfl rfl (by simp) h1, by simp [h2], fun g hg => (List.mem_cons.mp hg).elim (fun q => ⟨f, t, q⟩) (h3 g)⟩

theorem kas_run {κ : SortKind} {vs : List Value} {ds : List D} {α : Type} {Q : α → Shared → Prop} (hk : κ = tuples' true) (r : RdAll s.heap N vs ds) (hp : ds.all D.pairKey = true) (hu : A.units + 16 < cLine) :
    ∀ (t : KasT α) {a : α}, kgo (D.ltAt ds) t = some a → Q a s → KasT.kasWp (kas_ask X.prog X.w A κ vs) t Q s
  | .ret a, b, e, h => by rw [kgo] at e; cases e; exact h
  | .ask i j k, b, e, h => by
    rw [kgo] at e
    cases hl : D.ltAt ds i j with
    | none => rw [hl] at e; cases e
    | some c =>
      rw [hl] at e
      dsimp only at e
      show wpAny _ _ (keyLt' κ (vs.getD i Value.none) (vs.getD j Value.none)) _ _ s
      unfold D.ltAt at hl
      split at hl
      · rename_i x y hx hy
        obtain ⟨u, eu, ru⟩ := r.get hx
        obtain ⟨w, ew, rw'⟩ := r.get hy
        have e1 : vs.getD i Value.none = u := by simp [eu]
        have e2 : vs.getD j Value.none = w := by simp [ew]
        rw [e1, e2]
        subst hk
        have px := List.all_eq_true.mp hp x (List.mem_of_getElem? hx)
        have py := List.all_eq_true.mp hp y (List.mem_of_getElem? hy)
        obtain ⟨a, f, t, xs, us, n, rfl, rfl, ea, ra⟩ := pair_parts ru px
        obtain ⟨a', f', t', xs', us', n', rfl, rfl, ea', ra'⟩ := pair_parts rw' py
        refine kat_lt ea rfl ea' rfl ?_
        rw [D.lt] at hl
        refine kat_lex (n := 2) hu (by first | decide | omega) (by simpa using RdAll.cons (.int f t) ra) (by simpa using RdAll.cons (.int f' t') ra') (fun _ x y q1 q2 => ?_) hl (by simp) (kas_run rfl r hp hu (k c) e h)
        simp at q1 q2
        rw [← q1, ← q2]
        exact ⟨rfl, rfl⟩
      · cases hl

theorem map_getD_rd {vs : List Value} {ds : List D} {h : Heap} (r : RdAll h N vs ds) : ∀ (p : List Nat), RdAll h N (p.map fun i => vs.getD i Value.none) (p.map fun i => ds.getD i .none)
  | [] => .nil
  | i :: p => by
    refine .cons ?_ (map_getD_rd r p)
    show Rd h N (vs.getD i Value.none) (ds.getD i D.none)
    cases hd : ds[i]? with
    | none =>
      have hv : vs[i]? = none := by rw [List.getElem?_eq_none_iff] at hd ⊢; rw [r.length]; exact hd
      have e1 : vs.getD i Value.none = Value.none := by simp [hv]
      have e2 : ds.getD i D.none = D.none := by simp [hd]
      rw [e1, e2]; exact .none
    | some d =>
      obtain ⟨v, hv, q⟩ := r.get hd
      have e1 : vs.getD i Value.none = v := by simp [hv]
      have e2 : ds.getD i D.none = d := by simp [hd]
      rw [e1, e2]; exact q

theorem gv_sorted (am : Am X N s.heap) {v : Value} {ds rs : List D} (r : Rd s.heap N v (.list ds)) (h64 : ds.length < 64) (e : D.sort ds = some rs) (hu : A.units + 30 < cLine) : Gv X A N s (call (.builtin "sorted") [v]) (.list rs) := fun Q E K => by
  obtain ⟨a, vs, n, rfl, ea, ra, na⟩ := r.ofList
  unfold D.sort at e
  split at e
  · rename_i hi
    cases e
    refine PyProof.Rows.sorted_ints (isList_of ea) (ra.ints hi) (by rw [ra.length]; exact h64) fun out ns' q1 q2 q3 => ?_
    obtain ⟨ep, hat⟩ := sortedAll_at s.heap vs out
    have k : Kept s.heap (sortedAll s.heap vs out) := fun b o hb => sortedAll_old hb
    refine K _ _ s.toks k.kp (.list (vs := out.toList) (n := ep) ?_ ?_ ?_)
    · exact hat
    · rw [← sortI_unique q2 q3]; exact RdAll.ofInts q1
    · intro q
      obtain ⟨o, e⟩ := am.old _ q
      exact absurd (Heap.lt_size e) (Nat.not_lt.mpr (Nat.le_succ _))
  · split at e
    · rename_i hk
      obtain ⟨hp, h2⟩ := Bool.and_eq_true_iff.mp hk
      have h2 := of_decide_eq_true h2
      obtain ⟨L, m, hb, hn⟩ := am.ns
      cases hg : kgo (D.ltAt ds) (kas_sort ds.length) with
      | none => rw [hg] at e; cases e
      | some p =>
        rw [hg] at e
        cases e
        refine kat_sorted (fr_in hn) news_in (isList_of ea) (by rw [ra.length]; exact h2) (by rw [ra.length]; exact h64) fun D0 e1 h' F' N' hlt => ?_
        have k1 : Kp X s.heap h' := kp_out hn hb F' N' fun q hq => .tail _ hq
        have ra1 := ra.kpt k1
        obtain ⟨fs, t1, t2, t3⟩ := kat_tups (s := { s with heap := h' }) ra1 hp
        refine kat_kind t1 (by rw [t2, ra.length]; omega) (T := .type "int") (fun f hf => ?_) (by decide) ?_
        · obtain ⟨i, t, rfl⟩ := t3 f hf
          exact Looks.of_pure rfl
        · rw [ra.length]
          refine kas_run (s := { s with heap := h' }) (N := N) rfl ra1 hp (by show A.units + 1 + 1 + 16 < cLine; omega) _ hg ?_
          have hD0 : s.heap.get? D0 = none := by
            cases q : s.heap.get? D0 with
            | none => rfl
            | some o =>
              exfalso
              by_cases hq : D0 = L
              · exact (N' _ (.head _)).2.1 hq
              · exact absurd (hlt _ (mem_allBut.mpr ⟨q, hq⟩)) (Nat.lt_irrefl _)
          refine KasFin.intro (s := { s with heap := h' }) F' N' (.head fun q hq => Nat.ne_of_lt (hlt q hq)) fun h2 c F2 N2 => ?_
          have k2 : Kp X s.heap h2 := kp_out hn hb F2 N2 fun q hq => .tail _ hq
          refine K _ h2 s.toks k2 (.list (n := c) (N2 _ (.head _)).1 (map_getD_rd (ra.kpt k2) _) fun q => ?_)
          obtain ⟨o, e⟩ := am.old _ q
          rw [hD0] at e; cases e
    · cases e

theorem gv_bi (am : Am X N s.heap) (hh : A.handled = none) {op : BI} {v : Value} {d r : D} (rv : Rd s.heap N v d) (e : biD op d = some r) (hu : A.units + 30 < cLine) :
    Gv X A N s (call (biVal op) [v]) r := fun Q E K => by
  cases op with
  | len =>
    cases d with
    | list xs =>
      simp only [biD] at e
      split at e
      · rename_i hz
        cases e
        obtain ⟨a, vs, n, rfl, ea, ra, na⟩ := rv.ofList
        have hz' := of_decide_eq_true hz
        have hl : (vs.toArray.size : Int) = (xs.length : Int) := by rw [List.size_toArray, ra.length]
        refine PyProof.Rows.len_list (isList_of ea) (by rw [hl]; unfold lim at hz'; omega) ?_
        rw [hl]
        exact K _ _ _ .refl (.int _ _)
      · cases e
    | tup xs =>
      simp only [biD] at e
      split at e
      · rename_i hz
        cases e
        obtain ⟨a, vs, n, rfl, ea, ra⟩ := rv.ofTup
        have hz' := of_decide_eq_true hz
        have hl : (vs.toArray.size : Int) = (xs.length : Int) := by rw [List.size_toArray, ra.length]
        refine PyProof.Rows.len_tuple (isTup_of ea) (by rw [hl]; unfold lim at hz'; omega) ?_
        rw [hl]
        exact K _ _ _ .refl (.int _ _)
      · cases e
    | _ => cases e
  | sorted =>
    cases d with
    | list xs =>
      simp only [biD] at e
      split at e
      · rename_i h64
        cases hs : D.sort xs with
        | none => rw [hs] at e; cases e
        | some rs => rw [hs] at e; cases e; exact gv_sorted am rv h64 hs hu Q E K
      · cases e
    | _ => cases e
  | sum =>
    cases d with
    | list xs =>
      simp only [biD] at e
      split at e
      · rename_i hi
        cases e
        obtain ⟨a, vs, n, rfl, ea, ra, na⟩ := rv.ofList
        obtain ⟨L, m, hb, hn⟩ := am.ns
        exact PyProof.Rows.LSm.sum_ints (fr_in hn) news_in hh (isList_of ea) (ra.ints hi) fun h' tk t' F' N' => K _ h' tk (kp_out hn hb F' N' fun q hq => hq) (.int _ _)
      · cases e
    | _ => cases e
  | tuple =>
    cases d with
    | list xs =>
      simp only [biD] at e
      split at e
      · rename_i hz
        cases e
        obtain ⟨a, vs, n, rfl, ea, ra, na⟩ := rv.ofList
        have hz' := of_decide_eq_true hz
        refine call_tuple_list (isList_of ea) (fun h' k => ?_) (by rw [List.size_toArray, sizeLine_eq, ra.length]; unfold lim at hz'; omega)
        have k1 : Kept s.heap (h'.push { cls := Value.type "tuple", data := Data.seq vs.toArray }) := Kept.trans k (kept_push _ _)
        exact K _ _ s.toks k1.kp (.tup (n := 0) (Heap.get?_push_size _ rfl) (ra.kept k1))
      · cases e
    | _ => cases e
end
end Mine
end
section
open PySem PySem.W PyProof.Rows PySem.Calls
set_option maxRecDepth 100000
namespace Mine

noncomputable def notSlice : PySem.Expr → Bool
  | .Slice .. => false
  | _ => true
theorem subscripted_plain {sl : PySem.Expr} (h : notSlice sl = true) (o i : Value) : subscripted sl false o i = operate [o, i] (getItem o i) := by
  cases sl <;> first | rfl | (exact absurd h Bool.false_ne_true)

section
variable {X : Cx} {A : Around} {N : Adr} {s : Shared}

theorem pick_dropLast (xs : Array Value) (hx : 1 ≤ xs.size) : ((List.range (xs.size - 1)).filterMap fun (k : Nat) => xs[((0 : Int) + (k : Int) * 1).toNat]?).toArray = xs.toList.dropLast.toArray := by
  have e : (fun (k : Nat) => xs[((0 : Int) + (k : Int) * 1).toNat]?) = fun k => xs[k]? := by
    funext k
    have : ((0 : Int) + (k : Int) * 1).toNat = k := by omega
    rw [this]
  rw [e]
  congr 1
  rw [List.dropLast_eq_take, Array.length_toList]
  apply List.ext_getElem?
  intro i
  have key : ∀ m, m ≤ xs.size → (List.range m).filterMap (fun k => xs[k]?) = xs.toList.take m := by
    intro m
    induction m with
    | zero => intro _; simp
    | succ m ih =>
      intro hm
      rw [List.range_succ, List.filterMap_append, ih (by first | decide | omega), List.take_succ]
      have : xs[m]? = some xs[m] := by simp
      simp [this]
  rw [key (xs.size - 1) (by first | decide | omega)]

theorem tuple_butLast {t sl : Addr} {items : Array Value} {u : Tok} {E Q : Value → Shared → Prop} (ht : IsTup s.heap t items) (hs : s.heap.IsSliceOf sl .none (.int (-1) u) .none) (h1 : 1 ≤ items.size)
    (h : Q (.ref s.heap.objs.size) { s with heap := s.heap.push { cls := .type "tuple", data := .seq items.toList.dropLast.toArray } })
    (hsz : items.size ≤ sizeLine) : wpAny (model X.prog X.w) A (getItem (.ref t) (.ref sl)) Q E s := by
  have hdrop : sizeOk (.seq items.toList.dropLast.toArray) := by
    show items.toList.dropLast.toArray.size ≤ sizeLine
    rw [List.size_toArray, List.length_dropLast, Array.length_toList]
    omega
  obtain ⟨os, hos, hcs, hds⟩ := id hs
  have hTs : s.TypeIs (.ref sl) "slice" := ⟨os, hos, hcs⟩
  unfold getItem
  try with_reducible refine wpAny_holding ?_
  first | refine wpAny_bind (wpAny_pure ?_) | skip
  refine wpAny_bind (wpAny_sequenceKey ht.typeIs (by decide) ?_)
  refine wpAny_bind (wpAny_callSpecial?_slot (name := Str.ofString "__getitem__") ht.typeIs slot_tuple_getitem
    (wpAny_call_entry slot_tuple_getitem ht.typeIs entry_tuple_getitem ?_ (args_tuple_getitem _ _)))
  show wpAny _ _ (Builtin.Tuple.tupleItemsOf (.ref t) >>= _) _ _ s
  refine wpAny_bind (tupleItemsOf_ ht ?_)
  refine wpAny_bind (wpAny_typeOf hTs ?_)
  rw [if_pos (by decide)]
  have app : ∀ {Q' : Int × Int × Nat → Shared → Prop}, Q' (0, 1, items.size - 1) s → wpAny (model X.prog X.w) A.in1 (Builtin.Slice.sliceApplied (.ref sl) (pure (items.size : Int))) Q' E s := fun {Q'} h' => by
    unfold Builtin.Slice.sliceApplied Builtin.Slice.sliceFields
    refine wpAny_bind (wpAny_bind (wpAny_field hos hds (x := .none) rfl (wpAny_bind (wpAny_field hos hds (x := .int (-1) u) rfl (wpAny_bind (wpAny_field hos hds (x := .none) rfl (wpAny_pure ?_)))))))
    refine wpAny_bind (slicePart_none ?_)
    show wpAny _ _ (if ((1 : Int) == 0) = true then _ else _) _ _ s
    rw [if_neg (by decide)]
    refine wpAny_bind (slicePart_none (wpAny_bind (slicePart_int (wpAny_bind (wpAny_pure ?_)))))
    show wpAny _ _ (match Builtin.Slice.sliceAdjust none (some (-1)) 1 (items.size : Int) with | (lo, hi) => pure (lo, (1 : Int), Builtin.Slice.slicePlaces lo hi 1)) _ _ s
    have ea : Builtin.Slice.sliceAdjust none (some (-1)) 1 (items.size : Int) = (0, (items.size : Int) - 1) := by
      unfold Builtin.Slice.sliceAdjust
      simp only [show ¬ ((1 : Int) < 0) by omega, if_false]
      congr 1
      simp only [show ((-1 : Int) < 0) by omega, if_true]
      omega
    rw [ea]
    have ep : Builtin.Slice.slicePlaces 0 ((items.size : Int) - 1) 1 = items.size - 1 := by
      unfold Builtin.Slice.slicePlaces
      simp only [show ((1 : Int) > 0) by omega, if_true, Int.ediv_one]
      split <;> omega
    show wpAny _ _ (pure ((0 : Int), (1 : Int), Builtin.Slice.slicePlaces 0 ((items.size : Int) - 1) 1)) _ _ s
    rw [ep]
    exact wpAny_pure h'
  refine wpAny_bind (app ?_)
  have hno : ¬ (((0 : Int) == 0 && (1 : Int) == 1 && (items.size - 1) == items.size) = true) := by
    have : ((items.size - 1) == items.size) = false := by rw [beq_eq_false_iff_ne]; omega
    rw [this]; simp
  show wpAny _ _ (if ((0 : Int) == 0 && (1 : Int) == 1 && (items.size - 1) == items.size) = true then _ else _) _ _ s
  rw [if_neg hno, pick_dropLast items h1]
  first
    | exact wpAny_bind (m := Builtin.Tuple.tupleExact _) (wpAny_newObj_type (wpAny_pure ⟨_, rfl, wpAny_pure h⟩) hdrop)
    | exact wpAny_bind (m := Builtin.Tuple.tupleExact _) (wpAny_newObj_type (wpAny_bind (wpAny_pure (wpAny_pure ⟨_, rfl, wpAny_pure h⟩))) hdrop)
    | exact wpAny_bind (wpAny_bind (m := Builtin.Tuple.tupleExact _) (wpAny_newObj_type (wpAny_pure (wpAny_pure ⟨_, rfl, wpAny_pure h⟩)) hdrop))
    | exact wpAny_bind (wpAny_bind (m := Builtin.Tuple.tupleExact _) (wpAny_newObj_type (wpAny_pure ⟨_, rfl, wpAny_pure h⟩) hdrop))

theorem RdAll.dropLast {h : Heap} {vs : List Value} {ds : List D} (r : RdAll h N vs ds) : RdAll h N vs.dropLast ds.dropLast := by
  rw [List.dropLast_eq_take, List.dropLast_eq_take, r.length]
  exact r.take _

/-- o[lo:hi], behind the slice's making -/
theorem gv_slc (am : Am X N s.heap) {value slice : PySem.Expr} {v vl vu : Value} {d r : D} {lo hi : Option Int} (rv : Rd s.heap N v d) (pl : IsPart vl lo) (pu : IsPart vu hi) (e : slcD d lo hi = some r)
    (hsl : ∀ o i, subscripted slice false o i = operate [i, o] (getItem o i)) {Q E : Value → Shared → Prop}
    (K : ∀ v h' tk, Kp X s.heap h' → Rd h' N v r → Q v { s with heap := h', toks := tk }) :
    wpAny (model X.prog X.w) A (subscriptTail value slice v (.ref s.heap.objs.size)) Q E { s with heap := s.heap.push { cls := .type "slice", data := .fields #[vl, vu, .none] } } := by
  have k1 := kept_push s.heap { cls := .type "slice", data := .fields #[vl, vu, .none] }
  have am1 : Am X N (s.heap.push { cls := .type "slice", data := .fields #[vl, vu, .none] }) := am.kp k1.kp
  have n1 := not_new (s := { s with heap := s.heap.push { cls := .type "slice", data := .fields #[vl, vu, .none] } }) am1
  unfold slcD at e
  split at e
  · rename_i xs y
    split at e
    · rename_i hz
      cases e
      have hz' := of_decide_eq_true hz.2
      obtain ⟨a, vs, n, rfl, ea, ra, na⟩ := rv.ofList
      obtain ⟨j, rfl⟩ := Int.eq_ofNat_of_zero_le hz.1
      refine tail_any (T := "list") ⟨_, k1 _ _ ea, rfl⟩ list_getitem_lookup (wpAny_getItem_list_slice (isList_of (k1 _ _ ea)) (Heap.IsSliceOf.new ..) pl pu .none (by simp) ?_ (by rw [List.size_toArray, sizeLine_eq, ra.length]; unfold lim at hz'; omega)) (hsl _ _)
      rw [slicePick_upto']
      have k2 : Kept s.heap ((s.heap.push { cls := .type "slice", data := .fields #[vl, vu, .none] }).push { cls := .type "list", data := .seq (vs.toArray.toList.take j).toArray }) := k1.trans (kept_push _ _)
      exact K _ _ s.toks k2.kp (.list (n := 0) (Heap.get?_push_size _ rfl) (by simpa using (ra.take j).kept k2) n1)
    · cases e
  · rename_i xs y
    split at e
    · rename_i hz
      cases e
      have hz' := of_decide_eq_true hz.2
      obtain ⟨a, vs, n, rfl, ea, ra, na⟩ := rv.ofList
      obtain ⟨j, rfl⟩ := Int.eq_ofNat_of_zero_le hz.1
      refine tail_any (T := "list") ⟨_, k1 _ _ ea, rfl⟩ list_getitem_lookup (wpAny_getItem_list_slice (isList_of (k1 _ _ ea)) (Heap.IsSliceOf.new ..) pl pu .none (by simp) ?_ (by rw [List.size_toArray, sizeLine_eq, ra.length]; unfold lim at hz'; omega)) (hsl _ _)
      rw [slicePick_from']
      have k2 : Kept s.heap ((s.heap.push { cls := .type "slice", data := .fields #[vl, vu, .none] }).push { cls := .type "list", data := .seq (vs.toArray.toList.drop j).toArray }) := k1.trans (kept_push _ _)
      exact K _ _ s.toks k2.kp (.list (n := 0) (Heap.get?_push_size _ rfl) (by simpa using (ra.drop j).kept k2) n1)
    · cases e
  · rename_i xs y
    split at e
    · rename_i hz
      cases e
      obtain ⟨rfl, hne, hz⟩ := hz
      have hz' := of_decide_eq_true hz
      obtain ⟨a, vs, n, rfl, ea, ra⟩ := rv.ofTup
      cases pl
      cases pu
      have hl : 1 ≤ vs.length := by
        rw [ra.length]
        cases xs with
        | nil => cases hne
        | cons x xs => simp
      refine tail_any (T := "tuple") ⟨_, k1 _ _ ea, rfl⟩ slot_tuple_getitem.lookup (tuple_butLast (isTup_of (k1 _ _ ea)) (Heap.IsSliceOf.new ..) (by simpa using hl) ?_ (by rw [List.size_toArray, sizeLine_eq, ra.length]; unfold lim at hz'; omega)) (hsl _ _)
      have k2 := k1.trans (kept_push _ { cls := .type "tuple", data := .seq vs.toArray.toList.dropLast.toArray })
      exact K _ _ s.toks k2.kp (.tup (n := 0) (Heap.get?_push_size _ rfl) (by simpa using ra.dropLast.kept k2))
    · cases e
  · cases e
end
end Mine
end
section
open PySem PySem.W PyProof.Rows PySem.Calls
set_option maxRecDepth 100000
namespace Mine

/-- an IndexError just made: no traceback yet; its context: none if c -/
noncomputable def ExcNew (h h' : Heap) (c : Bool) (x : Value) : Prop :=
  ∃ e o vs, x = .ref e ∧ h.get? e = none ∧ h'.get? e = some o ∧ o.cls = .type "IndexError" ∧ o.data = .fields vs ∧ vs.size = 6 ∧ vs[1]? = some .none ∧ (c = true → vs[2]? = some .none)

theorem entry_unchain : entryFor table "proto.unchain" = some Builtin.«proto.unchain» := entryFor_of_fast (by kernel_rfl)

section
variable {X : Cx} {A : Around} {s : Shared}

theorem raise_words {α : Type} {msg : String} {hd : Nat} {Q : α → Shared → Prop} {E : Value → Shared → Prop} (H : Hd hd A s.heap) (h2 : hd < 2)
    (h : ∀ h' tk x, Kept s.heap h' → ExcNew s.heap h' (hd == 0) x → E x { s with heap := h', toks := tk }) :
    wpAny (model X.prog X.w) A (raiseErrorWords "IndexError" msg : Sem α) Q E s := by
  by_cases h0 : hd = 0
  · subst h0
    refine wpAny_raiseErrorWords plainExc_IndexError (H.zero rfl) fun h' tk e ne => h h' tk _ ne.keeps ?_
    obtain ⟨ob, t, h1, h2, h3⟩ := ne.there
    exact ⟨e, ob, _, rfl, ne.new, h1, h2, h3, rfl, rfl, fun _ => rfl⟩
  · obtain rfl : hd = 1 := by omega
    obtain ⟨e0, he0, o0, vs0, ho0, hd0, hc0⟩ := H.one rfl
    unfold raiseErrorWords
    refine wpAny_bind (wpAny_mkText (wpAny_bind ?_))
    refine wpAny_newExc_plain plainExc_IndexError fun h' e ne => ?_
    obtain ⟨k1, k2, t, k3, k4, k5⟩ := ne
    have hne : e0 ≠ e := by rintro rfl; rw [ho0] at k2; cases k2
    unfold raiseNew
    refine wpAny_bind (wpAny_handled ?_)
    rw [he0]
    dsimp only
    rw [if_pos (show (Value.ref e0 != Value.ref e) = true by simpa using hne)]
    refine wpAny_bind (wpAny_holding (wpAny_runValue (codeAny_builtin entry_unchain ?_)))
    show wpAny _ _ (field (.ref e0) 2 >>= _) _ _ _
    refine wpAny_bind (wpAny_field (k1 _ _ ho0) hd0 hc0 ?_)
    rw [if_pos (by decide)]
    refine wpAny_pure ?_
    show wpAny _ _ (updateField e 2 (.ref e0) >>= fun _ => throw (Value.ref e)) _ _ _
    refine wpAny_bind ?_
    unfold updateField
    refine wpAny_bind (wpAny_load k3 ?_)
    dsimp only
    rw [if_pos (by simp)]
    refine wpAny_update k3 (wpAny_throw ?_)
    refine h _ _ _ (fun b o hb => ?_) ⟨e, _, _, rfl, k2, Heap.get?_update_self _ k3 rfl, rfl, rfl, rfl, rfl, fun q => ?_⟩
    · rw [Heap.get?_update_other _ _ (by rintro rfl; rw [hb] at k2; cases k2)]
      exact k1 b o hb
    · exact absurd q (by decide)

/-- xs[j] out of the list: IndexError -/
theorem item_out {l : Addr} {items : Array Value} {k : Int} {j : Nat} {t : Tok} {hd : Nat} {Q E : Value → Shared → Prop} (H : Hd hd A s.heap) (h2 : hd < 2) (hl : s.heap.IsList l items) (hk : k = j) (hj : items[j]? = none) (hf : k < 2 ^ 63)
    (h : ∀ h' tk x, Kept s.heap h' → ExcNew s.heap h' (hd == 0) x → E x { s with heap := h', toks := tk }) :
    wpAny (model X.prog X.w) A (getItem (.ref l) (.int k t)) Q E s := by
  obtain ⟨o, ho, hc, ne, hd'⟩ := id hl
  have H1 : Hd hd A.in1 s.heap := ⟨H.zero, H.one⟩
  unfold getItem
  try with_reducible refine wpAny_holding ?_
  first | refine wpAny_bind (wpAny_pure ?_) | skip
  refine wpAny_bind (wpAny_sequenceKey hl.typeIs (by decide) ?_)
  refine wpAny_bind (wpAny_callSpecial?_slot (name := Str.ofString "__getitem__") hl.typeIs slot_list_getitem
    (wpAny_call_entry slot_list_getitem hl.typeIs entry_list_getitem ?_ (args_list_getitem _ _)))
  show wpAny _ _ (Builtin.List.listSubscript? (.int k t) >>= _) _ _ s
  refine wpAny_bind (wpAny_listSubscript_int (fitsIndex_of (by first | decide | omega) hf) ?_)
  clear hf
  subst hk
  show wpAny _ _ ((seqItemAt l j >>= fun r => pure (r.map (j, ·))) >>= _) _ _ s
  refine wpAny_bind (wpAny_bind (wpAny_seqItemAt ho hd' (wpAny_pure ?_)))
  rw [hj]
  first
    | exact wpAny_bind (wpAny_rule (raise_words H1 h2 h))
    | exact wpAny_bind (wpAny_rule (wpAny_bind (raise_words H1 h2 h)))
    | exact wpAny_bind (wpAny_bind (wpAny_rule (raise_words H1 h2 h)))
    | exact wpAny_rule (raise_words H1 h2 h)
end
end Mine
end
section
open PySem PySem.W PyProof.Rows PySem.Calls
set_option maxRecDepth 100000
set_option linter.unusedVariables false
set_option linter.unusedSimpArgs false
namespace Mine

inductive All2 {α β : Type} (R : α → β → Prop) : List α → List β → Prop
  | nil : All2 R [] []
  | cons {a b as bs} : R a b → All2 R as bs → All2 R (a :: as) (b :: bs)
theorem All2.of {α β : Type} {f : α → β → Bool} {R : α → β → Prop} (h : ∀ a b, f a b = true → R a b) : ∀ {as : List α} {bs : List β}, all2 f as bs = true → All2 R as bs
  | [], [], _ => .nil
  | [], _ :: _, e => by simp [all2] at e
  | _ :: _, [], e => by simp [all2] at e
  | a :: as, b :: bs, e => by
    rw [all2, Bool.and_eq_true] at e
    exact .cons (h a b e.1) (All2.of h e.2)
theorem All2.mono {α β : Type} {R R' : α → β → Prop} (h : ∀ a b, R a b → R' a b) : ∀ {as : List α} {bs : List β}, All2 R as bs → All2 R' as bs
  | _, _, .nil => .nil
  | _, _, .cons r rs => .cons (h _ _ r) (rs.mono h)
theorem All2.length {α β : Type} {R : α → β → Prop} : ∀ {as : List α} {bs : List β}, All2 R as bs → as.length = bs.length
  | _, _, .nil => rfl
  | _, _, .cons _ rs => by rw [List.length_cons, List.length_cons, rs.length]

structure OkA (n : Nat) (A : Around) : Prop where
  depth : A.depth + n < recursionLimit
  units : A.units + 4 * n + 100 < cLine
theorem OkA.pred {n : Nat} {A : Around} (h : OkA (n + 1) A) : OkA n A := ⟨by have := h.depth; omega, by have := h.units; omega⟩

section
variable {α β γ : Type} (Rel : Heap → Adr → β → α → Prop) (X : Cx) (A : Around) (env : Env) (hd : Nat) (σ : List Addr) (ρ : Rho)

noncomputable def PG (s : Shared) (W : Sto) (r : Res α) (b : β) (s' : Shared) : Prop :=
  ∃ a W', r = .ok a W' ∧ Stp s s' ∧ Keep X.B (live σ W) s.heap s'.heap ∧ Dec W W' ∧ St X A env hd σ ρ W' s'.heap ∧ Rel s'.heap (live σ W') b a
noncomputable def XE (s : Shared) (W : Sto) (r : Res α) (x : Value) (s' : Shared) : Prop :=
  ∃ c W', r = .exc c W' ∧ Stp s s' ∧ Keep X.B (live σ W) s.heap s'.heap ∧ Dec W W' ∧ St X A env hd σ ρ W' s'.heap ∧ ExcNew s.heap s'.heap c x
noncomputable def Sd (t : Sem β) (f : Sto → Res α) : Prop :=
  ∀ W s, St X A env hd σ ρ W s.heap → f W ≠ .bad → wpAny (model X.prog X.w) A t (PG Rel X A env hd σ ρ s W (f W)) (XE X A env hd σ ρ s W (f W)) s
end

section
variable {α β γ δ : Type} {Rel : Heap → Adr → β → α → Prop} {Rel' : Heap → Adr → δ → γ → Prop} {X : Cx} {A : Around} {env : Env} {hd : Nat} {σ : List Addr} {ρ : Rho}

theorem St.am {W : Sto} {h : Heap} (st : St X A env hd σ ρ W h) (lo : X.B ≤ env.locals) : Am X (live σ W) h :=
  ⟨let ⟨m, hm⟩ := st.ns; ⟨env.locals, m, lo, hm⟩, fun _ l => live_there st.sto l⟩

theorem keep_trans {W W1 : Sto} {h h1 h2 : Heap} (k : Keep X.B (live σ W) h h1) (d : Dec W W1) (k1 : Keep X.B (live σ W1) h1 h2) : Keep X.B (live σ W) h h2 := k.trans k1 fun a _ _ l => d.live σ a l
theorem fresh_back {T : Adr} {B : Nat} {h h1 : Heap} {e : Addr} (k : Keep B T h h1) (n : h1.get? e = none) : h.get? e = none := by
  cases q : h.get? e with
  | none => rfl
  | some o => obtain ⟨o', e'⟩ := k.all e o q; rw [n] at e'; cases e'
theorem ExcNew.back {T : Adr} {B : Nat} {h h1 h2 : Heap} {c : Bool} {x : Value} (k : Keep B T h h1) (n : ExcNew h1 h2 c x) : ExcNew h h2 c x := by
  obtain ⟨e, o, vs, r1, r2, r⟩ := n
  exact ⟨e, o, vs, r1, fresh_back k r2, r⟩

theorem PG.lift {s s1 s' : Shared} {W W1 : Sto} {r r' : Res α} {b : β} (p : PG Rel X A env hd σ ρ s1 W1 r b s') (a : Stp s s1) (k : Keep X.B (live σ W) s.heap s1.heap) (d : Dec W W1) (e : r' = r) : PG Rel X A env hd σ ρ s W r' b s' := by
  subst e
  obtain ⟨x, W', h1, h2, h3, h4, h5, h6⟩ := p
  exact ⟨x, W', h1, a.trans h2, keep_trans k d h3, d.trans h4, h5, h6⟩
theorem XE.lift {s s1 s' : Shared} {W W1 : Sto} {r r' : Res α} {x : Value} (p : XE X A env hd σ ρ s1 W1 r x s') (a : Stp s s1) (k : Keep X.B (live σ W) s.heap s1.heap) (d : Dec W W1) (e : r' = r) : XE X A env hd σ ρ s W r' x s' := by
  subst e
  obtain ⟨c, W', h1, h2, h3, h4, h5, h6⟩ := p
  exact ⟨c, W', h1, a.trans h2, keep_trans k d h3, d.trans h4, h5, h6.back k⟩
theorem XE.cast {s s' : Shared} {W : Sto} {r : Res α} {x : Value} {g : α → Sto → Res γ} (p : XE X A env hd σ ρ s W r x s') : XE X A env hd σ ρ s W (r.bind g) x s' := by
  obtain ⟨c, W', h1, h⟩ := p
  exact ⟨c, W', by rw [h1]; rfl, h⟩

theorem bind_ne {r : Res α} {g : α → Sto → Res γ} (h : r.bind g ≠ .bad) : r ≠ .bad := by
  rintro rfl; exact h rfl

/-- a step, then the rest -/
theorem Sd.bind {t : Sem β} {f : Sto → Res α} (ht : Sd Rel X A env hd σ ρ t f) {k : β → Sem δ} {g : α → Sto → Res γ} {W : Sto} {s : Shared} (st : St X A env hd σ ρ W s.heap) (hne : (f W).bind g ≠ .bad)
    (K : ∀ b a W1 s1, f W = .ok a W1 → Stp s s1 → Keep X.B (live σ W) s.heap s1.heap → Dec W W1 → St X A env hd σ ρ W1 s1.heap → Rel s1.heap (live σ W1) b a → g a W1 ≠ .bad →
      wpAny (model X.prog X.w) A (k b) (PG Rel' X A env hd σ ρ s1 W1 (g a W1)) (XE X A env hd σ ρ s1 W1 (g a W1)) s1) :
    wpAny (model X.prog X.w) A t (fun b s1 => wpAny (model X.prog X.w) A (k b) (PG Rel' X A env hd σ ρ s W ((f W).bind g)) (XE X A env hd σ ρ s W ((f W).bind g)) s1) (XE X A env hd σ ρ s W ((f W).bind g)) s := by
  refine wpAny_mono (ht W s st (bind_ne hne)) (fun b s1 p => ?_) fun x s1 p => p.cast
  obtain ⟨a, W1, h1, h2, h3, h4, h5, h6⟩ := p
  have e : (f W).bind g = g a W1 := by rw [h1]; rfl
  refine wpAny_mono (K b a W1 s1 h1 h2 h3 h4 h5 h6 (e ▸ hne)) (fun d s2 p => p.lift h2 h3 h4 e) fun x s2 p => p.lift h2 h3 h4 e

/-- the same where a rule nests what comes next -/
theorem Sd.nest {t : Sem β} {f : Sto → Res α} (ht : Sd Rel X A env hd σ ρ t f) {g : α → Sto → Res γ} {W : Sto} {s : Shared} (st : St X A env hd σ ρ W s.heap) (hne : (f W).bind g ≠ .bad) {P : β → Shared → Prop} {E : Value → Shared → Prop}
    (up : ∀ x s', XE X A env hd σ ρ s W ((f W).bind g) x s' → E x s')
    (K : ∀ b a W1 s1, f W = .ok a W1 → Stp s s1 → Keep X.B (live σ W) s.heap s1.heap → Dec W W1 → St X A env hd σ ρ W1 s1.heap → Rel s1.heap (live σ W1) b a → g a W1 ≠ .bad → (f W).bind g = g a W1 → P b s1) :
    wpAny (model X.prog X.w) A t P E s := by
  refine wpAny_mono (ht W s st (bind_ne hne)) (fun b s1 p => ?_) fun x s1 p => up x s1 p.cast
  obtain ⟨a, W1, h1, h2, h3, h4, h5, h6⟩ := p
  have e : (f W).bind g = g a W1 := by rw [h1]; rfl
  exact K b a W1 s1 h1 h2 h3 h4 h5 h6 (e ▸ hne) e
theorem Sd.fin {t : Sem β} {s s1 : Shared} {W W1 : Sto} {r r1 : Res α} (h : wpAny (model X.prog X.w) A t (PG Rel X A env hd σ ρ s1 W1 r1) (XE X A env hd σ ρ s1 W1 r1) s1) (a : Stp s s1) (k : Keep X.B (live σ W) s.heap s1.heap) (d : Dec W W1) (e : r = r1) :
    wpAny (model X.prog X.w) A t (PG Rel X A env hd σ ρ s W r) (XE X A env hd σ ρ s W r) s1 :=
  wpAny_mono h (fun _ _ p => p.lift a k d e) fun _ _ p => p.lift a k d e

theorem rd_carry {W W1 : Sto} {s s1 : Shared} {v : Value} {d : D} (st : St X A env hd σ ρ W s.heap) (r : Rd s.heap (live σ W) v d) (k : Keep X.B (live σ W) s.heap s1.heap) (dc : Dec W W1) : Rd s1.heap (live σ W1) v d :=
  Rd.keep k st.sto.noTup (fun a _ _ l => dc.live σ a l) r
theorem rdAll_carry {W W1 : Sto} {s s1 : Shared} {v : List Value} {d : List D} (st : St X A env hd σ ρ W s.heap) (r : RdAll s.heap (live σ W) v d) (k : Keep X.B (live σ W) s.heap s1.heap) (dc : Dec W W1) : RdAll s1.heap (live σ W1) v d :=
  RdAll.keep k st.sto.noTup (fun a _ _ l => dc.live σ a l) r

/-- an operation that leaves the mutable lists alone -/
theorem pg_of {s : Shared} {W : Sto} {h' : Heap} {tk : Nat} {b : β} {a : α} (st : St X A env hd σ ρ W s.heap) (k : Kp X s.heap h') (r : Rel h' (live σ W) b a) : PG Rel X A env hd σ ρ s W (.ok a W) b { s with heap := h', toks := tk } :=
  ⟨a, W, rfl, .mk _ _ _, k.mono fun _ _ _ t => t.elim, .refl W, st.kp k, r⟩

theorem Sd.gv {t : Sem Value} {d : D} {W : Sto} {s : Shared} {E : Value → Shared → Prop} (st : St X A env hd σ ρ W s.heap) (g : Gv X A (live σ W) s t d) : wpAny (model X.prog X.w) A t (PG Rd X A env hd σ ρ s W (.ok d W)) E s :=
  g _ _ fun v h' tk k r => pg_of st k r

theorem optR_ne {o : Option α} {W : Sto} (h : optR o W ≠ .bad) : ∃ a, o = some a ∧ optR o W = .ok a W := by
  cases o with
  | none => exact absurd rfl h
  | some a => exact ⟨a, rfl, rfl⟩

/-- one after the other -/
theorem Sd.spliced {f : E → Sto → Res D} : ∀ {ts : List (Bool × Sem Value)} {es : List E}, (∀ p ∈ ts, p.1 = false) → All2 (fun (p : Bool × Sem Value) e => Sd Rd X A env hd σ ρ p.2 (f e)) ts es →
    Sd RdAll X A env hd σ ρ (spliced ts) (mapR f es)
  | _, _, _, .nil => fun W s st _ => by
    rw [PySem.spliced]
    exact wpAny_pure (pg_of (h' := s.heap) (tk := s.toks) st .refl .nil)
  | (b, t) :: ts, e :: es, hb, .cons h hs => fun W s st hne => by
    have hb0 : b = false := hb _ (.head _)
    subst hb0
    rw [PySem.spliced]
    rw [mapR] at hne ⊢
    refine wpAny_bind (Sd.bind h st hne fun v d W1 s1 e1 p1 k1 c1 st1 r1 hne1 => ?_)
    dsimp only
    refine wpAny_bind (wpAny_pure (wpAny_bind (wpAny_holding (Sd.bind (Sd.spliced (fun p hp => hb p (.tail _ hp)) hs) st1 hne1 fun vs ds W2 s2 e2 p2 k2 c2 st2 r2 hne2 => ?_))))
    exact wpAny_pure (pg_of (h' := s2.heap) (tk := s2.toks) st2 .refl (.cons (rd_carry st1 r1 k2 c2) r2))
end
end Mine
end
section
open PySem PySem.W PyProof.Rows PySem.Calls
set_option maxRecDepth 100000
set_option linter.unusedVariables false
set_option linter.unusedSimpArgs false
namespace Mine

/-! ### what the check says, form by form -/
section
variable {m : Nat} {sc : Sc} {x : PySem.Expr}
theorem ch_zero {e : E} : chE 0 sc e x = false := rfl
theorem inv_var {i : Nat} (h : chE (m + 1) sc (.var i) x = true) : ∃ y p, x = .Name y p ∧ isNm y i = true ∧ isVar sc y = true := by
  replace h : kE_var sc i x = true := h
  unfold kE_var at h
  refine aP h fun t0 (e0 : x = .Name t0.1 t0.2) h => ?_
  simp only [Bool.and_eq_true, Bool.not_eq_true', beq_iff_eq, decide_eq_true_eq, and_assoc] at h
  exact ⟨t0.1, t0.2, by rw [e0], h⟩
theorem inv_int {i : Int} (h : chE (m + 1) sc (.int i) x = true) : ∃ k p, x = .Constant (.int i) k p := by
  replace h : kE_int i x = true := h
  unfold kE_int at h
  refine aP h fun t0 (e0 : x = .Constant t0.1 t0.2.1 t0.2.2) h => ?_
  refine aP h fun t1 (e1 : t0.1 = .int t1) h => ?_
  exact ⟨t0.2.1, t0.2.2, by rw [e0, e1, beq_iff_eq.mp h]⟩
theorem inv_neg {i : Int} (h : chE (m + 1) sc (.neg i) x = true) : ∃ k p q, x = .UnaryOp .USub (.Constant (.int i) k p) q := by
  replace h : kE_neg i x = true := h
  unfold kE_neg at h
  refine aP h fun t0 (e0 : x = .UnaryOp t0.1 t0.2.1 t0.2.2) h => ?_
  refine aK_USub h fun  (e1 : t0.1 = .USub) h => ?_
  refine aP h fun t2 (e2 : t0.2.1 = .Constant t2.1 t2.2.1 t2.2.2) h => ?_
  refine aP h fun t3 (e3 : t2.1 = .int t3) h => ?_
  exact ⟨t2.2.1, t2.2.2, t0.2.2, by rw [e0, e1, e2, e3, beq_iff_eq.mp h]⟩
theorem inv_bool {b : Bool} (h : chE (m + 1) sc (.bool b) x = true) : ∃ k p, x = .Constant (.bool b) k p := by
  replace h : kE_bool b x = true := h
  unfold kE_bool at h
  refine aP h fun t0 (e0 : x = .Constant t0.1 t0.2.1 t0.2.2) h => ?_
  refine aP h fun t1 (e1 : t0.1 = .bool t1) h => ?_
  exact ⟨t0.2.1, t0.2.2, by rw [e0, e1, beq_iff_eq.mp h]⟩
theorem inv_bin {op : BOp} {a b : E} (h : chE (m + 1) sc (.bin op a b) x = true) : ∃ l o r p, x = .BinOp l o r p ∧ bopOk op o = true ∧ chE m sc a l = true ∧ chE m sc b r = true := by
  replace h : kE_bin (chE m) sc op a b x = true := h
  unfold kE_bin at h
  refine aP h fun t0 (e0 : x = .BinOp t0.1 t0.2.1 t0.2.2.1 t0.2.2.2) h => ?_
  simp only [Bool.and_eq_true, Bool.not_eq_true', beq_iff_eq, decide_eq_true_eq, and_assoc] at h
  exact ⟨t0.1, t0.2.1, t0.2.2.1, t0.2.2.2, by rw [e0], h⟩
theorem inv_cmp {op : COp} {a b : E} (h : chE (m + 1) sc (.cmp op a b) x = true) : ∃ l o r p, x = .Compare l [o] [r] p ∧ copOk op o = true ∧ behindInMarks o r = false ∧ chE m sc a l = true ∧ chE m sc b r = true := by
  replace h : kE_cmp (chE m) sc op a b x = true := h
  unfold kE_cmp at h
  refine aP h fun t0 (e0 : x = .Compare t0.1 t0.2.1 t0.2.2.1 t0.2.2.2) h => ?_
  refine aL_one h fun o (e1 : t0.2.1 = [o]) h => ?_
  refine aL_one h fun r (e2 : t0.2.2.1 = [r]) h => ?_
  simp only [Bool.and_eq_true, Bool.not_eq_true', beq_iff_eq, decide_eq_true_eq, and_assoc] at h
  exact ⟨t0.1, o, r, t0.2.2.2, by rw [e0, e1, e2], h⟩
theorem inv_and {a b : E} (h : chE (m + 1) sc (.and a b) x = true) : ∃ l r p, x = .BoolOp .And [l, r] p ∧ chE m sc a l = true ∧ chE m sc b r = true := by
  replace h : kE_and (chE m) sc a b x = true := h
  unfold kE_and at h
  refine aP h fun t0 (e0 : x = .BoolOp t0.1 t0.2.1 t0.2.2) h => ?_
  refine aK_And h fun  (e1 : t0.1 = .And) h => ?_
  refine aL_cons h fun l vs1 (e2 : t0.2.1 = l :: vs1) h => ?_
  refine aL_one h fun r (e3 : vs1 = [r]) h => ?_
  simp only [Bool.and_eq_true, Bool.not_eq_true', beq_iff_eq, decide_eq_true_eq, and_assoc] at h
  exact ⟨l, r, t0.2.2, by rw [e0, e1, e2, e3], h⟩
theorem inv_not {a : E} (h : chE (m + 1) sc (.not a) x = true) : ∃ l p, x = .UnaryOp .Not l p ∧ chE m sc a l = true := by
  replace h : kE_not (chE m) sc a x = true := h
  unfold kE_not at h
  refine aP h fun t0 (e0 : x = .UnaryOp t0.1 t0.2.1 t0.2.2) h => ?_
  refine aK_Not h fun  (e1 : t0.1 = .Not) h => ?_
  exact ⟨t0.2.1, t0.2.2, by rw [e0, e1], h⟩
theorem inv_ite {c a b : E} (h : chE (m + 1) sc (.ite c a b) x = true) : ∃ t l r p, x = .IfExp t l r p ∧ chE m sc c t = true ∧ chE m sc a l = true ∧ chE m sc b r = true := by
  replace h : kE_ite (chE m) sc c a b x = true := h
  unfold kE_ite at h
  refine aP h fun t0 (e0 : x = .IfExp t0.1 t0.2.1 t0.2.2.1 t0.2.2.2) h => ?_
  simp only [Bool.and_eq_true, Bool.not_eq_true', beq_iff_eq, decide_eq_true_eq, and_assoc] at h
  exact ⟨t0.1, t0.2.1, t0.2.2.1, t0.2.2.2, by rw [e0], h⟩
theorem inv_list {es : List E} (h : chE (m + 1) sc (.list es) x = true) : ∃ xs p, x = .List xs p ∧ all2 (chE m sc) es xs = true := by
  replace h : kE_list (chE m) sc es x = true := h
  unfold kE_list at h
  refine aP h fun t0 (e0 : x = .List t0.1 t0.2) h => ?_
  exact ⟨t0.1, t0.2, by rw [e0], h⟩
theorem inv_tup {es : List E} (h : chE (m + 1) sc (.tup es) x = true) : ∃ xs k p, x = .Tuple xs k p ∧ all2 (chE m sc) es xs = true := by
  replace h : kE_tup (chE m) sc es x = true := h
  unfold kE_tup at h
  refine aP h fun t0 (e0 : x = .Tuple t0.1 t0.2.1 t0.2.2) h => ?_
  exact ⟨t0.1, t0.2.1, t0.2.2, by rw [e0], h⟩
theorem inv_idx {a i : E} (h : chE (m + 1) sc (.idx a i) x = true) : ∃ v s p, x = .Subscript v s p ∧ chE m sc a v = true ∧ chE m sc i s = true := by
  replace h : kE_idx (chE m) sc a i x = true := h
  unfold kE_idx at h
  refine aP h fun t0 (e0 : x = .Subscript t0.1 t0.2.1 t0.2.2) h => ?_
  simp only [Bool.and_eq_true, Bool.not_eq_true', beq_iff_eq, decide_eq_true_eq, and_assoc] at h
  exact ⟨t0.1, t0.2.1, t0.2.2, by rw [e0], h⟩
theorem inv_midx {a : Nat} {i : E} (h : chE (m + 1) sc (.midx a i) x = true) : ∃ y q s p, x = .Subscript (.Name y q) s p ∧ isNm y a = true ∧ isVar sc y = true ∧ chE m sc i s = true := by
  replace h : kE_midx (chE m) sc a i x = true := h
  unfold kE_midx at h
  refine aP h fun t0 (e0 : x = .Subscript t0.1 t0.2.1 t0.2.2) h => ?_
  refine aP h fun t1 (e1 : t0.1 = .Name t1.1 t1.2) h => ?_
  simp only [Bool.and_eq_true, Bool.not_eq_true', beq_iff_eq, decide_eq_true_eq, and_assoc] at h
  exact ⟨t1.1, t1.2, t0.2.1, t0.2.2, by rw [e0, e1], h⟩
theorem inv_slc {a : E} {lo hi : Option E} (h : chE (m + 1) sc (.slc a lo hi) x = true) : ∃ v l u q p, x = .Subscript v (.Slice l u none q) p ∧ chE m sc a v = true ∧ chO m sc lo l = true ∧ chO m sc hi u = true := by
  replace h : kE_slc (chE m) (chO m) sc a lo hi x = true := h
  unfold kE_slc at h
  refine aP h fun t0 (e0 : x = .Subscript t0.1 t0.2.1 t0.2.2) h => ?_
  refine aP h fun t1 (e1 : t0.2.1 = .Slice t1.1 t1.2.1 t1.2.2.1 t1.2.2.2) h => ?_
  refine aO_none h fun  (e2 : t1.2.2.1 = none) h => ?_
  simp only [Bool.and_eq_true, Bool.not_eq_true', beq_iff_eq, decide_eq_true_eq, and_assoc] at h
  exact ⟨t0.1, t1.1, t1.2.1, t1.2.2.2, t0.2.2, by rw [e0, e1, e2], h⟩
theorem inv_call {f : Nat} {es : List E} (h : chE (m + 1) sc (.call f es) x = true) : ∃ y q args p, x = .Call (.Name y q) args [] p ∧ y = fnm f ∧ isGlob sc y = true ∧ all2 (chE m sc) es args = true ∧ args.length < 20 ∧ f < 10 := by
  replace h : kE_call (chE m) sc f es x = true := h
  unfold kE_call at h
  refine aP h fun t0 (e0 : x = .Call t0.1 t0.2.1 t0.2.2.1 t0.2.2.2) h => ?_
  refine aP h fun t1 (e1 : t0.1 = .Name t1.1 t1.2) h => ?_
  refine aL_nil h fun  (e2 : t0.2.2.1 = []) h => ?_
  simp only [Bool.and_eq_true, Bool.not_eq_true', beq_iff_eq, decide_eq_true_eq, and_assoc] at h
  exact ⟨t1.1, t1.2, t0.2.1, t0.2.2.2, by rw [e0, e1, e2], h⟩
theorem inv_bi {b : BI} {a : E} (h : chE (m + 1) sc (.bi b a) x = true) : ∃ y q v p, x = .Call (.Name y q) [v] [] p ∧ y = biName b ∧ isGlob sc y = true ∧ chE m sc a v = true := by
  replace h : kE_bi (chE m) sc b a x = true := h
  unfold kE_bi at h
  refine aP h fun t0 (e0 : x = .Call t0.1 t0.2.1 t0.2.2.1 t0.2.2.2) h => ?_
  refine aP h fun t1 (e1 : t0.1 = .Name t1.1 t1.2) h => ?_
  refine aL_one h fun v (e2 : t0.2.1 = [v]) h => ?_
  refine aL_nil h fun  (e3 : t0.2.2.1 = []) h => ?_
  simp only [Bool.and_eq_true, Bool.not_eq_true', beq_iff_eq, decide_eq_true_eq, and_assoc] at h
  exact ⟨t1.1, t1.2, v, t0.2.2.2, by rw [e0, e1, e2, e3], h⟩
theorem inv_mlen {a : Nat} (h : chE (m + 1) sc (.mlen a) x = true) : ∃ y q z q' p, x = .Call (.Name y q) [.Name z q'] [] p ∧ y = Str.ofString "len" ∧ isGlob sc y = true ∧ isNm z a = true ∧ isVar sc z = true := by
  replace h : kE_mlen sc a x = true := h
  unfold kE_mlen at h
  refine aP h fun t0 (e0 : x = .Call t0.1 t0.2.1 t0.2.2.1 t0.2.2.2) h => ?_
  refine aP h fun t1 (e1 : t0.1 = .Name t1.1 t1.2) h => ?_
  refine aL_one h fun v (e2 : t0.2.1 = [v]) h => ?_
  refine aL_nil h fun  (e3 : t0.2.2.1 = []) h => ?_
  refine aP h fun t4 (e4 : v = .Name t4.1 t4.2) h => ?_
  simp only [Bool.and_eq_true, Bool.not_eq_true', beq_iff_eq, decide_eq_true_eq, and_assoc] at h
  exact ⟨t1.1, t1.2, t4.1, t4.2, t0.2.2.2, by rw [e0, e1, e2, e3, e4], h⟩
theorem inv_mtrue {a : Nat} (h : chE (m + 1) sc (.mtrue a) x = true) : ∃ y p, x = .Name y p ∧ isNm y a = true ∧ isVar sc y = true := by
  replace h : kE_mtrue sc a x = true := h
  unfold kE_mtrue at h
  refine aP h fun t0 (e0 : x = .Name t0.1 t0.2) h => ?_
  simp only [Bool.and_eq_true, Bool.not_eq_true', beq_iff_eq, decide_eq_true_eq, and_assoc] at h
  exact ⟨t0.1, t0.2, by rw [e0], h⟩
theorem inv_pop {a : Nat} (h : chE (m + 1) sc (.pop a) x = true) : ∃ y q r p, x = .Call (.Attribute (.Name y q) (Str.ofString "pop") r) [] [] p ∧ isNm y a = true ∧ isVar sc y = true ∧ (r.endLine == p.line) = true := by
  replace h : kE_pop sc a x = true := h
  unfold kE_pop at h
  refine aP h fun t0 (e0 : x = .Call t0.1 t0.2.1 t0.2.2.1 t0.2.2.2) h => ?_
  refine aP h fun t1 (e1 : t0.1 = .Attribute t1.1 t1.2.1 t1.2.2) h => ?_
  refine aP h fun t2 (e2 : t1.1 = .Name t2.1 t2.2) h => ?_
  refine aL_nil h fun  (e3 : t0.2.1 = []) h => ?_
  refine aL_nil h fun  (e4 : t0.2.2.1 = []) h => ?_
  simp only [Bool.and_eq_true, beq_iff_eq, and_assoc] at h
  exact ⟨t2.1, t2.2, t1.2.2, t0.2.2.2, by rw [e0, e1, e2, e3, e4, h.2.2.1], h.1, h.2.1, beq_iff_eq.mpr h.2.2.2⟩
theorem inv_range {a : E} (h : chE (m + 1) sc (.range a) x = true) : ∃ y q v p, x = .Call (.Name y q) [v] [] p ∧ y = Str.ofString "range" ∧ isGlob sc y = true ∧ chE m sc a v = true := by
  replace h : kE_range (chE m) sc a x = true := h
  unfold kE_range at h
  refine aP h fun t0 (e0 : x = .Call t0.1 t0.2.1 t0.2.2.1 t0.2.2.2) h => ?_
  refine aP h fun t1 (e1 : t0.1 = .Name t1.1 t1.2) h => ?_
  refine aL_one h fun v (e2 : t0.2.1 = [v]) h => ?_
  refine aL_nil h fun  (e3 : t0.2.2.1 = []) h => ?_
  simp only [Bool.and_eq_true, Bool.not_eq_true', beq_iff_eq, decide_eq_true_eq, and_assoc] at h
  exact ⟨t1.1, t1.2, v, t0.2.2.2, by rw [e0, e1, e2, e3], h⟩
theorem inv_comp {caps : List Nat} {elt : E} {gens : List (Nat × E × List E)} (h : chE (m + 1) sc (.comp caps elt gens) x = true) :
    ∃ t it ifs rest ex y q ix fx gs scope p, gens = (t, it, ifs) :: rest ∧ x = .ListComp ex (⟨.Name y q, ix, fx, 0⟩ :: gs) scope p ∧ scopeOk sc caps scope = true ∧ isNm y t = true ∧ isTgt scope.names y = true ∧ chE m sc it ix = true ∧
      all2 (chE m scope.names) ifs fx = true ∧ all2 (chG m scope.names) rest gs = true ∧ chE m scope.names elt ex = true ∧ rest.length ≤ 1 := by
  replace h : kE_comp (chE m) (chG m) sc caps elt gens x = true := h
  unfold kE_comp at h
  refine aP h fun t0 (e0 : x = .ListComp t0.1 t0.2.1 t0.2.2.1 t0.2.2.2) h => ?_
  refine aL_cons h fun g gs1 (e1 : t0.2.1 = g :: gs1) h => ?_
  refine aP h fun t2 (e2 : g.target = .Name t2.1 t2.2) h => ?_
  refine aL_cons h fun d rest (e3 : gens = d :: rest) h => ?_
  simp only [Bool.and_eq_true, Bool.not_eq_true', beq_iff_eq, decide_eq_true_eq, and_assoc] at h
  obtain ⟨tg, ix, fx, as⟩ := g
  exact ⟨d.1, d.2.1, d.2.2, rest, t0.1, t2.1, t2.2, ix, fx, gs1, t0.2.2.1, t0.2.2.2, e3, by rw [e0, e1, show tg = .Name t2.1 t2.2 from e2, show as = 0 from h.1], h.2⟩
/-- a form that no text of the small language has -/
theorem ch_none {e : E} (hx : ∀ e, kE (chE m) (chO m) (chG m) sc e x = false) (h : chE (m + 1) sc e x = true) : False := by
  replace h : kE (chE m) (chO m) (chG m) sc e x = true := h
  rw [hx e] at h
  cases h
end
end Mine
end
section
open PySem PySem.W PyProof.Rows PySem.Calls
set_option maxRecDepth 100000
set_option linter.unusedVariables false
set_option linter.unusedSimpArgs false
namespace Mine

noncomputable def biVals : List (Str × Value) := [("len", .builtin "len"), ("sorted", .builtin "sorted"), ("sum", .builtin "sum"), ("tuple", .type "tuple"), ("range", .type "range"), ("IndexError", .type "IndexError")]

structure CxOk (X : Cx) : Prop where
  g : X.h₀.Ns mainGlobals X.mg
  b : X.h₀.Ns builtinsNs X.mb
  nolimit : X.h₀.NoLimit
  fn : ∀ f args body scope, f < 10 → defOf (fnm f) PySem.Challenge.pw_oc0061_01.main.body = some (args, body, scope) →
    ∃ a o pm code doc, X.mg (fnm f) = some (.ref a) ∧ X.h₀.get? a = some o ∧ o.data = .func (docDef (fnm f) args body scope pm code doc) ∧ X.h₀.CodeRec code (fnm f)
  bi : ∀ x v, (x, v) ∈ biVals → X.mg x = none ∧ X.mb x = some v

noncomputable def VR (σ : List Addr) (h : Heap) (N : Adr) (val : Value) : V → Prop
  | .dat d => Rd h N val d
  | .mref k => ∃ a, σ[k]? = some a ∧ val = .ref a
noncomputable def VRs (σ : List Addr) (h : Heap) (N : Adr) (vals : List Value) (vs : List V) : Prop := All2 (VR σ h N) vals vs
noncomputable def RB (_ : Heap) (_ : Adr) (b : Bool) (t : Bool) : Prop := b = t

noncomputable def RO (_ : Heap) (_ : Adr) (v : Value) (o : Option Int) : Prop := IsPart v o

/-- what is had of all forms with less fuel -/
structure IH (X : Cx) (n : Nat) : Prop where
  E : ∀ {m sc e x A env hd σ ρ}, chE m sc e x = true → EnvOk X env sc → OkA n A → Sd Rd X A env hd σ ρ (eval x env) (evE fns n hd ρ e)
  T : ∀ {m sc e x A env hd σ ρ}, chE m sc e x = true → EnvOk X env sc → OkA n A → Sd RB X A env hd σ ρ (isTrue x env (eval x env)) (evT fns n hd ρ e)
  O : ∀ {m sc o xo A env hd σ ρ}, chO m sc o xo = true → EnvOk X env sc → OkA n A → Sd RO X A env hd σ ρ (evalPart xo env) (evO fns n hd ρ o)
  V : ∀ {m sc e x A env σ ρ}, chE m sc e x = true → EnvOk X env sc → OkA n A → Sd (VR σ) X A env 0 σ ρ (eval x env) (evV fns n ρ e)
  C : ∀ {f a A env σ ρ W s vs vals}, f < 10 → X.mg (fnm f) = some (.ref a) → St X A env 0 σ ρ W s.heap → X.B ≤ env.locals → OkA n A → VRs σ s.heap (live σ W) vals vs → callF fns n f vs W ≠ .bad →
    wpAny (model X.prog X.w) A (call (.ref a) vals) (PG Rd X A env 0 σ ρ s W (callF fns n f vs W)) (fun _ _ => False) s

section
variable {X : Cx} {A : Around} {env : Env} {sc : Sc} {hd : Nat} {σ : List Addr} {ρ : Rho} {W : Sto} {s : Shared}

theorem isNm_eq {y : Str} {i : Nat} (h : isNm y i = true) : y = nm i := by
  unfold isNm at h; rw [Bool.and_eq_true] at h; exact beq_iff_eq.mp h.2
theorem isNm_lt {y : Str} {i : Nat} (h : isNm y i = true) : i < names.length := by
  unfold isNm at h; rw [Bool.and_eq_true] at h; exact of_decide_eq_true h.1
theorem isVar_dbg {y : Str} (h : isVar sc y = true) : (y == ("__debug__" : Str)) = false ∧ (y == ("__classdict__" : Str)) = false := by
  unfold isVar at h
  simp only [Bool.and_eq_true, bne_iff_ne, ne_eq] at h
  exact ⟨beq_eq_false_iff_ne.mpr h.1.1, beq_eq_false_iff_ne.mpr h.1.2⟩
theorem isGlob_dbg {y : Str} (h : isGlob sc y = true) : (y == ("__debug__" : Str)) = false := by
  unfold isGlob at h
  simp only [Bool.and_eq_true, bne_iff_ne, ne_eq] at h
  exact beq_eq_false_iff_ne.mpr h.1
theorem isGlob_kind {y : Str} (eo : EnvOk X env sc) (h : isGlob sc y = true) : env.kindOf y = some .globalImplicit := by
  unfold isGlob at h
  rw [Bool.and_eq_true] at h
  have h2 := h.2
  split at h2
  · rename_i q; exact eo.scn y _ q (by decide)
  · cases h2

theorem load_name {y : Str} {val : Value} {Q : Value → Shared → Prop} {E : Value → Shared → Prop} (eo : EnvOk X env sc) (v : VarAt s.heap env y val) (hv : isVar sc y = true) (h : Q val s) : wpAny (model X.prog X.w) A (loadName env y) Q E s := by
  rcases v with ⟨hk, m, hn, hm⟩ | ⟨hk, c, hc, hcv⟩
  · exact wpAny_loadName_local eo.kind hk hn hm h
  · rcases hk with hk | hk
    · exact wpAny_loadName_cell eo.kind hk hc hcv h
    · exact wpAny_loadName_free eo.kind hk hc hcv h (isVar_dbg hv).2
theorem load_var {y : Str} {p : Pos} {val : Value} {Q : Value → Shared → Prop} {E : Value → Shared → Prop} (eo : EnvOk X env sc) (v : VarAt s.heap env y val) (hv : isVar sc y = true) (h : Q val s) :
    wpAny (model X.prog X.w) A (eval (.Name y p) env) Q E s := wpAny_Name (load_name eo v hv h) (isVar_dbg hv).1

theorem load_glob {y : Str} {p : Pos} {val : Value} {Q : Value → Shared → Prop} {E : Value → Shared → Prop} (C : CxOk X) (st : St X A env hd σ ρ W s.heap) (eo : EnvOk X env sc) (hg : isGlob sc y = true) (hv : X.mg y = some val) (h : Q val s) :
    wpAny (model X.prog X.w) A (eval (.Name y p) env) Q E s :=
  Name_function_global eo.kind (isGlob_kind eo hg) (loadGlobal_global (mg := X.mg) (by rw [eo.globals]; exact C.g.keeps st.base) hv h) (isGlob_dbg hg)
theorem load_bi {y : Str} {p : Pos} {val : Value} {Q : Value → Shared → Prop} {E : Value → Shared → Prop} (C : CxOk X) (st : St X A env hd σ ρ W s.heap) (eo : EnvOk X env sc) (hg : isGlob sc y = true) (hv : (y, val) ∈ biVals) (h : Q val s) :
    wpAny (model X.prog X.w) A (eval (.Name y p) env) Q E s :=
  Name_function_global eo.kind (isGlob_kind eo hg) (loadGlobal_builtin (mg := X.mg) (mb := X.mb) (by rw [eo.globals]; exact C.g.keeps st.base) (C.bi _ _ hv).1 (by rw [eo.builtins]; exact C.b.keeps st.base) (C.bi _ _ hv).2 h) (isGlob_dbg hg)

/-! arguments and displays -/
theorem ch_notStar {m : Nat} {e : E} {x v : PySem.Expr} {p : Pos} (h : chE m sc e x = true) : x ≠ .Starred v p := by
  rintro rfl
  cases m with
  | zero => rw [ch_zero] at h; cases h
  | succ m => exact ch_none (fun e => by cases e <;> rfl) h
theorem starEach_cons' {x : PySem.Expr} {xs : List PySem.Expr} (h : ∀ v p, x ≠ .Starred v p) : starEach (x :: xs) env = (false, eval x env) :: starEach xs env := by
  cases x <;> first | rfl | (exact absurd rfl (h _ _))
theorem backTo_all {pos : Pos} : ∀ {ts : List (Bool × Sem Value)}, (∀ p ∈ ts, p.1 = false) → backTo pos ts = ts
  | [], _ => rfl
  | (b, t) :: ts, h => by
    have hb : b = false := h _ (.head _)
    subst hb
    show (false, t) :: backTo pos ts = _
    rw [backTo_all fun p hp => h p (.tail _ hp)]
theorem starEach_ch {m : Nat} {f : E → PySem.Expr → Bool} : ∀ {es : List E} {xs : List PySem.Expr}, all2 (chE m sc) es xs = true → starEach xs env = xs.map fun x => (false, eval x env)
  | [], [], _ => rfl
  | [], _ :: _, e => by simp [all2] at e
  | _ :: _, [], e => by simp [all2] at e
  | a :: as, x :: xs, e => by
    rw [all2, Bool.and_eq_true] at e
    rw [starEach_cons' fun v p => ch_notStar e.1, starEach_ch (f := f) e.2]
    rfl
theorem args_ch {m : Nat} {pos : Pos} {es : List E} {xs : List PySem.Expr} (h : all2 (chE m sc) es xs = true) : backTo pos (starEach xs env) = xs.map fun x => (false, eval x env) := by
  rw [backTo_all, starEach_ch (f := fun _ _ => true) h]
  rw [starEach_ch (f := fun _ _ => true) h]
  intro p hp
  obtain ⟨x, _, rfl⟩ := List.mem_map.mp hp
  rfl
theorem all2_map {m : Nat} {R : (Bool × Sem Value) → E → Prop} : ∀ {es : List E} {xs : List PySem.Expr}, all2 (chE m sc) es xs = true → (∀ e x, chE m sc e x = true → R (false, eval x env) e) → All2 R (xs.map fun x => (false, eval x env)) es
  | [], [], _, _ => .nil
  | [], _ :: _, e, _ => by simp [all2] at e
  | _ :: _, [], e, _ => by simp [all2] at e
  | a :: as, x :: xs, e, h => by
    rw [all2, Bool.and_eq_true] at e
    exact .cons (h a x e.1) (all2_map e.2 h)
theorem map_false {xs : List PySem.Expr} : ∀ p ∈ xs.map fun x => ((false, eval x env) : Bool × Sem Value), p.1 = false := by
  intro p hp
  obtain ⟨x, _, rfl⟩ := List.mem_map.mp hp
  rfl

theorem vr_carry {W W1 : Sto} {s s1 : Shared} {v : Value} {d : V} (st : St X A env hd σ ρ W s.heap) (r : VR σ s.heap (live σ W) v d) (k : Keep X.B (live σ W) s.heap s1.heap) (dc : Dec W W1) : VR σ s1.heap (live σ W1) v d := by
  cases d with
  | dat d => exact rd_carry (s := s) (s1 := s1) st r k dc
  | mref k => exact r

theorem Sd.splicedV {f : E → Sto → Res V} : ∀ {ts : List (Bool × Sem Value)} {es : List E}, (∀ p ∈ ts, p.1 = false) → All2 (fun (p : Bool × Sem Value) e => Sd (VR σ) X A env hd σ ρ p.2 (f e)) ts es →
    Sd (VRs σ) X A env hd σ ρ (PySem.spliced ts) (mapR f es)
  | _, _, _, .nil => fun W s st _ => by
    rw [PySem.spliced]
    exact wpAny_pure (pg_of (h' := s.heap) (tk := s.toks) st .refl .nil)
  | (b, t) :: ts, e :: es, hb, .cons h hs => fun W s st hne => by
    have hb0 : b = false := hb _ (.head _)
    subst hb0
    rw [PySem.spliced]
    rw [mapR] at hne ⊢
    refine wpAny_bind (Sd.bind h st hne fun v d W1 s1 e1 p1 k1 c1 st1 r1 hne1 => ?_)
    dsimp only
    refine wpAny_bind (wpAny_pure (wpAny_bind (wpAny_holding (Sd.bind (Sd.splicedV (fun p hp => hb p (.tail _ hp)) hs) st1 hne1 fun vs ds W2 s2 e2 p2 k2 c2 st2 r2 hne2 => ?_))))
    exact wpAny_pure (pg_of (h' := s2.heap) (tk := s2.toks) st2 .refl (.cons (vr_carry st1 r1 k2 c2) r2))

theorem evalArgs_any {f : Value} {args : List (Bool × Sem Value)} {E : Value → Shared → Prop} {Q : Args → Shared → Prop} (hf : ∀ p ∈ args, p.1 = false) (h : wpAny (model X.prog X.w) A (spliced args) (fun vs s' => Q ⟨vs, []⟩ s') E s) :
    wpAny (model X.prog X.w) A (evalArgs f true args []) Q E s := by
  cases args with
  | nil =>
    unfold evalArgs
    show wpAny _ A (spliced [] >>= _) Q E s
    refine wpAny_bind (wpAny_mono h (fun vs s' h' => ?_) fun _ _ x => x)
    refine wpAny_holding ?_
    exact wpAny_bind (wpAny_pure (wpAny_bind (wpAny_pure (wpAny_pure h'))))
  | cons p r =>
    obtain ⟨b, t⟩ := p
    have : b = false := hf _ (.head _)
    subst this
    exact evalArgs_plain h

theorem mapR_ne {α β : Type} {f : α → Sto → Res β} {l : List α} : True := trivial
end
end Mine
end
section
open PySem PySem.W PyProof.Rows PySem.Calls
set_option maxRecDepth 100000
set_option linter.unusedVariables false
set_option linter.unusedSimpArgs false
namespace Mine

section
variable {X : Cx} {n m : Nat} {A : Around} {env : Env} {sc : Sc} {hd : Nat} {σ : List Addr} {ρ : Rho} {x : PySem.Expr}

/-! freezing a mutable list -/
theorem dec_set (W : Sto) (k : Nat) : Dec W (W.set k Option.none) := by
  refine ⟨by simp, fun j e => ?_⟩
  rw [List.getElem?_set]
  split
  · split
    · rfl
    · rename_i h1 h2; subst h1; rw [List.getElem?_eq_none (by first | decide | omega)] at e; cases e
  · exact e
theorem set_some {W : Sto} {k j : Nat} {es : List D} (h1 : (W.set k Option.none)[j]? = some (some es)) : W[j]? = some (some es) ∧ k ≠ j := by
  rw [List.getElem?_set] at h1
  split at h1
  · split at h1 <;> cases h1
  · rename_i q; exact ⟨h1, q⟩
theorem live_set {W : Sto} {k : Nat} {a b : Addr} {ds : List D} {h : Heap} (s : StoAt X h σ W) (hW : W[k]? = some (some ds)) (ha : σ[k]? = some a) (l : live σ (W.set k Option.none) b) : b ≠ a := by
  rintro rfl
  obtain ⟨j, es, h1, h2⟩ := l
  obtain ⟨h1, q⟩ := set_some h1
  exact q (s.nodup k j _ _ b hW h1 ha h2)
theorem sto_freeze {W : Sto} {k : Nat} {h : Heap} (s : StoAt X h σ W) : StoAt X h σ (W.set k Option.none) :=
  ⟨by simp [s.len], fun i j ds es a h1 h2 h3 h4 => s.nodup i j ds es a (set_some h1).1 (set_some h2).1 h3 h4, s.lo, fun j ds a h1 h2 => by
    rw [List.getElem?_set] at h1
    split at h1
    · split at h1 <;> cases h1
    · obtain ⟨vs, q, h3, h4⟩ := s.lst j ds a h1 h2
      exact ⟨vs, q, h3, h4.weaken fun b _ _ l => (dec_set W k).live σ b l⟩⟩

theorem sd_var {i : Nat} (h : chE m sc (.var i) x = true) (eo : EnvOk X env sc) : Sd Rd X A env hd σ ρ (eval x env) (evE fns (n + 1) hd ρ (.var i)) := by
  cases m with
  | zero => rw [ch_zero] at h; cases h
  | succ m =>
  obtain ⟨y, p, rfl, hy, hv⟩ := inv_var h
  intro W s st hne
  rw [evE] at hne ⊢
  cases hg : getV ρ i with
  | none => rw [hg] at hne; exact absurd rfl hne
  | some v =>
    rw [hg] at hne
    obtain ⟨_, val, h1, h2⟩ := st.vars i v hg
    rw [← isNm_eq hy] at h1
    cases v with
    | dat d => exact load_var eo h1 hv (pg_of (h' := s.heap) (tk := s.toks) st .refl h2)
    | mref k =>
      dsimp only at hne ⊢
      obtain ⟨a, ha, rfl⟩ := h2
      split at hne
      · rename_i ds hW
        refine load_var eo h1 hv ?_
        obtain ⟨vs, q, h3, h4⟩ := st.sto.lst k ds a hW ha
        have hs := sto_freeze (k := k) st.sto
        refine ⟨_, _, rfl, .refl s, .refl, dec_set W k, st.step .refl (dec_set W k) hs, .list h3 (h4.weaken fun b _ _ l => (dec_set W k).live σ b l) fun l => live_set st.sto hW ha l rfl⟩
      · exact absurd rfl hne

theorem sd_int {i : Int} (h : chE m sc (.int i) x = true) : Sd Rd X A env hd σ ρ (eval x env) (evE fns (n + 1) hd ρ (.int i)) := by
  cases m with
  | zero => rw [ch_zero] at h; cases h
  | succ m =>
  obtain ⟨k, p, rfl⟩ := inv_int h
  intro W s st hne
  rw [evE]
  exact wpAny_Constant_int (pg_of (h' := s.heap) (tk := s.toks + 1) st .refl (.int _ _))
theorem sd_neg {i : Int} (h : chE m sc (.neg i) x = true) : Sd Rd X A env hd σ ρ (eval x env) (evE fns (n + 1) hd ρ (.neg i)) := by
  cases m with
  | zero => rw [ch_zero] at h; cases h
  | succ m =>
  obtain ⟨k, p, q, rfl⟩ := inv_neg h
  intro W s st hne
  rw [evE]
  exact wpAny_UnaryOp (wpAny_Constant_int (PyProof.Rows.neg_int (pg_of (h' := s.heap) (tk := s.toks + 1 + 1) st .refl (.int _ _))))
theorem sd_bool {b : Bool} (h : chE m sc (.bool b) x = true) : Sd Rd X A env hd σ ρ (eval x env) (evE fns (n + 1) hd ρ (.bool b)) := by
  cases m with
  | zero => rw [ch_zero] at h; cases h
  | succ m =>
  obtain ⟨k, p, rfl⟩ := inv_bool h
  intro W s st hne
  rw [evE]
  exact wpAny_Constant_bool (pg_of (h' := s.heap) (tk := s.toks) st .refl (.bool _))

theorem sd_bin {op : BOp} {a b : E} (ih : IH X n) (h : chE m sc (.bin op a b) x = true) (eo : EnvOk X env sc) (ok : OkA (n + 1) A) : Sd Rd X A env hd σ ρ (eval x env) (evE fns (n + 1) hd ρ (.bin op a b)) := by
  cases m with
  | zero => rw [ch_zero] at h; cases h
  | succ m =>
  obtain ⟨l, o, r, p, rfl, ho, ha, hb⟩ := inv_bin h
  intro W s st hne
  rw [evE] at hne ⊢
  refine wpAny_BinOp (Sd.nest (ih.E ha eo ok.pred) st hne (fun _ _ p => p) fun va da W1 s1 e1 p1 k1 c1 st1 r1 hne1 t1 => Sd.nest (ih.E hb eo ok.pred) st1 hne1 (fun x s' p => p.lift p1 k1 c1 t1) fun vb db W2 s2 e2 p2 k2 c2 st2 r2 hne2 t2 => ?_)
  refine Sd.fin ?_ (p1.trans p2) (keep_trans k1 c1 k2) (c1.trans c2) (t1.trans t2)
  obtain ⟨d, hd', e⟩ := optR_ne hne2
  rw [e]
  exact Sd.gv st2 (gv_bin (st2.am eo.lo) ho (rd_carry st1 r1 k2 c2) r2 hd')

theorem cmp_bool {op : COp} {a b d : D} (e : cmpD op a b = some d) : ∃ t, d = .bool t := by
  cases op <;> simp only [cmpD] at e
  · cases h : D.lt 3 a b with
    | none => rw [h] at e; cases e
    | some t => rw [h] at e; cases e; exact ⟨_, rfl⟩
  · split at e
    · cases e; exact ⟨_, rfl⟩
    · cases e
  · split at e
    · cases e; exact ⟨_, rfl⟩
    · cases e
  · split at e
    · cases e; exact ⟨_, rfl⟩
    · cases e
  · split at e
    · cases e; exact ⟨_, rfl⟩
    · cases e

theorem sd_cmp {op : COp} {a b : E} (ih : IH X n) (h : chE m sc (.cmp op a b) x = true) (eo : EnvOk X env sc) (ok : OkA (n + 1) A) : Sd Rd X A env hd σ ρ (eval x env) (evE fns (n + 1) hd ρ (.cmp op a b)) := by
  cases m with
  | zero => rw [ch_zero] at h; cases h
  | succ m =>
  obtain ⟨l, o, r, p, rfl, ho, hm, ha, hb⟩ := inv_cmp h
  intro W s st hne
  rw [evE] at hne ⊢
  refine wpAny_Compare1 (Sd.nest (ih.E ha eo ok.pred) st hne (fun _ _ p => p) fun va da W1 s1 e1 p1 k1 c1 st1 r1 hne1 t1 => Sd.nest (ih.E hb eo ok.pred) st1 hne1 (fun x s' p => p.lift p1 k1 c1 t1) fun vb db W2 s2 e2 p2 k2 c2 st2 r2 hne2 t2 => ?_) hm
  refine Sd.fin ?_ (p1.trans p2) (keep_trans k1 c1 k2) (c1.trans c2) (t1.trans t2)
  obtain ⟨d, hd', e⟩ := optR_ne hne2
  rw [e]
  refine gv_cmp (N := live σ W2) ho (rd_carry st1 r1 k2 c2) r2 hd' (by have := ok.units; omega) fun t ht => ?_
  rw [ht]
  exact pg_of (h' := s2.heap) (tk := s2.toks) st2 .refl (.bool t)

theorem sd_and {a b : E} (ih : IH X n) (h : chE m sc (.and a b) x = true) (eo : EnvOk X env sc) (ok : OkA (n + 1) A) : Sd Rd X A env hd σ ρ (eval x env) (evE fns (n + 1) hd ρ (.and a b)) := by
  cases m with
  | zero => rw [ch_zero] at h; cases h
  | succ m =>
  obtain ⟨l, r, p, rfl, ha, hb⟩ := inv_and h
  intro W s st hne
  rw [evE] at hne ⊢
  show wpAny _ A (boolOp p .And [eval l env, eval r env]) _ _ s
  unfold boolOp
  refine wpAny_bind (Sd.bind (ih.E ha eo ok.pred) st hne fun va da W1 s1 e1 p1 k1 c1 st1 r1 hne1 => ?_)
  cases da with
  | bool t =>
    obtain rfl := r1.ofBool
    refine wpAny_bind (wpAny_standAt (wpAny_bind (wpAny_holding (wpAny_truthy_bool ?_))))
    cases t with
    | false => exact wpAny_pure (pg_of (h' := s1.heap) (tk := s1.toks) st1 .refl (.bool false))
    | true =>
      unfold boolOp
      exact ih.E hb eo ok.pred W1 s1 st1 hne1
  | _ => exact absurd rfl hne1

theorem sd_ite {c a b : E} (ih : IH X n) (h : chE m sc (.ite c a b) x = true) (eo : EnvOk X env sc) (ok : OkA (n + 1) A) : Sd Rd X A env hd σ ρ (eval x env) (evE fns (n + 1) hd ρ (.ite c a b)) := by
  cases m with
  | zero => rw [ch_zero] at h; cases h
  | succ m =>
  obtain ⟨t, l, r, p, rfl, hc, ha, hb⟩ := inv_ite h
  intro W s st hne
  rw [evE] at hne ⊢
  show wpAny _ A (isTrue t env (eval t env) >>= fun b => if b = true then eval l env else eval r env) _ _ s
  refine wpAny_bind (Sd.bind (ih.T hc eo ok.pred) st hne fun vb t W1 s1 e1 p1 k1 c1 st1 r1 hne1 => ?_)
  have hbt : vb = t := r1
  subst hbt
  cases vb with
  | true => exact ih.E ha eo ok.pred W1 s1 st1 hne1
  | false => exact ih.E hb eo ok.pred W1 s1 st1 hne1

theorem sd_list {es : List E} (ih : IH X n) (h : chE m sc (.list es) x = true) (eo : EnvOk X env sc) (ok : OkA (n + 1) A) : Sd Rd X A env hd σ ρ (eval x env) (evE fns (n + 1) hd ρ (.list es)) := by
  cases m with
  | zero => rw [ch_zero] at h; cases h
  | succ m =>
  obtain ⟨xs, p, rfl, ha⟩ := inv_list h
  intro W s st hne
  rw [evE] at hne ⊢
  refine List_ ?_
  rw [args_ch ha]
  refine Sd.bind (Sd.spliced map_false (all2_map ha fun e x q => ih.E q eo ok.pred)) st hne fun vs ds W1 s1 e1 p1 k1 c1 st1 r1 hne1 => ?_
  split at hne1
  · rename_i hz
    rw [if_pos hz]
    exact Sd.gv st1 (gv_newList (st1.am eo.lo) r1 hz)
  · exact absurd rfl hne1
theorem sd_tup {es : List E} (ih : IH X n) (h : chE m sc (.tup es) x = true) (eo : EnvOk X env sc) (ok : OkA (n + 1) A) : Sd Rd X A env hd σ ρ (eval x env) (evE fns (n + 1) hd ρ (.tup es)) := by
  cases m with
  | zero => rw [ch_zero] at h; cases h
  | succ m =>
  obtain ⟨xs, k, p, rfl, ha⟩ := inv_tup h
  intro W s st hne
  rw [evE] at hne ⊢
  refine Tuple_ ?_
  rw [args_ch ha]
  refine Sd.bind (Sd.spliced map_false (all2_map ha fun e x q => ih.E q eo ok.pred)) st hne fun vs ds W1 s1 e1 p1 k1 c1 st1 r1 hne1 => ?_
  split at hne1
  · rename_i hz
    rw [if_pos hz]
    exact Sd.gv st1 (gv_newTuple r1 hz)
  · exact absurd rfl hne1
end
end Mine
end
section
open PySem PySem.W PyProof.Rows PySem.Calls
set_option maxRecDepth 100000
set_option linter.unusedVariables false
set_option linter.unusedSimpArgs false
namespace Mine

section
variable {X : Cx} {n m : Nat} {A : Around} {env : Env} {sc : Sc} {hd : Nat} {σ : List Addr} {ρ : Rho} {x : PySem.Expr}

theorem ch_notSlice {m : Nat} {e : E} {x : PySem.Expr} (h : chE m sc e x = true) : notSlice x = true := by
  cases x <;> first | rfl | skip
  cases m with
  | zero => rw [ch_zero] at h; cases h
  | succ m => exact (ch_none (fun e => by cases e <;> rfl) h).elim

theorem raise_ne {α : Type} {hd : Nat} {W : Sto} (h : (raiseR hd W : Res α) ≠ .bad) : hd < 2 ∧ (raiseR hd W : Res α) = .exc (hd == 0) W := by
  unfold raiseR at h ⊢
  by_cases h0 : hd = 0
  · subst h0; exact ⟨by omega, rfl⟩
  · by_cases h1 : hd = 1
    · subst h1; exact ⟨by omega, rfl⟩
    · rw [if_neg h0, if_neg h1] at h; exact absurd rfl h

theorem sd_idx {a i : E} (ih : IH X n) (h : chE m sc (.idx a i) x = true) (eo : EnvOk X env sc) (ok : OkA (n + 1) A) : Sd Rd X A env hd σ ρ (eval x env) (evE fns (n + 1) hd ρ (.idx a i)) := by
  cases m with
  | zero => rw [ch_zero] at h; cases h
  | succ m =>
  obtain ⟨v, sl, p, rfl, ha, hi⟩ := inv_idx h
  intro W s st hne
  rw [evE] at hne ⊢
  refine Subscript_ (Sd.nest (ih.E ha eo ok.pred) st hne (fun _ _ p => p) fun va da W1 s1 e1 p1 k1 c1 st1 r1 hne1 t1 => Sd.nest (ih.E hi eo ok.pred) st1 hne1 (fun x s' p => p.lift p1 k1 c1 t1) fun vb db W2 s2 e2 p2 k2 c2 st2 r2 hne2 t2 => ?_)
  refine Sd.fin ?_ (p1.trans p2) (keep_trans k1 c1 k2) (c1.trans c2) (t1.trans t2)
  have ra := rd_carry st1 r1 k2 c2
  have hsub := subscripted_plain (ch_notSlice hi)
  unfold idxD at hne2 ⊢
  split at hne2
  · rename_i xs j
    obtain ⟨b, vs, q, rfl, eb, rb, nb⟩ := ra.ofList
    obtain ⟨t, rfl⟩ := r2.ofInt
    split at hne2
    · rename_i hj
      rw [if_pos hj]
      refine tail_any (T := "list") ⟨_, eb, rfl⟩ list_getitem_lookup ?_ (hsub _ _)
      cases hx : xs[j.toNat]? with
      | none =>
        rw [hx] at hne2
        obtain ⟨h2, er⟩ := raise_ne hne2
        dsimp only
        rw [er]
        refine item_out (j := j.toNat) st2.hnd h2 (isList_of eb) (by first | decide | omega) ?_ (by first | decide | omega) fun h' tk x k ne => ?_
        · rw [List.getElem?_toArray]
          rw [List.getElem?_eq_none_iff] at hx ⊢
          rw [rb.length]; exact hx
        · exact ⟨_, W2, rfl, .mk _ _ _, k.keep, .refl W2, st2.kp k.kp, ne⟩
      | some d =>
        obtain ⟨u, hu, ru⟩ := rb.get hx
        refine wpAny_getItem_list (isList_of eb) hj.1 (by first | decide | omega) (by rw [List.getElem?_toArray]; exact hu) ?_
        exact pg_of (h' := s2.heap) (tk := s2.toks) st2 .refl ru
    · exact absurd rfl hne2
  · rename_i xs j
    obtain ⟨b, vs, q, rfl, eb, rb⟩ := ra.ofTup
    obtain ⟨t, rfl⟩ := r2.ofInt
    split at hne2
    · rename_i hj
      rw [if_pos hj]
      obtain ⟨d, hd', e⟩ := optR_ne hne2
      rw [e]
      cases hs : seqIndex? j xs.length with
      | none => rw [hs] at hd'; cases hd'
      | some k =>
        rw [hs] at hd'
        obtain ⟨u, hu, ru⟩ := rb.get hd'
        refine tail_any (T := "tuple") ⟨_, eb, rfl⟩ slot_tuple_getitem.lookup (PyProof.Rows.getItem_tuple (isTup_of eb) (by first | decide | omega) (by first | decide | omega) (by rw [List.size_toArray, rb.length]; exact hs) (by rw [List.getElem?_toArray]; exact hu) ?_) (hsub _ _)
        exact pg_of (h' := s2.heap) (tk := s2.toks) st2 .refl ru
    · exact absurd rfl hne2
  · exact absurd rfl hne2

theorem sd_midx {a : Nat} {i : E} (ih : IH X n) (h : chE m sc (.midx a i) x = true) (eo : EnvOk X env sc) (ok : OkA (n + 1) A) : Sd Rd X A env hd σ ρ (eval x env) (evE fns (n + 1) hd ρ (.midx a i)) := by
  cases m with
  | zero => rw [ch_zero] at h; cases h
  | succ m =>
  obtain ⟨y, q, sl, p, rfl, hy, hv, hi⟩ := inv_midx h
  intro W s st hne
  rw [evE] at hne ⊢
  split at hne
  · rename_i k hg
    obtain ⟨_, val, h1, h2⟩ := st.vars a _ hg
    rw [← isNm_eq hy] at h1
    obtain ⟨b, hb, rfl⟩ := h2
    refine Subscript_ (load_var eo h1 hv (Sd.nest (ih.E hi eo ok.pred) st hne (fun _ _ p => p) fun vi di W1 s1 e1 p1 k1 c1 st1 r1 hne1 t1 => ?_))
    refine Sd.fin ?_ p1 k1 c1 t1
    split at hne1
    · rename_i ds j hW
      obtain ⟨t, rfl⟩ := r1.ofInt
      split at hne1
      · rename_i hj
        obtain ⟨d, hd', e⟩ := optR_ne hne1
        rw [if_pos hj, e]
        obtain ⟨vs, q', h3, h4⟩ := st1.sto.lst k ds b hW hb
        obtain ⟨u, hu, ru⟩ := h4.get hd'
        refine tail_any (T := "list") ⟨_, h3, rfl⟩ list_getitem_lookup (wpAny_getItem_list (isList_of h3) hj.1 (by first | decide | omega) (by rw [List.getElem?_toArray]; exact hu) ?_) (subscripted_plain (ch_notSlice hi) _ _)
        exact pg_of (h' := s1.heap) (tk := s1.toks) st1 .refl ru
      · exact absurd rfl hne1
    · exact absurd rfl hne1
  · exact absurd rfl hne

theorem sd_O {o : Option E} {xo : Option PySem.Expr} (ih : IH X n) (h : chO m sc o xo = true) (eo : EnvOk X env sc) (ok : OkA n A) : Sd RO X A env hd σ ρ (evalPart xo env) (evO fns (n + 1) hd ρ o) := by
  cases m with
  | zero => unfold chO at h; cases h
  | succ m =>
  intro W s st hne
  unfold chO at h
  cases o with
  | none =>
    cases xo with
    | none => rw [evO]; rw [evalPart_none]; exact wpAny_pure (pg_of (h' := s.heap) (tk := s.toks) st .refl IsPart.none)
    | some x => cases h
  | some e =>
    cases xo with
    | none => cases h
    | some x =>
      rw [evO] at hne ⊢
      rw [evalPart_some]
      refine wpAny_mono (ih.E h eo ok W s st (bind_ne hne)) (fun v s1 p => ?_) fun x s1 p => p.cast
      obtain ⟨d, W1, e1, p1, k1, c1, st1, r1⟩ := p
      rw [e1] at hne ⊢
      simp only [Res.bind] at hne ⊢
      cases d with
      | int j =>
        dsimp only at hne ⊢
        split at hne
        · rename_i hj
          rw [if_pos hj]
          obtain ⟨t, rfl⟩ := r1.ofInt
          exact ⟨_, W1, rfl, p1, k1, c1, st1, .int j t⟩
        · exact absurd rfl hne
      | _ => exact absurd rfl hne

theorem sd_slc {a : E} {lo hi : Option E} (ih : IH X n) (h : chE m sc (.slc a lo hi) x = true) (eo : EnvOk X env sc) (ok : OkA (n + 1) A) : Sd Rd X A env hd σ ρ (eval x env) (evE fns (n + 1) hd ρ (.slc a lo hi)) := by
  cases m with
  | zero => rw [ch_zero] at h; cases h
  | succ m =>
  obtain ⟨v, l, u, q, p, rfl, ha, hl, hu⟩ := inv_slc h
  intro W s st hne
  rw [evE] at hne ⊢
  refine Subscript_ (Sd.nest (ih.E ha eo ok.pred) st hne (fun _ _ p => p) fun va da W1 s1 e1 p1 k1 c1 st1 r1 hne1 t1 => wpAny_Slice ?_)
  refine Sd.nest (ih.O hl eo ok.pred) st1 hne1 (fun x s' p => p.lift p1 k1 c1 t1) fun vl dl W2 s2 e2 p2 k2 c2 st2 r2 hne2 t2 => ?_
  refine Sd.nest (ih.O hu eo ok.pred) st2 hne2 (fun x s' p => p.lift (p1.trans p2) (keep_trans k1 c1 k2) (c1.trans c2) (t1.trans t2)) fun vu du W3 s3 e3 p3 k3 c3 st3 r3 hne3 t3 => ?_
  rw [evalPart_none]
  refine wpAny_pure ?_
  have pg : ∀ {b s'}, PG Rd X A env hd σ ρ s3 W3 (optR (slcD da dl du) W3) b s' → PG Rd X A env hd σ ρ s W _ b s' := fun p => p.lift ((p1.trans p2).trans p3) (keep_trans (keep_trans k1 c1 k2) (c1.trans c2) k3) ((c1.trans c2).trans c3) ((t1.trans t2).trans t3)
  obtain ⟨d, hd', e⟩ := optR_ne hne3
  rw [e] at pg
  have ra := rd_carry st2 (rd_carry st1 r1 k2 c2) k3 c3
  refine gv_slc (s := s3) (N := live σ W3) (st3.am eo.lo) ra r2 r3 hd' (fun o i => rfl) fun v h' tk k r => pg (pg_of st3 k r)

theorem bi_val (b : BI) : (biName b, biVal b) ∈ biVals := by
  cases b <;> simp [biVals, biName, biVal]

theorem callWith_bi {E : Value → Shared → Prop} {s : Shared} {pos : Pos} {b : BI} {t : Sem Value} {Q : Value → Shared → Prop}
    (h : wpAny (model X.prog X.w) A t (fun v s₁ => wpAny (model X.prog X.w) A (call (biVal b) [v]) Q E s₁) E s) :
    wpAny (model X.prog X.w) A (callWith pos (biVal b) [] [(false, t)] []) Q E s := by
  have hs : ∀ {f : Value}, wpAny (model X.prog X.w) A t (fun v s₁ => wpAny (model X.prog X.w) A (call f [v]) Q E s₁) E s → wpAny (model X.prog X.w) A (evalArgs f true [(false, t)] []) (fun a s₁ => wpAny (model X.prog X.w) A (call f ([] ++ a.pos) a.kw) Q E s₁) E s := fun h =>
    evalArgs_plain (spliced_cons (wpAny_mono h (fun v s₁ h₁ => spliced_nil h₁) fun _ _ x => x))
  cases b with
  | len => exact PySem.Calls.callWith_builtin rfl (hs h)
  | sorted => exact PySem.Calls.callWith_builtin rfl (hs h)
  | sum => exact PySem.Calls.callWith_builtin rfl (hs h)
  | tuple => exact PyProof.Rows.callWith_type rfl (hs h)

theorem sd_bi {b : BI} {a : E} (C : CxOk X) (ih : IH X n) (h : chE m sc (.bi b a) x = true) (eo : EnvOk X env sc) (ok : OkA (n + 1) A) : Sd Rd X A env hd σ ρ (eval x env) (evE fns (n + 1) hd ρ (.bi b a)) := by
  cases m with
  | zero => rw [ch_zero] at h; cases h
  | succ m =>
  obtain ⟨y, q, v, p, rfl, rfl, hg, ha⟩ := inv_bi h
  intro W s st hne
  rw [evE] at hne ⊢
  split at hne
  · rename_i h0
    rw [if_pos h0]
    refine Call_ (load_bi C st eo hg (bi_val b) ?_)
    rw [show backTo p (starEach [v] env) = [(false, eval v env)] from args_ch (es := [a]) (m := m) (sc := sc) (by simp [all2, ha])]
    refine callWith_bi (Sd.nest (ih.E ha eo ok.pred) st hne (fun _ _ p => p) fun va da W1 s1 e1 p1 k1 c1 st1 r1 hne1 t1 => ?_)
    refine Sd.fin ?_ p1 k1 c1 t1
    obtain ⟨d, hd', e⟩ := optR_ne hne1
    rw [e]
    exact Sd.gv st1 (gv_bi (st1.am eo.lo) (st1.hnd.zero h0) r1 hd' (by have := ok.units; omega))
  · exact absurd rfl hne

theorem sd_mlen {a : Nat} (C : CxOk X) (h : chE m sc (.mlen a) x = true) (eo : EnvOk X env sc) : Sd Rd X A env hd σ ρ (eval x env) (evE fns (n + 1) hd ρ (.mlen a)) := by
  cases m with
  | zero => rw [ch_zero] at h; cases h
  | succ m =>
  obtain ⟨y, q, z, q', p, rfl, rfl, hg, hz, hv⟩ := inv_mlen h
  intro W s st hne
  rw [evE] at hne ⊢
  split at hne
  · rename_i k hgv
    obtain ⟨_, val, h1, h2⟩ := st.vars a _ hgv
    rw [← isNm_eq hz] at h1
    obtain ⟨b, hb, rfl⟩ := h2
    split at hne
    · rename_i ds hW
      split at hne
      · rename_i hf
        rw [if_pos hf]
        have hf' := of_decide_eq_true hf
        obtain ⟨vs, q1, h3, h4⟩ := st.sto.lst k ds b hW hb
        refine Call_ (load_bi C st eo hg (bi_val .len) ?_)
        show wpAny _ _ (callWith p _ [] [(false, eval (.Name z q') env)] []) _ _ s
        refine callWith_bi (b := .len) (load_var eo h1 hv ?_)
        have hl : (vs.toArray.size : Int) = (ds.length : Int) := by rw [List.size_toArray, h4.length]
        refine PyProof.Rows.len_list (isList_of h3) (by rw [hl]; unfold lim at hf'; omega) ?_
        rw [hl]
        exact pg_of (h' := s.heap) (tk := s.toks + 1 + 1) st .refl (.int _ _)
      · exact absurd rfl hne
    · exact absurd rfl hne
  · exact absurd rfl hne

theorem def_of {f : Nat} (hf : f < 10) : ∃ args body scope fn, defOf (fnm f) PySem.Challenge.pw_oc0061_01.main.body = some (args, body, scope) ∧ fns[f]? = some fn ∧
    all2 (fun (a : Arg) x => isNm a.arg x && isTgt scope.names a.arg) args.args fn.params = true ∧ all2 (chS 40 scope.names) fn.body body = true := by
  have h := ch_all f hf
  unfold chF at h
  split at h
  · rename_i args body scope fn e1 e2
    rw [Bool.and_eq_true] at h
    exact ⟨args, body, scope, fn, e1, e2, h.1, h.2⟩
  · cases h

theorem sd_call {f : Nat} {es : List E} (C : CxOk X) (ih : IH X n) (h : chE m sc (.call f es) x = true) (eo : EnvOk X env sc) (ok : OkA (n + 1) A) : Sd Rd X A env hd σ ρ (eval x env) (evE fns (n + 1) hd ρ (.call f es)) := by
  cases m with
  | zero => rw [ch_zero] at h; cases h
  | succ m =>
  obtain ⟨y, q, args, p, rfl, rfl, hg, ha, hlen, hf⟩ := inv_call h
  intro W s st hne
  rw [evE] at hne ⊢
  split at hne
  · rename_i h0
    subst h0
    rw [if_pos rfl]
    obtain ⟨ar, body, scope, fn, d1, d2, d3, d4⟩ := def_of hf
    obtain ⟨a, o, pm, code, doc, g1, g2, g3, g4⟩ := C.fn f ar body scope hf d1
    refine Call_ (load_glob C st eo hg g1 ?_)
    rw [args_ch ha]
    refine callWith_function (o := o) (fd := docDef (fnm f) ar body scope pm code doc) (evalArgs_any map_false (Sd.nest (Sd.splicedV map_false (all2_map ha fun e x q => ih.V q eo ok.pred)) st hne (fun _ _ p => p) fun vals vs W1 s1 e1 p1 k1 c1 st1 r1 hne1 t1 => ?_))
    refine ⟨⟨st1.base _ _ g2, g3⟩, ?_⟩
    refine Sd.fin ?_ p1 k1 c1 t1
    exact wpAny_mono (ih.C hf g1 st1 eo.lo ok.pred r1 hne1) (fun _ _ p => p) fun _ _ x => x.elim
  · exact absurd rfl hne

/-! tests -/
theorem st_cmp {op : COp} {a b : E} (ih : IH X n) (h : chE m sc (.cmp op a b) x = true) (eo : EnvOk X env sc) (ok : OkA (n + 1) A) : Sd RB X A env hd σ ρ (isTrue x env (eval x env)) (evT fns (n + 1) hd ρ (.cmp op a b)) := by
  cases m with
  | zero => rw [ch_zero] at h; cases h
  | succ m =>
  obtain ⟨l, o, r, p, rfl, ho, hm, ha, hb⟩ := inv_cmp h
  intro W s st hne
  rw [evT] at hne ⊢
  refine wpAny_isTrue_Compare1 (Sd.nest (ih.E ha eo ok.pred) st hne (fun _ _ p => p) fun va da W1 s1 e1 p1 k1 c1 st1 r1 hne1 t1 => Sd.nest (ih.E hb eo ok.pred) st1 hne1 (fun x s' p => p.lift p1 k1 c1 t1) fun vb db W2 s2 e2 p2 k2 c2 st2 r2 hne2 t2 => ?_) hm
  cases hc : cmpD op da db with
  | none => rw [hc] at hne2; exact absurd rfl hne2
  | some d =>
    rw [hc] at hne2 t2
    obtain ⟨t, rfl⟩ := cmp_bool hc
    refine gv_cmp (N := live σ W2) ho (rd_carry st1 r1 k2 c2) r2 hc (by have := ok.units; omega) fun t' ht => ?_
    cases ht
    refine wpAny_truthy_bool ?_
    exact (pg_of (Rel := RB) (h' := s2.heap) (tk := s2.toks) (b := t) (a := t) st2 .refl rfl).lift (p1.trans p2) (keep_trans k1 c1 k2) (c1.trans c2) (t1.trans t2)

theorem st_and {a b : E} (ih : IH X n) (h : chE m sc (.and a b) x = true) (eo : EnvOk X env sc) (ok : OkA (n + 1) A) : Sd RB X A env hd σ ρ (isTrue x env (eval x env)) (evT fns (n + 1) hd ρ (.and a b)) := by
  cases m with
  | zero => rw [ch_zero] at h; cases h
  | succ m =>
  obtain ⟨l, r, p, rfl, ha, hb⟩ := inv_and h
  intro W s st hne
  rw [evT] at hne ⊢
  refine wpAny_isTrue_BoolOp (wpAny_allTrue_And_cons (Sd.nest (ih.T ha eo ok.pred) st hne (fun _ _ p => p) fun va da W1 s1 e1 p1 k1 c1 st1 r1 hne1 t1 => ?_))
  have hq : va = da := r1
  subst hq
  cases va with
  | false => exact (pg_of (Rel := RB) (h' := s1.heap) (tk := s1.toks) (b := false) (a := false) st1 .refl rfl).lift p1 k1 c1 t1
  | true =>
    show wpAny _ A (allTrue .And [r] env) _ _ s1
    refine wpAny_allTrue_And_cons ?_
    refine wpAny_mono (ih.T hb eo ok.pred W1 s1 st1 hne1) (fun b s2 p => ?_) fun _ _ p => p.lift p1 k1 c1 t1
    have p' := p.lift p1 k1 c1 t1
    cases b with
    | false => exact p'
    | true => exact wpAny_allTrue_And_nil p'

theorem st_not {a : E} (ih : IH X n) (h : chE m sc (.not a) x = true) (eo : EnvOk X env sc) (ok : OkA (n + 1) A) : Sd RB X A env hd σ ρ (isTrue x env (eval x env)) (evT fns (n + 1) hd ρ (.not a)) := by
  cases m with
  | zero => rw [ch_zero] at h; cases h
  | succ m =>
  obtain ⟨l, p, rfl, ha⟩ := inv_not h
  intro W s st hne
  rw [evT] at hne ⊢
  refine wpAny_isTrue_Not (Sd.nest (ih.T ha eo ok.pred) st hne (fun _ _ p => p) fun va da W1 s1 e1 p1 k1 c1 st1 r1 hne1 t1 => ?_)
  have hq : va = da := r1
  subst hq
  exact (pg_of (Rel := RB) (h' := s1.heap) (tk := s1.toks) (b := !va) (a := !va) st1 .refl rfl).lift p1 k1 c1 t1

theorem st_bool {b : Bool} (h : chE m sc (.bool b) x = true) : Sd RB X A env hd σ ρ (isTrue x env (eval x env)) (evT fns (n + 1) hd ρ (.bool b)) := by
  cases m with
  | zero => rw [ch_zero] at h; cases h
  | succ m =>
  obtain ⟨k, p, rfl⟩ := inv_bool h
  intro W s st hne
  rw [evT] at hne ⊢
  show wpAny _ A (eval _ env >>= _) _ _ s
  refine wpAny_bind (wpAny_Constant_bool (wpAny_bind (wpAny_standAt (wpAny_holding (wpAny_truthy_bool ?_)))))
  exact pg_of (Rel := RB) (h' := s.heap) (tk := s.toks) st .refl rfl

theorem st_mtrue {a : Nat} (h : chE m sc (.mtrue a) x = true) (eo : EnvOk X env sc) : Sd RB X A env hd σ ρ (isTrue x env (eval x env)) (evT fns (n + 1) hd ρ (.mtrue a)) := by
  cases m with
  | zero => rw [ch_zero] at h; cases h
  | succ m =>
  obtain ⟨y, p, rfl, hy, hv⟩ := inv_mtrue h
  intro W s st hne
  rw [evT] at hne ⊢
  split at hne
  · rename_i k hgv
    obtain ⟨_, val, h1, h2⟩ := st.vars a _ hgv
    rw [← isNm_eq hy] at h1
    obtain ⟨b, hb, rfl⟩ := h2
    split at hne
    · rename_i ds hW
      split at hne
      · rename_i hf
        rw [if_pos hf]
        have hf' := of_decide_eq_true hf
        obtain ⟨vs, q1, h3, h4⟩ := st.sto.lst k ds b hW hb
        show wpAny _ A (eval _ env >>= _) _ _ s
        refine wpAny_bind (load_var eo h1 hv (wpAny_bind (wpAny_standAt (wpAny_holding ?_))))
        refine wpAny_truthy_list (isList_of h3) (by rw [List.size_toArray, h4.length]; unfold lim at hf'; omega) ?_
        refine pg_of (Rel := RB) (h' := s.heap) (tk := s.toks + 1 + 1) st .refl ?_
        show (!vs.toArray.isEmpty) = !ds.isEmpty
        have hl := h4.length
        cases vs with
        | nil => cases ds with
          | nil => rfl
          | cons d ds => simp at hl
        | cons v vs => cases ds with
          | nil => simp at hl
          | cons d ds => simp
      · exact absurd rfl hne
    · exact absurd rfl hne
  · exact absurd rfl hne
end
end Mine
end
section
open PySem PySem.W PyProof.Rows PySem.Calls
set_option maxRecDepth 100000
set_option linter.unusedVariables false
set_option linter.unusedSimpArgs false
namespace Mine

section
variable {X : Cx} {n m : Nat} {A : Around} {env : Env} {sc : Sc} {hd : Nat} {σ : List Addr} {ρ : Rho} {x : PySem.Expr}

theorem live_write {W : Sto} {k : Nat} {ds ds' : List D} (hW : W[k]? = some (some ds)) (b : Addr) : live σ (W.set k (some ds')) b ↔ live σ W b := by
  have hk : k < W.length := (List.getElem?_eq_some_iff.mp hW).1
  constructor
  · rintro ⟨j, es, h1, h2⟩
    rw [List.getElem?_set] at h1
    split at h1
    · rename_i q; subst q; exact ⟨k, ds, hW, h2⟩
    · exact ⟨j, es, h1, h2⟩
  · rintro ⟨j, es, h1, h2⟩
    by_cases q : k = j
    · subst q; exact ⟨k, ds', by rw [List.getElem?_set]; simp [hk], h2⟩
    · exact ⟨j, es, by rw [List.getElem?_set, if_neg q]; exact h1, h2⟩
theorem dec_write {W : Sto} {k : Nat} {ds ds' : List D} (hW : W[k]? = some (some ds)) : Dec W (W.set k (some ds')) := by
  refine ⟨by simp, fun j e => ?_⟩
  rw [List.getElem?_set]
  split
  · rename_i q; subst q; rw [hW] at e; cases e
  · exact e

/-- a mutable list is written -/
theorem sto_write {W : Sto} {k : Nat} {ds ds' : List D} {a : Addr} {h h' : Heap} {vs' : List Value} {q : Nat} (s : StoAt X h σ W) (hW : W[k]? = some (some ds)) (ha : σ[k]? = some a) (sb : Heap.SameBut a h h')
    (hg : h'.get? a = some { cls := .type "list", data := .seq vs'.toArray q }) (r : RdAll h (live σ W) vs' ds') : Keep X.B (live σ W) h h' ∧ StoAt X h' σ (W.set k (some ds')) := by
  have la : live σ W a := ⟨k, ds, hW, ha⟩
  have kp : Keep X.B (live σ W) h h' := Keep.sameBut sb la hg
  have wl : ∀ {j : Nat} {es : List D}, (W.set k (some ds'))[j]? = some (some es) → ∃ fs, W[j]? = some (some fs) := fun {j es} h1 => by
    rw [List.getElem?_set] at h1
    split at h1
    · rename_i q; subst q; exact ⟨ds, hW⟩
    · exact ⟨_, h1⟩
  refine ⟨kp, by simp [s.len], fun i j ds es b h1 h2 h3 h4 => (by
    obtain ⟨_, h1⟩ := wl h1
    obtain ⟨_, h2⟩ := wl h2
    exact s.nodup i j _ _ b h1 h2 h3 h4), s.lo, fun j es b h1 h2 => ?_⟩
  have up : ∀ {us : List Value} {fs : List D}, RdAll h (live σ W) us fs → RdAll h' (live σ (W.set k (some ds'))) us fs := fun r => RdAll.keep kp s.noTup (fun b _ _ l => (live_write hW b).mp l) r
  by_cases qk : k = j
  · subst qk
    rw [ha] at h2; cases h2
    rw [List.getElem?_set] at h1
    have hk : k < W.length := (List.getElem?_eq_some_iff.mp hW).1
    simp [hk] at h1
    subst h1
    exact ⟨vs', q, hg, up r⟩
  · rw [List.getElem?_set, if_neg qk] at h1
    obtain ⟨us, q', h3, h4⟩ := s.lst j es b h1 h2
    refine ⟨us, q', ?_, up h4⟩
    rw [sb.2 b ?_]
    · exact h3
    · rintro rfl
      exact qk (s.nodup k j _ _ _ hW h1 ha h2)

theorem toArray_pop {vs : List Value} (hne : vs ≠ []) : (vs.toArray.eraseIdxIfInBounds (vs.toArray.size - 1)) = vs.dropLast.toArray := by
  apply Array.ext'
  simp only [Array.toList_eraseIdxIfInBounds, List.size_toArray]
  rw [List.eraseIdx_length_sub_one]

theorem sd_pop {a : Nat} (h : chE m sc (.pop a) x = true) (eo : EnvOk X env sc) : Sd Rd X A env hd σ ρ (eval x env) (evE fns (n + 1) hd ρ (.pop a)) := by
  cases m with
  | zero => rw [ch_zero] at h; cases h
  | succ m =>
  obtain ⟨y, q, r, p, rfl, hy, hv, hl⟩ := inv_pop h
  intro W s st hne
  rw [evE] at hne ⊢
  split at hne
  · rename_i k hgv
    obtain ⟨_, val, h1, h2⟩ := st.vars a _ hgv
    rw [← isNm_eq hy] at h1
    obtain ⟨b, hb, rfl⟩ := h2
    split at hne
    · rename_i ds hW
      split at hne
      · rename_i d hlast
        split at hne
        · rename_i hf
          rw [if_pos hf]
          have hf' := of_decide_eq_true hf
          obtain ⟨vs, q1, h3, h4⟩ := st.sto.lst k ds b hW hb
          have hne' : ds ≠ [] := by rintro rfl; cases hlast
          have hvs : vs ≠ [] := by rintro rfl; exact hne' (List.eq_nil_of_length_eq_zero h4.length.symm)
          have hlen : vs.length = ds.length := h4.length
          have hd1 : ds[ds.length - 1]? = some d := by rw [← List.getLast?_eq_getElem?]; exact hlast
          obtain ⟨u, hu, ru⟩ := h4.get hd1
          refine wpAny_Call_method rfl rfl hl PySem.F.plainAttrs_list PySem.F.slot_list_pop PySem.F.type_list_pop (load_var eo h1 hv ⟨⟨_, h3, rfl⟩, (fun a e => by cases e; exact ⟨_, h3, rfl⟩), ?_⟩)
          refine P.pop_list (items := vs.toArray) (n := q1) h3 (by rw [List.size_toArray, List.getElem?_toArray, hlen]; exact hu) ?_ (by rw [List.size_toArray, sizeLine_eq, hlen]; unfold lim at hf'; omega)
          have hx := IsL.update (h := s.heap) (l := b) (items := vs.toArray) (n := q1) h3 (fun xs => xs.eraseIdxIfInBounds (vs.toArray.size - 1))
          rw [toArray_pop hvs] at hx
          obtain ⟨kp, sto'⟩ := sto_write (X := X) st.sto hW hb (Heap.SameBut.update ..) hx h4.dropLast
          exact ⟨d, _, rfl, ⟨_, s.toks, rfl⟩, kp, dec_write hW, st.step kp (dec_write hW) sto', Rd.keep kp st.sto.noTup (fun c _ _ l => (live_write hW c).mp l) ru⟩
        · exact absurd rfl hne
      · exact absurd rfl hne
    · exact absurd rfl hne
  · exact absurd rfl hne

theorem sv_step {e : E} (ih : IH X n) (h : chE m sc e x = true) (eo : EnvOk X env sc) (ok : OkA (n + 1) A) : Sd (VR σ) X A env 0 σ ρ (eval x env) (evV fns (n + 1) ρ e) := by
  have other : ((evE fns n 0 ρ e ·) : Sto → Res D) = evE fns n 0 ρ e := rfl
  have main : evV fns (n + 1) ρ e = (fun W => (evE fns n 0 ρ e W).bind fun d W1 => .ok (.dat d) W1) → Sd (VR σ) X A env 0 σ ρ (eval x env) (evV fns (n + 1) ρ e) := fun q => by
    rw [q]
    intro W s st hne
    refine wpAny_mono (ih.E h eo ok.pred W s st (bind_ne hne)) (fun v s1 p => ?_) fun x s1 p => p.cast
    obtain ⟨d, W1, e1, p1, k1, c1, st1, r1⟩ := p
    exact ⟨.dat d, W1, by dsimp only; rw [e1]; rfl, p1, k1, c1, st1, r1⟩
  cases e with
  | var i =>
    cases m with
    | zero => rw [ch_zero] at h; cases h
    | succ m =>
    obtain ⟨y, p, rfl, hy, hv⟩ := inv_var h
    intro W s st hne
    rw [evV] at hne ⊢
    cases hg : getV ρ i with
    | none => rw [hg] at hne; exact absurd rfl hne
    | some v =>
      obtain ⟨_, val, h1, h2⟩ := st.vars i v hg
      rw [← isNm_eq hy] at h1
      refine load_var eo h1 hv (pg_of (Rel := VR σ) (h' := s.heap) (tk := s.toks) st .refl ?_)
      cases v with
      | dat d => exact h2
      | mref k => exact h2
  | _ => exact main (by funext W; rw [evV]; intro i q; cases q)
end
end Mine
end
section
open PySem PySem.W PyProof.Rows PySem.Calls
set_option maxRecDepth 100000
set_option linter.unusedVariables false
set_option linter.unusedSimpArgs false
namespace Mine

/-- what a frame may turn of its own -/
noncomputable def tgt (env : Env) (x : Str) : Addr := if env.kindOf x = some .local then env.locals else (env.cells.lookup x).getD 0
noncomputable def own (env : Env) : Adr := fun a => a = env.locals ∨ ∃ x, env.cells.lookup x = some a

section
variable {X : Cx} {n m : Nat} {A : Around} {env : Env} {sc : Sc} {hd : Nat} {σ : List Addr} {ρ : Rho} {W : Sto}

/-- T turns namespaces, cells and lists of N alone -/
noncomputable def TOk (T N : Adr) (h : Heap) : Prop := ∀ a o, T a → h.get? a = some o → N a ∨ (∃ es ep, o.data = .dict es ep) ∨ (∃ v, o.data = .cell v)

section
variable {B : Nat} {T N N' : Adr} {h h' : Heap}
mutual
theorem Rd.keepS (k : Keep B T h h') (hT : TOk T N h) (hn : NoTup N h) (hN : ∀ a o, h.get? a = some o → N' a → N a) : ∀ {v : Value} {d : D}, Rd h N v d → Rd h' N' v d
  | _, _, .none => .none
  | _, _, .bool b => .bool b
  | _, _, .int i t => .int i t
  | _, _, .list h1 h2 h3 => by
    obtain ⟨o', e', s⟩ := k.obj _ _ h1 fun t => by
      rcases hT _ _ t h1 with q | ⟨_, _, q⟩ | ⟨_, q⟩
      · exact h3 q
      · cases q
      · cases q
    rw [s.eq fun es ep q => by cases q] at e'
    exact .list e' (RdAll.keepS k hT hn hN h2) fun q => h3 (hN _ _ h1 q)
  | _, _, .tup h1 h2 => by
    obtain ⟨o', e', s⟩ := k.obj _ _ h1 fun t => by
      rcases hT _ _ t h1 with q | ⟨_, _, q⟩ | ⟨_, q⟩
      · exact hn _ _ q h1 rfl
      · cases q
      · cases q
    rw [s.eq fun es ep q => by cases q] at e'
    exact .tup e' (RdAll.keepS k hT hn hN h2)
theorem RdAll.keepS (k : Keep B T h h') (hT : TOk T N h) (hn : NoTup N h) (hN : ∀ a o, h.get? a = some o → N' a → N a) : ∀ {vs : List Value} {ds : List D}, RdAll h N vs ds → RdAll h' N' vs ds
  | _, _, .nil => .nil
  | _, _, .cons r rs => .cons (Rd.keepS k hT hn hN r) (RdAll.keepS k hT hn hN rs)
end
end

theorem own_ok {h : Heap} (st : St X A env hd σ ρ W h) : TOk (own env) (live σ W) h := by
  rintro a o (rfl | ⟨x, hx⟩) e
  · obtain ⟨m, o', es, ep, ho, hd, _⟩ := st.ns
    rw [e] at ho; cases ho
    exact .inr (.inl ⟨es, ep, hd⟩)
  · obtain ⟨v, o', ho, hd⟩ := st.cel x a hx
    rw [e] at ho; cases ho
    exact .inr (.inr ⟨v, hd⟩)

theorem getV_set_self (ρ : Rho) (x : Nat) (v : V) : getV (setV x v ρ) x = some v := by
  unfold getV
  induction ρ with
  | nil => simp [setV]
  | cons p r ih =>
    obtain ⟨y, u⟩ := p
    unfold setV
    split
    · rw [List.lookup_cons]; simp
    · rename_i h
      have : (x == y) = false := by
        rw [beq_eq_false_iff_ne]; intro q; subst q; simp at h
      rw [List.lookup_cons, this]
      exact ih
theorem getV_set_ne (ρ : Rho) {x y : Nat} (v : V) (h : y ≠ x) : getV (setV x v ρ) y = getV ρ y := by
  unfold getV
  induction ρ with
  | nil => simp [setV, List.lookup_cons, beq_eq_false_iff_ne.mpr h]
  | cons p r ih =>
    obtain ⟨z, u⟩ := p
    unfold setV
    split
    · rename_i hz
      have hz' : z = x := by simpa using hz
      subst hz'
      rw [List.lookup_cons, List.lookup_cons, beq_eq_false_iff_ne.mpr h]
    · rw [List.lookup_cons, List.lookup_cons]
      split
      · rfl
      · exact ih

theorem nm_inj : ∀ i < names.length, ∀ j < names.length, nm i = nm j → i = j := by decide +kernel

theorem St.sub {ρ' : Rho} {h : Heap} (st : St X A env hd σ ρ W h) (hs : ∀ y v, getV ρ' y = some v → getV ρ y = some v) : St X A env hd σ ρ' W h :=
  ⟨st.base, st.frs, st.ns, st.cel, fun x v e => st.vars x v (hs x v e), st.sto, st.hnd⟩

/-- the state behind a store -/
theorem St.stored {x : Nat} {v : V} {val : Value} {h h' : Heap} (eo : EnvOk X env sc) (st : St X A env hd σ ρ W h) (hx : x < names.length) (k : Keep X.B (own env) h h') (hns : ∃ m, h'.Ns env.locals m)
    (hcel : ∀ y c, env.cells.lookup y = some c → ∃ v, h'.IsCell c v) (hnew : VarAt h' env (nm x) val)
    (hold : ∀ y u, y ≠ nm x → VarAt h env y u → VarAt h' env y u) (va : VAt h σ W v val) : St X A env hd σ (setV x v ρ) W h' := by
  have ok := own_ok st
  have nt := st.sto.noTup
  have upv : ∀ {v : V} {u : Value}, VAt h σ W v u → VAt h' σ W v u := fun {v u} q => by
    cases v with
    | dat d => exact Rd.keepS k ok nt (fun _ _ _ l => l) q
    | mref j => exact q
  have base : Kept X.h₀ h' := fun a o e => by
    have lt := Heap.lt_size e
    obtain ⟨o', e', s⟩ := k.obj a o (st.base a o e) fun t => by
      rcases t with rfl | ⟨y, hy⟩
      · exact absurd lt (Nat.not_lt.mpr eo.lo)
      · exact absurd lt (Nat.not_lt.mpr (eo.clo y a hy))
    rcases s with rfl | ⟨hb, _⟩
    · exact e'
    · exact absurd lt (Nat.not_lt.mpr hb)
  refine ⟨base, ?_, hns, hcel, fun y u e => ?_, ⟨st.sto.len, st.sto.nodup, st.sto.lo, fun j ds a h1 h2 => ?_⟩, ⟨st.hnd.zero, fun q => ?_⟩⟩
  · obtain ⟨fs, h1, h2⟩ := st.frs
    refine ⟨fs, h1, h2.keep k fun L m t hn => ?_⟩
    rcases t with rfl | ⟨y, hy⟩
    · exact hns
    · obtain ⟨u, o, ho, hd⟩ := st.cel y L hy
      obtain ⟨o', es, ep, ho', hd', _⟩ := hn
      rw [ho] at ho'; cases ho'
      rw [hd] at hd'; cases hd'
  · by_cases q : y = x
    · subst q
      rw [getV_set_self] at e
      cases e
      exact ⟨hx, val, hnew, upv va⟩
    · rw [getV_set_ne _ _ q] at e
      obtain ⟨hlt, w, h1, h2⟩ := st.vars y u e
      exact ⟨hlt, w, hold _ _ (fun e => q (nm_inj y hlt x hx e)) h1, upv h2⟩
  · obtain ⟨vs, q, h3, h4⟩ := st.sto.lst j ds a h1 h2
    obtain ⟨o', e', s⟩ := k.obj _ _ h3 fun t => by
      rcases ok _ _ t h3 with _ | ⟨_, _, q⟩ | ⟨_, q⟩
      · rcases t with rfl | ⟨y, hy⟩
        · obtain ⟨m, o', es, ep, ho, hd, _⟩ := st.ns
          rw [h3] at ho; cases ho; cases hd
        · obtain ⟨v, o', ho, hd⟩ := st.cel y a hy
          rw [h3] at ho; cases ho; cases hd
      · cases q
      · cases q
    rw [s.eq fun es ep q => by cases q] at e'
    exact ⟨vs, q, e', RdAll.keepS k ok nt (fun _ _ _ l => l) h4⟩
  · obtain ⟨e, h1, o, vs, ho, hd', h2⟩ := st.hnd.one q
    obtain ⟨o', ho', s⟩ := k.obj e o ho fun t => by
      rcases t with rfl | ⟨y, hy⟩
      · obtain ⟨m, o', es, ep, ho', hd2, _⟩ := st.ns
        rw [ho] at ho'; cases ho'; rw [hd'] at hd2; cases hd2
      · obtain ⟨v, o', ho', hd2⟩ := st.cel y e hy
        rw [ho] at ho'; cases ho'; rw [hd'] at hd2; cases hd2
    rw [s.eq fun es ep q => by rw [hd'] at q; cases q] at ho'
    exact ⟨e, h1, o, vs, ho', hd', h2⟩

theorem tgt_own (eo : EnvOk X env sc) {x : Nat} (ht : isTgt sc (nm x) = true) : own env (tgt env (nm x)) := by
  unfold isTgt at ht
  unfold tgt
  split
  · exact .inl rfl
  · rename_i hn
    split at ht
    · rename_i q; exact absurd (eo.scn _ _ q (by decide)) hn
    · rename_i q
      obtain ⟨c, hc⟩ := eo.cap _ (.inl (eo.scn _ _ q (by decide)))
      rw [hc]
      exact .inr ⟨_, hc⟩
    · cases ht

theorem store_name {s : Shared} {x : Nat} {v : V} {val : Value} {E : Value → Shared → Prop} {Q : Unit → Shared → Prop} (eo : EnvOk X env sc) (ht : isTgt sc (nm x) = true) (hx : x < names.length) (st : St X A env hd σ ρ W s.heap) (va : VAt s.heap σ W v val)
    (K : ∀ h' tk, Keep X.B (fun a => a = tgt env (nm x)) s.heap h' → St X A env hd σ (setV x v ρ) W h' → Q () { s with heap := h', toks := tk }) : wpAny (model X.prog X.w) A (storeName env (nm x) val) Q E s := by
  unfold isTgt at ht
  have hk : env.kindOf (nm x) = some .local ∨ env.kindOf (nm x) = some .cell := by
    split at ht
    · rename_i q; exact .inl (eo.scn _ _ q (by decide))
    · rename_i q; exact .inr (eo.scn _ _ q (by decide))
    · cases ht
  rcases hk with hk | hk
  · obtain ⟨m, hm⟩ := st.ns
    refine wpAny_storeName_local hk hm (fun h' hn hs => ?_) (by rw [eo.kind]; rfl)
    obtain ⟨oL, _, _, hoL, _⟩ := id hn
    have k : Keep X.B (own env) s.heap h' := Keep.sameBut hs (.inl rfl) hoL
    have nc : ∀ y c, env.cells.lookup y = some c → c ≠ env.locals := fun y c hc q => by
      obtain ⟨v, o, ho, hd⟩ := st.cel y c hc
      obtain ⟨o', es, ep, ho', hd', _⟩ := hm
      rw [q, ho'] at ho; cases ho; rw [hd] at hd'; cases hd'
    have k0 : Keep X.B (fun a => a = tgt env (nm x)) s.heap h' := Keep.sameBut hs (by unfold tgt; rw [if_pos hk]) hoL
    refine K h' (s.toks + 1) k0 (st.stored eo hx k ⟨_, hn⟩ (fun y c hc => ?_) (.inl ⟨hk, _, hn, by simp⟩) (fun y u hy q => ?_) va)
    · obtain ⟨v, hv⟩ := st.cel y c hc
      exact ⟨v, hv.sameBut hs (nc y c hc)⟩
    · rcases q with ⟨hk', m', hn', hm'⟩ | ⟨hk', c, hc, hv⟩
      · refine .inl ⟨hk', _, hn, ?_⟩
        rw [if_neg hy]
        obtain ⟨o1, es1, ep1, e1, d1, k1, f1⟩ := hm
        obtain ⟨o2, es2, ep2, e2, d2, k2, f2⟩ := hn'
        rw [e1] at e2; cases e2
        rw [d1] at d2; cases d2
        rw [← f1 y, f2 y]; exact hm'
      · exact .inr ⟨hk', c, hc, hv.sameBut hs (nc y c hc)⟩
  · obtain ⟨c, hc⟩ := eo.cap _ (.inl hk)
    obtain ⟨v0, hv0⟩ := st.cel _ c hc
    refine wpAny_storeName_cell eo.kind hk hc hv0 fun h' hv hs => ?_
    obtain ⟨oc, hoc, hdc⟩ := id hv
    have k : Keep X.B (own env) s.heap h' := Keep.sameBut hs (.inr ⟨_, hc⟩) hoc
    obtain ⟨m, hm⟩ := st.ns
    have nL : env.locals ≠ c := fun q => by
      obtain ⟨o, ho, hd⟩ := hv0
      obtain ⟨o', es, ep, ho', hd', _⟩ := hm
      rw [q, ho] at ho'; cases ho'; rw [hd] at hd'; cases hd'
    have k0 : Keep X.B (fun a => a = tgt env (nm x)) s.heap h' := Keep.sameBut hs (by unfold tgt; rw [if_neg (by rw [hk]; decide), hc]; rfl) hoc
    refine K h' s.toks k0 (st.stored eo hx k ⟨m, hm.sameBut hs nL⟩ (fun y d hd => ?_) (.inr ⟨.inl hk, c, hc, hv⟩) (fun y u hy q => ?_) va)
    · by_cases q : d = c
      · exact ⟨_, q ▸ hv⟩
      · obtain ⟨v, hv'⟩ := st.cel y d hd
        exact ⟨v, hv'.sameBut hs q⟩
    · rcases q with ⟨hk', m', hn', hm'⟩ | ⟨hk', d, hd, hv'⟩
      · exact .inl ⟨hk', m', hn'.sameBut hs nL, hm'⟩
      · refine .inr ⟨hk', d, hd, hv'.sameBut hs fun q => hy (eo.inj _ _ c (q ▸ hd) hc)⟩
end
end Mine
end
section
open PySem PySem.W PyProof.Rows PySem.Calls
set_option maxRecDepth 100000
set_option linter.unusedVariables false
set_option linter.unusedSimpArgs false
namespace Mine

/-- an iterator that has yet to give ds -/
inductive It (h : Heap) (N : Adr) (I : Addr) : List D → Prop
  | list {l : Addr} {i : Nat} {vs : List Value} {q : Nat} {ds : List D} : h.IsListIter I l i → h.get? l = some { cls := .type "list", data := .seq vs.toArray q } → ¬ N l → RdAll h N (vs.drop i) ds → It h N I ds
  | tup {t : Addr} {i : Nat} {vs : List Value} {q : Nat} {ds : List D} : h.IsTupleIter I t i → h.get? t = some { cls := .type "tuple", data := .seq vs.toArray q } → RdAll h N (vs.drop i) ds → It h N I ds
  | range {x : Int} {k : Nat} : IsRangeIter h I x k 1 → It h N I ((List.range k).map fun (j : Nat) => D.int (x + (j : Int)))

theorem It.obj {h : Heap} {N : Adr} {I : Addr} {ds : List D} (i : It h N I ds) : ∃ o vs, h.get? I = some o ∧ o.data = .fields vs := by
  cases i with
  | list a _ _ _ => obtain ⟨o, ho, _, hd⟩ := a; exact ⟨o, _, ho, hd⟩
  | tup a _ _ => obtain ⟨o, ho, _, hd⟩ := a; exact ⟨o, _, ho, hd⟩
  | range a => exact ⟨_, _, a, rfl⟩

theorem range_cons (x : Int) (k : Nat) : ((List.range (k + 1)).map fun (j : Nat) => D.int (x + (j : Int))) = .int x :: (List.range k).map fun (j : Nat) => D.int (x + 1 + (j : Int)) := by
  rw [List.range_succ_eq_map, List.map_cons, List.map_map]
  congr 1
  · simp
  · apply List.map_congr_left
    intro j _
    simp only [Function.comp, Nat.succ_eq_add_one]
    congr 1
    push_cast
    omega

section
variable {X : Cx} {A : Around} {N : Adr} {s : Shared} {I : Addr} {E : Value → Shared → Prop}

theorem drop_head {vs : List Value} {i : Nat} {v : Value} {r : List Value} (e : vs.drop i = v :: r) : vs[i]? = some v ∧ vs.drop (i + 1) = r := by
  constructor
  · have := congrArg (fun l => l[0]?) e
    simpa using this
  · have := congrArg List.tail e
    simpa using this
theorem drop_none {vs : List Value} {i : Nat} (e : vs.drop i = []) : vs[i]? = none := by
  rw [List.getElem?_eq_none_iff]
  exact List.drop_eq_nil_iff.mp e

theorem rd_sameBut {h h' : Heap} {o : Obj} {vs0 : Array Value} (sb : Heap.SameBut I h h') (ho : h.get? I = some o) (hf : o.data = .fields vs0) : ∀ {v : Value} {d : D}, Rd h N v d → Rd h' N v d := by
  have k : Keep 0 (fun a => a = I) h h' ∨ True := .inr trivial
  have key : ∀ a c xs n, h.get? a = some { cls := c, data := .seq xs n } → h'.get? a = some { cls := c, data := .seq xs n } := fun a c xs n e => by
    rw [sb.2 a ?_]; exact e
    rintro rfl; rw [ho] at e; cases e; cases hf
  intro v d r
  exact Rd.rec (motive_1 := fun v d _ => Rd h' N v d) (motive_2 := fun vs ds _ => RdAll h' N vs ds) .none (fun b => .bool b) (fun i t => .int i t) (fun h1 _ h3 ih => .list (key _ _ _ _ h1) ih h3) (fun h1 _ ih => .tup (key _ _ _ _ h1) ih) .nil (fun _ _ a b => .cons a b) r
theorem rdAll_sameBut {h h' : Heap} {o : Obj} {vs0 : Array Value} (sb : Heap.SameBut I h h') (ho : h.get? I = some o) (hf : o.data = .fields vs0) : ∀ {vs : List Value} {ds : List D}, RdAll h N vs ds → RdAll h' N vs ds
  | [], [], .nil => .nil
  | _ :: _, _ :: _, .cons r rs => .cons (rd_sameBut sb ho hf r) (rdAll_sameBut sb ho hf rs)

theorem it_next {d : D} {ds : List D} {Q : Option Value → Shared → Prop} (i : It s.heap N I (d :: ds))
    (K : ∀ v h' tk, It h' N I ds → Heap.SameBut I s.heap h' → Rd h' N v d → Q (some v) { s with heap := h', toks := tk }) : wpAny (model X.prog X.w) A (pyNext (.ref I)) Q E s := by
  obtain ⟨o, vs0, ho, hf⟩ := i.obj
  generalize hds : d :: ds = dds at i
  cases i with
  | @list l i vs q ds' a b c r =>
    subst hds
    cases hr : vs.drop i with
    | nil => rw [hr] at r; cases r
    | cons v vr =>
      rw [hr] at r
      cases r with
      | cons r1 r2 =>
        obtain ⟨e1, e2⟩ := drop_head hr
        refine wpAny_pyNext_list_item a (isList_of b) (by rw [List.getElem?_toArray]; exact e1) fun h' it' sb => K _ h' s.toks (.list (q := q) it' ?_ c (by rw [e2]; exact rdAll_sameBut sb ho hf r2)) sb (rd_sameBut sb ho hf r1)
        rw [sb.2 l ?_]; exact b
        rintro rfl; rw [ho] at b; cases b; cases hf
  | @tup l i vs q ds' a b r =>
    subst hds
    cases hr : vs.drop i with
    | nil => rw [hr] at r; cases r
    | cons v vr =>
      rw [hr] at r
      cases r with
      | cons r1 r2 =>
        obtain ⟨e1, e2⟩ := drop_head hr
        refine wpAny_pyNext_tuple_item a (isTup_of b) (by rw [List.getElem?_toArray]; exact e1) fun h' it' sb => K _ h' s.toks (.tup (q := q) it' ?_ (by rw [e2]; exact rdAll_sameBut sb ho hf r2)) sb (rd_sameBut sb ho hf r1)
        rw [sb.2 l ?_]; exact b
        rintro rfl; rw [ho] at b; cases b; cases hf
  | @range x k a =>
    cases k with
    | zero => simp at hds
    | succ k =>
      rw [range_cons] at hds
      cases hds
      refine wpAny_pyNext_range_item a (by first | decide | omega) fun h' it' sb => K _ h' (s.toks + 1) (.range ?_) sb (.int _ _)
      have e : ((k + 1 : Nat) : Int) - 1 = (k : Int) := by omega
      rw [e] at it'
      exact it'

theorem it_end {Q : Option Value → Shared → Prop} (hh : A.handled = none) (i : It s.heap N I [])
    (K : ∀ h', Heap.ExtBut I s.heap h' → Q none { s with heap := h' }) : wpAny (model X.prog X.w) A (pyNext (.ref I)) Q E s := by
  generalize hds : ([] : List D) = dds at i
  cases i with
  | @list l i vs q ds' a b c r =>
    subst hds
    have e := r.unnil
    exact wpAny_pyNext_list_end hh a (isList_of b) (by rw [List.getElem?_toArray]; exact drop_none e) K
  | @tup l i vs q ds' a b r =>
    subst hds
    have e := r.unnil
    exact wpAny_pyNext_tuple_end hh a (isTup_of b) (by rw [List.getElem?_toArray]; exact drop_none e) K
  | @range x k a =>
    cases k with
    | zero => exact wpAny_pyNext_range_end hh a (by first | decide | omega) K
    | succ k => rw [range_cons] at hds; cases hds

theorem it_self {ds : List D} {Q : Value → Shared → Prop} (i : It s.heap N I ds) (h : Q (.ref I) s) : wpAny (model X.prog X.w) A (pyIter (.ref I)) Q E s := by
  cases i with
  | list a _ _ _ => exact wpAny_pyIter_listiter a h
  | tup a _ _ => exact wpAny_pyIter_tupleiter a h
  | range a => exact wpAny_pyIter_rangeiter a h

theorem It.keep {B : Nat} {T N' : Adr} {h h' : Heap} {ds : List D} (i : It h N I ds) (k : Keep B T h h') (hT : TOk T N h) (hn : NoTup N h) (hs : ∀ a o, N a → h.get? a = some o → ∃ xs n, o.data = .seq xs n) (hN : ∀ a o, h.get? a = some o → N' a → N a) : It h' N' I ds := by
  obtain ⟨o, vs0, ho, hf⟩ := i.obj
  have nI : ¬ T I := fun t => by
    rcases hT I o t ho with q | ⟨_, _, q⟩ | ⟨_, q⟩
    · obtain ⟨xs, n, q'⟩ := hs I o q ho; rw [hf] at q'; cases q'
    · rw [hf] at q; cases q
    · rw [hf] at q; cases q
  obtain ⟨o', ho', sm⟩ := k.obj I o ho nI
  rw [sm.eq fun es ep q => by rw [hf] at q; cases q] at ho'
  cases i with
  | @list l i vs q ds' a b c r =>
    obtain ⟨o1, h1, h2, h3⟩ := a
    rw [ho] at h1; cases h1
    obtain ⟨ol, hol, sl⟩ := k.obj l _ b fun t => by
      rcases hT l _ t b with q | ⟨_, _, q⟩ | ⟨_, q⟩
      · exact c q
      · cases q
      · cases q
    rw [sl.eq fun es ep q => by cases q] at hol
    exact .list ⟨_, ho', h2, h3⟩ hol (fun q => c (hN _ _ b q)) (RdAll.keepS k hT hn hN r)
  | @tup l i vs q ds' a b r =>
    obtain ⟨o1, h1, h2, h3⟩ := a
    rw [ho] at h1; cases h1
    obtain ⟨ol, hol, sl⟩ := k.obj l _ b fun t => by
      rcases hT l _ t b with q | ⟨_, _, q⟩ | ⟨_, q⟩
      · exact hn _ _ q b rfl
      · cases q
      · cases q
    rw [sl.eq fun es ep q => by cases q] at hol
    exact .tup ⟨_, ho', h2, h3⟩ hol (RdAll.keepS k hT hn hN r)
  | range a => rw [show o = _ from Option.some.inj (ho.symm.trans a)] at ho'; exact .range ho'
end

section
variable {X : Cx} {n m : Nat} {A : Around} {env : Env} {sc : Sc} {hd : Nat} {σ : List Addr} {ρ : Rho} {x : PySem.Expr}

/-- what a loop runs over, and its iterator -/
noncomputable def SdI (X : Cx) (A : Around) (env : Env) (σ : List Addr) (ρ : Rho) (x : PySem.Expr) (f : Sto → Res (List D)) : Prop :=
  ∀ W s, St X A env 0 σ ρ W s.heap → f W ≠ .bad → ∀ (P : Value → Shared → Prop) (E' : Value → Shared → Prop), (∀ v s', XE X A env 0 σ ρ s W (f W) v s' → E' v s') →
    (∀ I ds W1 s1, f W = .ok ds W1 → Stp s s1 → Keep X.B (live σ W) s.heap s1.heap → Dec W W1 → St X A env 0 σ ρ W1 s1.heap → It s1.heap (live σ W1) I ds → s.heap.get? I = none → P (.ref I) s1) →
    wpAny (model X.prog X.w) A (eval x env) (fun v s₁ => wpAny (model X.prog X.w) A (pyIter v) P E' s₁) E' s

theorem range_size (j : Int) (h0 : 0 ≤ j) : Builtin.Range.rangeSize 0 j 1 = j := by
  unfold Builtin.Range.rangeSize
  rw [if_pos (by first | decide | omega)]
  split
  · simp
  · omega
theorem range_small (j : Int) (h0 : 0 ≤ j) (h1 : j < 1000) : Builtin.Range.small 0 j 1 = true := by
  unfold Builtin.Range.small
  rw [range_size j h0]
  unfold Builtin.Range.rangeFitsLong
  simp only [Bool.and_eq_true, Bool.or_eq_true, decide_eq_true_eq, show (1 : Int) > 0 by omega, if_true]
  refine ⟨⟨⟨⟨?_, ?_⟩, ?_⟩, ?_⟩, .inr ?_⟩ <;> omega

theorem si_step {e : E} (C : CxOk X) (ih : IH X n) (h : chE m sc e x = true) (eo : EnvOk X env sc) (ok : OkA (n + 1) A) : SdI X A env σ ρ x (evI fns (n + 1) ρ e) := by
  have main : evI fns (n + 1) ρ e = (fun W => (evE fns n 0 ρ e W).bind fun d W1 => optR (itemsD d) W1) → SdI X A env σ ρ x (evI fns (n + 1) ρ e) := fun q => by
    rw [q]
    intro W s st hne P E' up K
    refine Sd.nest (ih.E h eo ok.pred) st hne up fun v d W1 s1 e1 p1 k1 c1 st1 r1 hne1 t1 => ?_
    obtain ⟨ds, hi, er⟩ := optR_ne hne1
    have fr : s.heap.get? s1.heap.objs.size = none := fresh_back k1 (Heap.get?_none_of_le (Nat.le_refl _))
    cases d with
    | list xs =>
      cases hi
      obtain ⟨a, vs, q, rfl, ea, ra, na⟩ := r1.ofList
      have kk := kept_push s1.heap { cls := .type "list_iterator", data := .fields #[.ref a, .int 0 0] }
      refine wpAny_pyIter_list (isList_of ea) (K _ _ W1 _ (t1.trans er) (p1.trans (.mk _ _ s1.toks)) (keep_trans k1 c1 kk.keep) c1 (st1.kp kk.kp) (.list ⟨_, Heap.get?_push_size _ rfl, rfl, rfl⟩ (kk _ _ ea) na (ra.kept kk)) fr)
    | tup xs =>
      cases hi
      obtain ⟨a, vs, q, rfl, ea, ra⟩ := r1.ofTup
      have kk := kept_push s1.heap { cls := .type "tuple_iterator", data := .fields #[.ref a, .int 0 0] }
      refine wpAny_pyIter_tuple (isTup_of ea) (K _ _ W1 _ (t1.trans er) (p1.trans (.mk _ _ s1.toks)) (keep_trans k1 c1 kk.keep) c1 (st1.kp kk.kp) (.tup ⟨_, Heap.get?_push_size _ rfl, rfl, rfl⟩ (kk _ _ ea) (ra.kept kk)) fr)
    | _ => cases hi
  cases e with
  | range a =>
    cases m with
    | zero => rw [ch_zero] at h; cases h
    | succ m =>
    obtain ⟨y, q, v, p, rfl, rfl, hg, ha⟩ := inv_range h
    intro W s st hne P E' up K
    rw [evI] at hne
    simp only [evI] at up K
    refine Call_ (load_bi C st eo hg (val := .type "range") (by simp [biVals]) ?_)
    rw [show backTo p (starEach [v] env) = [(false, eval v env)] from args_ch (es := [a]) (m := m) (sc := sc) (by simp [all2, ha])]
    refine PyProof.Rows.callWith_type rfl (evalArgs_plain (spliced_cons (Sd.nest (ih.E ha eo ok.pred) st hne up fun va d W1 s1 e1 p1 k1 c1 st1 r1 hne1 t1 => spliced_nil ?_)))
    cases d with
    | int j =>
      obtain ⟨t, rfl⟩ := r1.ofInt
      dsimp only at hne1 t1
      split at hne1
      · rename_i hj
        rw [if_pos hj] at t1
        refine call_range_1 ?_
        have k2 := kept_push s1.heap { cls := .type "range", data := .fields #[.int 0 s1.toks, .int j t, .int 1 (s1.toks + 1)] }
        refine wpAny_pyIter_range (IsRange.new ..) (range_small j hj.1 hj.2) ?_
        rw [range_size j hj.1]
        have k3 := k2.trans (kept_push (s1.heap.push { cls := .type "range", data := .fields #[.int 0 s1.toks, .int j t, .int 1 (s1.toks + 1)] }) { cls := .type "range_iterator", data := .fields #[rawInt 0, rawInt j, rawInt 1] })
        refine K _ _ W1 _ t1 (p1.trans (.mk _ _ (s1.toks + 1 + 1))) (keep_trans k1 c1 k3.keep) c1 (st1.kp k3.kp) ?_ (fresh_back (keep_trans k1 c1 k2.keep) (Heap.get?_none_of_le (Nat.le_refl _)))
        have hr : IsRangeIter ((s1.heap.push { cls := .type "range", data := .fields #[.int 0 s1.toks, .int j t, .int 1 (s1.toks + 1)] }).push { cls := .type "range_iterator", data := .fields #[rawInt 0, rawInt j, rawInt 1] }) (s1.heap.push { cls := .type "range", data := .fields #[.int 0 s1.toks, .int j t, .int 1 (s1.toks + 1)] }).objs.size 0 (j.toNat : Int) 1 := by
          rw [Int.toNat_of_nonneg hj.1]
          exact Heap.get?_push_size _ rfl
        have := It.range (N := live σ W1) hr
        simpa using this
      · exact absurd rfl hne1
    | _ => exact absurd rfl hne1
  | _ => exact main (by funext W; rw [evI]; intro a q; cases q)
end
end Mine
end
section
open PySem PySem.W PyProof.Rows PySem.Calls
set_option maxRecDepth 100000
set_option linter.unusedVariables false
set_option linter.unusedSimpArgs false
namespace Mine

structure IHI (X : Cx) (n : Nat) : Prop extends IH X n where
  I : ∀ {m sc e x A env σ ρ}, chE m sc e x = true → EnvOk X env sc → OkA n A → SdI X A env σ ρ x (evI fns n ρ e)

section
variable {X : Cx} {n m : Nat} {A : Around} {env : Env} {sc : Sc} {σ : List Addr} {ρ : Rho}

/-! the tests of a clause -/
abbrev testStep (env : Env) : PySem.Expr → Bool → Sem (ForInStep Bool) := fun c r => if r = true then do let ok ← isTrue c env (eval c env); pure (ForInStep.yield ok) else pure (ForInStep.yield r)
theorem tests_false : ∀ (fx : List PySem.Expr), forIn fx false (testStep env) = (pure false : Sem Bool)
  | [] => rfl
  | c :: fx => by
    rw [List.forIn_cons]
    show (pure (ForInStep.yield false) >>= _ : Sem Bool) = _
    rw [pure_bind]
    exact tests_false fx
theorem tests_wp (ih : IH X n) (eo : EnvOk X env sc) (ok : OkA n A) : ∀ {ifs : List E} {fx : List PySem.Expr}, all2 (chE m sc) ifs fx = true → Sd RB X A env 0 σ ρ (forIn fx true (testStep env)) (testAll (fun c W => evT fns n 0 ρ c W) ifs)
  | [], [], _ => fun W s st hne => by
    rw [testAll] at hne ⊢
    exact wpAny_pure (pg_of (Rel := RB) (h' := s.heap) (tk := s.toks) st .refl rfl)
  | [], _ :: _, e => by simp [all2] at e
  | _ :: _, [], e => by simp [all2] at e
  | c :: cs, x :: xs, e => fun W s st hne => by
    rw [all2, Bool.and_eq_true] at e
    rw [testAll] at hne ⊢
    rw [List.forIn_cons]
    refine wpAny_bind ?_
    show wpAny _ A (if true = true then _ else _) _ _ s
    rw [if_pos rfl]
    refine wpAny_bind (Sd.nest (ih.T e.1 eo ok) st hne (fun _ _ p => p) fun b t W1 s1 e1 p1 k1 c1 st1 r1 hne1 t1 => wpAny_pure ?_)
    have hq : b = t := r1
    subst hq
    refine Sd.fin ?_ p1 k1 c1 t1
    cases b with
    | true => exact tests_wp ih eo ok e.2 W1 s1 st1 hne1
    | false =>
      show wpAny _ A (forIn xs false (testStep env)) _ _ s1
      rw [tests_false]
      exact wpAny_pure (pg_of (Rel := RB) (h' := s1.heap) (tk := s1.toks) st1 .refl rfl)

/-- a comprehension under way: h₁ stood ahead of it, T₁ of it may turn; W₁: the mutable lists ahead of it; Dl is its own list, the last of the mutable ones -/
structure CI (X : Cx) (A : Around) (env : Env) (σ : List Addr) (ρ : Rho) (T₁ : Adr) (h₁ : Heap) (W₁ : Sto) (Dl : Addr) (W : Sto) (h : Heap) : Prop where
  st : St X A env 0 (σ ++ [Dl]) ρ W h
  kp : Keep X.B T₁ h₁ h
  ok : ∀ a o, h₁.get? a = some o → live (σ ++ [Dl]) W a → T₁ a
  dc : Dec W₁ (W.take W₁.length)
  ln : W.length = W₁.length + 1
  sl : σ.length = W₁.length

theorem live_ext {W₁ W : Sto} {Dl a : Addr} {h₁ : Heap} {o : Obj} (sl : σ.length = W₁.length) (dc : Dec W₁ (W.take W₁.length)) (fr : h₁.get? Dl = none) (e : h₁.get? a = some o) (l : live (σ ++ [Dl]) W a) : live σ W₁ a := by
  obtain ⟨j, ds, h1, h2⟩ := l
  by_cases hj : j < σ.length
  · refine dc.live σ a ⟨j, ds, ?_, by rw [List.getElem?_append_left hj] at h2; exact h2⟩
    rw [List.getElem?_take_of_lt (by first | decide | omega)]; exact h1
  · rw [List.getElem?_append_right (by first | decide | omega)] at h2
    have : j - σ.length = 0 := by
      by_cases q : j - σ.length = 0
      · exact q
      · rw [List.getElem?_eq_none (by simp; omega)] at h2; cases h2
    rw [this] at h2
    simp at h2
    subst h2
    rw [fr] at e; cases e

theorem dec_take {W W' : Sto} (d : Dec W W') (k : Nat) : Dec (W.take k) (W'.take k) := by
  refine ⟨by rw [List.length_take, List.length_take, d.1], fun j e => ?_⟩
  rw [List.getElem?_take] at e ⊢
  split
  · rename_i q; rw [if_pos q] at e; exact d.2 j e
  · rename_i q; rw [if_neg q] at e; cases e

theorem CI.expr {ρ' : Rho} {T₁ : Adr} {h₁ : Heap} {W₁ W W' : Sto} {Dl : Addr} {h h' : Heap} (c : CI X A env σ ρ T₁ h₁ W₁ Dl W h) (k : Keep X.B (live (σ ++ [Dl]) W) h h') (d : Dec W W') (st' : St X A env 0 (σ ++ [Dl]) ρ' W' h') : CI X A env σ ρ' T₁ h₁ W₁ Dl W' h' :=
  ⟨st', c.kp.trans k fun a o e l => c.ok a o e l, fun a o e l => c.ok a o e (d.live _ a l), c.dc.trans (dec_take d _), d.1.trans c.ln, c.sl⟩

theorem It.expr {I : Addr} {ds : List D} {W W' : Sto} {h h' : Heap} (i : It h (live σ W) I ds) (st : St X A env 0 σ ρ W h) (k : Keep X.B (live σ W) h h') (d : Dec W W') : It h' (live σ W') I ds :=
  i.keep k (fun a o t e => .inl t) st.sto.noTup (fun a o l e => (live_isList st.sto l e).2) (fun a _ _ l => d.live σ a l)

theorem live_sameBut {W : Sto} {h h' : Heap} {a : Addr} {o : Obj} (st : St X A env 0 σ ρ W h) (sb : Heap.SameBut a h h') (ho : h.get? a = some o) (hf : ∃ vs, o.data = .fields vs) : StoAt X h' σ W := by
  obtain ⟨vs0, hf⟩ := hf
  refine ⟨st.sto.len, st.sto.nodup, st.sto.lo, fun j ds b h1 h2 => ?_⟩
  obtain ⟨vs, q, h3, h4⟩ := st.sto.lst j ds b h1 h2
  refine ⟨vs, q, ?_, rdAll_sameBut sb ho hf h4⟩
  rw [sb.2 b ?_]; exact h3
  rintro rfl; rw [ho] at h3; cases h3; cases hf

/-- a record of the comprehension's own (its iterator) turns -/
theorem St.field {W : Sto} {h h' : Heap} {a : Addr} {o o' : Obj} {vs vs' : Array Value} (st : St X A env 0 σ ρ W h) (sb : Heap.SameBut a h h') (ho : h.get? a = some o) (hf : o.data = .fields vs) (ho' : h'.get? a = some o') (lo : X.h₀.get? a = none) : St X A env 0 σ ρ W h' := by
  have k : Keep X.B (fun b => b = a) h h' := Keep.sameBut sb rfl ho'
  refine ⟨fun b ob e => ?_, ?_, ?_, fun x c hc => ?_, fun x v e => ?_, live_sameBut st sb ho ⟨_, hf⟩, ⟨st.hnd.zero, fun q => absurd q (by decide)⟩⟩
  · rw [sb.2 b ?_]; exact st.base b ob e
    rintro rfl; rw [lo] at e; cases e
  · obtain ⟨fs, h1, h2⟩ := st.frs
    refine ⟨fs, h1, h2.keep k fun L m t hn => ?_⟩
    subst t
    obtain ⟨o1, es, ep, e1, d1, _⟩ := hn
    rw [ho] at e1; cases e1; rw [hf] at d1; cases d1
  · obtain ⟨m, hm⟩ := st.ns
    refine ⟨m, hm.sameBut sb ?_⟩
    rintro rfl
    obtain ⟨o1, es, ep, e1, d1, _⟩ := hm
    rw [ho] at e1; cases e1; rw [hf] at d1; cases d1
  · obtain ⟨v, hv⟩ := st.cel x c hc
    refine ⟨v, hv.sameBut sb ?_⟩
    rintro rfl
    obtain ⟨o1, e1, d1⟩ := hv
    rw [ho] at e1; cases e1; rw [hf] at d1; cases d1
  · obtain ⟨hlt, val, h1, h2⟩ := st.vars x v e
    refine ⟨hlt, val, ?_, ?_⟩
    · rcases h1 with ⟨hk, m, hn, hm⟩ | ⟨hk, c, hc, hv⟩
      · refine .inl ⟨hk, m, hn.sameBut sb ?_, hm⟩
        intro q
        obtain ⟨o1, es, ep, e1, d1, _⟩ := hn
        rw [q, ho] at e1; cases e1; rw [hf] at d1; cases d1
      · refine .inr ⟨hk, c, hc, hv.sameBut sb ?_⟩
        rintro rfl
        obtain ⟨o1, e1, d1⟩ := hv
        rw [ho] at e1; cases e1; rw [hf] at d1; cases d1
    · cases v with
      | dat d => exact rd_sameBut sb ho hf h2
      | mref k => exact h2

/-- the next item -/
theorem CI.next {T₁ : Adr} {h₁ : Heap} {W₁ W : Sto} {Dl I : Addr} {ds ds' : List D} {h h' : Heap} (c : CI X A env σ ρ T₁ h₁ W₁ Dl W h) (i : It h (live (σ ++ [Dl]) W) I ds) (sb : Heap.SameBut I h h') (i' : It h' (live (σ ++ [Dl]) W) I ds') (fr : h₁.get? I = none)
    (hb : Kept X.h₀ h₁) : CI X A env σ ρ T₁ h₁ W₁ Dl W h' := by
  obtain ⟨o, vs, ho, hf⟩ := i.obj
  obtain ⟨o', vs', ho', hf'⟩ := i'.obj
  have lo : X.h₀.get? I = none := by
    cases q : X.h₀.get? I with
    | none => rfl
    | some o => rw [hb _ _ q] at fr; cases fr
  refine ⟨c.st.field (vs := vs) (vs' := vs') sb ho hf ho' lo, c.kp.trans (Keep.sameBut (T := fun b => b = I) sb rfl ho') fun a o e t => ?_, c.ok, c.dc, c.ln, c.sl⟩
  subst t; rw [fr] at e; cases e

/-- the target stored -/
theorem CI.store {ρ' : Rho} {T₁ : Adr} {h₁ : Heap} {W₁ W : Sto} {Dl : Addr} {h h' : Heap} {x : Nat} (c : CI X A env σ ρ T₁ h₁ W₁ Dl W h) (k : Keep X.B (fun a => a = tgt env (nm x)) h h') (fr : ∀ o, h₁.get? (tgt env (nm x)) = some o → T₁ (tgt env (nm x)))
    (st' : St X A env 0 (σ ++ [Dl]) ρ' W h') : CI X A env σ ρ' T₁ h₁ W₁ Dl W h' := by
  refine ⟨st', c.kp.trans k fun a o e t => ?_, c.ok, c.dc, c.ln, c.sl⟩
  subst t; exact fr o e
theorem It.store {I : Addr} {ds : List D} {W : Sto} {h h' : Heap} {x : Nat} (eo : EnvOk X env sc) (ht : isTgt sc (nm x) = true) (i : It h (live σ W) I ds) (st : St X A env 0 σ ρ W h) (k : Keep X.B (fun a => a = tgt env (nm x)) h h') : It h' (live σ W) I ds :=
  i.keep k (fun a o t e => own_ok st a o (t ▸ tgt_own eo ht) e) st.sto.noTup (fun a o l e => (live_isList st.sto l e).2) (fun _ _ _ l => l)

/-- one more item in the list -/
theorem CI.emit {T₁ : Adr} {h₁ : Heap} {W₁ W W' : Sto} {Dl : Addr} {s : Shared} {v : Value} {d : D} {u : Unit} {E : Value → Shared → Prop} {Q : Value → Shared → Prop} (c : CI X A env σ ρ T₁ h₁ W₁ Dl W s.heap) (r : Rd s.heap (live (σ ++ [Dl]) W) v d) (e : emitR W₁.length d W = .ok u W')
    (K : ∀ h', CI X A env σ ρ T₁ h₁ W₁ Dl W' h' → Keep X.B (live (σ ++ [Dl]) W) s.heap h' → Dec W W' → Q .none { s with heap := h' }) : wpAny (model X.prog X.w) A (call (.builtin "list.append") [.ref Dl, v]) Q E s := by
  unfold emitR at e
  split at e
  · rename_i acc hW
    split at e
    · rename_i hf
      have hf' := of_decide_eq_true hf
      cases e
      have hσ : (σ ++ [Dl])[W₁.length]? = some Dl := by rw [← c.sl]; simp
      obtain ⟨ys, q, h1, h2⟩ := c.st.sto.lst _ _ _ hW hσ
      refine wpAny_list_append_plain (items := ys.toArray) ⟨q, h1⟩ (fun h' hl sb => ?_) (by rw [List.size_toArray, sizeLine_eq, h2.length]; unfold lim at hf'; omega)
      obtain ⟨q', hl⟩ := hl
      rw [List.push_toArray] at hl
      obtain ⟨kp, sto'⟩ := sto_write (X := X) c.st.sto hW hσ sb hl (h2.append (.cons r .nil))
      have d := dec_write (ds' := acc ++ [d]) hW
      exact K h' (c.expr kp d (c.st.step kp d sto')) kp d
    · cases e
  · cases e
end
end Mine
end
section
open PySem PySem.W PyProof.Rows PySem.Calls
set_option maxRecDepth 100000
set_option linter.unusedVariables false
set_option linter.unusedSimpArgs false
namespace Mine

section
variable {X : Cx} {n m : Nat} {A : Around} {env : Env} {sc : Sc} {σ : List Addr} {ρ : Rho} {N : Adr}

theorem rd_ext {I : Addr} {h h' : Heap} {o : Obj} {vs0 : Array Value} (xb : Heap.ExtBut I h h') (ho : h.get? I = some o) (hf : o.data = .fields vs0) : ∀ {v : Value} {d : D}, Rd h N v d → Rd h' N v d := by
  have key : ∀ a c xs n, h.get? a = some { cls := c, data := .seq xs n } → h'.get? a = some { cls := c, data := .seq xs n } := fun a c xs n e => by
    refine xb a _ ?_ e
    rintro rfl; rw [ho] at e; cases e; cases hf
  intro v d r
  exact Rd.rec (motive_1 := fun v d _ => Rd h' N v d) (motive_2 := fun vs ds _ => RdAll h' N vs ds) .none (fun b => .bool b) (fun i t => .int i t) (fun h1 _ h3 ih => .list (key _ _ _ _ h1) ih h3) (fun h1 _ ih => .tup (key _ _ _ _ h1) ih) .nil (fun _ _ a b => .cons a b) r
theorem rdAll_ext {I : Addr} {h h' : Heap} {o : Obj} {vs0 : Array Value} (xb : Heap.ExtBut I h h') (ho : h.get? I = some o) (hf : o.data = .fields vs0) : ∀ {vs : List Value} {ds : List D}, RdAll h N vs ds → RdAll h' N vs ds
  | [], [], .nil => .nil
  | _ :: _, _ :: _, .cons r rs => .cons (rd_ext xb ho hf r) (rdAll_ext xb ho hf rs)

theorem St.ext {hd : Nat} {W : Sto} {h h' : Heap} {a : Addr} {o : Obj} {vs : Array Value} (st : St X A env hd σ ρ W h) (xb : Heap.ExtBut a h h') (ho : h.get? a = some o) (hf : o.data = .fields vs) (lo : X.h₀.get? a = none) (hh : hd = 0) : St X A env hd σ ρ W h' := by
  have ns : ∀ {L m}, h.Ns L m → h'.Ns L m := fun {L m} hn => by
    refine hn.extBut xb ?_
    rintro rfl
    obtain ⟨o1, es, ep, e1, d1, _⟩ := hn
    rw [ho] at e1; cases e1; rw [hf] at d1; cases d1
  have cel : ∀ {c v}, h.IsCell c v → h'.IsCell c v := fun {c v} hc => by
    obtain ⟨o1, e1, d1⟩ := hc
    refine ⟨o1, xb c o1 ?_ e1, d1⟩
    rintro rfl
    rw [ho] at e1; cases e1; rw [hf] at d1; cases d1
  refine ⟨fun b ob e => ?_, ?_, ?_, fun x c hc => ?_, fun x v e => ?_, ⟨st.sto.len, st.sto.nodup, st.sto.lo, fun j ds b h1 h2 => ?_⟩, ⟨st.hnd.zero, fun q => by omega⟩⟩
  · refine xb b ob ?_ (st.base b ob e)
    rintro rfl; rw [lo] at e; cases e
  · obtain ⟨fs, h1, h2⟩ := st.frs
    refine ⟨fs, h1, fun e he => ?_⟩
    obtain ⟨hk, L, m, q1, q2, q3⟩ := h2 e he
    exact ⟨hk, L, m, q1, q2, ns q3⟩
  · obtain ⟨m, hm⟩ := st.ns
    exact ⟨m, ns hm⟩
  · obtain ⟨v, hv⟩ := st.cel x c hc
    exact ⟨v, cel hv⟩
  · obtain ⟨hlt, val, h1, h2⟩ := st.vars x v e
    refine ⟨hlt, val, ?_, ?_⟩
    · rcases h1 with ⟨hk, m, hn, hm⟩ | ⟨hk, c, hc, hv⟩
      · exact .inl ⟨hk, m, ns hn, hm⟩
      · exact .inr ⟨hk, c, hc, cel hv⟩
    · cases v with
      | dat d => exact rd_ext xb ho hf h2
      | mref k => exact h2
  · obtain ⟨us, q, h3, h4⟩ := st.sto.lst j ds b h1 h2
    refine ⟨us, q, xb b _ ?_ h3, rdAll_ext xb ho hf h4⟩
    rintro rfl; rw [ho] at h3; cases h3; cases hf

theorem CI.done {T₁ : Adr} {h₁ : Heap} {W₁ W : Sto} {Dl I : Addr} {ds : List D} {h h' : Heap} (c : CI X A env σ ρ T₁ h₁ W₁ Dl W h) (i : It h (live (σ ++ [Dl]) W) I ds) (xb : Heap.ExtBut I h h') (fr : h₁.get? I = none) (hb : Kept X.h₀ h₁) : CI X A env σ ρ T₁ h₁ W₁ Dl W h' := by
  obtain ⟨o, vs, ho, hf⟩ := i.obj
  have lo : X.h₀.get? I = none := by
    cases q : X.h₀.get? I with
    | none => rfl
    | some o => rw [hb _ _ q] at fr; cases fr
  have hne : ∀ a oa, h₁.get? a = some oa → a ≠ I := fun a oa e q => by subst q; rw [fr] at e; cases e
  refine ⟨c.st.ext xb ho hf lo rfl, ⟨fun a oa e nt => ?_, fun a oa e => ?_⟩, c.ok, c.dc, c.ln, c.sl⟩
  · obtain ⟨o', e', s⟩ := c.kp.obj a oa e nt
    exact ⟨o', xb a o' (hne a oa e) e', s⟩
  · obtain ⟨o', e'⟩ := c.kp.all a oa e
    exact ⟨o', xb a o' (hne a oa e) e'⟩

/-- the turn of the last clause -/
noncomputable def lastTurn (e : PySem.Expr) (dpt : Nat) (ex tg ix : PySem.Expr) (fx : List PySem.Expr) (it acc : Value) (env : Env) : Sem PySem.Fin := do
  standAt ix.pos
  match ← pyNext it with
  | none => pure (.done .next)
  | some v =>
    letOwnedTupleGo tg it v
    assign tg env v
    let mut ok := true
    for c in fx do
      if ok then ok ← isTrue c env (eval c env)
    if ok then
      (do let _ ← call (.builtin "list.append") [acc, ← eval ex env])
    again (.compLoop e dpt it acc env)
theorem turn1 (ex tg ix : PySem.Expr) (fx : List PySem.Expr) (scope : Scope) (pos : Pos) (it acc : Value) (env : Env) :
    compTurn (.ListComp ex [⟨tg, ix, fx, 0⟩] scope pos) 0 it acc env = lastTurn (.ListComp ex [⟨tg, ix, fx, 0⟩] scope pos) 0 ex tg ix fx it acc env := by rfl
theorem turn2 (ex tg ix : PySem.Expr) (fx : List PySem.Expr) (g : Comprehension) (scope : Scope) (pos : Pos) (it acc : Value) (env : Env) :
    compTurn (.ListComp ex [g, ⟨tg, ix, fx, 0⟩] scope pos) 1 it acc env = lastTurn (.ListComp ex [g, ⟨tg, ix, fx, 0⟩] scope pos) 1 ex tg ix fx it acc env := by rfl
noncomputable def firstTurn (ex tg ix : PySem.Expr) (fx : List PySem.Expr) (tg' ix' : PySem.Expr) (fx' : List PySem.Expr) (scope : Scope) (pos : Pos) (it acc : Value) (env : Env) : Sem PySem.Fin := do
  standAt ix.pos
  match ← pyNext it with
  | none => pure (.done .next)
  | some v =>
    letOwnedTupleGo tg it v
    assign tg env v
    let mut ok := true
    for c in fx do
      if ok then ok ← isTrue c env (eval c env)
    if ok then
      let x ← eval ix' env
      standAt ix'.pos
      let x ← foldedSetIterable ix' env x
      let _ ← runOwn (.compStart (.ListComp ex [⟨tg, ix, fx, 0⟩, ⟨tg', ix', fx', 0⟩] scope pos) 1 (← holding [x] (pyIter x)) acc env) env
    again (.compLoop (.ListComp ex [⟨tg, ix, fx, 0⟩, ⟨tg', ix', fx', 0⟩] scope pos) 0 it acc env)
theorem turn3 (ex tg ix : PySem.Expr) (fx : List PySem.Expr) (tg' ix' : PySem.Expr) (fx' : List PySem.Expr) (scope : Scope) (pos : Pos) (it acc : Value) (env : Env) :
    compTurn (.ListComp ex [⟨tg, ix, fx, 0⟩, ⟨tg', ix', fx', 0⟩] scope pos) 0 it acc env = firstTurn ex tg ix fx tg' ix' fx' scope pos it acc env := by rfl
end
end Mine
end
section
open PySem PySem.W PyProof.Rows PySem.Calls
set_option maxRecDepth 100000
set_option linter.unusedVariables false
set_option linter.unusedSimpArgs false
namespace Mine

section
variable {X : Cx} {n m : Nat} {A : Around} {env : Env} {sc : Sc} {σ : List Addr} {ρ : Rho}

theorem exItems_ne {f : D → Sto → Res Unit} {d : D} {ds : List D} {W W' : Sto} {u : Unit} (h : exItems f (d :: ds) W = .ok u W') : ∃ W1, f d W = .ok () W1 ∧ exItems f ds W1 = .ok u W' := by
  rw [exItems] at h
  cases hf : f d W with
  | ok a W1 => rw [hf] at h; exact ⟨W1, rfl, h⟩
  | exc c W1 => rw [hf] at h; cases h
  | bad => rw [hf] at h; cases h
theorem bind_ok {α β : Type} {r : Res α} {g : α → Sto → Res β} {b : β} {W' : Sto} (h : r.bind g = .ok b W') : ∃ a W1, r = .ok a W1 ∧ g a W1 = .ok b W' := by
  cases r with
  | ok a W1 => exact ⟨a, W1, rfl, h⟩
  | exc c W1 => cases h
  | bad => cases h

/-- a step that is known to come through -/
theorem Sd.okK {α β : Type} {Rel : Heap → Adr → β → α → Prop} {hd : Nat} {t : Sem β} {f : Sto → Res α} (ht : Sd Rel X A env hd σ ρ t f) {W : Sto} {s : Shared} (st : St X A env hd σ ρ W s.heap) {a : α} {W1 : Sto} (e : f W = .ok a W1) {P : β → Shared → Prop} {E : Value → Shared → Prop}
    (K : ∀ b s1, Stp s s1 → Keep X.B (live σ W) s.heap s1.heap → Dec W W1 → St X A env hd σ ρ W1 s1.heap → Rel s1.heap (live σ W1) b a → P b s1) : wpAny (model X.prog X.w) A t P E s := by
  refine wpAny_mono (ht W s st (by rw [e]; intro q; cases q)) (fun b s1 p => ?_) fun x s1 p => ?_
  · obtain ⟨a', W', h1, h2, h3, h4, h5, h6⟩ := p
    rw [e] at h1; cases h1
    exact K b s1 h2 h3 h4 h5 h6
  · obtain ⟨c, W', h1, _⟩ := p
    rw [e] at h1; cases h1
theorem SdI.okK {x : PySem.Expr} {f : Sto → Res (List D)} (ht : SdI X A env σ ρ x f) {W : Sto} {s : Shared} (st : St X A env 0 σ ρ W s.heap) {ds : List D} {W1 : Sto} (e : f W = .ok ds W1) {P : Value → Shared → Prop} {E : Value → Shared → Prop}
    (K : ∀ I s1, Stp s s1 → Keep X.B (live σ W) s.heap s1.heap → Dec W W1 → St X A env 0 σ ρ W1 s1.heap → It s1.heap (live σ W1) I ds → s.heap.get? I = none → P (.ref I) s1) :
    wpAny (model X.prog X.w) A (eval x env) (fun v s₁ => wpAny (model X.prog X.w) A (pyIter v) P E s₁) E s := by
  refine ht W s st (by rw [e]; intro q; cases q) P E (fun v s' p => ?_) fun I ds' W' s1 h1 h2 h3 h4 h5 h6 h7 => ?_
  · obtain ⟨c, W', h1, _⟩ := p
    rw [e] at h1; cases h1
  · rw [e] at h1; cases h1
    exact K I s1 h2 h3 h4 h5 h6 h7

theorem getV_sub {x : Nat} {v : V} (h : getV ρ x = none) : ∀ y u, getV ρ y = some u → getV (setV x v ρ) y = some u := fun y u e => by
  rw [getV_set_ne _ _ (by rintro rfl; rw [h] at e; cases e)]; exact e

theorem CI.sub {ρ' : Rho} {T₁ : Adr} {h₁ : Heap} {W₁ W : Sto} {Dl : Addr} {h : Heap} (c : CI X A env σ ρ T₁ h₁ W₁ Dl W h) (hs : ∀ y v, getV ρ' y = some v → getV ρ y = some v) : CI X A env σ ρ' T₁ h₁ W₁ Dl W h :=
  ⟨c.st.sub hs, c.kp, c.ok, c.dc, c.ln, c.sl⟩

/-- the last clause's loop -/
theorem comp_last (ih : IHI X n) {gs : List Comprehension} {scope : Scope} {pos : Pos} {dpt : Nat} {ex ix : PySem.Expr} {fx : List PySem.Expr} {y : Str} {q : Pos} {t : Nat} {ifs : List E} {elt : E} (eo : EnvOk X env sc) (ok : OkA n A) (hh : A.handled = none)
    (heq : ∀ it acc, compTurn (.ListComp ex gs scope pos) dpt it acc env = lastTurn (.ListComp ex gs scope pos) dpt ex (.Name y q) ix fx it acc env)
    (hy : isNm y t = true) (ht : isTgt sc y = true) (hfx : all2 (chE m sc) ifs fx = true) {m2 : Nat} (hel : chE m2 sc elt ex = true) {T₁ : Adr} {h₁ : Heap} {W₁ : Sto} {Dl I : Addr}
    (frt : ∀ o, h₁.get? (tgt env y) = some o → T₁ (tgt env y)) (hb : Kept X.h₀ h₁) (hρ : getV ρ t = none) (frI : h₁.get? I = none) {W' : Sto} {u : Unit} {R : Result → Shared → Prop} {s0 : Shared}
    (K : ∀ s', CI X A env σ ρ T₁ h₁ W₁ Dl W' s'.heap → Stp s0 s' → R (.ok .next) s') :
    ∀ (ds : List D) (W : Sto) (s : Shared), CI X A env σ ρ T₁ h₁ W₁ Dl W s.heap → It s.heap (live (σ ++ [Dl]) W) I ds →
      exItems (fun d W => (testAll (fun c W => evT fns n 0 (setV t (.dat d) ρ) c W) ifs W).bind fun tt W1 => if tt then (evE fns n 0 (setV t (.dat d) ρ) elt W1).bind fun r W2 => emitR W₁.length r W2 else .ok () W1) ds W = .ok u W' → Stp s0 s →
      codeAny (model X.prog X.w) A (.compLoop (.ListComp ex gs scope pos) dpt (.ref I) (.ref Dl) env) R s := by
  intro ds
  have hnm := isNm_eq hy
  induction ds with
  | nil =>
    intro W s c i e p
    rw [exItems] at e
    cases e
    refine codeAny_of_tree ?_
    show wpAny _ _ ((compTurn (.ListComp ex gs scope pos) dpt (.ref I) (.ref Dl) env).onRaise (fun x => do noteFrame x env; theTreesLotGoes x)) _ _ s
    refine wpAny_noted ?_
    rw [heq]
    unfold lastTurn
    refine wpAny_bind (wpAny_standAt (wpAny_bind (it_end (X := X) hh i fun h' xb => ?_)))
    exact wpAny_pure (K _ (c.done i xb frI hb) (p.trans (.mk s h' s.toks)))
  | cons d ds IHd =>
    intro W s c i e p
    obtain ⟨W1, e1, e2⟩ := exItems_ne e
    refine codeAny_of_tree ?_
    show wpAny _ _ ((compTurn (.ListComp ex gs scope pos) dpt (.ref I) (.ref Dl) env).onRaise (fun x => do noteFrame x env; theTreesLotGoes x)) _ _ s
    refine wpAny_noted ?_
    rw [heq]
    unfold lastTurn
    refine wpAny_bind (wpAny_standAt (wpAny_bind (it_next (X := X) i fun v h2 tk2 i2 sb2 r2 => ?_)))
    have c2 := c.next i sb2 i2 frI hb
    dsimp only
    refine wpAny_bind (wpAny_of_eq (a := ()) rfl ?_)
    refine wpAny_bind (wpAny_assign_Name ?_)
    rw [hnm]
    refine store_name (s := { s with heap := h2, toks := tk2 }) (v := .dat d) eo (hnm ▸ ht) (isNm_lt hy) c2.st r2 fun h3 tk3 k3 st3 => ?_
    have c3 := c2.store k3 (hnm ▸ frt) st3
    have i3 := It.store eo (hnm ▸ ht) i2 c2.st k3
    obtain ⟨tt, Wa, ea, eb⟩ := bind_ok e1
    refine wpAny_bind (Sd.okK (s := { s with heap := h3, toks := tk3 }) (tests_wp ih.toIH eo ok hfx) st3 ea fun b s4 p4 k4 d4 st4 r4 => ?_)
    have hbt : b = tt := r4
    subst hbt
    have c4 := c3.expr k4 d4 st4
    have i4 := i3.expr st3 k4 d4
    have p3 : Stp s0 s4 := (p.trans (.mk s h3 tk3)).trans p4
    cases b with
    | false =>
      cases eb
      refine wpAny_pure ⟨rfl, ?_⟩
      exact IHd _ s4 (c4.sub (getV_sub hρ)) i4 e2 p3
    | true =>
      obtain ⟨r, Wb, ec, ed⟩ := bind_ok eb
      refine wpAny_bind (wpAny_bind (Sd.okK (ih.E hel eo ok) st4 ec fun v5 s5 p5 k5 d5 st5 r5 => ?_))
      have c5 := c4.expr k5 d5 st5
      have i5 := i4.expr st4 k5 d5
      refine wpAny_bind (c5.emit r5 ed fun h6 c6 k6 d6 => wpAny_pure (wpAny_pure ⟨rfl, ?_⟩))
      exact IHd _ _ (c6.sub (getV_sub hρ)) (i5.expr st5 k6 d6) e2 ((p3.trans p5).trans (.mk s5 h6 s5.toks))
end
end Mine
end
section
open PySem PySem.W PyProof.Rows PySem.Calls
set_option maxRecDepth 100000
set_option linter.unusedVariables false
set_option linter.unusedSimpArgs false
namespace Mine

section
variable {X : Cx} {n m : Nat} {A : Around} {env : Env} {sc : Sc} {σ : List Addr} {ρ : Rho}

theorem ch_notSet {m : Nat} {e : E} {x : PySem.Expr} (h : chE m sc e x = true) : ∀ v, foldedSetIterable x env v = pure v := by
  intro v
  cases x <;> first | rfl | skip
  exfalso
  cases m with
  | zero => rw [ch_zero] at h; cases h
  | succ m => exact ch_none (fun e => by cases e <;> rfl) h

/-- a clause starts: its iterator is asked for itself -/
theorem comp_start0 {ex : PySem.Expr} {g : Comprehension} {gs : List Comprehension} {scope : Scope} {pos : Pos} {I : Addr} {acc : Value} {R : Result → Shared → Prop} {s : Shared} {N : Adr} {ds : List D} (hg : g.is_async = 0) (i : It s.heap N I ds)
    (h : codeAny (model X.prog X.w) A (.compLoop (.ListComp ex (g :: gs) scope pos) 0 (.ref I) acc env) R s) : codeAny (model X.prog X.w) A (.compStart (.ListComp ex (g :: gs) scope pos) 0 (.ref I) acc env) R s := by
  obtain ⟨tg, ix, fx, as⟩ := g
  cases hg
  exact codeAny_compStart_list h (it_self i h)
theorem comp_start1 {ex tg' ix' : PySem.Expr} {fx' : List PySem.Expr} {g : Comprehension} {gs : List Comprehension} {scope : Scope} {pos : Pos} {I : Addr} {acc : Value} {R : Result → Shared → Prop} {s : Shared} {N : Adr} {ds : List D} (i : It s.heap N I ds)
    (h : codeAny (model X.prog X.w) A (.compLoop (.ListComp ex (g :: ⟨tg', ix', fx', 0⟩ :: gs) scope pos) 1 (.ref I) acc env) R s) : codeAny (model X.prog X.w) A (.compStart (.ListComp ex (g :: ⟨tg', ix', fx', 0⟩ :: gs) scope pos) 1 (.ref I) acc env) R s := by
  refine codeAny_of_tree ?_
  show wpAny _ _ ((compStart (.ListComp ex (g :: ⟨tg', ix', fx', 0⟩ :: gs) scope pos) 1 (.ref I) acc env).onRaise (fun x => do noteFrame x env; standAt theWindowsPlace)) _ _ s
  refine wpAny_notedAt ?_
  unfold compStart
  show wpAny _ _ (ask >>= _) _ _ s
  refine wpAny_bind (wpAny_askSetting (wpAny_ite ?_))
  split
  · first
      | exact wpAny_bind (wpAny_pure (wpAny_pure (And.intro rfl h)))
      | exact wpAny_pure (And.intro rfl h)
  · first
      | exact wpAny_bind (wpAny_rule (wpAny_bind (wpAny_standAt (wpAny_bind (it_self (X := X) i (wpAny_pure (And.intro rfl h)))))))
      | (refine wpAny_bind (wpAny_rule ?_); show wpAny _ _ (standAt ix'.pos >>= _) _ _ s; exact wpAny_bind (wpAny_standAt (wpAny_bind (it_self (X := X) i (wpAny_pure (And.intro rfl h))))))

theorem SdI.goOn {β : Type} {x : PySem.Expr} {f : Sto → Res (List D)} (ht : SdI X A env σ ρ x f) (hset : ∀ v, foldedSetIterable x env v = pure v) {W : Sto} {s : Shared} (st : St X A env 0 σ ρ W s.heap) {ds : List D} {W1 : Sto} (e : f W = .ok ds W1) {k : Value → Sem β} {Q : β → Shared → Prop} {E : Value → Shared → Prop}
    (K : ∀ I s1, Stp s s1 → Keep X.B (live σ W) s.heap s1.heap → Dec W W1 → St X A env 0 σ ρ W1 s1.heap → It s1.heap (live σ W1) I ds → s.heap.get? I = none → wpAny (model X.prog X.w) A (k (.ref I)) Q E s1) :
    wpAny (model X.prog X.w) A (eval x env >>= fun v => standAt x.pos >>= fun _ => foldedSetIterable x env v >>= fun v => holding [v] (pyIter v) >>= k) Q E s := by
  refine wpAny_bind (wpAny_mono (SdI.okK (P := fun v s' => wpAny (model X.prog X.w) A (k v) Q E s') (E := E) ht st e K) (fun v s' hv => ?_) fun _ _ f => f)
  exact wpAny_bind (wpAny_standAt (wpAny_bind (wpAny_of_eq (hset v) (wpAny_bind (wpAny_holding hv)))))

theorem own_dead {hd : Nat} {W : Sto} {h : Heap} {a : Addr} (st : St X A env hd σ ρ W h) (o : own env a) : ¬ live σ W a := by
  rcases o with rfl | ⟨x, hx⟩
  · obtain ⟨m, hm⟩ := st.ns
    exact not_live_ns st.sto hm
  · obtain ⟨v, hv⟩ := st.cel x a hx
    exact not_live_cell st.sto hv

theorem comp_first (ihs : ∀ k ≤ n, IHI X k) {scope : Scope} {pos : Pos} {ex ix ix' : PySem.Expr} {fx fx' : List PySem.Expr} {y y' : Str} {q q' : Pos} {t t' : Nat} {it' : E} {ifs ifs' : List E} {elt : E} (eo : EnvOk X env sc) (ok : OkA n A) (hh : A.handled = none)
    (hy : isNm y t = true) (ht : isTgt sc y = true) (hfx : all2 (chE m sc) ifs fx = true) (hel : chE m sc elt ex = true)
    (hy' : isNm y' t' = true) (ht' : isTgt sc y' = true) {m' : Nat} (hfx' : all2 (chE m' sc) ifs' fx' = true) (hit' : chE m' sc it' ix' = true) {T₁ : Adr} {h₁ : Heap} {W₁ : Sto} {Dl I : Addr}
    (frt : ∀ o, h₁.get? (tgt env y) = some o → T₁ (tgt env y)) (frt' : ∀ o, h₁.get? (tgt env y') = some o → T₁ (tgt env y')) (hb : Kept X.h₀ h₁) (hρ : getV ρ t = none) (hρ' : getV ρ t' = none) (htt : t' ≠ t) (frI : h₁.get? I = none) {W' : Sto} {u : Unit} {R : Result → Shared → Prop} {s0 : Shared}
    (K : ∀ s', CI X A env σ ρ T₁ h₁ W₁ Dl W' s'.heap → Stp s0 s' → R (.ok .next) s') :
    ∀ (ds : List D) (W : Sto) (s : Shared), CI X A env σ ρ T₁ h₁ W₁ Dl W s.heap → It s.heap (live (σ ++ [Dl]) W) I ds →
      exItems (fun d W => (testAll (fun c W => evT fns n 0 (setV t (.dat d) ρ) c W) ifs W).bind fun tt W1 => if tt then (evI fns n (setV t (.dat d) ρ) it' W1).bind fun ds' W2 => evG fns n (setV t (.dat d) ρ) t' ifs' [] elt ds' W₁.length W2 else .ok () W1) ds W = .ok u W' → Stp s0 s →
      codeAny (model X.prog X.w) A (.compLoop (.ListComp ex [⟨.Name y q, ix, fx, 0⟩, ⟨.Name y' q', ix', fx', 0⟩] scope pos) 0 (.ref I) (.ref Dl) env) R s := by
  intro ds
  have hnm := isNm_eq hy
  subst hnm
  have ih := ihs n (Nat.le_refl n)
  induction ds with
  | nil =>
    intro W s c i e p
    rw [exItems] at e
    cases e
    refine codeAny_of_tree ?_
    show wpAny _ _ ((compTurn (.ListComp ex [⟨.Name (nm t) q, ix, fx, 0⟩, ⟨.Name y' q', ix', fx', 0⟩] scope pos) 0 (.ref I) (.ref Dl) env).onRaise (fun x => do noteFrame x env; theTreesLotGoes x)) _ _ s
    refine wpAny_noted ?_
    rw [turn3]
    unfold firstTurn
    refine wpAny_bind (wpAny_standAt (wpAny_bind (it_end (X := X) hh i fun h' xb => ?_)))
    exact wpAny_pure (K _ (c.done i xb frI hb) (p.trans (.mk s h' s.toks)))
  | cons d ds IHd =>
    intro W s c i e p
    obtain ⟨W1, e1, e2⟩ := exItems_ne e
    refine codeAny_of_tree ?_
    show wpAny _ _ ((compTurn (.ListComp ex [⟨.Name (nm t) q, ix, fx, 0⟩, ⟨.Name y' q', ix', fx', 0⟩] scope pos) 0 (.ref I) (.ref Dl) env).onRaise (fun x => do noteFrame x env; theTreesLotGoes x)) _ _ s
    refine wpAny_noted ?_
    rw [turn3]
    unfold firstTurn
    refine wpAny_bind (wpAny_standAt (wpAny_bind (it_next (X := X) i fun v h2 tk2 i2 sb2 r2 => ?_)))
    have c2 := c.next i sb2 i2 frI hb
    dsimp only
    refine wpAny_bind (wpAny_of_eq (a := ()) rfl ?_)
    refine wpAny_bind (wpAny_assign_Name ?_)
    refine store_name (s := { s with heap := h2, toks := tk2 }) (v := .dat d) eo ht (isNm_lt hy) c2.st r2 fun h3 tk3 k3 st3 => ?_
    have c3 := c2.store k3 frt st3
    have i3 := It.store eo ht i2 c2.st k3
    obtain ⟨tt, Wa, ea, eb⟩ := bind_ok e1
    refine wpAny_bind (Sd.okK (s := { s with heap := h3, toks := tk3 }) (tests_wp ih.toIH eo ok hfx) st3 ea fun b s4 p4 k4 d4 st4 r4 => ?_)
    have hbt : b = tt := r4
    subst hbt
    have c4 := c3.expr k4 d4 st4
    have i4 := i3.expr st3 k4 d4
    have p3 : Stp s0 s4 := (p.trans (.mk s h3 tk3)).trans p4
    cases b with
    | false =>
      cases eb
      refine wpAny_pure ⟨rfl, ?_⟩
      exact IHd _ s4 (c4.sub (getV_sub hρ)) i4 e2 p3
    | true =>
      obtain ⟨ds', Wb, ec, ed⟩ := bind_ok eb
      cases n with
      | zero => rw [evG] at ed; cases ed
      | succ n' =>
      rw [evG] at ed
      refine SdI.goOn (ih.I hit' eo ok) (ch_notSet hit') st4 ec fun I5 s5 p5 k5 d5 st5 i5 fr5 => ?_
      have c5 := c4.expr k5 d5 st5
      have i5' := i4.expr st4 k5 d5
      have frI5 : h₁.get? I5 = none := fresh_back c4.kp fr5
      refine wpAny_bind (wpAny_runOwn ?_)
      rw [Around.mark_none]
      refine comp_start1 i5 ?_
      have hρ2 : getV (setV t (V.dat d) ρ) t' = none := by rw [getV_set_ne _ _ htt]; exact hρ'
      -- the inner loop, seen from s4
      have hb4 : Kept X.h₀ s4.heap := st4.base
      have ci : CI X A env σ (setV t (.dat d) ρ) (fun a => live (σ ++ [Dl]) Wa a ∨ a = tgt env y') s4.heap W₁ Dl Wb s5.heap :=
        ⟨st5, k5.mono fun a o e l => .inl l, fun a o e l => .inl (d5.live _ a l), c5.dc, c5.ln, c5.sl⟩
      refine comp_last (ihs n' (by first | decide | omega)) (m := m') (m2 := m) eo ok.pred hh (fun it acc => turn2 ex (.Name y' q') ix' fx' _ scope pos it acc env) hy' ht' hfx' hel (fun o e => .inr rfl) hb4 hρ2 fr5 (s0 := s0) (W' := W1) (u := ()) ?_ ds' Wb s5 ci i5 ed (p3.trans p5)
      intro s6 c6 p6
      refine wpAny_pure ⟨rfl, ?_⟩
      have hy'' := isNm_eq hy'
      have tok : TOk (fun a => live (σ ++ [Dl]) Wa a ∨ a = tgt env y') (live (σ ++ [Dl]) Wa) s4.heap := fun a o t e => by
        rcases t with l | q
        · exact .inl l
        · exact own_ok st4 a o (by rw [q, hy'']; exact tgt_own eo (hy'' ▸ ht')) e
      have lv : ∀ a o, s4.heap.get? a = some o → live (σ ++ [Dl]) W1 a → live (σ ++ [Dl]) Wa a := fun a o e l => by
        rcases c6.ok a o e l with q | q
        · exact q
        · exfalso
          have ow : own env a := by rw [q, hy'']; exact tgt_own eo (hy'' ▸ ht')
          exact own_dead c6.st ow l
      refine IHd _ s6 ?_ (i4.keep c6.kp tok st4.sto.noTup (fun a o l e => (live_isList st4.sto l e).2) lv) e2 p6
      exact ⟨c6.st.sub (getV_sub hρ), c4.kp.trans c6.kp fun a o e t => (by
        rcases t with l | q
        · exact c4.ok a o e l
        · subst q; exact frt' o e), fun a o e l => (by
        obtain ⟨o', e'⟩ := c4.kp.all a o e
        exact c4.ok a o e (lv a o' e' l)), c6.dc, c6.ln, c6.sl⟩
end
end Mine
end
section
open PySem PySem.W PyProof.Rows PySem.Calls
set_option maxRecDepth 100000
set_option linter.unusedVariables false
set_option linter.unusedSimpArgs false
namespace Mine

/-! ### closures and cells -/
section
variable {env : Env}
noncomputable def clG (env : Env) (x : Str) : Addr := (env.cells.lookup x).getD 0
noncomputable def clFrom (env : Env) : List (Str × NameKind) → List (Str × Addr) → List (Str × Addr)
  | [], acc => acc
  | (n, k) :: r, acc => if k == .free then clFrom env r ((n, clG env n) :: acc) else clFrom env r acc

theorem closure_go : ∀ (ns : List (Str × NameKind)) (acc : List (Str × Addr)), (∀ p ∈ ns, p.2 = .free → ∃ c, env.cells.lookup p.1 = some c) →
    (forIn ns acc fun (p : Str × NameKind) (r : List (Str × Addr)) => (if p.2 == .free then do let a ← cellOf env p.1; pure (ForInStep.yield ((p.1, a) :: r)) else pure (ForInStep.yield r) : Sem (ForInStep (List (Str × Addr))))) = pure (clFrom env ns acc)
  | [], acc, _ => rfl
  | (n, k) :: r, acc, h => by
    rw [List.forIn_cons]
    unfold clFrom
    by_cases hk : k = .free
    · subst hk
      obtain ⟨c, hc⟩ := h _ (.head _) rfl
      have e : cellOf env n = pure c := by unfold cellOf; rw [hc]
      simp only [BEq.rfl, if_true, e, pure_bind]
      rw [closure_go r _ fun p hp => h p (.tail _ hp)]
      unfold clG; rw [hc]; rfl
    · have : (k == NameKind.free) = false := by simpa using hk
      simp only [this, Bool.false_eq_true, if_false, pure_bind]
      exact closure_go r _ fun p hp => h p (.tail _ hp)
theorem closure_eq {scope : Scope} (h : ∀ p ∈ scope.names, p.2 = .free → ∃ c, env.cells.lookup p.1 = some c) : closureFor scope env = pure (clFrom env scope.names []) := by
  have := closure_go (env := env) scope.names [] h
  unfold closureFor
  refine Eq.trans ?_ (congrArg (· >>= fun cs => (pure cs : Sem (List (Str × Addr)))) this)
  rfl

theorem cl_fun : ∀ (ns : List (Str × NameKind)) (acc : List (Str × Addr)), (∀ p ∈ acc, p.2 = clG env p.1) → ∀ p ∈ clFrom env ns acc, p.2 = clG env p.1
  | [], acc, h => h
  | (n, k) :: r, acc, h => by
    unfold clFrom
    split
    · refine cl_fun r _ fun p hp => ?_
      rcases List.mem_cons.mp hp with rfl | hp
      · rfl
      · exact h p hp
    · exact cl_fun r _ h
theorem cl_acc : ∀ (ns : List (Str × NameKind)) (acc : List (Str × Addr)) p, p ∈ acc → p ∈ clFrom env ns acc
  | [], acc, p, h => h
  | (n, k) :: r, acc, p, h => by
    unfold clFrom
    split
    · exact cl_acc r _ p (.tail _ h)
    · exact cl_acc r _ p h
theorem cl_has : ∀ (ns : List (Str × NameKind)) (acc : List (Str × Addr)) (x : Str), (x, NameKind.free) ∈ ns → (x, clG env x) ∈ clFrom env ns acc
  | (n, k) :: r, acc, x, h => by
    unfold clFrom
    rcases List.mem_cons.mp h with e | h
    · cases e
      rw [if_pos BEq.rfl]
      exact cl_acc r _ _ (.head _)
    · split
      · exact cl_has r _ x h
      · exact cl_has r _ x h
theorem cl_names : ∀ (ns : List (Str × NameKind)) (acc : List (Str × Addr)) p, p ∈ clFrom env ns acc → p ∈ acc ∨ (p.1, NameKind.free) ∈ ns
  | [], acc, p, h => .inl h
  | (n, k) :: r, acc, p, h => by
    unfold clFrom at h
    split at h
    · rename_i hk
      rcases cl_names r _ p h with q | q
      · rcases List.mem_cons.mp q with rfl | q
        · right; rw [beq_iff_eq.mp hk]; exact .head _
        · exact .inl q
      · exact .inr (.tail _ q)
    · rcases cl_names r _ p h with q | q
      · exact .inl q
      · exact .inr (.tail _ q)
theorem lookup_fun {g : Str → Addr} : ∀ {l : List (Str × Addr)} {x : Str} {c : Addr}, (∀ p ∈ l, p.2 = g p.1) → (x, c) ∈ l → l.lookup x = some (g x)
  | (n, d) :: r, x, c, h, hm => by
    rw [List.lookup_cons]
    cases e : x == n with
    | true => have := beq_iff_eq.mp e; subst this; rw [← h _ (.head _)]
    | false =>
      rcases List.mem_cons.mp hm with q | q
      · cases q; simp at e
      · exact lookup_fun (fun p hp => h p (.tail _ hp)) q

theorem cells_append : ∀ (k : Nat) (ns : List (Str × NameKind)) (acc : List (Str × Addr)), cellsFrom k ns acc = cellsFrom k ns [] ++ acc
  | k, [], acc => rfl
  | k, (n, kd) :: r, acc => by
    unfold cellsFrom
    split
    · rw [cells_append (k + 1) r ((n, k) :: acc), cells_append (k + 1) r [(n, k)], List.append_assoc]; rfl
    · exact cells_append k r acc
theorem cells_names : ∀ (k : Nat) (ns : List (Str × NameKind)) p, p ∈ cellsFrom k ns [] → (p.1, NameKind.cell) ∈ ns
  | k, [], p, h => (nomatch h)
  | k, (n, kd) :: r, p, h => by
    unfold cellsFrom at h
    split at h
    · rename_i hk
      rw [cells_append] at h
      rcases List.mem_append.mp h with h | h
      · exact .tail _ (cells_names _ r p h)
      · rcases List.mem_cons.mp h with rfl | h
        · rw [beq_iff_eq.mp hk]; exact .head _
        · exact (nomatch h)
    · exact .tail _ (cells_names _ r p h)
theorem cells_has : ∀ (k : Nat) (ns : List (Str × NameKind)) (x : Str), (x, NameKind.cell) ∈ ns → ∃ c, (x, c) ∈ cellsFrom k ns []
  | k, (n, kd) :: r, x, h => by
    unfold cellsFrom
    rcases List.mem_cons.mp h with e | h
    · cases e
      rw [if_pos BEq.rfl, cells_append]
      exact ⟨k, List.mem_append.mpr (.inr (.head _))⟩
    · split
      · obtain ⟨c, hc⟩ := cells_has (k + 1) r x h
        rw [cells_append]
        exact ⟨c, List.mem_append.mpr (.inl hc)⟩
      · exact cells_has k r x h
theorem lookup_of_mem {α : Type} : ∀ {l : List (Str × α)} {x : Str} {c : α}, (x, c) ∈ l → ∃ d, l.lookup x = some d
  | (n, d) :: r, x, c, h => by
    rw [List.lookup_cons]
    cases e : x == n with
    | true => exact ⟨d, rfl⟩
    | false =>
      rcases List.mem_cons.mp h with q | q
      · cases q; simp at e
      · exact lookup_of_mem q

theorem relabel_lookup {scope : Scope} : ∀ {ns : List (Str × NameKind)} {x : Str},
    (ns.map fun (n, k) => if (k == NameKind.free && env.scope.kind == .function && env.kindOf n == some .cell) then (n, NameKind.cell) else (n, k)).lookup x = (ns.lookup x).map fun k => if (k == NameKind.free && env.scope.kind == .function && env.kindOf x == some .cell) then .cell else k
  | [], x => rfl
  | (n, k) :: r, x => by
    have ih := @relabel_lookup scope r x
    show List.lookup x ((if (k == NameKind.free && env.scope.kind == .function && env.kindOf n == some .cell) = true then (n, NameKind.cell) else (n, k)) :: _) = _
    cases hx : x == n with
    | true =>
      have := beq_iff_eq.mp hx; subst this
      split <;> rename_i hc
      · rw [List.lookup_cons, hx, List.lookup_cons, hx]; show some _ = some (if _ then _ else _); rw [if_pos hc]
      · rw [List.lookup_cons, hx, List.lookup_cons, hx]; show some _ = some (if _ then _ else _); rw [if_neg hc]
    | false =>
      split <;> (rw [List.lookup_cons, hx, List.lookup_cons, hx]; exact ih)
end
end Mine
end
section
open PySem PySem.W PyProof.Rows PySem.Calls
set_option maxRecDepth 100000
set_option linter.unusedVariables false
set_option linter.unusedSimpArgs false
namespace Mine

structure ScOk (sc : Sc) (caps : List Nat) (scope : Scope) : Prop where
  kind : scope.kind = .function
  loc : ∀ x, (x, NameKind.local) ∈ scope.names → scope.names.lookup x = some .local
  cel : ∀ x, (x, NameKind.cell) ∈ scope.names → scope.names.lookup x = some .cell
  fre : ∀ x, (x, NameKind.free) ∈ scope.names → scope.names.lookup x = some .free ∧ (sc.lookup x = some .cell ∨ sc.lookup x = some .free)
  caps : ∀ x ∈ caps, x < names.length ∧ scope.names.lookup (nm x) = some .free
theorem scOk_of {sc : Sc} {caps : List Nat} {scope : Scope} (h : scopeOk sc caps scope = true) : ScOk sc caps scope := by
  unfold scopeOk at h
  rw [Bool.and_eq_true, Bool.and_eq_true, List.all_eq_true, List.all_eq_true] at h
  obtain ⟨⟨h1, h2⟩, h3⟩ := h
  refine ⟨?_, fun x hx => ?_, fun x hx => ?_, fun x hx => ?_, fun x hx => ?_⟩
  · split at h1
    · assumption
    · cases h1
  · have := h2 _ hx
    dsimp only at this
    split at this
    · assumption
    · cases this
  · have := h2 _ hx
    dsimp only at this
    split at this
    · assumption
    · cases this
  · have := h2 _ hx
    dsimp only at this
    rw [Bool.and_eq_true] at this
    obtain ⟨a, b⟩ := this
    constructor
    · split at a
      · assumption
      · cases a
    · split at b
      · exact .inl (by assumption)
      · exact .inr (by assumption)
      · cases b
  · have := h3 _ hx
    rw [Bool.and_eq_true] at this
    refine ⟨of_decide_eq_true this.1, ?_⟩
    have q := this.2
    split at q
    · assumption
    · cases q

noncomputable def cenv (scope : Scope) (env : Env) (C : Addr) : Env :=
  { scope := relabel scope env, locals := C, globals := env.globals, cells := cellsFrom (C + 1) scope.names (clFrom env scope.names []), qual := env.qual, func := none, code := env.code, frame := env.frame, builtins := env.builtins }

section
variable {X : Cx} {A : Around} {env : Env} {sc : Sc} {σ : List Addr} {ρ : Rho} {W : Sto} {scope : Scope} {caps : List Nat} {C : Addr} {h : Heap}

theorem free_cell (eo : EnvOk X env sc) (so : ScOk sc caps scope) {x : Str} (hx : (x, NameKind.free) ∈ scope.names) : (env.kindOf x = some .cell ∨ env.kindOf x = some .free) ∧ ∃ c, env.cells.lookup x = some c := by
  have q : env.kindOf x = some .cell ∨ env.kindOf x = some .free := by
    rcases (so.fre x hx).2 with q | q
    · exact .inl (eo.scn _ _ q (by decide))
    · exact eo.scf _ q
  exact ⟨q, eo.cap x q⟩

theorem cenv_cells (eo : EnvOk X env sc) (so : ScOk sc caps scope) {x : Str} {c : Addr} (e : (cenv scope env C).cells.lookup x = some c) :
    ((x, NameKind.cell) ∈ scope.names ∧ (x, c) ∈ cellsFrom (C + 1) scope.names []) ∨ ((x, NameKind.free) ∈ scope.names ∧ env.cells.lookup x = some c) := by
  have m := mem_of_lookup e
  unfold cenv at m
  dsimp only at m
  rw [cells_append] at m
  rcases List.mem_append.mp m with m | m
  · exact .inl ⟨cells_names _ _ _ m, m⟩
  · right
    have hf : (x, NameKind.free) ∈ scope.names := by
      rcases cl_names _ _ _ m with q | q
      · exact (nomatch q)
      · exact q
    obtain ⟨d, hd⟩ := (free_cell eo so hf).2
    have := cl_fun (env := env) scope.names [] (fun _ q => (nomatch q)) _ m
    refine ⟨hf, ?_⟩
    dsimp only at this
    rw [this, hd]; unfold clG; rw [hd]; rfl
theorem cenv_free (eo : EnvOk X env sc) (so : ScOk sc caps scope) {x : Str} {c : Addr} (hx : (x, NameKind.free) ∈ scope.names) (e : env.cells.lookup x = some c) : (cenv scope env C).cells.lookup x = some c := by
  have hl : ∃ d, (cenv scope env C).cells.lookup x = some d := by
    unfold cenv; dsimp only
    rw [cells_append]
    exact lookup_of_mem (List.mem_append.mpr (.inr (cl_has _ _ _ hx)))
  obtain ⟨d, hd⟩ := hl
  rcases cenv_cells eo so hd with ⟨q, _⟩ | ⟨_, q⟩
  · have := so.cel x q
    rw [(so.fre x hx).1] at this; cases this
  · rw [hd, ← q, e]
theorem cenv_own (eo : EnvOk X env sc) (so : ScOk sc caps scope) {x : Str} (hx : (x, NameKind.cell) ∈ scope.names) : ∃ c, (cenv scope env C).cells.lookup x = some c := by
  unfold cenv; dsimp only
  rw [cells_append]
  obtain ⟨c, hc⟩ := cells_has (C + 1) scope.names x hx
  exact lookup_of_mem (List.mem_append.mpr (.inl hc))

theorem cenv_kind (eo : EnvOk X env sc) (x : Str) : (cenv scope env C).kindOf x = (scope.names.lookup x).map fun k => if (k == NameKind.free && env.scope.kind == .function && env.kindOf x == some .cell) then .cell else k :=
  relabel_lookup (scope := scope) (env := env)

theorem EnvOk.comp (eo : EnvOk X env sc) (so : ScOk sc caps scope) (hC : X.B ≤ C) (hlt : ∀ x c, env.cells.lookup x = some c → c < C) {hp : Heap} (hs : hp.objs.size = C + 1) : EnvOk X (cenv scope env C) scope.names := by
  have ok := cellsFrom_ok scope.names hp (C + 1) [] ⟨fun _ _ hm => (nomatch hm), List.Pairwise.nil⟩ (by first | decide | omega)
  rw [hs] at ok
  refine ⟨so.kind, eo.globals, eo.builtins, hC, fun x k e nf => ?_, fun x e => ?_, fun x e => ?_, fun x c e => ?_, fun x y c e1 e2 => ?_⟩
  · rw [cenv_kind eo, e]
    have : (k == NameKind.free) = false := by simpa using nf
    show some (if _ then _ else _) = _
    rw [this]; rfl
  · rw [cenv_kind eo, e]
    simp only [Option.map_some]
    split
    · exact .inl rfl
    · exact .inr rfl
  · rw [cenv_kind eo] at e
    cases hx : scope.names.lookup x with
    | none => rw [hx] at e; rcases e with e | e <;> cases e
    | some k =>
      have m := mem_of_lookup hx
      by_cases hk : k = .free
      · subst hk
        obtain ⟨c, hc⟩ := (free_cell eo so m).2
        exact ⟨c, cenv_free eo so m hc⟩
      · have hk' : (k == NameKind.free) = false := by simpa using hk
        rw [hx] at e
        simp only [Option.map_some, hk', Bool.false_and, Bool.false_eq_true, if_false, Option.some.injEq] at e
        rcases e with rfl | e
        · exact cenv_own eo so m
        · exact absurd e hk
  · rcases cenv_cells eo so e with ⟨_, m⟩ | ⟨_, q⟩
    · have := (ok.empty x c m).2; omega
    · exact eo.clo x c q
  · rcases cenv_cells eo so e1 with ⟨_, m1⟩ | ⟨_, q1⟩ <;> rcases cenv_cells eo so e2 with ⟨_, m2⟩ | ⟨_, q2⟩
    · exact name_of_addr ok.apart m1 m2
    · exact absurd (hlt y c q2) (Nat.not_lt.mpr (Nat.le_of_succ_le (ok.empty x c m1).2))
    · exact absurd (hlt x c q1) (Nat.not_lt.mpr (Nat.le_of_succ_le (ok.empty y c m2).2))
    · exact eo.inj x y c q1 q2

theorem new_cenv {s : Shared} {cl : List (Str × Addr)} {Q : Env → Shared → Prop} {E : Value → Shared → Prop} {g : Addr} {q : Str}
    (h : Q (newEnv scope s.heap.objs.size g (cellsFrom (s.heap.objs.size + 1) scope.names cl) q none .none (some env) builtinsNs) { s with heap := pushCells (s.heap.push { cls := .type "dict", data := .dict #[] }) scope.names }) :
    wpAny (model X.prog X.w) A (newFunctionEnv scope g cl [] q none .none (some env)) Q E s := by
  simp only [newFunctionEnv, Option.isSome_some, if_true]
  refine wpAny_bind (wpAny_alloc ?_)
  refine wpAny_bind (wpAny_layCells _ (fun name kind cells => by cases hkc : kind == NameKind.cell <;> simp [hkc]) _ _ _ _ ?_)
  rw [show ({ s with heap := s.heap.push { cls := .type "dict", data := .dict #[] } } : Shared).heap.objs.size = s.heap.objs.size + 1 from Heap.size_push ..]
  exact wpAny_bind (wpAny_pure (wpAny_pure h))

theorem getV_filter {x : Nat} {v : V} : ∀ {ρ : Rho}, getV (ρ.filter fun p => caps.contains p.1) x = some v → x ∈ caps ∧ getV ρ x = some v := by
  intro ρ
  unfold getV
  induction ρ with
  | nil => intro h; cases h
  | cons p r ih =>
    obtain ⟨y, u⟩ := p
    intro h
    rw [List.filter_cons] at h
    by_cases hc : caps.contains y = true
    · rw [if_pos hc, List.lookup_cons] at h
      rw [List.lookup_cons]
      cases e : x == y with
      | true =>
        rw [e] at h
        have := beq_iff_eq.mp e; subst this
        exact ⟨by simpa using hc, h⟩
      | false => rw [e] at h; exact ih h
    · rw [if_neg hc] at h
      obtain ⟨h1, h2⟩ := ih h
      refine ⟨h1, ?_⟩
      rw [List.lookup_cons]
      cases e : x == y with
      | true =>
        have := beq_iff_eq.mp e; subst this
        exact absurd (by simpa using h1) hc
      | false => exact h2

theorem kind_of_varAt {val : Value} {x : Str} (v : VarAt h env x val) (hk : env.kindOf x = some .cell ∨ env.kindOf x = some .free) : ∃ c, env.cells.lookup x = some c ∧ h.IsCell c (some val) := by
  rcases v with ⟨q, _⟩ | ⟨_, r⟩
  · rcases hk with e | e <;> (rw [q] at e; cases e)
  · exact r

/-- the comprehension's own state at its start -/
theorem St.comp (eo : EnvOk X env sc) (so : ScOk sc caps scope) {h₁ : Heap} (st : St X A env 0 σ ρ W h₁) {hp h₄ : Heap} {Dl : Addr} (hD : Dl = h₁.objs.size) (hCz : C = Dl + 1)
    (hp_def : hp = (h₁.push { cls := .type "list", dict := none, data := .seq ([] : List Value).toArray }).push { cls := .type "dict", data := .dict #[] }) (h4_def : h₄ = pushCells hp scope.names) :
    CI X A (cenv scope env C) σ (ρ.filter fun p => caps.contains p.1) (live σ W) h₁ W Dl (W ++ [some []]) h₄ ∧ EnvOk X (cenv scope env C) scope.names ∧ Kept h₁ h₄ := by
  have k2 : Kept h₁ hp := by rw [hp_def]; exact (kept_push _ _).trans (kept_push _ _)
  have k : Kept h₁ h₄ := k2.trans (by rw [h4_def]; exact pushCells_keeps _ _)
  have hsz : hp.objs.size = C + 1 := by rw [hp_def, Heap.size_push, Heap.size_push, hCz, hD]
  have lt : ∀ {a o}, h₁.get? a = some o → a < Dl := fun e => hD ▸ Heap.lt_size e
  have hlo : X.B ≤ Dl := by
    obtain ⟨m, o, _, _, ho, _⟩ := st.ns
    exact Nat.le_of_lt (Nat.lt_of_le_of_lt eo.lo (lt ho))
  have hcl : ∀ x c, env.cells.lookup x = some c → c < C := fun x c e => by
    obtain ⟨v, o, ho, _⟩ := st.cel x c e
    rw [hCz]; exact Nat.lt_succ_of_lt (lt ho)
  have eo' := EnvOk.comp (scope := scope) eo so (C := C) (by rw [hCz]; exact Nat.le_succ_of_le hlo) hcl hsz
  have ok := cellsFrom_ok scope.names hp (C + 1) [] ⟨fun _ _ hm => (nomatch hm), List.Pairwise.nil⟩ (by first | decide | omega)
  rw [hsz, ← h4_def] at ok
  have hlistD : h₄.get? Dl = some { cls := .type "list", dict := none, data := .seq ([] : List Value).toArray } := by
    rw [h4_def]
    refine pushCells_keeps _ _ _ _ ?_
    rw [hp_def, hD]
    exact Heap.get?_push_of_some _ (Heap.get?_push_size _ rfl)
  have hDict : h₄.Ns C fun _ => none := by
    have : hp.Ns C fun _ => none := by
      have q := Heap.Ns.new (h₁.push { cls := .type "list", dict := none, data := .seq ([] : List Value).toArray }) (.type "dict")
      rw [Heap.size_push, ← hD, ← hCz] at q
      rw [hp_def]; exact q
    exact this.keeps (by rw [h4_def]; exact pushCells_keeps _ _)
  have cases1 : ∀ {j : Nat} {ds : List D} {a : Addr}, (W ++ [some []])[j]? = some (some ds) → (σ ++ [Dl])[j]? = some a → (W[j]? = some (some ds) ∧ σ[j]? = some a) ∨ (j = W.length ∧ a = Dl ∧ ds = []) := fun {j ds a} h1 h2 => by
    have hl := st.sto.len
    by_cases hj : j < W.length
    · rw [List.getElem?_append_left hj] at h1
      rw [List.getElem?_append_left (by first | decide | omega)] at h2
      exact .inl ⟨h1, h2⟩
    · rw [List.getElem?_append_right (by first | decide | omega)] at h1
      rw [List.getElem?_append_right (by first | decide | omega)] at h2
      have : j - W.length = 0 := by
        by_cases q : j - W.length = 0
        · exact q
        · rw [List.getElem?_eq_none (by simp; omega)] at h1; cases h1
      rw [this] at h1
      rw [← hl, this] at h2
      simp at h1 h2
      exact .inr ⟨by omega, h2.symm, h1⟩
  have liveO : ∀ a o, h₁.get? a = some o → live (σ ++ [Dl]) (W ++ [some []]) a → live σ W a := fun a o e l => live_ext (W₁ := W) st.sto.len.symm (by rw [List.take_left]; exact .refl W) (Heap.get?_none_of_le (Nat.le_of_eq hD.symm)) e l
  have stk := st.kp k.kp
  refine ⟨⟨⟨stk.base, stk.frs, ⟨_, hDict⟩, fun x c e => ?_, fun x v e => ?_, ⟨?_, ?_, ?_, ?_⟩, ⟨st.hnd.zero, fun q => absurd q (by decide)⟩⟩, k.keep, ?_, ?_, ?_, ?_⟩, eo', k⟩
  · rcases cenv_cells eo so e with ⟨_, m⟩ | ⟨_, q⟩
    · exact ⟨_, (ok.empty x c m).1⟩
    · exact stk.cel x c q
  · obtain ⟨hx, hg⟩ := getV_filter e
    obtain ⟨hlt, val, h1, h2⟩ := st.vars x v hg
    obtain ⟨_, hf⟩ := so.caps x hx
    have hm := mem_of_lookup hf
    have hk := (free_cell eo so hm).1
    obtain ⟨c, hc, hv⟩ := kind_of_varAt h1 hk
    refine ⟨hlt, val, .inr ⟨?_, c, cenv_free eo so hm hc, hv.keeps k⟩, ?_⟩
    · exact eo'.scf _ hf
    · cases v with
      | dat d => exact (Rd.weaken liveO h2).kept k
      | mref j =>
        obtain ⟨a, ha, hv⟩ := h2
        exact ⟨a, by rw [List.getElem?_append_left ((List.getElem?_eq_some_iff.mp ha).1)]; exact ha, hv⟩
  · simp [st.sto.len]
  · intro i j ds es a h1 h2 h3 h4
    rcases cases1 h1 h3 with ⟨a1, b1⟩ | ⟨a1, b1⟩ <;> rcases cases1 h2 h4 with ⟨a2, b2⟩ | ⟨a2, b2⟩
    · exact st.sto.nodup i j _ _ a a1 a2 b1 b2
    · obtain ⟨o, ho⟩ := live_there st.sto ⟨i, _, a1, b1⟩
      exact absurd (lt ho) (by rw [b2.1]; exact Nat.lt_irrefl _)
    · obtain ⟨o, ho⟩ := live_there st.sto ⟨j, _, a2, b2⟩
      exact absurd (lt ho) (by rw [b1.1]; exact Nat.lt_irrefl _)
    · rw [a1, a2]
  · intro a ha
    rcases List.mem_append.mp ha with q | q
    · exact st.sto.lo a q
    · rw [List.mem_singleton.mp q]; exact hlo
  · intro j ds a h1 h2
    rcases cases1 h1 h2 with ⟨a1, b1⟩ | ⟨a1, b1, c1⟩
    · obtain ⟨vs, q, h3, h4⟩ := st.sto.lst j ds a a1 b1
      exact ⟨vs, q, k _ _ h3, (h4.weaken liveO).kept k⟩
    · subst b1 c1
      exact ⟨[], _, hlistD, .nil⟩
  · intro a o e l
    exact liveO a o e l
  · rw [List.take_left]; exact .refl W
  · simp
  · exact st.sto.len.symm
end
end Mine
end
section
open PySem PySem.W PyProof.Rows PySem.Calls
set_option maxRecDepth 100000
set_option linter.unusedVariables false
set_option linter.unusedSimpArgs false
namespace Mine

section
variable {X : Cx} {n m : Nat} {A : Around} {env : Env} {sc : Sc} {σ : List Addr} {ρ : Rho}

theorem sto_take {h : Heap} {W : Sto} {Dl : Addr} {k : Nat} (s : StoAt X h (σ ++ [Dl]) W) (hk : k = σ.length) : StoAt X h σ (W.take k) := by
  have hl : W.length = σ.length + 1 := by rw [s.len]; simp
  have up : ∀ {j : Nat} {ds : List D} {a : Addr}, (W.take k)[j]? = some (some ds) → σ[j]? = some a → W[j]? = some (some ds) ∧ (σ ++ [Dl])[j]? = some a := fun {j ds a} h1 h2 => by
    have hj := (List.getElem?_eq_some_iff.mp h2).1
    rw [List.getElem?_take_of_lt (by first | decide | omega)] at h1
    exact ⟨h1, by rw [List.getElem?_append_left hj]; exact h2⟩
  refine ⟨by rw [List.length_take]; omega, fun i j ds es a h1 h2 h3 h4 => ?_, fun a ha => s.lo a (List.mem_append.mpr (.inl ha)), fun j ds a h1 h2 => ?_⟩
  · obtain ⟨a1, b1⟩ := up h1 h3
    obtain ⟨a2, b2⟩ := up h2 h4
    exact s.nodup i j ds es a a1 a2 b1 b2
  · obtain ⟨a1, b1⟩ := up h1 h2
    obtain ⟨vs, q, h3, h4⟩ := s.lst j ds a a1 b1
    refine ⟨vs, q, h3, h4.weaken fun b o e l => ?_⟩
    obtain ⟨i, es, l1, l2⟩ := l
    obtain ⟨l1, l2⟩ := up l1 l2
    exact ⟨i, es, l1, l2⟩
theorem rd_last {h : Heap} {W : Sto} {Dl : Addr} {k : Nat} {r : List D} (s : StoAt X h (σ ++ [Dl]) W) (hk : k = σ.length) (hr : W[k]? = some (some r)) : Rd h (live σ (W.take k)) (.ref Dl) (.list r) := by
  have hσ : (σ ++ [Dl])[k]? = some Dl := by rw [hk]; simp
  have up : ∀ {b}, live σ (W.take k) b → ∃ j es, j < k ∧ W[j]? = some (some es) ∧ (σ ++ [Dl])[j]? = some b := fun {b} l => by
    obtain ⟨j, es, l1, l2⟩ := l
    have hj := (List.getElem?_eq_some_iff.mp l2).1
    rw [List.getElem?_take_of_lt (by first | decide | omega)] at l1
    exact ⟨j, es, by omega, l1, by rw [List.getElem?_append_left hj]; exact l2⟩
  obtain ⟨vs, q, h3, h4⟩ := s.lst k r Dl hr hσ
  refine .list h3 (h4.weaken fun b o e l => ?_) fun l => ?_
  · obtain ⟨j, es, _, l1, l2⟩ := up l
    exact ⟨j, es, l1, l2⟩
  · obtain ⟨j, es, hj, l1, l2⟩ := up l
    have := s.nodup j k _ _ Dl l1 hr l2 hσ
    omega

theorem CI.out {ce : Env} {ρc : Rho} {W W1 W2 : Sto} {Dl : Addr} {h h' : Heap} {r : List D} (c : CI X A ce σ ρc (live σ W) h W1 Dl W2 h') (st : St X A env 0 σ ρ W h) (d : Dec W W1) (hr : W2[W1.length]? = some (some r)) :
    St X A env 0 σ ρ (W2.take W1.length) h' ∧ Dec W (W2.take W1.length) ∧ Rd h' (live σ (W2.take W1.length)) (.ref Dl) (.list r) :=
  have dd := d.trans c.dc
  ⟨st.step c.kp dd (sto_take c.st.sto c.sl.symm), dd, rd_last c.st.sto c.sl.symm hr⟩

/-- a namespace of no other frame goes -/
theorem keep_letGo {T : Adr} {B : Nat} {C : Addr} {h h' h'' : Heap} (k : Keep B T h h') (fr : h.get? C = none) (sb : Heap.SameBut C h' h'') : Keep B T h h'' := by
  have ne : ∀ {a o}, h.get? a = some o → a ≠ C := fun e q => by subst q; rw [fr] at e; cases e
  refine ⟨fun a o e n => ?_, fun a o e => ?_⟩
  · obtain ⟨o', e', s⟩ := k.obj a o e n
    exact ⟨o', (sb.2 a (ne e)).trans e', s⟩
  · obtain ⟨o', e'⟩ := k.all a o e
    exact ⟨o', (sb.2 a (ne e)).trans e'⟩
theorem rd_dict {N : Adr} {C : Addr} {h h' : Heap} {m} (hn : h.Ns C m) (sb : Heap.SameBut C h h') : ∀ {v : Value} {d : D}, Rd h N v d → Rd h' N v d := by
  have key : ∀ a c xs n, h.get? a = some { cls := c, data := .seq xs n } → h'.get? a = some { cls := c, data := .seq xs n } := fun a c xs n e => by
    rw [sb.2 a ?_]; exact e
    rintro rfl; obtain ⟨o, es, ep, ho, hd, _⟩ := hn; rw [ho] at e; cases e; cases hd
  intro v d r
  exact Rd.rec (motive_1 := fun v d _ => Rd h' N v d) (motive_2 := fun vs ds _ => RdAll h' N vs ds) .none (fun b => .bool b) (fun i t => .int i t) (fun h1 _ h3 ih => .list (key _ _ _ _ h1) ih h3) (fun h1 _ ih => .tup (key _ _ _ _ h1) ih) .nil (fun _ _ a b => .cons a b) r
theorem rdAll_dict {N : Adr} {C : Addr} {h h' : Heap} {m} (hn : h.Ns C m) (sb : Heap.SameBut C h h') : ∀ {vs : List Value} {ds : List D}, RdAll h N vs ds → RdAll h' N vs ds
  | [], [], .nil => .nil
  | _ :: _, _ :: _, .cons r rs => .cons (rd_dict hn sb r) (rdAll_dict hn sb rs)

theorem St.letGo {hd hd0 : Nat} {σ0 : List Addr} {ρ0 : Rho} {W0 W : Sto} {h0 h h' : Heap} {C : Addr} {m} (st : St X A env hd σ ρ W h) (st0 : St X A env hd0 σ0 ρ0 W0 h0) (fr : h0.get? C = none) (hn : h.Ns C m) (sb : Heap.SameBut C h h') : St X A env hd σ ρ W h' := by
  have ne : ∀ {a o}, h0.get? a = some o → a ≠ C := fun e q => by subst q; rw [fr] at e; cases e
  have neL : env.locals ≠ C := by obtain ⟨m, o, _, _, ho, _⟩ := st0.ns; exact ne ho
  have neC : ∀ x c, env.cells.lookup x = some c → c ≠ C := fun x c e => by obtain ⟨v, o, ho, _⟩ := st0.cel x c e; exact ne ho
  refine ⟨fun a o e => (sb.2 a (ne (st0.base a o e))).trans (st.base a o e), ?_, ?_, fun x c e => ?_, fun x v e => ?_, ⟨st.sto.len, st.sto.nodup, st.sto.lo, fun j ds a h1 h2 => ?_⟩, ⟨st.hnd.zero, fun q => ?_⟩⟩
  · obtain ⟨fs, h1, h2⟩ := st.frs
    obtain ⟨fs0, g1, g2⟩ := st0.frs
    rw [h1] at g1; cases g1
    refine ⟨fs, h1, fun e he => ?_⟩
    obtain ⟨hk, L, mL, e1, e2, e3⟩ := h2 e he
    obtain ⟨_, L', mL', e1', e2', e3'⟩ := g2 e he
    rw [e1] at e1'; cases e1'
    have : L ≠ C := by obtain ⟨o, _, _, ho, _⟩ := e3'; exact ne ho
    exact ⟨hk, L, mL, e1, e2, e3.sameBut sb this⟩
  · obtain ⟨mL, hm⟩ := st.ns
    exact ⟨mL, hm.sameBut sb neL⟩
  · obtain ⟨v, hv⟩ := st.cel x c e
    exact ⟨v, hv.sameBut sb (neC x c e)⟩
  · obtain ⟨hlt, val, h1, h2⟩ := st.vars x v e
    refine ⟨hlt, val, ?_, ?_⟩
    · rcases h1 with ⟨hk, mL, h1, h3⟩ | ⟨hk, c, hc, hv⟩
      · exact .inl ⟨hk, mL, h1.sameBut sb neL, h3⟩
      · exact .inr ⟨hk, c, hc, hv.sameBut sb (neC _ c hc)⟩
    · cases v with
      | dat d => exact rd_dict hn sb h2
      | mref k => exact h2
  · obtain ⟨vs, q, h3, h4⟩ := st.sto.lst j ds a h1 h2
    refine ⟨vs, q, ?_, rdAll_dict hn sb h4⟩
    rw [sb.2 a ?_]; exact h3
    rintro rfl; obtain ⟨o, es, ep, ho, hd, _⟩ := hn; rw [ho] at h3; cases h3; cases hd
  · obtain ⟨e, h1, o, vs, ho, hd', h2⟩ := st.hnd.one q
    refine ⟨e, h1, o, vs, ?_, hd', h2⟩
    rw [sb.2 e ?_]; exact ho
    rintro rfl; obtain ⟨o', es, ep, ho', hd'', _⟩ := hn; rw [ho] at ho'; cases ho'; rw [hd'] at hd''; cases hd''

/-- the comprehension's body -/
noncomputable def compRes (fs : List Fn) (n : Nat) (caps : List Nat) (elt : E) (t : Nat) (it : E) (ifs : List E) (rest : List (Nat × E × List E)) (ρ : Rho) (W : Sto) : Res D :=
  (evI fs n ρ it W).bind fun ds W1 => (noExc (evG fs n (ρ.filter fun p => caps.contains p.1) t ifs rest elt ds W1.length (W1 ++ [some []]))).bind fun _ W2 => takeR W1.length W2

theorem res_ok {α : Type} {r : Res α} (h : noExc r ≠ .bad) : ∃ a W, r = .ok a W ∧ noExc r = .ok a W := by
  cases r with
  | ok a W => exact ⟨a, W, rfl, rfl⟩
  | exc c W => exact absurd rfl h
  | bad => exact absurd rfl h

theorem tgt_new {caps : List Nat} {scope : Scope} {C : Addr} (eo : EnvOk X env sc) (so : ScOk sc caps scope) (eo' : EnvOk X (cenv scope env C) scope.names) {hp : Heap} (hs : hp.objs.size = C + 1) {y : Str} (ht : isTgt scope.names y = true) : C ≤ tgt (cenv scope env C) y := by
  have ok := cellsFrom_ok scope.names hp (C + 1) [] ⟨fun _ _ hm => (nomatch hm), List.Pairwise.nil⟩ (by first | decide | omega)
  rw [hs] at ok
  unfold isTgt at ht
  unfold tgt
  split
  · exact Nat.le_refl _
  · rename_i hn
    split at ht
    · rename_i q; exact absurd (eo'.scn _ _ q (by decide)) hn
    · rename_i q
      obtain ⟨c, hc⟩ := eo'.cap _ (.inl (eo'.scn _ _ q (by decide)))
      rw [hc]
      rcases cenv_cells eo so hc with ⟨_, m⟩ | ⟨m, _⟩
      · exact Nat.le_of_succ_le (ok.empty y c m).2
      · rw [(so.fre y m).1] at q; cases q
    · cases ht

theorem inv_G {t : Nat} {it : E} {ifs : List E} {tg ix : PySem.Expr} {fx : List PySem.Expr} {as : Int} (h : chG m sc (t, it, ifs) ⟨tg, ix, fx, as⟩ = true) :
    ∃ m' y q, m = m' + 1 ∧ tg = .Name y q ∧ as = 0 ∧ isNm y t = true ∧ isTgt sc y = true ∧ chE m' sc it ix = true ∧ all2 (chE m' sc) ifs fx = true := by
  cases m with
  | zero => exact absurd h Bool.false_ne_true
  | succ m =>
    replace h : kG sc (chE m sc) (t, it, ifs) ⟨tg, ix, fx, as⟩ = true := h
    unfold kG at h
    dsimp only at h
    refine aP h fun t0 (e0 : tg = .Name t0.1 t0.2) h => ?_
    simp only [Bool.and_eq_true, beq_iff_eq, and_assoc] at h
    exact ⟨m, _, _, rfl, e0, h.1, h.2⟩

theorem comp_whole {caps : List Nat} {elt it : E} {t : Nat} {ifs : List E} {rest : List (Nat × E × List E)} {ex ix : PySem.Expr} {y : Str} {q p pp : Pos} {fx : List PySem.Expr} {gs : List Comprehension} {scope : Scope} {use : Option (Value → Sem Unit)} {Q : Value → Shared → Prop} {E : Value → Shared → Prop}
    (ihs : ∀ k ≤ n, IHI X k) (eo : EnvOk X env sc) (ok : OkA n A) (so' : scopeOk sc caps scope = true) (hy : isNm y t = true) (ht : isTgt scope.names y = true) (hit : chE m sc it ix = true) (hfx : all2 (chE m scope.names) ifs fx = true)
    (hgs : all2 (chG m scope.names) rest gs = true) (hel : chE m scope.names elt ex = true) (hlen : rest.length ≤ 1) (co : compOk caps ((t, it, ifs) :: rest) = true) {W : Sto} {s : Shared} (st : St X A env 0 σ ρ W s.heap)
    (hne : compRes fns n caps elt t it ifs rest ρ W ≠ .bad) (up : ∀ v s', XE X A env 0 σ ρ s W (compRes fns n caps elt t it ifs rest ρ W) v s' → E v s')
    (K : ∀ Dl C d W' s' mC, compRes fns n caps elt t it ifs rest ρ W = .ok d W' → Stp s s' → Keep X.B (live σ W) s.heap s'.heap → Dec W W' → St X A env 0 σ ρ W' s'.heap → Rd s'.heap (live σ W') (.ref Dl) d → s.heap.get? C = none → s'.heap.Ns C mC →
      compPost (model X.prog X.w) A E use Q (.ref Dl) C (.ok .next) s') :
    wpAny (model X.prog X.w) A (comprehension (.ListComp ex (⟨.Name y q, ix, fx, 0⟩ :: gs) scope p) scope env pp (newList []) false (eval ix env) use) Q E s := by
  have so := scOk_of so'
  refine wpAny_comprehension_free (use := use) rfl (ch_notSet hit) (closure_eq fun x hx hk => ?_) so.kind (fun x hx hk => so.loc x.1 (by rw [← hk]; exact hx)) ?_
  · obtain ⟨a, b⟩ := x
    dsimp only at hk
    subst hk
    exact (free_cell eo so hx).2
  unfold compRes at hne up K
  refine (ihs n (Nat.le_refl n)).I hit eo ok W s st (bind_ne hne) _ _ (fun v s' xe => up v s' xe.cast) fun I ds W1 s1 e1 p1 k1 d1 st1 i1 fr1 => ?_
  rw [e1] at hne K
  simp only [Res.bind] at hne K
  obtain ⟨u, W2, e2, e2'⟩ := res_ok (bind_ne hne)
  rw [e2'] at hne K
  simp only [Res.bind] at hne K
  have e3 : ∃ r, W2[W1.length]? = some (some r) ∧ takeR W1.length W2 = .ok (.list r) (W2.take W1.length) := by
    unfold takeR at hne ⊢
    split at hne
    · rename_i r hr
      split at hne
      · rename_i hf; exact ⟨r, hr, by rw [if_pos hf]⟩
      · exact absurd rfl hne
    · exact absurd rfl hne
  obtain ⟨r, hr, e3⟩ := e3
  rw [e3] at K
  refine wpAny_newObj_type (new_cenv ?_)
  have hCz : (s1.heap.push { cls := .type "list", dict := none, data := .seq ([] : List Value).toArray }).objs.size = s1.heap.objs.size + 1 := Heap.size_push ..
  generalize hC : (s1.heap.push { cls := .type "list", dict := none, data := .seq ([] : List Value).toArray }).objs.size = C at hCz ⊢
  generalize hDl : s1.heap.objs.size = Dl at hCz ⊢
  generalize hhp : (s1.heap.push { cls := .type "list", dict := none, data := .seq ([] : List Value).toArray }).push { cls := .type "dict", data := .dict #[] } = hp
  generalize hh4 : pushCells hp scope.names = h4
  have hps : hp.objs.size = C + 1 := by rw [← hhp, Heap.size_push, hC]
  obtain ⟨ci, eo', kk⟩ := St.comp (caps := caps) (scope := scope) (C := C) eo so st1 hDl.symm hCz hhp.symm hh4.symm
  have ci' : CI X A (cenv scope env C) σ (ρ.filter fun p => caps.contains p.1) (live σ W) s.heap W1 Dl (W1 ++ [some []]) h4 :=
    ⟨ci.st, k1.trans ci.kp fun a o e l => d1.live σ a l, fun a o e l => by
      obtain ⟨o', e'⟩ := k1.all a o e
      exact d1.live σ a (ci.ok a o' e' l), ci.dc, ci.ln, ci.sl⟩
  have i4 : It h4 (live (σ ++ [Dl]) (W1 ++ [some []])) I ds :=
    i1.keep (B := X.B) (T := fun _ => False) kk.keep (fun _ _ t _ => t.elim) st1.sto.noTup (fun a o l e => (live_isList st1.sto l e).2) ci.ok
  have frC : ∀ a, C ≤ a → s.heap.get? a = none := fun a ha => fresh_back k1 (Heap.get?_none_of_le (by rw [hDl]; exact Nat.le_trans (by rw [hCz]; exact Nat.le_succ _) ha))
  have frt : ∀ {y : Str}, isTgt scope.names y = true → ∀ o, s.heap.get? (tgt (cenv scope env C) y) = some o → live σ W (tgt (cenv scope env C) y) := fun hty o e => by
    rw [frC _ (tgt_new eo so eo' hps hty)] at e; cases e
  have p4 : Stp s { s1 with heap := h4 } := p1.trans (.mk s1 h4 s1.toks)
  unfold compOk at co
  rw [Bool.and_eq_true, List.all_cons, Bool.and_eq_true] at co
  have noCap : ∀ {z : Nat}, (!caps.contains z) = true → getV (ρ.filter fun p => caps.contains p.1) z = none := fun {z} hz => by
    cases hg : getV (ρ.filter fun p => caps.contains p.1) z with
    | none => rfl
    | some v =>
      have := (getV_filter hg).1
      simp at hz
      exact absurd this hz
  have fin : ∀ s', CI X A (cenv scope env C) σ (ρ.filter fun p => caps.contains p.1) (live σ W) s.heap W1 Dl W2 s'.heap → Stp s s' → compPost (model X.prog X.w) A E use Q (.ref Dl) C (.ok .next) s' := fun s' c p' => by
    obtain ⟨a1, a2, a3⟩ := c.out st d1 hr
    obtain ⟨mC, hmC⟩ := c.st.ns
    exact K Dl C _ _ s' mC rfl p' c.kp a2 a1 a3 (frC C (Nat.le_refl _)) hmC
  show codeAny _ _ (.compStart _ 0 (.ref I) (.ref Dl) (cenv scope env C)) _ { s1 with heap := h4 }
  refine comp_start0 (N := live (σ ++ [Dl]) (W1 ++ [some []])) rfl i4 ?_
  cases n with
  | zero => rw [evG] at e2; cases e2
  | succ n' =>
  rw [evG] at e2
  cases rest with
  | nil =>
    cases gs with
    | cons _ _ => simp [all2] at hgs
    | nil =>
      exact comp_last (ihs n' (by first | decide | omega)) (m := m) eo' ok.pred (st.hnd.zero rfl) (fun it acc => turn1 ex (.Name y q) ix fx scope p it acc _) hy ht hfx hel (frt ht) st.base (noCap co.1.1) fr1 (s0 := s) (W' := W2) (u := u) fin ds _ { s1 with heap := h4 } ci' i4 e2 p4
  | cons g rest' =>
    cases rest' with
    | cons _ _ => simp at hlen
    | nil =>
      cases gs with
      | nil => simp [all2] at hgs
      | cons g' gs' =>
        cases gs' with
        | cons _ _ => simp [all2] at hgs
        | nil =>
          obtain ⟨t', it', ifs'⟩ := g
          obtain ⟨tg', ix', fx', as'⟩ := g'
          have hg : chG m scope.names (t', it', ifs') ⟨tg', ix', fx', as'⟩ = true := by simpa [all2] using hgs
          obtain ⟨m', y', q', hm, rfl, rfl, h1, h2, h3, h4'⟩ := inv_G hg
          rw [List.all_cons, Bool.and_eq_true] at co
          have htt : t' ≠ t := by
            have := of_decide_eq_true co.2
            simp at this
            exact fun q => this q.symm
          exact comp_first (fun k hk => ihs k (by first | decide | omega)) (m := m) (m' := m') eo' ok.pred (st.hnd.zero rfl) hy ht hfx hel h1 h2 h4' h3 (frt ht) (frt h2) st.base (noCap co.1.1) (noCap co.1.2.1) htt fr1 (s0 := s) (W' := W2) (u := u) fin ds _ { s1 with heap := h4 } ci' i4 e2 p4
end
end Mine
end
section
open PySem PySem.W PyProof.Rows PySem.Calls
set_option maxRecDepth 100000
set_option linter.unusedVariables false
set_option linter.unusedSimpArgs false
namespace Mine

/-- an IndexError with a traceback whose flight stands at fl -/
noncomputable def Tr (h0 h : Heap) (e : Addr) (c : Bool) (fl : Value) : Prop :=
  ∃ o vs T oT ts, h0.get? e = none ∧ h.get? e = some o ∧ o.cls = .type "IndexError" ∧ o.data = .fields vs ∧ (c = true → vs[2]? = some .none) ∧ vs[1]? = some (.ref T) ∧ h0.get? T = none ∧ T ≠ e ∧ h.get? T = some oT ∧ oT.data = .fields ts ∧ ts[3]? = some fl
noncomputable def ExcAt (h0 h : Heap) (L : Addr) (c : Bool) (x : Value) : Prop := ∃ e, x = .ref e ∧ (ExcNew h0 h c (.ref e) ∨ Tr h0 h e c (rawInt L))

/-- a frame of a function, and the ones below it -/
structure FrA (A : Around) (env : Env) : Prop where
  own : env.frame = some env.locals
  frs : ∃ outer, A.frames = some (env :: outer)

/-- young records -/
noncomputable def Yr (h0 h : Heap) : Adr := fun a => h0.get? a = none ∧ ∀ o, h.get? a = some o → ∃ vs, o.data = .fields vs

section
variable {B : Nat} {T N : Adr} {h h' : Heap}
mutual
theorem Rd.keepF (k : Keep B T h h') (hT : ∀ a o, T a → h.get? a = some o → ∃ vs, o.data = .fields vs) : ∀ {v : Value} {d : D}, Rd h N v d → Rd h' N v d
  | _, _, .none => .none
  | _, _, .bool b => .bool b
  | _, _, .int i t => .int i t
  | _, _, .list h1 h2 h3 => by
    obtain ⟨o', e', s⟩ := k.obj _ _ h1 fun t => by obtain ⟨vs, q⟩ := hT _ _ t h1; cases q
    rw [s.eq fun es ep q => by cases q] at e'
    exact .list e' (RdAll.keepF k hT h2) h3
  | _, _, .tup h1 h2 => by
    obtain ⟨o', e', s⟩ := k.obj _ _ h1 fun t => by obtain ⟨vs, q⟩ := hT _ _ t h1; cases q
    rw [s.eq fun es ep q => by cases q] at e'
    exact .tup e' (RdAll.keepF k hT h2)
theorem RdAll.keepF (k : Keep B T h h') (hT : ∀ a o, T a → h.get? a = some o → ∃ vs, o.data = .fields vs) : ∀ {vs : List Value} {ds : List D}, RdAll h N vs ds → RdAll h' N vs ds
  | _, _, .nil => .nil
  | _, _, .cons r rs => .cons (Rd.keepF k hT r) (RdAll.keepF k hT rs)
end
end

section
variable {X : Cx} {A : Around} {env : Env} {sc : Sc} {hd : Nat} {σ σ0 : List Addr} {ρ ρ0 : Rho} {W W0 : Sto} {h0 h h' : Heap}

theorem St.yr {hd0 : Nat} {A0 : Around} (st : St X A env hd σ ρ W h) (st0 : St X A0 env hd0 σ0 ρ0 W0 h0) (hA : hd = 1 → ∃ e, A.handled = some (.ref e) ∧ ∃ o, h0.get? e = some o) (k : Keep X.B (Yr h0 h) h h') : St X A env hd σ ρ W h' := by
  have hT : ∀ a o, Yr h0 h a → h.get? a = some o → ∃ vs, o.data = .fields vs := fun a o y e => y.2 o e
  have nns : ∀ {L m}, h.Ns L m → ¬ Yr h0 h L := fun {L m} hn y => by
    obtain ⟨o, es, ep, ho, hd, _⟩ := hn
    obtain ⟨vs, q⟩ := y.2 o ho; rw [hd] at q; cases q
  have ncl : ∀ {c v}, h.IsCell c v → ¬ Yr h0 h c := fun {c v} hn y => by
    obtain ⟨o, ho, hd⟩ := hn
    obtain ⟨vs, q⟩ := y.2 o ho; rw [hd] at q; cases q
  refine ⟨fun a o e => ?_, ?_, ?_, fun x c e => ?_, fun x v e => ?_, ⟨st.sto.len, st.sto.nodup, st.sto.lo, fun j ds a h1 h2 => ?_⟩, ⟨st.hnd.zero, fun q => ?_⟩⟩
  · obtain ⟨o', e', s⟩ := k.obj a o (st.base a o e) fun y => by have := st0.base a o e; rw [y.1] at this; cases this
    rcases s with rfl | ⟨hb, _⟩
    · exact e'
    · exact absurd (Heap.lt_size e) (Nat.not_lt.mpr hb)
  · obtain ⟨fs, h1, h2⟩ := st.frs
    exact ⟨fs, h1, h2.keep k fun L m t hn => absurd t (nns hn)⟩
  · obtain ⟨m, hm⟩ := st.ns
    exact ⟨m, k.ns hm (nns hm)⟩
  · obtain ⟨v, hv⟩ := st.cel x c e
    exact ⟨v, k.isCell hv (ncl hv)⟩
  · obtain ⟨hlt, val, h1, h2⟩ := st.vars x v e
    refine ⟨hlt, val, h1.keep k (fun m hn => nns hn) (fun c v _ hv => ncl hv), ?_⟩
    cases v with
    | dat d => exact Rd.keepF k hT h2
    | mref j => exact h2
  · obtain ⟨vs, q, h3, h4⟩ := st.sto.lst j ds a h1 h2
    obtain ⟨o', e', s⟩ := k.obj _ _ h3 fun y => by obtain ⟨vs, q⟩ := y.2 _ h3; cases q
    rw [s.eq fun es ep q => by cases q] at e'
    exact ⟨vs, q, e', RdAll.keepF k hT h4⟩
  · obtain ⟨e, h1, o, vs, ho, hd', h2⟩ := st.hnd.one q
    obtain ⟨e2, h1', o2, ho2⟩ := hA q
    rw [h1] at h1'; cases h1'
    obtain ⟨o', ho', s⟩ := k.obj e o ho fun y => by rw [y.1] at ho2; cases ho2
    rw [s.eq fun es ep q => by rw [hd'] at q; cases q] at ho'
    exact ⟨e, h1, o, vs, ho', hd', h2⟩

theorem funFrames_of {fs : List Env} (f : Frs X h fs) : h.FunFrames X.h₀ fs := by
  induction fs with
  | nil => trivial
  | cons e r ih =>
    obtain ⟨hk, L, m, h1, h2, o, es, ep, ho, hd, _⟩ := f e (.head _)
    refine ⟨by rw [hk]; decide, ⟨L, o, h1, ?_, ho, fun vs q => by rw [hd] at q; cases q⟩, ih fun e' he' => f e' (.tail _ he')⟩
    exact Heap.get?_none_of_le h2

theorem slots_keep {fs : List Env} {h1 : Heap} (f : Frs X h fs) (so : Heap.SlotsOnly (fs.filterMap (·.frame)) h h1) : Keep X.B (fun _ => False) h h1 := by
  refine ⟨fun a o e _ => ?_, fun a o e => let ⟨sl, q⟩ := so.2.2 a o e; ⟨_, q⟩⟩
  by_cases hm : a ∈ fs.filterMap (·.frame)
  · obtain ⟨sl, q⟩ := so.2.2 a o e
    obtain ⟨env, he, hf⟩ := List.mem_filterMap.mp hm
    obtain ⟨_, L, m, e1, e2, hn⟩ := f env he
    rw [hf] at e1; cases e1
    obtain ⟨o', es, ep, ho', hd, _⟩ := hn
    rw [e] at ho'; cases ho'
    exact ⟨_, q, .inr ⟨e2, ⟨es, ep, hd⟩, ⟨es, ep, hd⟩, fun m hn => hn⟩⟩
  · exact ⟨o, (so.2.1 a hm).trans e, .refl⟩

theorem note_step {s : Shared} {c : Bool} {x : Value} {Q : Unit → Shared → Prop} {E : Value → Shared → Prop} (fa : FrA A env) (st : St X A env hd σ ρ W s.heap) (k0 : ∀ a o, h0.get? a = some o → ∃ o', s.heap.get? a = some o') (xa : ExcAt h0 s.heap env.locals c x)
    (K : ∀ h' e, x = .ref e → Tr h0 h' e c (rawInt env.locals) → Keep X.B (Yr h0 s.heap) s.heap h' → Q () { s with heap := h' }) : wpAny (model X.prog X.w) A (noteFrame x env) Q E s := by
  obtain ⟨e, rfl, hx⟩ := xa
  rcases hx with hn | ht
  · obtain ⟨e', oe, vs, q, r1, r2, r3, r4, r5, r6, r7⟩ := hn
    cases q
    obtain ⟨outer, hfr⟩ := fa.frs
    obtain ⟨fs, g1, g2⟩ := st.frs
    rw [hfr] at g1; cases g1
    have hl := funFrames_of g2
    unfold noteFrame
    simp only [fa.own]
    refine wpAny_bind (wpAny_field r2 r4 r6 ?_)
    rw [if_neg (by decide)]
    refine wpAny_bind (wpAny_frameOf_fun hfr hl fa.own fun h₁ hs₁ => ?_)
    refine wpAny_bind (wpAny_entryPlaceOf fun pl hpl => ?_)
    unfold EntryCells.newEntry newFields
    refine wpAny_bind (wpAny_newObj_type ?_ (hpl.sizeOk5 _ _ _ _ _))
    have hene : e ∉ (env :: outer).filterMap (·.frame) := fun hm => by
      obtain ⟨_, o, ho, hnf⟩ := hl.mem hm
      rw [r2] at ho; injection ho with ho; subst ho; exact hnf vs r4
    have he₁ : h₁.get? e = some oe := (hs₁.2.1 e hene).trans r2
    have he₂ := Heap.get?_push_of_some (h := h₁) { cls := .type "traceback", dict := none, data := .fields ([Value.none, .ref env.locals, .none, rawInt env.locals, .none] ++ (if pl.isEmpty then List.replicate 6 Value.none else pl)).toArray } he₁
    refine wpAny_setField he₂ r4 (by first | decide | omega) ?_
    have hTe : h₁.objs.size ≠ e := Nat.ne_of_gt (Heap.lt_size he₁)
    have hd₃ := Obj.data_mapFields r4 (·.setIfInBounds 1 (Value.ref h₁.objs.size))
    have he₃ := Heap.get?_update_self (Obj.mapFields (·.setIfInBounds 1 (Value.ref h₁.objs.size))) he₂ (Obj.isFreed_of_fields hd₃)
    have hT₃ := (Heap.get?_update_other (h₁.push { cls := .type "traceback", dict := none, data := .fields ([Value.none, .ref env.locals, .none, rawInt env.locals, .none] ++ (if pl.isEmpty then List.replicate 6 Value.none else pl)).toArray })
      (Obj.mapFields (·.setIfInBounds 1 (Value.ref h₁.objs.size))) (Ne.symm hTe)).trans (Heap.get?_push_size h₁ rfl)
    have fT : h0.get? h₁.objs.size = none := by
      cases q : h0.get? h₁.objs.size with
      | none => rfl
      | some o =>
        obtain ⟨o', q'⟩ := k0 _ o q
        have := Heap.lt_size q'
        rw [hs₁.1] at this
        exact absurd this (Nat.lt_irrefl _)
    have kk := slots_keep g2 hs₁
    refine K _ e rfl ⟨_, _, h₁.objs.size, _, _, r1, he₃, by rw [Obj.cls_mapFields]; exact r3, hd₃, fun q => by rw [Array.getElem?_setIfInBounds_ne (by decide)]; exact r7 q, ?_, fT, hTe, hT₃, rfl, ?_⟩ ?_
    · simp [r5]
    · first | (simp; done) | (rcases hpl with rfl | ⟨_, _, _, _, _, _, _, rfl⟩ <;> simp)
    · refine ⟨fun a o ea ny => ?_, fun a o ea => ?_⟩
      · have hae : a ≠ e := fun q => ny (by subst q; exact ⟨r1, fun o' q => by rw [r2] at q; cases q; exact ⟨vs, r4⟩⟩)
        obtain ⟨o', e', sm⟩ := kk.obj a o ea id
        exact ⟨o', by rw [Heap.get?_update_other _ _ (Ne.symm hae)]; exact Heap.get?_push_of_some _ e', sm⟩
      · by_cases hae : a = e
        · subst hae; exact ⟨_, he₃⟩
        · obtain ⟨o', e', sm⟩ := kk.obj a o ea id
          exact ⟨o', by rw [Heap.get?_update_other _ _ (Ne.symm hae)]; exact Heap.get?_push_of_some _ e'⟩
  · obtain ⟨o, vs, T, oT, ts, r1, r2, r3, r4, r5, r6, r7, r8, r9, r10, r11⟩ := id ht
    exact wpAny_noteFrame_inFlight fa.own r2 r4 r6 r9 r10 r11 (K s.heap e rfl ht .refl)

theorem flight_step {s : Shared} {c : Bool} {e : Addr} {fl : Value} {to : Option Addr} {Q : Unit → Shared → Prop} {E : Value → Shared → Prop} (xt : Tr h0 s.heap e c fl)
    (K : ∀ h', Tr h0 h' e c (to.elim .none fun f => rawInt f) → Keep X.B (Yr h0 s.heap) s.heap h' → Q () { s with heap := h' }) : wpAny (model X.prog X.w) A (setFlight (.ref e) to) Q E s := by
  obtain ⟨o, vs, T, oT, ts, r1, r2, r3, r4, r5, r6, r7, r8, r9, r10, r11⟩ := xt
  have hsz : 3 < ts.size := (Array.getElem?_eq_some_iff.mp r11).1
  unfold setFlight
  refine wpAny_bind (wpAny_field r2 r4 r6 ?_)
  rw [if_pos (show (Value.ref T != Value.none) = true from by simp)]
  refine wpAny_setField r9 r10 hsz ?_
  have hd₃ := Obj.data_mapFields r10 (·.setIfInBounds 3 (to.elim Value.none fun f => rawInt f))
  have hT := Heap.get?_update_self (Obj.mapFields (·.setIfInBounds 3 (to.elim Value.none fun f => rawInt f))) r9 (Obj.isFreed_of_fields hd₃)
  refine K _ ⟨o, vs, T, _, _, r1, ?_, r3, r4, r5, r6, r7, r8, hT, hd₃, by simp [hsz]⟩ ⟨fun a oa ea ny => ⟨oa, ?_, .refl⟩, fun a oa ea => ?_⟩
  · rw [Heap.get?_update_other _ _ r8]; exact r2
  · rw [Heap.get?_update_other _ _ fun q => ny ?_]; exact ea
    subst q; exact ⟨r7, fun o' q => by rw [r9] at q; cases q; exact ⟨ts, r10⟩⟩
  · by_cases q : T = a
    · subst q; exact ⟨_, hT⟩
    · exact ⟨oa, by rw [Heap.get?_update_other _ _ q]; exact ea⟩

theorem passOn_step {α : Type} {s : Shared} {c : Bool} {e : Addr} {fl : Value} {what : String} {Q : α → Shared → Prop} {E : Value → Shared → Prop} (hf : env.frame = some env.locals) (xt : Tr h0 s.heap e c fl)
    (K : ∀ h', Tr h0 h' e c (rawInt env.locals) → Keep X.B (Yr h0 s.heap) s.heap h' → E (.ref e) { s with heap := h' }) : wpAny (model X.prog X.w) A (PySem.passOn what (.ref e) env : Sem α) Q E s := by
  obtain ⟨o, vs, T, oT, ts, r1, r2, r3, r4, r5, r6, r7, r8, r9, r10, r11⟩ := id xt
  unfold PySem.passOn
  refine wpAny_bind (wpAny_field r2 r4 r6 ?_)
  rw [if_neg (show ¬ ((Value.ref T == Value.none) = true) from by simp)]
  rw [hf]
  first
    | exact wpAny_bind (flight_step xt fun h' t k => wpAny_throw (K h' t k))
    | exact wpAny_bind (wpAny_pure (wpAny_bind (flight_step xt fun h' t k => wpAny_throw (K h' t k))))
theorem came_step {s : Shared} {c : Bool} {e : Addr} {fl : Value} {E : Value → Shared → Prop} (hf : env.frame = some env.locals) (xt : Tr h0 s.heap e c fl)
    (K : ∀ h', Tr h0 h' e c (rawInt env.locals) → Keep X.B (Yr h0 s.heap) s.heap h' → E (.ref e) { s with heap := h' }) : cameBackBy (model X.prog X.w) A env E (.ref e) s := by
  obtain ⟨o, vs, T, oT, ts, r1, r2, r3, r4, r5, r6, r7, r8, r9, r10, r11⟩ := id xt
  unfold cameBackBy
  refine wpAny_bind (wpAny_field r2 r4 r6 ?_)
  rw [if_neg (show ¬ ((Value.ref T == Value.none) = true) from by simp)]
  rw [hf]
  first
    | exact flight_step xt fun h' t k => K h' t k
    | exact wpAny_bind (wpAny_pure (flight_step xt fun h' t k => K h' t k))
end
end Mine
end
section
open PySem PySem.W PyProof.Rows PySem.Calls
set_option maxRecDepth 100000
set_option linter.unusedVariables false
set_option linter.unusedSimpArgs false
namespace Mine

structure Gr (σ : List Addr) (W : Sto) (σ' : List Addr) (W' : Sto) (h : Heap) : Prop where
  pre : ∃ τ, σ' = σ ++ τ
  dec : Dec W (W'.take W.length)
  lv : ∀ a o, h.get? a = some o → live σ' W' a → live σ W a

theorem Gr.refl {σ : List Addr} {W : Sto} {h : Heap} : Gr σ W σ W h := ⟨⟨[], by simp⟩, by rw [List.take_length]; exact .refl W, fun _ _ _ l => l⟩
theorem Gr.of {σ : List Addr} {W W' : Sto} {h : Heap} (d : Dec W W') : Gr σ W σ W' h :=
  ⟨⟨[], by simp⟩, by rw [List.take_of_length_le (Nat.le_of_eq d.1)]; exact d, fun a _ _ l => d.live σ a l⟩
theorem Gr.le {σ σ' : List Addr} {W W' : Sto} {h : Heap} (g : Gr σ W σ' W' h) : W.length ≤ W'.length := by
  have := g.dec.1
  rw [List.length_take] at this
  omega
theorem Gr.trans {σ σ' σ'' : List Addr} {W W' W'' : Sto} {h h' : Heap} (g : Gr σ W σ' W' h) (g' : Gr σ' W' σ'' W'' h') (k : ∀ a o, h.get? a = some o → ∃ o', h'.get? a = some o') : Gr σ W σ'' W'' h := by
  obtain ⟨τ, rfl⟩ := g.pre
  obtain ⟨τ', rfl⟩ := g'.pre
  refine ⟨⟨τ ++ τ', by rw [List.append_assoc]⟩, ?_, fun a o e l => ?_⟩
  · have := dec_take g'.dec W.length
    rw [List.take_take, Nat.min_eq_left g.le] at this
    exact g.dec.trans this
  · obtain ⟨o', e'⟩ := k a o e
    exact g.lv a o e (g'.lv a o' e' l)

noncomputable def FlR (h : Heap) (N : Adr) : Flow → Fl → Prop
  | .next, .next => True
  | .brk, .brk => True
  | .cont, .cont => True
  | .ret v, .ret d => Rd h N v d
  | _, _ => False

section
variable (X : Cx) (A : Around) (env : Env) (hd : Nat)
structure Rc (σ : List Addr) (W : Sto) (s : Shared) (σ' : List Addr) (ρ' : Rho) (W' : Sto) (s' : Shared) : Prop where
  stp : Stp s s'
  kp : Keep X.B (fun a => live σ W a ∨ own env a) s.heap s'.heap
  gr : Gr σ W σ' W' s.heap
  st : St X A env hd σ' ρ' W' s'.heap
noncomputable def PS (σ : List Addr) (W : Sto) (s : Shared) (r : SRes) (fl : Flow) (s' : Shared) : Prop :=
  ∃ f σ' ρ' W', r = .ok f ρ' W' ∧ Rc X A env hd σ W s σ' ρ' W' s' ∧ FlR s'.heap (live σ' W') fl f
noncomputable def XS (σ : List Addr) (W : Sto) (s : Shared) (r : SRes) (x : Value) (s' : Shared) : Prop :=
  ∃ c σ' ρ' W', r = .exc c ρ' W' ∧ Rc X A env hd σ W s σ' ρ' W' s' ∧ ExcAt s.heap s'.heap env.locals c x
noncomputable def SdS (t : Sem Flow) (f : Rho → Sto → SRes) : Prop :=
  ∀ σ ρ W s, St X A env hd σ ρ W s.heap → f ρ W ≠ .bad → wpAny (model X.prog X.w) A t (PS X A env hd σ W s (f ρ W)) (XS X A env hd σ W s (f ρ W)) s
end

section
variable {X : Cx} {n m : Nat} {A : Around} {env : Env} {sc : Sc} {hd : Nat} {σ σ' σ'' : List Addr} {ρ ρ' ρ'' : Rho} {W W' W'' : Sto} {s s' s'' : Shared}

theorem Rc.refl (st : St X A env hd σ ρ W s.heap) : Rc X A env hd σ W s σ ρ W s := ⟨.refl s, .refl, .refl, st⟩
theorem Rc.trans (r : Rc X A env hd σ W s σ' ρ' W' s') (r' : Rc X A env hd σ' W' s' σ'' ρ'' W'' s'') : Rc X A env hd σ W s σ'' ρ'' W'' s'' :=
  ⟨r.stp.trans r'.stp, r.kp.trans r'.kp fun a o e t => by
    rcases t with l | q
    · exact .inl (r.gr.lv a o e l)
    · exact .inr q, r.gr.trans r'.gr r.kp.all, r'.st⟩
theorem Rc.expr (p : Stp s s') (k : Keep X.B (live σ W) s.heap s'.heap) (d : Dec W W') (st : St X A env hd σ ρ W' s'.heap) : Rc X A env hd σ W s σ ρ W' s' :=
  ⟨p, k.mono fun _ _ _ l => .inl l, .of d, st⟩
theorem Rc.own (p : Stp s s') (k : Keep X.B (own env) s.heap s'.heap) (st : St X A env hd σ ρ' W s'.heap) : Rc X A env hd σ W s σ ρ' W s' :=
  ⟨p, k.mono fun _ _ _ l => .inr l, .refl, st⟩
theorem ExcAt.back {T : Adr} {B : Nat} {h h1 h2 : Heap} {L : Addr} {c : Bool} {x : Value} (k : Keep B T h h1) (n : ExcAt h1 h2 L c x) : ExcAt h h2 L c x := by
  obtain ⟨e, rfl, q⟩ := n
  refine ⟨e, rfl, ?_⟩
  rcases q with q | ⟨o, vs, T, oT, ts, r1, r2, r3, r4, r5, r6, r7, r⟩
  · exact .inl (q.back k)
  · exact .inr ⟨o, vs, T, oT, ts, fresh_back k r1, r2, r3, r4, r5, r6, fresh_back k r7, r⟩
theorem PS.lift {r r' : SRes} {fl : Flow} (p : PS X A env hd σ' W' s' r fl s'') (rc : Rc X A env hd σ W s σ' ρ' W' s') (e : r' = r) : PS X A env hd σ W s r' fl s'' := by
  subst e
  obtain ⟨f, σ2, ρ2, W2, h1, h2, h3⟩ := p
  exact ⟨f, σ2, ρ2, W2, h1, rc.trans h2, h3⟩
theorem XS.lift {r r' : SRes} {x : Value} (p : XS X A env hd σ' W' s' r x s'') (rc : Rc X A env hd σ W s σ' ρ' W' s') (e : r' = r) : XS X A env hd σ W s r' x s'' := by
  subst e
  obtain ⟨c, σ2, ρ2, W2, h1, h2, h3⟩ := p
  exact ⟨c, σ2, ρ2, W2, h1, rc.trans h2, h3.back rc.kp⟩

theorem to_ne {α : Type} {r : Res α} {g : α → Sto → SRes} (h : r.to ρ g ≠ .bad) : r ≠ .bad := by rintro rfl; exact h rfl
theorem XE.toS {α : Type} {r : Res α} {g : α → Sto → SRes} {x : Value} (p : XE X A env hd σ ρ s W r x s') : XS X A env hd σ W s (r.to ρ g) x s' := by
  obtain ⟨c, W', h1, h2, h3, h4, h5, h6⟩ := p
  refine ⟨c, σ, ρ, W', by rw [h1]; rfl, .expr h2 h3 h4 h5, ?_⟩
  obtain ⟨e, o, vs, rfl, r⟩ := h6
  exact ⟨e, rfl, .inl ⟨e, o, vs, rfl, r⟩⟩

/-- an expression, then the rest of a statement -/
theorem Sd.toS {α β : Type} {Rel : Heap → Adr → β → α → Prop} {t : Sem β} {f : Sto → Res α} (ht : Sd Rel X A env hd σ ρ t f) {g : α → Sto → SRes} (st : St X A env hd σ ρ W s.heap) (hne : (f W).to ρ g ≠ .bad) {P : β → Shared → Prop} {E : Value → Shared → Prop}
    (up : ∀ x s', XS X A env hd σ W s ((f W).to ρ g) x s' → E x s')
    (K : ∀ b a W1 s1, f W = .ok a W1 → Stp s s1 → Keep X.B (live σ W) s.heap s1.heap → Dec W W1 → St X A env hd σ ρ W1 s1.heap → Rel s1.heap (live σ W1) b a → g a W1 ≠ .bad → (f W).to ρ g = g a W1 → P b s1) :
    wpAny (model X.prog X.w) A t P E s := by
  refine wpAny_mono (ht W s st (to_ne hne)) (fun b s1 p => ?_) fun x s1 p => up x s1 p.toS
  obtain ⟨a, W1, h1, h2, h3, h4, h5, h6⟩ := p
  have e : (f W).to ρ g = g a W1 := by rw [h1]; rfl
  exact K b a W1 s1 h1 h2 h3 h4 h5 h6 (e ▸ hne) e

theorem SdS.fin {t : Sem Flow} {r r1 : SRes} (h : wpAny (model X.prog X.w) A t (PS X A env hd σ' W' s' r1) (XS X A env hd σ' W' s' r1) s'') (rc : Rc X A env hd σ W s σ' ρ' W' s') (e : r = r1) :
    wpAny (model X.prog X.w) A t (PS X A env hd σ W s r) (XS X A env hd σ W s r) s'' :=
  wpAny_mono h (fun _ _ p => p.lift rc e) fun _ _ p => p.lift rc e

/-- one statement after the other -/
theorem SdS.seq {f : S → Rho → Sto → SRes} : ∀ {xs : List PySem.Stmt} {ss : List S}, All2 (fun x st => SdS X A env hd (exec x env) (f st)) xs ss → SdS X A env hd (execs xs env) (exSeq f ss)
  | _, _, .nil => fun σ ρ W s st _ => by
    rw [exSeq]
    exact wpAny_execs_nil ⟨.next, σ, ρ, W, rfl, .refl st, trivial⟩
  | x :: xs, a :: as, .cons h hs => fun σ ρ W s st hne => by
    rw [execs_cons]
    rw [exSeq] at hne ⊢
    have hne1 : f a ρ W ≠ .bad := by intro q; rw [q] at hne; exact hne rfl
    refine wpAny_bind (wpAny_mono (h σ ρ W s st hne1) (fun fl s1 p => ?_) fun x s1 p => ?_)
    · obtain ⟨g, σ1, ρ1, W1, e1, rc, fr⟩ := p
      rw [e1] at hne ⊢
      cases g with
      | next =>
        cases fl with
        | next =>
          simp only [SRes.bind] at hne ⊢
          exact SdS.fin (SdS.seq hs σ1 ρ1 W1 s1 rc.st hne) rc rfl
        | _ => exact fr.elim
      | brk => cases fl <;> first | exact fr.elim | exact wpAny_pure ⟨.brk, σ1, ρ1, W1, rfl, rc, trivial⟩
      | cont => cases fl <;> first | exact fr.elim | exact wpAny_pure ⟨.cont, σ1, ρ1, W1, rfl, rc, trivial⟩
      | ret d =>
        cases fl with
        | ret v => exact wpAny_pure ⟨.ret d, σ1, ρ1, W1, rfl, rc, fr⟩
        | _ => exact fr.elim
    · obtain ⟨c, σ1, ρ1, W1, e1, rc, fr⟩ := p
      exact ⟨c, σ1, ρ1, W1, by rw [e1]; rfl, rc, fr⟩

/-- a store at the end of a statement -/
theorem store_end {x : Nat} {v : V} {val : Value} {r : SRes} {E : Value → Shared → Prop} (eo : EnvOk X env sc) (ht : isTgt sc (nm x) = true) (hx : x < names.length) (rc : Rc X A env hd σ W s σ' ρ' W' s') (va : VAt s'.heap σ' W' v val) (e : r = .ok .next (setV x v ρ') W') :
    wpAny (model X.prog X.w) A (storeName env (nm x) val) (fun _ => PS X A env hd σ W s r .next) E s' :=
  store_name eo ht hx rc.st va fun h' tk k st => ⟨.next, σ', _, W', e, rc.trans (.own (.mk s' h' tk) (k.mono fun a _ _ t => t ▸ tgt_own eo ht) st), trivial⟩
end

structure IHS (X : Cx) (n : Nat) : Prop extends IHI X n where
  S : ∀ {m sc a x A env hd}, chS m sc a x = true → EnvOk X env sc → OkA n A → FrA A env → SdS X A env hd (exec x env) (fun ρ W => exS fns n hd ρ a W)
end Mine
end
section
open PySem PySem.W PyProof.Rows PySem.Calls
set_option maxRecDepth 100000
set_option linter.unusedVariables false
set_option linter.unusedSimpArgs false
namespace Mine

theorem isCall_inv {v : PySem.Expr} (h : isCall v = true) : ∃ f as ks pc, v = .Call f as ks pc := by
  unfold isCall at h
  exact aP h fun t e _ => ⟨_, _, _, _, e⟩
theorem swaps_no {m : Nat} {sc : Sc} {e : E} {v tg : PySem.Expr} {line : Nat} {env : Env} (h : chE m sc e v = true) : swapsWith v (some tg) line env = pure false ∨ ∃ ex gs scope pl, v = .ListComp ex gs scope pl := by
  cases v
  case ListComp ex gs scope pl => exact .inr ⟨ex, gs, scope, pl, rfl⟩
  case SetComp => exfalso; cases m with | zero => cases h | succ m => exact ch_none (fun e => by cases e <;> rfl) h
  case DictComp => exfalso; cases m with | zero => cases h | succ m => exact ch_none (fun e => by cases e <;> rfl) h
  all_goals exact .inl rfl
section
variable {m : Nat} {sc : Sc} {x : PySem.Stmt}
theorem chS_zero {a : S} : chS 0 sc a x = false := rfl
theorem inv_asg {i : Nat} {e : E} (h : chS (m + 1) sc (.asg i e) x = true) : ∃ y q v p, x = .Assign [.Name y q] v p ∧ isNm y i = true ∧ isTgt sc y = true ∧ chE m sc e v = true := by
  replace h : kS_asg sc (chE m sc) i e x = true := h
  unfold kS_asg at h
  refine aP h fun t0 (e0 : x = .Assign t0.1 t0.2.1 t0.2.2) h => ?_
  refine aL_one h fun t (e1 : t0.1 = [t]) h => ?_
  refine aP h fun t2 (e2 : t = .Name t2.1 t2.2) h => ?_
  simp only [Bool.and_eq_true, Bool.not_eq_true', beq_iff_eq, decide_eq_true_eq, and_assoc] at h
  exact ⟨t2.1, t2.2, t0.2.1, t0.2.2, by rw [e0, e1, e2], h⟩
theorem inv_new {i : Nat} {es : List E} (h : chS (m + 1) sc (.new i es) x = true) : ∃ y q xs r p, x = .Assign [.Name y q] (.List xs r) p ∧ isNm y i = true ∧ isTgt sc y = true ∧ all2 (chE m sc) es xs = true := by
  replace h : kS_new sc (chE m sc) i es x = true := h
  unfold kS_new at h
  refine aP h fun t0 (e0 : x = .Assign t0.1 t0.2.1 t0.2.2) h => ?_
  refine aL_one h fun t (e1 : t0.1 = [t]) h => ?_
  refine aP h fun t2 (e2 : t = .Name t2.1 t2.2) h => ?_
  refine aP h fun t3 (e3 : t0.2.1 = .List t3.1 t3.2) h => ?_
  simp only [Bool.and_eq_true, Bool.not_eq_true', beq_iff_eq, decide_eq_true_eq, and_assoc] at h
  exact ⟨t2.1, t2.2, t3.1, t3.2, t0.2.2, by rw [e0, e1, e2, e3], h⟩
theorem inv_asg2 {i j : Nat} {k : Int} (h : chS (m + 1) sc (.asg2 i j k) x = true) : ∃ y q z r l u o p, x = .Assign [.Name y q, .Name z r] (.Constant (.int l) u o) p ∧ isNm y i = true ∧ isTgt sc y = true ∧ isNm z j = true ∧ isTgt sc z = true ∧ k = l := by
  replace h : kS_asg2 sc i j k x = true := h
  unfold kS_asg2 at h
  refine aP h fun t0 (e0 : x = .Assign t0.1 t0.2.1 t0.2.2) h => ?_
  refine aL_cons h fun t ts1 (e1 : t0.1 = t :: ts1) h => ?_
  refine aL_one h fun t2 (e2 : ts1 = [t2]) h => ?_
  refine aP h fun t3 (e3 : t = .Name t3.1 t3.2) h => ?_
  refine aP h fun t4 (e4 : t2 = .Name t4.1 t4.2) h => ?_
  refine aP h fun t5 (e5 : t0.2.1 = .Constant t5.1 t5.2.1 t5.2.2) h => ?_
  refine aP h fun t6 (e6 : t5.1 = .int t6) h => ?_
  simp only [Bool.and_eq_true, Bool.not_eq_true', beq_iff_eq, decide_eq_true_eq, and_assoc] at h
  exact ⟨t3.1, t3.2, t4.1, t4.2, t6, t5.2.1, t5.2.2, t0.2.2, by rw [e0, e1, e2, e3, e4, e5, e6], h⟩
theorem inv_unp {i j : Nat} {e : E} (h : chS (m + 1) sc (.unp i j e) x = true) : ∃ y q z r o t f as ks pc p, x = .Assign [.Tuple [.Name y q, .Name z r] o t] (.Call f as ks pc) p ∧ isNm y i = true ∧ isTgt sc y = true ∧ isNm z j = true ∧ isTgt sc z = true ∧ chE m sc e (.Call f as ks pc) = true := by
  replace h : kS_unp sc (chE m sc) i j e x = true := h
  unfold kS_unp at h
  refine aP h fun t0 (e0 : x = .Assign t0.1 t0.2.1 t0.2.2) h => ?_
  refine aL_one h fun t (e1 : t0.1 = [t]) h => ?_
  refine aP h fun t2 (e2 : t = .Tuple t2.1 t2.2.1 t2.2.2) h => ?_
  refine aL_cons h fun m1 xs1 (e3 : t2.1 = m1 :: xs1) h => ?_
  refine aL_one h fun m2 (e4 : xs1 = [m2]) h => ?_
  refine aP h fun t5 (e5 : m1 = .Name t5.1 t5.2) h => ?_
  refine aP h fun t6 (e6 : m2 = .Name t6.1 t6.2) h => ?_
  simp only [Bool.and_eq_true, and_assoc] at h
  obtain ⟨h1, h2, h3, h4, h5, h6⟩ := h
  obtain ⟨f, as, ks, pc, ev⟩ := isCall_inv h6
  exact ⟨t5.1, t5.2, t6.1, t6.2, t2.2.1, t2.2.2, f, as, ks, pc, t0.2.2, by rw [e0, e1, e2, e3, e4, e5, e6, ev], h1, h2, h3, h4, ev ▸ h5⟩
theorem inv_set {a : Nat} {i e : E} (h : chS (m + 1) sc (.set a i e) x = true) : ∃ y q ix r v p, x = .Assign [.Subscript (.Name y q) ix r] v p ∧ isNm y a = true ∧ isVar sc y = true ∧ chE m sc i ix = true ∧ chE m sc e v = true ∧ ∀ env line, swapsWith v (some (.Subscript (.Name y q) ix r)) line env = pure false := by
  replace h : kS_set sc (chE m sc) a i e x = true := h
  unfold kS_set at h
  refine aP h fun t0 (e0 : x = .Assign t0.1 t0.2.1 t0.2.2) h => ?_
  refine aL_one h fun t (e1 : t0.1 = [t]) h => ?_
  refine aP h fun t2 (e2 : t = .Subscript t2.1 t2.2.1 t2.2.2) h => ?_
  refine aP h fun t3 (e3 : t2.1 = .Name t3.1 t3.2) h => ?_
  simp only [Bool.and_eq_true, and_assoc] at h
  obtain ⟨h1, h2, h3, h4, h5⟩ := h
  refine ⟨t3.1, t3.2, t2.2.1, t2.2.2, t0.2.1, t0.2.2, by rw [e0, e1, e2, e3], h1, h2, h3, h4, fun env line => ?_⟩
  rcases swaps_no h4 with hs | ⟨_, _, _, _, ev⟩
  · exact hs
  · rw [ev] at h5; cases h5
theorem inv_inc {i : Nat} {k : Int} (h : chS (m + 1) sc (.inc i k) x = true) : ∃ y q l u o p, x = .AugAssign (.Name y q) .Add (.Constant (.int l) u o) p ∧ isNm y i = true ∧ isTgt sc y = true ∧ isVar sc y = true ∧ k = l := by
  replace h : kS_inc sc i k x = true := h
  unfold kS_inc at h
  refine aP h fun t0 (e0 : x = .AugAssign t0.1 t0.2.1 t0.2.2.1 t0.2.2.2) h => ?_
  refine aP h fun t1 (e1 : t0.1 = .Name t1.1 t1.2) h => ?_
  refine aK_Add h fun  (e2 : t0.2.1 = .Add) h => ?_
  refine aP h fun t3 (e3 : t0.2.2.1 = .Constant t3.1 t3.2.1 t3.2.2) h => ?_
  refine aP h fun t4 (e4 : t3.1 = .int t4) h => ?_
  simp only [Bool.and_eq_true, Bool.not_eq_true', beq_iff_eq, decide_eq_true_eq, and_assoc] at h
  exact ⟨t1.1, t1.2, t4, t3.2.1, t3.2.2, t0.2.2.2, by rw [e0, e1, e2, e3, e4], h⟩
theorem inv_app {a : Nat} {e : E} (h : chS (m + 1) sc (.app a e) x = true) : ∃ y q ap v pc p, x = .Expr (.Call (.Attribute (.Name y q) (Str.ofString "append") ap) [v] [] pc) p ∧ isNm y a = true ∧ isVar sc y = true ∧ (ap.endLine == pc.line) = true ∧ chE m sc e v = true := by
  replace h : kS_app sc (chE m sc) a e x = true := h
  unfold kS_app at h
  refine aP h fun t0 (e0 : x = .Expr t0.1 t0.2) h => ?_
  refine aP h fun t1 (e1 : t0.1 = .Call t1.1 t1.2.1 t1.2.2.1 t1.2.2.2) h => ?_
  refine aP h fun t2 (e2 : t1.1 = .Attribute t2.1 t2.2.1 t2.2.2) h => ?_
  refine aP h fun t3 (e3 : t2.1 = .Name t3.1 t3.2) h => ?_
  refine aL_one h fun v (e4 : t1.2.1 = [v]) h => ?_
  refine aL_nil h fun  (e5 : t1.2.2.1 = []) h => ?_
  simp only [Bool.and_eq_true, beq_iff_eq, and_assoc] at h
  exact ⟨t3.1, t3.2, t2.2.2, v, t1.2.2.2, t0.2, by rw [e0, e1, e2, e3, e4, e5, h.2.2.1], h.1, h.2.1, beq_iff_eq.mpr h.2.2.2.1, h.2.2.2.2⟩
theorem inv_ext {a : Nat} {e : E} (h : chS (m + 1) sc (.ext a e) x = true) : ∃ y q ap v pc p, x = .Expr (.Call (.Attribute (.Name y q) (Str.ofString "extend") ap) [v] [] pc) p ∧ isNm y a = true ∧ isVar sc y = true ∧ (ap.endLine == pc.line) = true ∧ chE m sc e v = true := by
  replace h : kS_ext sc (chE m sc) a e x = true := h
  unfold kS_ext at h
  refine aP h fun t0 (e0 : x = .Expr t0.1 t0.2) h => ?_
  refine aP h fun t1 (e1 : t0.1 = .Call t1.1 t1.2.1 t1.2.2.1 t1.2.2.2) h => ?_
  refine aP h fun t2 (e2 : t1.1 = .Attribute t2.1 t2.2.1 t2.2.2) h => ?_
  refine aP h fun t3 (e3 : t2.1 = .Name t3.1 t3.2) h => ?_
  refine aL_one h fun v (e4 : t1.2.1 = [v]) h => ?_
  refine aL_nil h fun  (e5 : t1.2.2.1 = []) h => ?_
  simp only [Bool.and_eq_true, beq_iff_eq, and_assoc] at h
  exact ⟨t3.1, t3.2, t2.2.2, v, t1.2.2.2, t0.2, by rw [e0, e1, e2, e3, e4, e5, h.2.2.1], h.1, h.2.1, beq_iff_eq.mpr h.2.2.2.1, h.2.2.2.2⟩
theorem inv_exp {e : E} (h : chS (m + 1) sc (.exp e) x = true) : ∃ f as ks pc p, x = .Expr (.Call f as ks pc) p ∧ chE m sc e (.Call f as ks pc) = true := by
  replace h : kS_exp (chE m sc) e x = true := h
  unfold kS_exp at h
  refine aP h fun t0 (e0 : x = .Expr t0.1 t0.2) h => ?_
  simp only [Bool.and_eq_true, and_assoc] at h
  obtain ⟨f, as, ks, pc, ev⟩ := isCall_inv h.2
  exact ⟨f, as, ks, pc, t0.2, by rw [e0, ev], ev ▸ h.1⟩
theorem inv_ifs {c : E} {a b : List S} (h : chS (m + 1) sc (.ifs c a b) x = true) : ∃ t bs os p, x = .If t bs os p ∧ chE m sc c t = true ∧ all2 (chS m sc) a bs = true ∧ all2 (chS m sc) b os = true := by
  replace h : kS_ifs (chE m sc) (chS m sc) c a b x = true := h
  unfold kS_ifs at h
  refine aP h fun t0 (e0 : x = .If t0.1 t0.2.1 t0.2.2.1 t0.2.2.2) h => ?_
  simp only [Bool.and_eq_true, Bool.not_eq_true', beq_iff_eq, decide_eq_true_eq, and_assoc] at h
  exact ⟨t0.1, t0.2.1, t0.2.2.1, t0.2.2.2, by rw [e0], h⟩
theorem inv_whl {c : E} {b : List S} (h : chS (m + 1) sc (.whl c b) x = true) : ∃ t bs p, x = .While t bs [] p ∧ chE m sc c t = true ∧ all2 (chS m sc) b bs = true := by
  replace h : kS_whl (chE m sc) (chS m sc) c b x = true := h
  unfold kS_whl at h
  refine aP h fun t0 (e0 : x = .While t0.1 t0.2.1 t0.2.2.1 t0.2.2.2) h => ?_
  refine aL_nil h fun  (e1 : t0.2.2.1 = []) h => ?_
  simp only [Bool.and_eq_true, Bool.not_eq_true', beq_iff_eq, decide_eq_true_eq, and_assoc] at h
  exact ⟨t0.1, t0.2.1, t0.2.2.2, by rw [e0, e1], h⟩
theorem inv_for {i : Nat} {it : E} {b : List S} (h : chS (m + 1) sc (.for_ i it b) x = true) : ∃ y q ix bs p, x = .For (.Name y q) ix bs [] p ∧ isNm y i = true ∧ isTgt sc y = true ∧ chE m sc it ix = true ∧ all2 (chS m sc) b bs = true := by
  replace h : kS_for_ sc (chE m sc) (chS m sc) i it b x = true := h
  unfold kS_for_ at h
  refine aP h fun t0 (e0 : x = .For t0.1 t0.2.1 t0.2.2.1 t0.2.2.2.1 t0.2.2.2.2) h => ?_
  refine aP h fun t1 (e1 : t0.1 = .Name t1.1 t1.2) h => ?_
  refine aL_nil h fun  (e2 : t0.2.2.2.1 = []) h => ?_
  simp only [Bool.and_eq_true, Bool.not_eq_true', beq_iff_eq, decide_eq_true_eq, and_assoc] at h
  exact ⟨t1.1, t1.2, t0.2.1, t0.2.2.1, t0.2.2.2.2, by rw [e0, e1, e2], h⟩
theorem inv_ret {e : E} (h : chS (m + 1) sc (.ret e) x = true) : ∃ v p, x = .Return (some v) p ∧ chE m sc e v = true := by
  replace h : kS_ret (chE m sc) e x = true := h
  unfold kS_ret at h
  refine aP h fun t0 (e0 : x = .Return t0.1 t0.2) h => ?_
  refine aO_some h fun v (e1 : t0.1 = some v) h => ?_
  exact ⟨v, t0.2, by rw [e0, e1], h⟩
theorem inv_brk (h : chS (m + 1) sc .brk x = true) : ∃ p, x = .Break p := by
  replace h : kS_brk  x = true := h
  unfold kS_brk at h
  refine aP h fun t0 (e0 : x = .Break t0) h => ?_
  exact ⟨_, e0⟩
theorem inv_cont (h : chS (m + 1) sc .cont x = true) : ∃ p, x = .Continue p := by
  replace h : kS_cont  x = true := h
  unfold kS_cont at h
  refine aP h fun t0 (e0 : x = .Continue t0) h => ?_
  exact ⟨_, e0⟩
theorem inv_trye {b hb : List S} (h : chS (m + 1) sc (.trye b hb) x = true) : ∃ bs q h0 hs pe p, x = .Try bs [.ExceptHandler (some (.Name (Str.ofString "IndexError") q)) none (h0 :: hs) pe] [] [] p ∧ isGlob sc (Str.ofString "IndexError") = true ∧ all2 (chS m sc) b bs = true ∧ all2 (chS m sc) hb (h0 :: hs) = true := by
  replace h : kS_trye sc (chS m sc) b hb x = true := h
  unfold kS_trye at h
  refine aP h fun t0 (e0 : x = .Try t0.1 t0.2.1 t0.2.2.1 t0.2.2.2.1 t0.2.2.2.2) h => ?_
  refine aL_one h fun hd (e1 : t0.2.1 = [hd]) h => ?_
  refine aO_some h fun tn (e2 : (gH hd).1 = some tn) h => ?_
  refine aP h fun t3 (e3 : tn = .Name t3.1 t3.2) h => ?_
  refine aO_none h fun (e4 : (gH hd).2.1 = none) h => ?_
  refine aL_nil h fun (e5 : t0.2.2.1 = []) h => ?_
  refine aL_nil h fun (e6 : t0.2.2.2.1 = []) h => ?_
  simp only [Bool.and_eq_true, and_assoc, beq_iff_eq] at h
  obtain ⟨h1, h2, h3, h4, h5⟩ := h
  obtain ⟨ty, nme, hs1, pe⟩ := hd
  dsimp only [gH] at e2 e4 h4 h5
  cases hs1 with
  | nil => cases h5
  | cons h0 hs1 => exact ⟨t0.1, t3.2, h0, hs1, pe, t0.2.2.2.2, by rw [e0, e1, e2, e3, e4, e5, e6, h1], h1 ▸ h2, h3, h4⟩
theorem inv_tryf {b fb : List S} (h : chS (m + 1) sc (.tryf b fb) x = true) : ∃ bs f0 fs p, x = .Try bs [] [] (f0 :: fs) p ∧ all2 (chS m sc) b bs = true ∧ all2 (chS m sc) fb (f0 :: fs) = true := by
  replace h : kS_tryf (chS m sc) b fb x = true := h
  unfold kS_tryf at h
  refine aP h fun t0 (e0 : x = .Try t0.1 t0.2.1 t0.2.2.1 t0.2.2.2.1 t0.2.2.2.2) h => ?_
  refine aL_nil h fun  (e1 : t0.2.1 = []) h => ?_
  refine aL_nil h fun  (e2 : t0.2.2.1 = []) h => ?_
  simp only [Bool.and_eq_true, and_assoc] at h
  obtain ⟨h3, h4, h5⟩ := h
  obtain ⟨bs, hs, os, fs, p⟩ := t0
  dsimp only at e0 e1 e2 h3 h4 h5
  cases fs with
  | nil => cases h5
  | cons f0 fs => exact ⟨bs, f0, fs, p, by rw [e0, e1, e2], h3, h4⟩
end
end Mine
end
section
open PySem PySem.W PyProof.Rows PySem.Calls
set_option maxRecDepth 100000
set_option linter.unusedVariables false
set_option linter.unusedSimpArgs false
namespace Mine

section
variable {X : Cx} {n m : Nat} {A : Around} {env : Env} {sc : Sc} {hd : Nat} {x : PySem.Stmt}

theorem swaps {e : E} {v : PySem.Expr} (y : Str) (q : Pos) (line : Nat) (he : chE m sc e v = true) : swapsWith v (some (.Name y q)) line env = pure false ∨ (swapsWith v (some (.Name y q)) line env = pure true ∧ ∃ ex gs scope pl, v = .ListComp ex gs scope pl) := by
  rcases swaps_no (tg := .Name y q) (line := line) (env := env) he with h | ⟨ex, gs, scope, pl, rfl⟩
  · exact .inl h
  · have key : ∃ b, swapsWith (.ListComp ex gs scope pl) (some (.Name y q)) line env = pure b := ⟨_, rfl⟩
    obtain ⟨b, hb⟩ := key
    cases b
    · exact .inl hb
    · exact .inr ⟨hb, ex, gs, scope, pl, rfl⟩

theorem ch_listcomp {e : E} {ex : PySem.Expr} {gs : List Comprehension} {scope : Scope} {pl : Pos} (he : chE m sc e (.ListComp ex gs scope pl) = true) : ∃ m' caps elt gens, m = m' + 1 ∧ e = .comp caps elt gens := by
  cases m with
  | zero => rw [ch_zero] at he; cases he
  | succ m =>
    replace he : kE (chE m) (chO m) (chG m) sc e (.ListComp ex gs scope pl) = true := he
    cases e
    case comp caps elt gens => exact ⟨m, caps, elt, gens, rfl, rfl⟩
    all_goals exact absurd he Bool.false_ne_true

theorem ss_asg {i : Nat} {e : E} (ihs : ∀ k ≤ n, IHI X k) (h : chS m sc (.asg i e) x = true) (eo : EnvOk X env sc) (ok : OkA (n + 1) A) : SdS X A env hd (exec x env) (fun ρ W => exS fns (n + 1) hd ρ (.asg i e) W) := by
  cases m with
  | zero => rw [chS_zero] at h; cases h
  | succ m =>
  obtain ⟨y, q, v, p, rfl, hy, ht, he⟩ := inv_asg h
  obtain rfl := isNm_eq hy
  intro σ ρ W s st hne
  dsimp only at hne ⊢
  rw [exS] at hne ⊢
  have ih := ihs n (Nat.le_refl n)
  rcases swaps (env := env) (nm i) q p.line he with hs | ⟨hs, ex, gs, scope, pl, rfl⟩
  · refine wpAny_Assign_Name (Sd.toS (ih.E he eo ok.pred) st hne (fun _ _ p => p) fun v d W1 s1 e1 p1 k1 c1 st1 r1 hne1 t1 => ?_) hs
    exact store_end eo ht (isNm_lt hy) (.expr p1 k1 c1 st1) (v := .dat d) r1 t1
  · obtain ⟨m', caps, elt, gens, rfl, rfl⟩ := ch_listcomp he
    obtain ⟨t, it, ifs, rest, ex', y, q', ix, fx, gs', scope', p', rfl, q1, so, hy', ht', hit, hfx, hgs, hel, hlen⟩ := inv_comp he
    cases q1
    have hne1 := to_ne hne
    cases n with
    | zero => rw [evE] at hne1; exact absurd rfl hne1
    | succ n =>
    rw [evE] at hne hne1 ⊢
    split at hne1
    · rename_i hc
      rw [if_pos hc] at hne ⊢
      obtain ⟨rfl, co⟩ := hc
      rw [exec_Assign_Name_used _ _ _ _ hs]
      refine wpAny_bind (wpAny_standAt (wpAny_bind ?_))
      show wpAny _ A (do let _ ← comprehension (.ListComp ex (⟨.Name y q', ix, fx, 0⟩ :: gs') scope pl) scope env _ (newList []) false (eval ix env) (some (assign (.Name (nm i) q) env))) _ _ s
      refine wpAny_bind (comp_whole (Q := fun _ s' => wpAny (model X.prog X.w) A (pure ()) (fun _ s1 => wpAny (model X.prog X.w) A (pure Flow.next) (PS X A env 0 σ W s _) (XS X A env 0 σ W s _) s1) (XS X A env 0 σ W s _) s') (use := some (assign (.Name (nm i) q) env)) (fun k hk => ihs k (by first | decide | omega)) eo ok.pred.pred so hy' ht' hit hfx hgs hel hlen co st hne1 (fun v s' xe => xe.toS) ?_)
      intro Dl C d W' s' mC e1 p1 k1 c1 st1 r1 fr hnC
      show wpAny _ A (assign (.Name (nm i) q) env (.ref Dl)) _ _ s'
      refine wpAny_assign_Name (store_name eo ht (isNm_lt hy) st1 (v := .dat d) r1 fun h3 tk3 k3 st3 => ?_)
      have hCt : C ≠ tgt env (nm i) := fun q => by
        rcases tgt_own eo ht with h1 | ⟨z, hz⟩
        · obtain ⟨mm, o, _, _, ho, _⟩ := st.ns
          rw [q, h1] at fr; rw [ho] at fr; cases fr
        · obtain ⟨v, o, ho, _⟩ := st.cel z _ hz
          rw [q, ho] at fr; cases fr
      refine ⟨mC, k3.ns hnC hCt, fun h' sb => wpAny_pure (wpAny_pure ?_)⟩
      refine ⟨.next, σ, setV i (.dat d) ρ, W', ?_, ⟨p1.trans (.trans (.mk s' h3 tk3) (.mk _ h' tk3)), ?_, .of c1, st3.letGo st fr (k3.ns hnC hCt) sb⟩, trivial⟩
      · show (compRes fns n caps elt t it ifs rest ρ W).to ρ _ = _
        rw [e1]; rfl
      · refine keep_letGo ((k1.mono fun a _ _ l => .inl l).trans k3 fun a o ea t => .inr (t ▸ tgt_own eo ht)) fr sb
    · exact absurd rfl hne1
end
end Mine
end
section
open PySem PySem.W PyProof.Rows PySem.Calls
set_option maxRecDepth 100000
set_option linter.unusedVariables false
set_option linter.unusedSimpArgs false
namespace Mine

section
variable {X : Cx} {n m : Nat} {A : Around} {env : Env} {sc : Sc} {hd : Nat} {x : PySem.Stmt}

theorem ss_asg2 {i j : Nat} {k : Int} (h : chS m sc (.asg2 i j k) x = true) (eo : EnvOk X env sc) : SdS X A env hd (exec x env) (fun ρ W => exS fns (n + 1) hd ρ (.asg2 i j k) W) := by
  cases m with
  | zero => rw [chS_zero] at h; cases h
  | succ m =>
  obtain ⟨y, q, z, r, l, u, o, p, rfl, hy, ht, hz, ht2, rfl⟩ := inv_asg2 h
  obtain rfl := isNm_eq hy
  obtain rfl := isNm_eq hz
  intro σ ρ W s st hne
  dsimp only at hne ⊢
  rw [exS] at hne ⊢
  refine wpAny_Assign_two (wpAny_Constant_int (wpAny_assign_Name ?_))
  have rc0 : Rc X A env hd σ W s σ ρ W { s with toks := s.toks + 1 } := ⟨.mk s s.heap (s.toks + 1), .refl, .refl, st⟩
  refine store_name (s := { s with toks := s.toks + 1 }) eo ht (isNm_lt hy) st (v := .dat (.int k)) (.int k _) fun h3 tk3 k3 st3 => wpAny_assign_Name ?_
  exact store_end eo ht2 (isNm_lt hz) (rc0.trans (.own (.mk _ h3 tk3) (k3.mono fun a _ _ t => t ▸ tgt_own eo ht) st3)) (v := .dat (.int k)) (.int k _) rfl

theorem ss_inc {i : Nat} {k : Int} (h : chS m sc (.inc i k) x = true) (eo : EnvOk X env sc) : SdS X A env hd (exec x env) (fun ρ W => exS fns (n + 1) hd ρ (.inc i k) W) := by
  cases m with
  | zero => rw [chS_zero] at h; cases h
  | succ m =>
  obtain ⟨y, q, l, u, o, p, rfl, hy, ht, hv, rfl⟩ := inv_inc h
  obtain rfl := isNm_eq hy
  intro σ ρ W s st hne
  dsimp only at hne ⊢
  rw [exS] at hne ⊢
  split at hne
  · rename_i j hg
    obtain ⟨_, val, h1, h2⟩ := st.vars i _ hg
    obtain ⟨t, rfl⟩ := Rd.ofInt h2
    refine wpAny_AugAssign_Name (load_name eo h1 hv (wpAny_Constant_int ?_))
    refine PyProof.Rows.iadd_int ?_
    have rc0 : Rc X A env hd σ W s σ ρ W { s with toks := s.toks + 1 + 1 } := ⟨.mk s s.heap (s.toks + 1 + 1), .refl, .refl, st⟩
    exact store_end eo ht (isNm_lt hy) rc0 (v := .dat (.int (j + k))) (.int _ _) rfl
  · exact absurd rfl hne

theorem ss_ret {e : E} (ih : IHI X n) (h : chS m sc (.ret e) x = true) (eo : EnvOk X env sc) (ok : OkA (n + 1) A) : SdS X A env hd (exec x env) (fun ρ W => exS fns (n + 1) hd ρ (.ret e) W) := by
  cases m with
  | zero => rw [chS_zero] at h; cases h
  | succ m =>
  obtain ⟨v, p, rfl, he⟩ := inv_ret h
  intro σ ρ W s st hne
  dsimp only at hne ⊢
  rw [exS] at hne ⊢
  refine wpAny_Return_some (Sd.toS (ih.E he eo ok.pred) st hne (fun _ _ p => p) fun v d W1 s1 e1 p1 k1 c1 st1 r1 hne1 t1 => ?_)
  exact ⟨.ret d, σ, ρ, W1, t1, .expr p1 k1 c1 st1, r1⟩
theorem ss_brk (h : chS m sc .brk x = true) : SdS X A env hd (exec x env) (fun ρ W => exS fns (n + 1) hd ρ .brk W) := by
  cases m with
  | zero => rw [chS_zero] at h; cases h
  | succ m =>
  obtain ⟨p, rfl⟩ := inv_brk h
  intro σ ρ W s st hne
  dsimp only at hne ⊢
  rw [exS] at hne ⊢
  show wpAny _ A (standAt p >>= fun _ => pure Flow.brk) _ _ s
  exact wpAny_bind (wpAny_standAt (wpAny_pure ⟨.brk, σ, ρ, W, rfl, .refl st, trivial⟩))
theorem ss_cont (h : chS m sc .cont x = true) : SdS X A env hd (exec x env) (fun ρ W => exS fns (n + 1) hd ρ .cont W) := by
  cases m with
  | zero => rw [chS_zero] at h; cases h
  | succ m =>
  obtain ⟨p, rfl⟩ := inv_cont h
  intro σ ρ W s st hne
  dsimp only at hne ⊢
  rw [exS] at hne ⊢
  show wpAny _ A (standAt p >>= fun _ => pure Flow.cont) _ _ s
  exact wpAny_bind (wpAny_standAt (wpAny_pure ⟨.cont, σ, ρ, W, rfl, .refl st, trivial⟩))

theorem seq_of {ih : IHS X n} {ss : List S} {xs : List PySem.Stmt} (h : all2 (chS m sc) ss xs = true) (eo : EnvOk X env sc) (ok : OkA n A) (fa : FrA A env) : SdS X A env hd (execs xs env) (exSeq (fun s ρ W => exS fns n hd ρ s W) ss) := by
  refine SdS.seq ?_
  have : ∀ {ss : List S} {xs : List PySem.Stmt}, all2 (chS m sc) ss xs = true → All2 (fun x st => SdS X A env hd (exec x env) (fun ρ W => exS fns n hd ρ st W)) xs ss := fun {ss} => by
    induction ss with
    | nil => intro xs h; cases xs with | nil => exact .nil | cons _ _ => simp [all2] at h
    | cons a as ih' =>
      intro xs h
      cases xs with
      | nil => simp [all2] at h
      | cons y ys =>
        rw [all2, Bool.and_eq_true] at h
        exact .cons (ih.S h.1 eo ok fa) (ih' h.2)
  exact this h

theorem ss_ifs {c : E} {a b : List S} (ih : IHS X n) (h : chS m sc (.ifs c a b) x = true) (eo : EnvOk X env sc) (ok : OkA (n + 1) A) (fa : FrA A env) : SdS X A env hd (exec x env) (fun ρ W => exS fns (n + 1) hd ρ (.ifs c a b) W) := by
  cases m with
  | zero => rw [chS_zero] at h; cases h
  | succ m =>
  obtain ⟨t, bs, os, p, rfl, hc, ha, hb⟩ := inv_ifs h
  intro σ ρ W s st hne
  dsimp only at hne ⊢
  rw [exS] at hne ⊢
  refine wpAny_If (Sd.toS (ih.T hc eo ok.pred) st hne (fun _ _ p => p) fun v t W1 s1 e1 p1 k1 c1 st1 r1 hne1 t1 => ?_)
  have hq : v = t := r1
  subst hq
  have rc : Rc X A env hd σ W s σ ρ W1 s1 := .expr p1 k1 c1 st1
  cases v with
  | true => exact SdS.fin (seq_of (ih := ih) ha eo ok.pred fa σ ρ W1 s1 st1 hne1) rc t1
  | false => exact SdS.fin (seq_of (ih := ih) hb eo ok.pred fa σ ρ W1 s1 st1 hne1) rc t1

theorem ss_exp {e : E} (ih : IHI X n) (h : chS m sc (.exp e) x = true) (eo : EnvOk X env sc) (ok : OkA (n + 1) A) : SdS X A env hd (exec x env) (fun ρ W => exS fns (n + 1) hd ρ (.exp e) W) := by
  cases m with
  | zero => rw [chS_zero] at h; cases h
  | succ m =>
  obtain ⟨f, as, ks, pc, p, rfl, he⟩ := inv_exp h
  intro σ ρ W s st hne
  dsimp only at hne ⊢
  rw [exS] at hne ⊢
  refine wpAny_Expr (Sd.toS (ih.E he eo ok.pred) st hne (fun _ _ p => p) fun v d W1 s1 e1 p1 k1 c1 st1 r1 hne1 t1 => ?_) (by simp [interactive, eo.kind]) (by rfl)
  cases d with
  | none =>
    obtain rfl := r1.ofNone
    exact ⟨.next, σ, ρ, W1, t1, .expr p1 k1 c1 st1, trivial⟩
  | _ => exact absurd rfl hne1
end
end Mine
end
section
open PySem PySem.W PyProof.Rows PySem.Calls
set_option maxRecDepth 100000
set_option linter.unusedVariables false
set_option linter.unusedSimpArgs false
namespace Mine

section
variable {X : Cx} {n m : Nat} {A : Around} {env : Env} {sc : Sc} {hd : Nat} {x : PySem.Stmt}

theorem setItem_plain {s : Shared} {l : Addr} {vs : List Value} {q : Nat} {k : Int} {t : Tok} {v : Value} {Q : Unit → Shared → Prop} {E : Value → Shared → Prop} (hl : s.heap.get? l = some { cls := .type "list", data := .seq vs.toArray q })
    (h0 : 0 ≤ k) (hfit : k < 2 ^ 63) (hn : k < vs.length)
    (hQ : ∀ h', (∃ q', h'.get? l = some { cls := .type "list", data := .seq (vs.set k.toNat v).toArray q' }) → Heap.SameBut l s.heap h' → Q () { s with heap := h' }) :
    wpAny (model X.prog X.w) A (setItem (.ref l) (.int k t) v) Q E s := by
  have hL : s.heap.IsList l vs.toArray := ⟨_, hl, rfl, q, rfl⟩
  unfold setItem
  try with_reducible refine wpAny_holding ?_
  first | refine wpAny_bind (wpAny_pure ?_) | skip
  refine wpAny_bind (wpAny_sequenceKey hL.typeIs (by decide) ?_)
  refine wpAny_bind (wpAny_callSpecial?_slot (name := Str.ofString "__setitem__") hL.typeIs slot_list_setitem
    (wpAny_call_entry slot_list_setitem hL.typeIs entry_list_setitem ?_ (args_list_setitem _ _ _)))
  show wpAny _ _ (Builtin.List.listSubscript? (.int k t) >>= _) _ _ s
  refine wpAny_bind (wpAny_listSubscript_int (fitsIndex_of h0 hfit) ?_)
  clear hfit
  obtain ⟨j, rfl⟩ := Int.eq_ofNat_of_zero_le h0
  have hj : j < vs.toArray.size := by rw [List.size_toArray]; omega
  have hx' : vs.toArray[j]? = some vs.toArray[j] := Array.getElem?_eq_getElem hj
  show wpAny _ _ ((seqItemAt l j >>= fun r => pure (r.map (j, ·))) >>= _) _ _ s
  refine wpAny_bind (wpAny_bind (wpAny_seqItemAt hl rfl (wpAny_pure ?_)))
  rw [hx']
  show wpAny _ _ (setSeqItemAt l j v >>= _) _ _ s
  have hx := IsL.update (h := s.heap) (l := l) (items := vs.toArray) (n := q) hl (·.setIfInBounds j v)
  rw [List.setIfInBounds_toArray] at hx
  refine wpAny_bind (wpAny_setSeqItemAt hl rfl ?_)
  first
    | exact wpAny_bind (wpAny_pure (wpAny_pure ⟨.none, rfl, wpAny_pure (hQ _ ⟨_, hx⟩ (Heap.SameBut.update ..))⟩))
    | exact wpAny_pure ⟨.none, rfl, wpAny_pure (hQ _ ⟨_, hx⟩ (Heap.SameBut.update ..))⟩

/-- a mutable list written, at the end of a statement -/
theorem write_end {σ : List Addr} {ρ : Rho} {W W' : Sto} {s s' : Shared} {k : Nat} {ds ds' : List D} {a : Addr} {h' : Heap} {vs' : List Value} {q : Nat} {r : SRes} (rc : Rc X A env hd σ W s σ ρ W' s') (hW : W'[k]? = some (some ds)) (ha : σ[k]? = some a) (sb : Heap.SameBut a s'.heap h')
    (hg : h'.get? a = some { cls := .type "list", data := .seq vs'.toArray q }) (rd : RdAll s'.heap (live σ W') vs' ds') (e : r = .ok .next ρ (W'.set k (some ds'))) : PS X A env hd σ W s r .next { s' with heap := h' } := by
  obtain ⟨kp, sto'⟩ := sto_write (X := X) rc.st.sto hW ha sb hg rd
  exact ⟨.next, σ, ρ, _, e, rc.trans (.expr (.mk s' h' s'.toks) kp (dec_write hW) (rc.st.step kp (dec_write hW) sto')), trivial⟩

theorem ss_set {a : Nat} {i e : E} (ih : IHI X n) (h : chS m sc (.set a i e) x = true) (eo : EnvOk X env sc) (ok : OkA (n + 1) A) : SdS X A env hd (exec x env) (fun ρ W => exS fns (n + 1) hd ρ (.set a i e) W) := by
  cases m with
  | zero => rw [chS_zero] at h; cases h
  | succ m =>
  obtain ⟨y, q, ix, r, v, p, rfl, hy, hv, hi, he, hs⟩ := inv_set h
  obtain rfl := isNm_eq hy
  intro σ ρ W s st hne
  dsimp only at hne ⊢
  rw [exS] at hne ⊢
  split at hne
  · rename_i k hg
    refine wpAny_Assign_Subscript (Sd.toS (ih.E he eo ok.pred) st hne (fun _ _ p => p) fun vv dv W1 s1 e1 p1 k1 c1 st1 r1 hne1 t1 => ?_) (hs _ _)
    have rc1 : Rc X A env hd σ W s σ ρ W1 s1 := .expr p1 k1 c1 st1
    obtain ⟨_, val, h1, h2⟩ := st1.vars a _ hg
    obtain ⟨b, hb, rfl⟩ := h2
    refine load_var eo h1 hv (Sd.toS (ih.E hi eo ok.pred) st1 hne1 (fun _ _ p => p.lift rc1 t1) fun vi di W2 s2 e2 p2 k2 c2 st2 r2 hne2 t2 => ?_)
    have rc2 := rc1.trans (Rc.expr p2 k2 c2 st2)
    split at hne2
    · rename_i ds j hW
      split at hne2
      · rename_i hj
        rw [hW] at t2
        dsimp only at t2
        rw [if_pos hj] at t2
        obtain ⟨t, rfl⟩ := r2.ofInt
        obtain ⟨vs, q1, h3, h4⟩ := st2.sto.lst k ds b hW hb
        have rv := rd_carry st1 r1 k2 c2
        refine setItem_plain h3 hj.1 (by first | decide | omega) (by rw [h4.length]; exact hj.2.1) fun h' hg' sb => ?_
        obtain ⟨q', hg'⟩ := hg'
        exact write_end rc2 hW hb sb hg' (h4.set rv) (t1.trans t2)
      · exact absurd rfl hne2
    · exact absurd rfl hne2
  · exact absurd rfl hne

theorem live_list {σ : List Addr} {ρ : Rho} {W : Sto} {h : Heap} {k : Nat} {b : Addr} (st : St X A env hd σ ρ W h) (hl : isLive W k = true) (hb : σ[k]? = some b) : ∃ vs q, h.get? b = some { cls := .type "list", data := .seq vs q } := by
  unfold isLive at hl
  split at hl
  · rename_i ds hW
    obtain ⟨vs, q, h3, _⟩ := st.sto.lst k ds b hW hb
    exact ⟨_, q, h3⟩
  · cases hl

theorem ss_app {a : Nat} {e : E} (ih : IHI X n) (h : chS m sc (.app a e) x = true) (eo : EnvOk X env sc) (ok : OkA (n + 1) A) : SdS X A env hd (exec x env) (fun ρ W => exS fns (n + 1) hd ρ (.app a e) W) := by
  cases m with
  | zero => rw [chS_zero] at h; cases h
  | succ m =>
  obtain ⟨y, q, ap, v, pc, p, rfl, hy, hv, hl, he⟩ := inv_app h
  obtain rfl := isNm_eq hy
  intro σ ρ W s st hne
  dsimp only at hne ⊢
  rw [exS] at hne ⊢
  split at hne
  · rename_i k hg
    obtain ⟨_, val, h1, h2⟩ := st.vars a _ hg
    obtain ⟨b, hb, rfl⟩ := h2
    have hb0 : backTo pc (starEach [v] env) = [(false, eval v env)] := args_ch (es := [e]) (m := m) (sc := sc) (by simp [all2, he])
    split at hne
    · rename_i hlv
      rw [if_pos hlv]
      obtain ⟨vs0, q0, h0⟩ := live_list st hlv hb
      refine wpAny_Expr (wpAny_Call_method rfl (by rw [hb0]; rfl) hl PySem.F.plainAttrs_list PySem.F.slot_list_append PySem.F.type_list_append (load_var eo h1 hv ⟨⟨_, h0, rfl⟩, (fun a e => by cases e; exact ⟨_, h0, rfl⟩), ?_⟩)) (by simp [interactive, eo.kind]) (by rfl)
      rw [hb0]
      refine P.append_list (Sd.toS (ih.E he eo ok.pred) st hne (fun _ _ p => p) fun vv dv W1 s1 e1 p1 k1 c1 st1 r1 hne1 t1 => ?_)
      split at hne1
      · rename_i ds hW
        rw [hW] at t1
        dsimp only at t1
        split at hne1
        · rename_i hf
          rw [if_pos hf] at t1
          have hf' := of_decide_eq_true hf
          obtain ⟨vs, q1, h3, h4⟩ := st1.sto.lst k ds b hW hb
          refine ⟨vs.toArray, q1, by rw [List.size_toArray, sizeLine_eq, h4.length]; unfold lim at hf'; omega, h3, ?_⟩
          have hx := IsL.update (h := s1.heap) (l := b) (items := vs.toArray) (n := q1) h3 (fun xs => xs.push vv)
          rw [List.push_toArray] at hx
          exact write_end (.expr p1 k1 c1 st1) hW hb (Heap.SameBut.update ..) hx (h4.append (.cons r1 .nil)) t1
        · exact absurd rfl hne1
      · exact absurd rfl hne1
    · exact absurd rfl hne
  · exact absurd rfl hne
end
end Mine
end
section
open PySem PySem.W PyProof.Rows PySem.Calls
set_option maxRecDepth 100000
set_option linter.unusedVariables false
set_option linter.unusedSimpArgs false
namespace Mine

section
variable {X : Cx} {n m : Nat} {A : Around} {env : Env} {sc : Sc} {hd : Nat} {x : PySem.Stmt}

theorem ss_ext {a : Nat} {e : E} (ih : IHI X n) (h : chS m sc (.ext a e) x = true) (eo : EnvOk X env sc) (ok : OkA (n + 1) A) : SdS X A env hd (exec x env) (fun ρ W => exS fns (n + 1) hd ρ (.ext a e) W) := by
  cases m with
  | zero => rw [chS_zero] at h; cases h
  | succ m =>
  obtain ⟨y, q, ap, v, pc, p, rfl, hy, hv, hl, he⟩ := inv_ext h
  obtain rfl := isNm_eq hy
  intro σ ρ W s st hne
  dsimp only at hne ⊢
  rw [exS] at hne ⊢
  split at hne
  · rename_i k hg
    obtain ⟨_, val, h1, h2⟩ := st.vars a _ hg
    obtain ⟨b, hb, rfl⟩ := h2
    have hb0 : backTo pc (starEach [v] env) = [(false, eval v env)] := args_ch (es := [e]) (m := m) (sc := sc) (by simp [all2, he])
    split at hne
    · rename_i hlv
      rw [if_pos hlv]
      obtain ⟨vs0, q0, h0⟩ := live_list st hlv hb
      refine wpAny_Expr (wpAny_Call_method rfl (by rw [hb0]; rfl) hl PySem.F.plainAttrs_list PySem.F.slot_list_extend PySem.F.type_list_extend (load_var eo h1 hv ⟨⟨_, h0, rfl⟩, (fun a e => by cases e; exact ⟨_, h0, rfl⟩), ?_⟩)) (by simp [interactive, eo.kind]) (by rfl)
      rw [hb0]
      refine P.extend_list (Sd.toS (ih.E he eo ok.pred) st hne (fun _ _ p => p) fun vv dv W1 s1 e1 p1 k1 c1 st1 r1 hne1 t1 => ?_)
      split at hne1
      · rename_i ds es hW
        rw [hW] at t1
        dsimp only at t1
        split at hne1
        · rename_i hf
          rw [if_pos hf] at t1
          have hf' : ds.length + es.length ≤ 1000000 := of_decide_eq_true hf
          obtain ⟨vs, q1, h3, h4⟩ := st1.sto.lst k ds b hW hb
          obtain ⟨b2, vs2, q2, rfl, g1, g2, g3⟩ := r1.ofList
          have l1 : vs.toArray.size = ds.length := by rw [List.size_toArray, h4.length]
          have l2 : vs2.toArray.size = es.length := by rw [List.size_toArray, g2.length]
          refine ⟨b2, vs.toArray, vs2.toArray, q1, q2, by rw [l1, sizeLine_eq]; omega, by rw [l1, l2, sizeLine_eq]; omega, ?_, rfl, h3, g1, ?_⟩
          · rw [l1, l2]
            have : Builtin.List.listTooLong (ds.length + es.length) = false := by
              unfold Builtin.List.listTooLong
              rw [sizeLine_eq]
              exact decide_eq_false (by first | decide | omega)
            rw [this]; simp
          have hx := IsL.update (h := s1.heap) (l := b) (items := vs.toArray) (n := q1) h3 (fun xs => xs ++ vs2.toArray)
          rw [List.append_toArray] at hx
          exact write_end (.expr p1 k1 c1 st1) hW hb (Heap.SameBut.update ..) hx (h4.append g2) t1
        · exact absurd rfl hne1
      · exact absurd rfl hne1
    · exact absurd rfl hne
  · exact absurd rfl hne

/-- a new mutable list -/
theorem St.new {σ : List Addr} {ρ : Rho} {W : Sto} {h : Heap} {vs : List Value} {ds : List D} (st : St X A env hd σ ρ W h) (lo : X.B ≤ env.locals) (rd : RdAll h (live σ W) vs ds) :
    St X A env hd (σ ++ [h.objs.size]) ρ (W ++ [some ds]) (h.push { cls := .type "list", data := .seq vs.toArray }) ∧ Gr σ W (σ ++ [h.objs.size]) (W ++ [some ds]) h := by
  have k : Kept h (h.push { cls := .type "list", data := .seq vs.toArray }) := kept_push _ _
  have hlo : X.B ≤ h.objs.size := by
    obtain ⟨m, o, _, _, ho, _⟩ := st.ns
    exact Nat.le_of_lt (Nat.lt_of_le_of_lt lo (Heap.lt_size ho))
  have cases1 : ∀ {j : Nat} {es : List D} {a : Addr}, (W ++ [some ds])[j]? = some (some es) → (σ ++ [h.objs.size])[j]? = some a → (W[j]? = some (some es) ∧ σ[j]? = some a) ∨ (j = W.length ∧ a = h.objs.size ∧ es = ds) := fun {j es a} h1 h2 => by
    have hl := st.sto.len
    by_cases hj : j < W.length
    · rw [List.getElem?_append_left hj] at h1
      rw [List.getElem?_append_left (by first | decide | omega)] at h2
      exact .inl ⟨h1, h2⟩
    · rw [List.getElem?_append_right (by first | decide | omega)] at h1
      rw [List.getElem?_append_right (by first | decide | omega)] at h2
      have : j - W.length = 0 := by
        by_cases q : j - W.length = 0
        · exact q
        · rw [List.getElem?_eq_none (by simp; omega)] at h1; cases h1
      rw [this] at h1
      rw [← hl, this] at h2
      simp at h1 h2
      exact .inr ⟨by omega, h2.symm, h1.symm⟩
  have liveO : ∀ a o, h.get? a = some o → live (σ ++ [h.objs.size]) (W ++ [some ds]) a → live σ W a := fun a o e l => by
    obtain ⟨j, es, l1, l2⟩ := l
    rcases cases1 l1 l2 with ⟨a1, b1⟩ | ⟨_, b1, _⟩
    · exact ⟨j, es, a1, b1⟩
    · subst b1; exact absurd (Heap.lt_size e) (Nat.lt_irrefl _)
  have stk := st.kp k.kp
  refine ⟨⟨stk.base, stk.frs, stk.ns, stk.cel, fun x v e => ?_, ⟨?_, ?_, ?_, ?_⟩, stk.hnd⟩, ⟨_, rfl⟩, by rw [List.take_left]; exact .refl W, liveO⟩
  · obtain ⟨hlt, val, h1, h2⟩ := st.vars x v e
    obtain ⟨_, val', h1', _⟩ := stk.vars x v e
    refine ⟨hlt, val, h1.keep (T := fun _ => False) (B := X.B) k.keep (fun _ _ => id) (fun _ _ _ _ => id), ?_⟩
    cases v with
    | dat d => exact (Rd.weaken liveO h2).kept k
    | mref j =>
      obtain ⟨a, ha, hv⟩ := h2
      exact ⟨a, by rw [List.getElem?_append_left ((List.getElem?_eq_some_iff.mp ha).1)]; exact ha, hv⟩
  · simp [st.sto.len]
  · intro i j es fs a h1 h2 h3 h4
    rcases cases1 h1 h3 with ⟨a1, b1⟩ | ⟨a1, b1⟩ <;> rcases cases1 h2 h4 with ⟨a2, b2⟩ | ⟨a2, b2⟩
    · exact st.sto.nodup i j _ _ a a1 a2 b1 b2
    · obtain ⟨o, ho⟩ := live_there st.sto ⟨i, _, a1, b1⟩
      exact absurd (Heap.lt_size ho) (by rw [b2.1]; exact Nat.lt_irrefl _)
    · obtain ⟨o, ho⟩ := live_there st.sto ⟨j, _, a2, b2⟩
      exact absurd (Heap.lt_size ho) (by rw [b1.1]; exact Nat.lt_irrefl _)
    · rw [a1, a2]
  · intro a ha
    rcases List.mem_append.mp ha with q | q
    · exact st.sto.lo a q
    · rw [List.mem_singleton.mp q]; exact hlo
  · intro j es a h1 h2
    rcases cases1 h1 h2 with ⟨a1, b1⟩ | ⟨a1, b1, c1⟩
    · obtain ⟨us, q, h3, h4⟩ := st.sto.lst j es a a1 b1
      exact ⟨us, q, k _ _ h3, (h4.weaken liveO).kept k⟩
    · subst b1 c1
      exact ⟨vs, _, Heap.get?_push_size _ rfl, (rd.weaken liveO).kept k⟩

theorem ss_new {i : Nat} {es : List E} (ih : IHI X n) (h : chS m sc (.new i es) x = true) (eo : EnvOk X env sc) (ok : OkA (n + 1) A) : SdS X A env hd (exec x env) (fun ρ W => exS fns (n + 1) hd ρ (.new i es) W) := by
  cases m with
  | zero => rw [chS_zero] at h; cases h
  | succ m =>
  obtain ⟨y, q, xs, r, p, rfl, hy, ht, ha⟩ := inv_new h
  obtain rfl := isNm_eq hy
  intro σ ρ W s st hne
  dsimp only at hne ⊢
  rw [exS] at hne ⊢
  split at hne
  · rename_i h0
    rw [if_pos h0]
    refine wpAny_Assign_Name (List_ ?_) (by rfl)
    rw [args_ch ha]
    refine Sd.toS (Sd.spliced map_false (all2_map ha fun e x q => ih.E q eo ok.pred)) st hne (fun _ _ p => p) fun vs ds W1 s1 e1 p1 k1 c1 st1 r1 hne1 t1 => ?_
    split at hne1
    · rename_i hz
      rw [if_pos hz] at t1
      have hz' : ds.length ≤ 1000000 := of_decide_eq_true hz
      refine wpAny_newList ?_ (by rw [sizeLine_eq]; rw [r1.length]; omega)
      obtain ⟨st2, g2⟩ := St.new st1 eo.lo r1
      have rc : Rc X A env hd σ W s _ ρ _ { s1 with heap := s1.heap.push { cls := .type "list", data := .seq vs.toArray } } := (Rc.expr p1 k1 c1 st1).trans ⟨.mk s1 _ s1.toks, (kept_push _ _).keep, g2, st2⟩
      refine store_end eo ht (isNm_lt hy) rc (v := .mref W1.length) ⟨s1.heap.objs.size, ?_, rfl⟩ t1
      rw [st1.sto.len]; simp
    · exact absurd rfl hne1
  · exact absurd rfl hne

theorem ss_unp {i j : Nat} {e : E} (ih : IHI X n) (h : chS m sc (.unp i j e) x = true) (eo : EnvOk X env sc) (ok : OkA (n + 1) A) : SdS X A env hd (exec x env) (fun ρ W => exS fns (n + 1) hd ρ (.unp i j e) W) := by
  cases m with
  | zero => rw [chS_zero] at h; cases h
  | succ m =>
  obtain ⟨y, q, z, r, o, t, f, as, ks, pc, p, rfl, hy, ht, hz, ht2, he⟩ := inv_unp h
  obtain rfl := isNm_eq hy
  obtain rfl := isNm_eq hz
  intro σ ρ W s st hne
  dsimp only at hne ⊢
  rw [exS] at hne ⊢
  split at hne
  · rename_i h0
    rw [if_pos h0]
    refine wpAny_Assign_stores (Sd.toS (ih.E he eo ok.pred) st hne (fun _ _ p => p) fun v d W1 s1 e1 p1 k1 c1 st1 r1 hne1 t1 => ?_) (by rfl) (by rfl)
    split at hne1
    · rename_i da db
      obtain ⟨a, vs, q', rfl, g1, g2⟩ := r1.ofTup
      obtain ⟨va, vs', rfl, ra, g3⟩ := g2.uncons
      obtain ⟨vb, vs'', rfl, rb, g4⟩ := g3.uncons
      obtain rfl := g4.unnil
      show wpAny _ A (assign (.Tuple [.Name (nm i) q, .Name (nm j) r] o t) env (.ref a)) _ _ s1
      refine assign_Tuple_tuple (st1.hnd.zero h0) (isTup_of g1) rfl (by rfl) fun h' xb => ?_
      have kk : Kept s1.heap h' := fun b ob eb => xb b ob (Nat.ne_of_lt (Heap.lt_size eb)) eb
      have st2 := st1.kp (h' := h') kk.kp
      show wpAny _ A (do holding [vb] (assign (.Name (nm i) q) env va); assignInOrder [assign (.Name (nm j) r) env] [vb]) _ _ { s1 with heap := h' }
      have rc1 : Rc X A env hd σ W s σ ρ W1 { s1 with heap := h' } := (Rc.expr p1 k1 c1 st1).trans ⟨.mk s1 h' s1.toks, kk.keep, .refl, st2⟩
      refine wpAny_bind (wpAny_holding (wpAny_assign_Name (store_name (s := { s1 with heap := h' }) eo ht (isNm_lt hy) st2 (v := .dat da) (ra.kept kk) fun h3 tk3 k3 st3 => ?_)))
      have rc3 := rc1.trans (Rc.own (.mk _ h3 tk3) (k3.mono fun a _ _ t => t ▸ tgt_own eo ht) st3)
      show wpAny _ A (do holding [] (assign (.Name (nm j) r) env vb); assignInOrder [] []) _ _ { s1 with heap := h3, toks := tk3 }
      refine wpAny_bind (wpAny_holding (wpAny_assign_Name ?_))
      have rb3 : Rd h3 (live σ W1) vb db := Rd.keepS k3 (fun a o t e => own_ok st2 a o (t ▸ tgt_own eo ht) e) st2.sto.noTup (fun _ _ _ l => l) (rb.kept kk)
      refine wpAny_mono (store_end (s := s) (E := XS X A env hd σ W s _) eo ht2 (isNm_lt hz) rc3 (v := .dat db) rb3 t1) (fun _ _ p => wpAny_pure p) fun _ _ p => p
    · exact absurd rfl hne1
  · exact absurd rfl hne
end
end Mine
end
section
open PySem PySem.W PyProof.Rows PySem.Calls
set_option maxRecDepth 100000
set_option linter.unusedVariables false
set_option linter.unusedSimpArgs false
namespace Mine

section
variable {X : Cx} {n m : Nat} {A A1 : Around} {env : Env} {sc : Sc} {hd hd1 : Nat} {x : PySem.Stmt} {σ σ' σ'' : List Addr} {ρ ρ' ρ'' : Rho} {W W' W'' : Sto} {s s' s'' : Shared}

theorem Rc.yr {h' : Heap} (st : St X A env hd σ ρ W s.heap) (rc : Rc X A env hd σ W s σ' ρ' W' s') (k : Keep X.B (Yr s.heap s'.heap) s'.heap h') : Rc X A env hd σ W s σ' ρ' W' { s' with heap := h' } :=
  ⟨rc.stp.trans (.mk s' h' s'.toks), rc.kp.trans k fun a o e y => (by rw [y.1] at e; cases e), rc.gr, rc.st.yr st (fun q => by
    obtain ⟨e, h1, o, vs, ho, _⟩ := st.hnd.one q
    exact ⟨e, h1, o, ho⟩) k⟩

theorem XS.noted {r : SRes} {v : Value} {E : Value → Shared → Prop} (fa : FrA A1 env) (st : St X A1 env hd1 σ ρ W s.heap) (p : XS X A1 env hd1 σ W s r v s')
    (K : ∀ h' c σ2 ρ2 W2, r = .exc c ρ2 W2 → Rc X A1 env hd1 σ W s σ2 ρ2 W2 { s' with heap := h' } → ExcAt s.heap h' env.locals c v → E v { s' with heap := h' }) :
    notedBy (model X.prog X.w) A1 env (cameBackBy (model X.prog X.w) A env E) v s' := by
  obtain ⟨c, σ2, ρ2, W2, e, rc, xa⟩ := p
  unfold notedBy
  refine note_step fa rc.st rc.kp.all xa fun h1 e1 q1 t1 k1 => ?_
  subst q1
  have rc1 := rc.yr st k1
  refine came_step (s := { s' with heap := h1 }) fa.own t1 fun h2 t2 k2 => ?_
  have rc2 := rc1.yr st k2
  exact K h2 c σ2 ρ2 W2 e rc2 ⟨e1, rfl, .inr t2⟩
theorem XS.noted' {r : SRes} {v : Value} (fa : FrA A env) (st : St X A env hd σ ρ W s.heap) (p : XS X A env hd σ W s r v s') : notedBy (model X.prog X.w) A env (cameBackBy (model X.prog X.w) A env (XS X A env hd σ W s r)) v s' :=
  p.noted fa st fun h' c σ2 ρ2 W2 e rc xa => ⟨c, σ2, ρ2, W2, e, rc, xa⟩

theorem OkA.mono {k : Nat} (h : OkA n A) (hk : k ≤ n) : OkA k A := ⟨by have := h.depth; omega, by have := h.units; omega⟩

theorem ss_whl {c : E} {b : List S} (ihs : ∀ k ≤ n, IHS X k) (h : chS m sc (.whl c b) x = true) (eo : EnvOk X env sc) (ok : OkA (n + 1) A) (fa : FrA A env) : SdS X A env hd (exec x env) (fun ρ W => exS fns (n + 1) hd ρ (.whl c b) W) := by
  cases m with
  | zero => rw [chS_zero] at h; cases h
  | succ m =>
  obtain ⟨t, bs, p, rfl, hc, hb⟩ := inv_whl h
  intro σ ρ W s st hne
  dsimp only at hne ⊢
  refine wpAny_While (codeAny_whileLoop (fun k s1 => k ≤ n + 1 ∧ ∃ σ1 ρ1 W1, Rc X A env hd σ W s σ1 ρ1 W1 s1 ∧ exS fns k hd ρ1 (.whl c b) W1 = exS fns (n + 1) hd ρ (.whl c b) W) (fun k s1 hI => ?_) (n + 1) ⟨Nat.le_refl _, σ, ρ, W, .refl st, rfl⟩)
  obtain ⟨hk, σ1, ρ1, W1, rc1, er⟩ := hI
  generalize hr : exS fns (n + 1) hd ρ (.whl c b) W = r at hne er ⊢
  cases k with
  | zero => rw [exS] at er; rw [← er] at hne; exact absurd rfl hne
  | succ k =>
  have ih := ihs k (by first | decide | omega)
  have okk : OkA k A := ok.mono (by first | decide | omega)
  rw [exS] at er
  rw [← er] at hne
  refine Sd.toS (ih.T hc eo okk) rc1.st hne (fun v s' p => (p.lift rc1 er.symm).noted' fa st) fun v tt W2 s2 e2 p2 k2 c2 st2 r2 hne2 t2 => ?_
  have hq : v = tt := r2
  subst hq
  have rc2 := rc1.trans (Rc.expr p2 k2 c2 st2)
  rw [er] at t2
  cases v with
  | false =>
    rw [if_neg Bool.false_ne_true]
    exact wpAny_execs_nil ⟨.next, σ1, ρ1, W2, t2, rc2, trivial⟩
  | true =>
    rw [if_pos rfl]
    simp only [if_true] at t2 hne2
    have hneb : exSeq (fun s ρ W => exS fns k hd ρ s W) b ρ1 W2 ≠ .bad := fun q => by rw [q] at hne2; exact hne2 rfl
    refine wpAny_mono (seq_of (ih := ih) hb eo okk fa σ1 ρ1 W2 s2 st2 hneb) (fun fl s3 p3 => ?_) fun v s3 p3 => ?_
    · obtain ⟨g, σ3, ρ3, W3, e3, rc3, fr3⟩ := p3
      have rc := rc2.trans rc3
      rw [e3] at t2
      cases g with
      | next => cases fl <;> first | exact fr3.elim | exact ⟨k, by omega, by omega, σ3, ρ3, W3, rc, t2.symm⟩
      | cont => cases fl <;> first | exact fr3.elim | exact ⟨k, by omega, by omega, σ3, ρ3, W3, rc, t2.symm⟩
      | brk => cases fl <;> first | exact fr3.elim | exact ⟨.next, σ3, ρ3, W3, t2, rc, trivial⟩
      | ret d =>
        cases fl with
        | ret v => exact ⟨.ret d, σ3, ρ3, W3, t2, rc, fr3⟩
        | _ => exact fr3.elim
    · obtain ⟨cc, σ3, ρ3, W3, e3, rc3, xa3⟩ := p3
      rw [e3] at t2
      have : XS X A env hd σ W s r v s3 := ⟨cc, σ3, ρ3, W3, t2, rc2.trans rc3, xa3.back rc2.kp⟩
      exact this.noted' fa st
end
end Mine
end
section
open PySem PySem.W PyProof.Rows PySem.Calls
set_option maxRecDepth 100000
set_option linter.unusedVariables false
set_option linter.unusedSimpArgs false
namespace Mine

section
variable {X : Cx} {n m : Nat} {A A1 : Around} {env : Env} {sc : Sc} {hd hd1 : Nat} {x : PySem.Stmt} {σ σ' σ'' : List Addr} {ρ ρ' ρ'' : Rho} {W W' W'' : Sto} {s s' s'' : Shared}

theorem It.stmt {I : Addr} {ds : List D} {hd : Nat} (i : It s'.heap (live σ' W') I ds) (st : St X A env hd σ' ρ W' s'.heap) (rc : Rc X A env hd σ' W' s' σ'' ρ'' W'' s'') : It s''.heap (live σ'' W'') I ds :=
  i.keep rc.kp (fun a o t e => by
    rcases t with l | q
    · exact .inl l
    · exact own_ok st a o q e) st.sto.noTup (fun a o l e => (live_isList st.sto l e).2) rc.gr.lv

theorem ss_for {i : Nat} {it : E} {b : List S} (ih : IHS X n) (h : chS m sc (.for_ i it b) x = true) (eo : EnvOk X env sc) (ok : OkA (n + 1) A) (fa : FrA A env) : SdS X A env hd (exec x env) (fun ρ W => exS fns (n + 1) hd ρ (.for_ i it b) W) := by
  cases m with
  | zero => rw [chS_zero] at h; cases h
  | succ m =>
  obtain ⟨y, q, ix, bs, p, rfl, hy, ht, hit, hb⟩ := inv_for h
  obtain rfl := isNm_eq hy
  intro σ ρ W s st hne
  dsimp only at hne ⊢
  rw [exS] at hne ⊢
  split at hne
  · rename_i h0
    subst h0
    rw [if_pos rfl]
    obtain ⟨ds, W1, e1, e1'⟩ := res_ok (to_ne hne)
    rw [e1'] at hne ⊢
    simp only [Res.to] at hne ⊢
    have hh := st.hnd.zero rfl
    refine wpAny_For (SdI.okK (ih.I hit eo ok.pred) st e1 fun I s1 p1 k1 d1 st1 i1 fr1 => ?_) (ch_notSet hit)
    generalize hr : exFor (fun ρ W => exSeq (fun s ρ W => exS fns n 0 ρ s W) b ρ W) i ds ρ W1 = r at hne ⊢
    have lo : X.h₀.get? I = none := by
      cases q : X.h₀.get? I with
      | none => rfl
      | some o => rw [st.base _ _ q] at fr1; cases fr1
    have neI : ∀ {a o}, s.heap.get? a = some o → a ≠ I := fun e q => by subst q; rw [fr1] at e; cases e
    refine codeAny_forLoop (fun k s2 => ∃ ds2 σ2 ρ2 W2, k = ds2.length ∧ Rc X A env 0 σ W s σ2 ρ2 W2 s2 ∧ It s2.heap (live σ2 W2) I ds2 ∧ exFor (fun ρ W => exSeq (fun s ρ W => exS fns n 0 ρ s W) b ρ W) i ds2 ρ2 W2 = r) (fun k s2 hI => ?_) ds.length ⟨ds, σ, ρ, W1, rfl, .expr p1 k1 d1 st1, i1, hr⟩
    obtain ⟨ds2, σ2, ρ2, W2, rfl, rc2, i2, er⟩ := hI
    obtain ⟨oI, vI, hoI, hfI⟩ := i2.obj
    cases ds2 with
    | nil =>
      rw [exFor] at er
      refine it_end hh i2 fun h' xb => wpAny_execs_nil ⟨.next, σ2, ρ2, W2, er.symm, ⟨rc2.stp.trans (.mk s2 h' s2.toks), ⟨fun a o e nt => ?_, fun a o e => ?_⟩, rc2.gr, rc2.st.ext xb hoI hfI lo rfl⟩, trivial⟩
      · obtain ⟨o', e', sm⟩ := rc2.kp.obj a o e nt
        exact ⟨o', xb a o' (neI e) e', sm⟩
      · obtain ⟨o', e'⟩ := rc2.kp.all a o e
        exact ⟨o', xb a o' (neI e) e'⟩
    | cons d ds2 =>
      rw [exFor] at er
      refine it_next i2 fun v h3 tk3 i3 sb3 r3 => ?_
      obtain ⟨oI', vI', hoI', hfI'⟩ := i3.obj
      have st3 := rc2.st.field (vs := vI) (vs' := vI') sb3 hoI hfI hoI' lo
      have rc3 : Rc X A env 0 σ W s σ2 ρ2 W2 { s2 with heap := h3, toks := tk3 } :=
        ⟨rc2.stp.trans (.mk s2 h3 tk3), rc2.kp.trans (Keep.sameBut (T := fun b => b = I) sb3 rfl hoI') (fun a o e t => absurd t (neI e)), rc2.gr, st3⟩
      refine wpAny_assign_Name (store_name (s := { s2 with heap := h3, toks := tk3 }) eo ht (isNm_lt hy) st3 (v := .dat d) r3 fun h4 tk4 k4 st4 => ?_)
      have i4 := It.store eo ht i3 st3 k4
      have rc4 : Rc X A env 0 σ W s σ2 (setV i (.dat d) ρ2) W2 { s2 with heap := h4, toks := tk4 } := rc3.trans (Rc.own (.mk _ h4 tk4) (k4.mono fun a _ _ t => t ▸ tgt_own eo ht) st4)
      have hneb : exSeq (fun s ρ W => exS fns n 0 ρ s W) b (setV i (.dat d) ρ2) W2 ≠ .bad := fun q => by rw [q] at er; rw [← er] at hne; exact hne rfl
      refine wpAny_mono (seq_of (ih := ih) hb eo ok.pred fa σ2 _ W2 { s2 with heap := h4, toks := tk4 } st4 hneb) (fun fl s5 p5 => ?_) fun v s5 p5 => ?_
      · obtain ⟨g, σ5, ρ5, W5, e5, rc5, fr5⟩ := p5
        have rc := rc4.trans rc5
        have i5 := i4.stmt st4 rc5
        rw [e5] at er
        cases g with
        | next => cases fl <;> first | exact fr5.elim | exact ⟨ds2.length, by simp, ds2, σ5, ρ5, W5, rfl, rc, i5, er⟩
        | cont => cases fl <;> first | exact fr5.elim | exact ⟨ds2.length, by simp, ds2, σ5, ρ5, W5, rfl, rc, i5, er⟩
        | brk => cases fl <;> first | exact fr5.elim | exact ⟨.next, σ5, ρ5, W5, er.symm, rc, trivial⟩
        | ret d =>
          cases fl with
          | ret v => exact ⟨.ret d, σ5, ρ5, W5, er.symm, rc, fr5⟩
          | _ => exact fr5.elim
      · obtain ⟨cc, σ5, ρ5, W5, e5, rc5, xa5⟩ := p5
        rw [e5] at er
        rw [← er] at hne
        exact absurd rfl hne
  · exact absurd rfl hne

/-- another handled exception around -/
theorem St.mark {h : Heap} {o : Option Value} (st : St X A env hd σ ρ W h) (H : Hd hd1 (A.mark o) h) : St X (A.mark o) env hd1 σ ρ W h := ⟨st.base, st.frs, st.ns, st.cel, st.vars, st.sto, H⟩
theorem St.unmark {h : Heap} {o : Option Value} (st : St X (A.mark o) env hd1 σ ρ W h) (H : Hd hd A h) : St X A env hd σ ρ W h := ⟨st.base, st.frs, st.ns, st.cel, st.vars, st.sto, H⟩
theorem FrA.mark {o : Option Value} (f : FrA A env) : FrA (A.mark o) env := ⟨f.own, f.frs⟩
theorem OkA.mark {o : Option Value} (k : OkA n A) : OkA n (A.mark o) := ⟨k.depth, k.units⟩
theorem hd_two {h : Heap} : Hd 2 A h := ⟨fun q => by omega, fun q => by omega⟩
theorem hd_zero {h h' : Heap} (H : Hd 0 A h) : Hd 0 A h' := ⟨H.zero, fun q => by omega⟩
theorem Rc.unmark {o : Option Value} (rc : Rc X A env 0 σ W s σ' ρ' W' s') (rc' : Rc X (A.mark o) env hd1 σ' W' s' σ'' ρ'' W'' s'') : Rc X A env 0 σ W s σ'' ρ'' W'' s'' :=
  ⟨rc.stp.trans rc'.stp, rc.kp.trans rc'.kp fun a o e t => (by
    rcases t with l | q
    · exact .inl (rc.gr.lv a o e l)
    · exact .inr q), rc.gr.trans rc'.gr rc.kp.all, rc'.st.unmark (hd_zero rc.st.hnd)⟩

theorem sub_Index : isSubtype (.type "IndexError") (.type "IndexError") = pure true := by rw [isSubtype_type]; kernel_rfl
theorem sub_Index_Base : isSubtype (.type "IndexError") (.type "BaseException") = pure true := by rw [isSubtype_type]; kernel_rfl
theorem sub_meta : isSubtype (.type ((Manifest.find? "IndexError").elim "type" fun x => x.metatype)) (.type "tuple") = pure false := by
  have : (Manifest.find? "IndexError").elim "type" (fun x => x.metatype) = "type" := by kernel_rfl
  rw [this, isSubtype_type]; kernel_rfl

theorem ss_trye {b hb : List S} (C : CxOk X) (ih : IHS X n) (h : chS m sc (.trye b hb) x = true) (eo : EnvOk X env sc) (ok : OkA (n + 1) A) (fa : FrA A env) : SdS X A env hd (exec x env) (fun ρ W => exS fns (n + 1) hd ρ (.trye b hb) W) := by
  cases m with
  | zero => rw [chS_zero] at h; cases h
  | succ m =>
  obtain ⟨bs, q, h0, hs, pe, p, rfl, hg, hbs, hhs⟩ := inv_trye h
  intro σ ρ W s st hne
  dsimp only at hne ⊢
  generalize hrr : exS fns (n + 1) hd ρ (.trye b hb) W = r at hne ⊢
  rw [exS] at hrr
  split at hrr
  · rename_i hz
    subst hz
    have hneb : exSeq (fun s ρ W => exS fns n 0 ρ s W) b ρ W ≠ .bad := fun q => by rw [q] at hrr; exact hne hrr.symm
    refine wpAny_Try_except (wpAny_mono (seq_of (ih := ih) hbs eo ok.pred fa σ ρ W s st hneb) (fun fl s1 p1 => ?_) fun v s1 p1 => ?_)
    · obtain ⟨g, σ1, ρ1, W1, e1, rc1, fr1⟩ := p1
      rw [e1] at hrr
      have : PS X A env 0 σ W s r fl s1 := ⟨g, σ1, ρ1, W1, hrr.symm, rc1, fr1⟩
      cases fl with
      | next => exact wpAny_execs_nil this
      | _ => exact this
    · obtain ⟨c, σ1, ρ1, W1, e1, rc1, xa1⟩ := p1
      rw [e1] at hrr
      dsimp only at hrr
      refine note_step fa rc1.st rc1.kp.all xa1 fun h2 e q2 t2 k2 => ?_
      subst q2
      have rc2 := rc1.yr st k2
      refine flight_step (s := { s1 with heap := h2 }) t2 fun h3 t3 k3 => ?_
      have rc3 := rc2.yr st k3
      refine wpAny_handleBy_builtin (X := "IndexError") (T := "IndexError") (b := true) sub_Index_Base sub_meta sub_Index ?_
      have st3 : St X (A.mark (some (.ref e))) env 2 σ1 ρ1 W1 h3 := rc3.st.mark hd_two
      refine load_bi (s := { s1 with heap := h3 }) C st3 eo hg (val := .type "IndexError") (by simp [biVals]) ⟨rfl, ?_, ?_⟩
      · obtain ⟨o, vs, T, oT, ts, r1, r2, r3, _⟩ := t3
        exact ⟨o, r2, r3⟩
      rw [if_pos rfl]
      refine flight_step (s := { s1 with heap := h3 }) t3 fun h4 t4 k4 => ?_
      have rc4 := rc3.yr st k4
      have st4 : St X (A.mark (some (.ref e))) env 2 σ1 ρ1 W1 h4 := rc4.st.mark hd_two
      have hneh : exSeq (fun s ρ W => exS fns n 2 ρ s W) hb ρ1 W1 ≠ .bad := fun q => by rw [q] at hrr; rw [← hrr] at hne; exact hne rfl
      refine wpAny_mono (seq_of (ih := ih) hhs eo ok.pred.mark fa.mark σ1 ρ1 W1 { s1 with heap := h4 } st4 hneh) (fun fl s5 p5 => ?_) fun v s5 p5 => ?_
      · obtain ⟨g, σ5, ρ5, W5, e5, rc5, fr5⟩ := p5
        rw [e5] at hrr
        exact ⟨g, σ5, ρ5, W5, hrr.symm, rc4.unmark rc5, fr5⟩
      · obtain ⟨c5, σ5, ρ5, W5, e5, rc5, xa5⟩ := p5
        rw [e5] at hrr
        rw [← hrr] at hne
        exact absurd rfl hne
  · exact absurd hrr.symm hne

theorem Tr.keepS {h0 h h' : Heap} {e : Addr} {c : Bool} {fl : Value} {T : Adr} {B : Nat} (t : Tr h0 h e c fl) (k : Keep B T h h') (hT : ∀ a o vs, T a → h.get? a = some o → o.data ≠ .fields vs) : Tr h0 h' e c fl := by
  obtain ⟨o, vs, T', oT, ts, r1, r2, r3, r4, r5, r6, r7, r8, r9, r10, r11⟩ := t
  obtain ⟨o', e', s⟩ := k.obj e o r2 fun q => hT e o vs q r2 r4
  rw [s.eq fun es ep q => by rw [r4] at q; cases q] at e'
  obtain ⟨o'', e'', s'⟩ := k.obj T' oT r9 fun q => hT T' oT ts q r9 r10
  rw [s'.eq fun es ep q => by rw [r10] at q; cases q] at e''
  exact ⟨o, vs, T', oT, ts, r1, e', r3, r4, r5, r6, r7, r8, e'', r10, r11⟩

theorem turn_notRec (st : St X A env hd σ ρ W s.heap) : ∀ a o vs, (live σ W a ∨ own env a) → s.heap.get? a = some o → o.data ≠ .fields vs := fun a o vs t e q => by
  rcases t with l | w
  · obtain ⟨_, xs, n, q'⟩ := live_isList st.sto l e
    rw [q] at q'; cases q'
  · rcases w with rfl | ⟨x, hx⟩
    · obtain ⟨m, o', es, ep, ho, hd, _⟩ := st.ns
      rw [e] at ho; cases ho; rw [q] at hd; cases hd
    · obtain ⟨v, o', ho, hd⟩ := st.cel x a hx
      rw [e] at ho; cases ho; rw [q] at hd; cases hd

theorem ss_tryf {b fb : List S} (ih : IHS X n) (h : chS m sc (.tryf b fb) x = true) (eo : EnvOk X env sc) (ok : OkA (n + 1) A) (fa : FrA A env) : SdS X A env hd (exec x env) (fun ρ W => exS fns (n + 1) hd ρ (.tryf b fb) W) := by
  cases m with
  | zero => rw [chS_zero] at h; cases h
  | succ m =>
  obtain ⟨bs, f0, fs, p, rfl, hbs, hfs⟩ := inv_tryf h
  intro σ ρ W s st hne
  dsimp only at hne ⊢
  generalize hrr : exS fns (n + 1) hd ρ (.tryf b fb) W = r at hne ⊢
  rw [exS] at hrr
  split at hrr
  · rename_i hz
    subst hz
    have hneb : exSeq (fun s ρ W => exS fns n 0 ρ s W) b ρ W ≠ .bad := fun q => by rw [q] at hrr; exact hne hrr.symm
    refine wpAny_Try_finally (wpAny_mono (seq_of (ih := ih) hbs eo ok.pred fa σ ρ W s st hneb) (fun fl s1 p1 => ?_) fun v s1 p1 => ?_)
    · obtain ⟨g, σ1, ρ1, W1, e1, rc1, fr1⟩ := p1
      rw [e1] at hrr
      cases g with
      | next =>
        cases fl with
        | next =>
          dsimp only at hrr
          have hnef : exSeq (fun s ρ W => exS fns n 0 ρ s W) fb ρ1 W1 ≠ .bad := fun q => by rw [q] at hrr; exact hne hrr.symm
          refine wpAny_execs_nil ?_
          refine wpAny_mono (seq_of (ih := ih) hfs eo ok.pred fa σ1 ρ1 W1 s1 rc1.st hnef) (fun fl s2 p2 => ?_) fun v s2 p2 => ?_
          · obtain ⟨g2, σ2, ρ2, W2, e2, rc2, fr2⟩ := p2
            rw [e2] at hrr
            cases g2 with
            | next =>
              cases fl with
              | next => exact ⟨.next, σ2, ρ2, W2, hrr.symm, rc1.trans rc2, trivial⟩
              | _ => exact fr2.elim
            | _ => exact absurd hrr.symm hne
          · obtain ⟨c2, σ2, ρ2, W2, e2, rc2, xa2⟩ := p2
            rw [e2] at hrr
            have : XS X A env 0 σ W s r v s2 := ⟨c2, σ2, ρ2, W2, hrr.symm, rc1.trans rc2, xa2.back rc1.kp⟩
            exact this.noted' fa st
        | _ => exact fr1.elim
      | _ => exact absurd hrr.symm hne
    · obtain ⟨c, σ1, ρ1, W1, e1, rc1, xa1⟩ := p1
      rw [e1] at hrr
      cases c with
      | false => exact absurd hrr.symm hne
      | true =>
      dsimp only at hrr
      refine note_step fa rc1.st rc1.kp.all xa1 fun h2 e q2 t2 k2 => ?_
      subst q2
      have rc2 := rc1.yr st k2
      refine ⟨ref_ne_byPass e, ?_⟩
      refine note_step (s := { s1 with heap := h2 }) fa rc2.st rc2.kp.all ⟨e, rfl, .inr t2⟩ fun h3 e3 q3 t3 k3 => ?_
      cases q3
      have rc3 := rc2.yr st k3
      refine flight_step (s := { s1 with heap := h3 }) t3 fun h4 t4 k4 => ?_
      have rc4 := rc3.yr st k4
      have st4 : St X (A.mark (some (.ref e))) env 1 σ1 ρ1 W1 h4 := rc4.st.mark ⟨fun q => absurd q (by decide), fun _ => ⟨e, rfl, by
        obtain ⟨o, vs, T, oT, ts, r1, r2, r3, r4, r5, _⟩ := t4
        exact ⟨o, vs, r2, r4, r5 rfl⟩⟩⟩
      have hnef : exSeq (fun s ρ W => exS fns n 1 ρ s W) fb ρ1 W1 ≠ .bad := fun q => by rw [q] at hrr; exact hne hrr.symm
      refine wpAny_mono (seq_of (ih := ih) hfs eo ok.pred.mark fa.mark σ1 ρ1 W1 { s1 with heap := h4 } st4 hnef) (fun fl s5 p5 => ?_) fun v s5 p5 => ?_
      · obtain ⟨g5, σ5, ρ5, W5, e5, rc5, fr5⟩ := p5
        rw [e5] at hrr
        cases g5 with
        | next =>
          cases fl with
          | next =>
            have t5 := t4.keepS rc5.kp (turn_notRec (s := { s1 with heap := h4 }) st4)
            refine passOn_step fa.own t5 fun h6 t6 k6 => ?_
            have rc5' := rc4.unmark rc5
            have rc6 := rc5'.yr st k6
            exact ⟨true, σ5, ρ5, W5, hrr.symm, rc6, ⟨e, rfl, .inr t6⟩⟩
          | _ => exact fr5.elim
        | _ => exact absurd hrr.symm hne
      · refine p5.noted fa.mark st4 fun h6 c6 σ6 ρ6 W6 e6 rc6 xa6 => ?_
        rw [e6] at hrr
        exact ⟨c6, σ6, ρ6, W6, hrr.symm, rc4.unmark rc6, xa6.back rc4.kp⟩
  · exact absurd hrr.symm hne
end
end Mine
end
section
open PySem PySem.W PyProof.Rows PySem.Calls
set_option maxRecDepth 100000
set_option linter.unusedVariables false
set_option linter.unusedSimpArgs false
namespace Mine

noncomputable def argsOk (a : Arguments) : Bool := a.posonlyargs.isEmpty && a.kwonlyargs.isEmpty && a.vararg.isNone && a.kwarg.isNone && decide ((a.args.map (·.arg)).Nodup) && decide (a.args.length ≤ 3)
/-- a function's own parameters -/
noncomputable def argsAt (f : Nat) : Arguments := match defOf (fnm f) PySem.Challenge.pw_oc0061_01.main.body with
  | some (args, _, _) => args
  | none => ⟨[], [], none, [], [], none, []⟩
noncomputable def arity (f : Nat) : Nat := [2, 1, 3, 2, 1, 1, 2, 2, 3, 1].getD f 0
theorem arity_ok : ∀ f < 10, (argsAt f).args.length = arity f := by decide +kernel
noncomputable def withP (fd : FuncData) (f : Nat) : FuncData := { fd with params := argsAt f, defaults := .none }
noncomputable def namesAt (f : Nat) : List Str := (argsAt f).args.map (·.arg)
theorem bind_0 (fd : FuncData) (u v : Value) : bindArgs (withP fd 0) ⟨[u, v], []⟩ = pure ((namesAt 0).zip [u, v]) := by kernel_rfl
theorem bind_1 (fd : FuncData) (u : Value) : bindArgs (withP fd 1) ⟨[u], []⟩ = pure ((namesAt 1).zip [u]) := by kernel_rfl
theorem bind_2 (fd : FuncData) (u v w : Value) : bindArgs (withP fd 2) ⟨[u, v, w], []⟩ = pure ((namesAt 2).zip [u, v, w]) := by kernel_rfl
theorem bind_3 (fd : FuncData) (u v : Value) : bindArgs (withP fd 3) ⟨[u, v], []⟩ = pure ((namesAt 3).zip [u, v]) := by kernel_rfl
theorem bind_4 (fd : FuncData) (u : Value) : bindArgs (withP fd 4) ⟨[u], []⟩ = pure ((namesAt 4).zip [u]) := by kernel_rfl
theorem bind_5 (fd : FuncData) (u : Value) : bindArgs (withP fd 5) ⟨[u], []⟩ = pure ((namesAt 5).zip [u]) := by kernel_rfl
theorem bind_6 (fd : FuncData) (u v : Value) : bindArgs (withP fd 6) ⟨[u, v], []⟩ = pure ((namesAt 6).zip [u, v]) := by kernel_rfl
theorem bind_7 (fd : FuncData) (u v : Value) : bindArgs (withP fd 7) ⟨[u, v], []⟩ = pure ((namesAt 7).zip [u, v]) := by kernel_rfl
theorem bind_8 (fd : FuncData) (u v w : Value) : bindArgs (withP fd 8) ⟨[u, v, w], []⟩ = pure ((namesAt 8).zip [u, v, w]) := by kernel_rfl
theorem bind_9 (fd : FuncData) (u : Value) : bindArgs (withP fd 9) ⟨[u], []⟩ = pure ((namesAt 9).zip [u]) := by kernel_rfl
theorem bind_l1 {P : List Value → Prop} (h : ∀ u, P [u]) (vals : List Value) (q : vals.length = 1) : P vals := by
  obtain ⟨u, rfl⟩ := List.length_eq_one_iff.mp q
  exact h u
theorem bind_l2 {P : List Value → Prop} (h : ∀ u v, P [u, v]) (vals : List Value) (q : vals.length = 2) : P vals := by
  cases vals with
  | nil => cases q
  | cons u vals => exact bind_l1 (P := fun l => P (u :: l)) (h u) vals (by simpa using q)
theorem bind_l3 {P : List Value → Prop} (h : ∀ u v w, P [u, v, w]) (vals : List Value) (q : vals.length = 3) : P vals := by
  cases vals with
  | nil => cases q
  | cons u vals => exact bind_l2 (P := fun l => P (u :: l)) (h u) vals (by simpa using q)
noncomputable def BindP (fd : FuncData) (f : Nat) : Prop := ∀ vals : List Value, vals.length = arity f → bindArgs (withP fd f) ⟨vals, []⟩ = pure ((namesAt f).zip vals)
theorem all_ten {P : Nat → Prop} (h0 : P 0) (h1 : P 1) (h2 : P 2) (h3 : P 3) (h4 : P 4) (h5 : P 5) (h6 : P 6) (h7 : P 7) (h8 : P 8) (h9 : P 9) : ∀ f, f < 10 → P f := by
  intro f hf
  have : ∀ f ∈ [0, 1, 2, 3, 4, 5, 6, 7, 8, 9], P f := by
    simp only [List.forall_mem_cons]
    exact ⟨h0, h1, h2, h3, h4, h5, h6, h7, h8, h9, fun _ q => (nomatch q)⟩
  exact this f (List.mem_range.mpr hf)
theorem bind_at (fd : FuncData) {f : Nat} (hf : f < 10) {vals : List Value} (hl : vals.length = arity f) : bindArgs (withP fd f) ⟨vals, []⟩ = pure ((namesAt f).zip vals) :=
  all_ten (P := BindP fd) (bind_l2 fun u v => bind_0 fd u v) (bind_l1 fun u => bind_1 fd u) (bind_l3 fun u v w => bind_2 fd u v w) (bind_l2 fun u v => bind_3 fd u v) (bind_l1 fun u => bind_4 fd u) (bind_l1 fun u => bind_5 fd u) (bind_l2 fun u v => bind_6 fd u v) (bind_l2 fun u v => bind_7 fd u v) (bind_l3 fun u v w => bind_8 fd u v w) (bind_l1 fun u => bind_9 fd u) f hf vals hl
theorem bind_args {fd : FuncData} {vals : List Value} {f : Nat} {args : Arguments} {body : List PySem.Stmt} {scope : Scope} (hf : f < 10) (h : defOf (fnm f) PySem.Challenge.pw_oc0061_01.main.body = some (args, body, scope)) (hp : fd.params = args) (hd : fd.defaults = .none) (hl : vals.length = fd.params.args.length) :
    bindArgs fd ⟨vals, []⟩ = pure ((fd.params.args.map (·.arg)).zip vals) := by
  have ea : argsAt f = args := by unfold argsAt; rw [h]
  have e : fd = withP fd f := by unfold withP; cases fd; cases hp; cases hd; rw [ea]
  have := bind_at fd hf (vals := vals) (by rw [hl, hp, ← ea, arity_ok f hf])
  rw [← e] at this
  rw [this, hp, ← ea]; rfl

noncomputable def fnOk (i : Nat) : Bool :=
  match defOf (fnm i) PySem.Challenge.pw_oc0061_01.main.body with
  | some (args, _, scope) => argsOk args && (match scope.kind with | .function => true | _ => false) && !scope.isGenerator && !scope.isCoroutine && scope.names.all (fun p => (match p.2 with
    | .free => false
    | _ => true))
  | none => false
theorem fn_ok : ∀ i < 10, fnOk i = true := by decide +kernel
structure FnOk (args : Arguments) (scope : Scope) : Prop where
  args : argsOk args = true
  kind : scope.kind = .function
  gen : scope.isGenerator = false
  co : scope.isCoroutine = false
  free : ∀ x, (x, NameKind.free) ∉ scope.names
theorem fnOk_of {f : Nat} {args : Arguments} {body : List PySem.Stmt} {scope : Scope} (hf : f < 10) (h : defOf (fnm f) PySem.Challenge.pw_oc0061_01.main.body = some (args, body, scope)) : FnOk args scope := by
  have q := fn_ok f hf
  unfold fnOk at q
  rw [h] at q
  simp only [Bool.and_eq_true, Bool.not_eq_true', List.all_eq_true] at q
  obtain ⟨⟨⟨⟨h1, h2⟩, h3⟩, h4⟩, h5⟩ := q
  refine ⟨h1, ?_, h3, h4, fun x hx => ?_⟩
  · split at h2
    · assumption
    · cases h2
  · have := h5 _ hx
    cases this

section
variable {kf : Str → Option NameKind}
theorem bindL_ne {n : Str} : ∀ {bs : List (Str × Value)} {m : Str → Option Value}, n ∉ bs.map (·.1) → bindL kf bs m n = m n
  | [], m, _ => rfl
  | (k, v) :: r, m, h => by
    rw [bindL, bindL_ne (fun q => h (List.mem_cons_of_mem _ q))]
    have hk : n ≠ k := fun q => h (by rw [q]; exact List.mem_cons_self)
    split
    · simp [hk]
    · rfl
theorem bindC_ne {n : Str} : ∀ {bs : List (Str × Value)} {m : Str → Option Value}, n ∉ bs.map (·.1) → bindC kf bs m n = m n
  | [], m, _ => rfl
  | (k, v) :: r, m, h => by
    rw [bindC, bindC_ne (fun q => h (List.mem_cons_of_mem _ q))]
    have hk : n ≠ k := fun q => h (by rw [q]; exact List.mem_cons_self)
    split
    · rfl
    · simp [hk]
theorem bindL_mem {n : Str} {v : Value} (hl : kf n = some .local) : ∀ {bs : List (Str × Value)} {m : Str → Option Value}, (bs.map (·.1)).Nodup → (n, v) ∈ bs → bindL kf bs m n = some v
  | (k, u) :: r, m, hn, h => by
    rw [List.map_cons, List.nodup_cons] at hn
    rw [bindL]
    rcases List.mem_cons.mp h with e | h
    · cases e
      rw [bindL_ne hn.1, if_pos hl]; simp
    · exact bindL_mem hl hn.2 h
theorem bindC_mem {n : Str} {v : Value} (hl : ¬ kf n = some .local) : ∀ {bs : List (Str × Value)} {m : Str → Option Value}, (bs.map (·.1)).Nodup → (n, v) ∈ bs → bindC kf bs m n = some v
  | (k, u) :: r, m, hn, h => by
    rw [List.map_cons, List.nodup_cons] at hn
    rw [bindC]
    rcases List.mem_cons.mp h with e | h
    · cases e
      rw [bindC_ne hn.1, if_neg hl]; simp
    · exact bindC_mem hl hn.2 h
end

theorem bindArgsV_get : ∀ {ps : List Nat} {vs : List V} {ρ : Rho}, bindArgsV ps vs = some ρ → ps.length = vs.length ∧ ∀ x v, getV ρ x = some v → ∃ i : Nat, ps[i]? = some x ∧ vs[i]? = some v
  | [], [], ρ, h => by cases h; exact ⟨rfl, fun x v e => by cases e⟩
  | [], _ :: _, ρ, h => by cases h
  | _ :: _, [], ρ, h => by cases h
  | p :: ps, v :: vs, ρ, h => by
    rw [bindArgsV] at h
    cases e : bindArgsV ps vs with
    | none => rw [e] at h; cases h
    | some ρ' =>
      rw [e] at h; cases h
      obtain ⟨h1, h2⟩ := bindArgsV_get e
      refine ⟨by simp [h1], fun x u q => ?_⟩
      unfold getV at q
      rw [List.lookup_cons] at q
      cases hx : x == p with
      | true => rw [hx] at q; cases q; exact ⟨0, by rw [beq_iff_eq.mp hx]; rfl, rfl⟩
      | false =>
        rw [hx] at q
        obtain ⟨i, a, b⟩ := h2 x u q
        exact ⟨i + 1, a, b⟩
theorem all2_get {α β : Type} {f : α → β → Bool} : ∀ {as : List α} {bs : List β}, all2 f as bs = true → as.length = bs.length ∧ ∀ (i : Nat) b, bs[i]? = some b → ∃ a, as[i]? = some a ∧ f a b = true
  | [], [], _ => ⟨rfl, fun i b e => by cases e⟩
  | [], _ :: _, h => by simp [all2] at h
  | _ :: _, [], h => by simp [all2] at h
  | a :: as, b :: bs, h => by
    rw [all2, Bool.and_eq_true] at h
    obtain ⟨h1, h2⟩ := all2_get h.2
    refine ⟨by simp [h1], fun i c e => ?_⟩
    cases i with
    | zero => cases e; exact ⟨a, rfl, h.1⟩
    | succ i => exact h2 i c e
theorem All2.get {α β : Type} {R : α → β → Prop} : ∀ {as : List α} {bs : List β}, All2 R as bs → ∀ (i : Nat) b, bs[i]? = some b → ∃ a, as[i]? = some a ∧ R a b
  | _, _, .nil, i, b, e => by cases e
  | _, _, .cons r rs, i, b, e => by
    cases i with
    | zero => cases e; exact ⟨_, rfl, r⟩
    | succ i => exact rs.get i b e

section
variable {X : Cx} {n : Nat} {A : Around} {env : Env} {sc : Sc} {hd : Nat} {σ : List Addr} {ρ : Rho} {W : Sto} {s : Shared}

theorem sto_takeG {h : Heap} {W' : Sto} {τ : List Addr} {k : Nat} (s : StoAt X h (σ ++ τ) W') (hk : k = σ.length) : StoAt X h σ (W'.take k) ∧ ∀ a, live σ (W'.take k) a → live (σ ++ τ) W' a := by
  have up : ∀ {j : Nat} {ds : List D} {a : Addr}, (W'.take k)[j]? = some (some ds) → σ[j]? = some a → W'[j]? = some (some ds) ∧ (σ ++ τ)[j]? = some a := fun {j ds a} h1 h2 => by
    have hj := (List.getElem?_eq_some_iff.mp h2).1
    rw [List.getElem?_take_of_lt (by first | decide | omega)] at h1
    exact ⟨h1, by rw [List.getElem?_append_left hj]; exact h2⟩
  have lv : ∀ a, live σ (W'.take k) a → live (σ ++ τ) W' a := fun a l => by
    obtain ⟨i, es, l1, l2⟩ := l
    obtain ⟨l1, l2⟩ := up l1 l2
    exact ⟨i, es, l1, l2⟩
  refine ⟨⟨?_, fun i j ds es a h1 h2 h3 h4 => ?_, fun a ha => s.lo a (List.mem_append.mpr (.inl ha)), fun j ds a h1 h2 => ?_⟩, lv⟩
  · have := s.len
    rw [List.length_append] at this
    rw [List.length_take]; omega
  · obtain ⟨a1, b1⟩ := up h1 h3
    obtain ⟨a2, b2⟩ := up h2 h4
    exact s.nodup i j ds es a a1 a2 b1 b2
  · obtain ⟨a1, b1⟩ := up h1 h2
    obtain ⟨vs, q, h3, h4⟩ := s.lst j ds a a1 b1
    exact ⟨vs, q, h3, h4.weaken fun b o e l => lv b l⟩
end
end Mine
end
section
open PySem PySem.W PyProof.Rows PySem.Calls
set_option maxRecDepth 100000
set_option linter.unusedVariables false
set_option linter.unusedSimpArgs false
namespace Mine

section
variable {X : Cx} {n : Nat} {A : Around} {env : Env} {sc : Sc} {hd : Nat} {σ : List Addr} {ρ : Rho} {W : Sto} {s : Shared}

theorem sc_call {f : Nat} {a : Addr} {vs : List V} {vals : List Value} (C : CxOk X) (ih : IHS X n) (hf : f < 10) (ha : X.mg (fnm f) = some (.ref a)) (st : St X A env 0 σ ρ W s.heap) (lo : X.B ≤ env.locals) (ok : OkA (n + 1) A) (vr : VRs σ s.heap (live σ W) vals vs)
    (hne : callF fns (n + 1) f vs W ≠ .bad) : wpAny (model X.prog X.w) A (call (.ref a) vals) (PG Rd X A env 0 σ ρ s W (callF fns (n + 1) f vs W)) (fun _ _ => False) s := by
  obtain ⟨ar, body, scope, fn, d1, d2, d3, d4⟩ := def_of hf
  obtain ⟨a', o, pm, code, doc, g1, g2, g3, g4⟩ := C.fn f ar body scope hf d1
  rw [ha] at g1; cases g1
  have fo := fnOk_of hf d1
  generalize hr : callF fns (n + 1) f vs W = r at hne ⊢
  rw [callF, d2] at hr
  dsimp only at hr
  cases hb : bindArgsV fn.params vs with
  | none => rw [hb] at hr; exact absurd hr.symm hne
  | some ρ0 =>
  rw [hb] at hr
  dsimp only at hr
  obtain ⟨hl1, hget⟩ := bindArgsV_get hb
  obtain ⟨hl2, hag⟩ := all2_get d3
  have hl3 : vals.length = vs.length := vr.length
  have hlen : vals.length = ar.args.length := by rw [hl3, ← hl1, hl2]
  have hneb : exSeq (fun s ρ W => exS fns n 0 ρ s W) fn.body ρ0 W ≠ .bad := fun q => by rw [q] at hr; exact hne hr.symm
  have hL : X.B ≤ s.heap.objs.size := by
    obtain ⟨m, o, _, _, ho, _⟩ := st.ns
    exact Nat.le_of_lt (Nat.lt_of_le_of_lt lo (Heap.lt_size ho))
  generalize hfd : docDef (fnm f) ar body scope pm code doc = fd at g3
  have hscope : fd.scope = scope := by rw [← hfd]; rfl
  have hnames : (ar.args.map (·.arg)).Nodup := by
    have := fo.args
    unfold argsOk at this
    simp only [Bool.and_eq_true, decide_eq_true_eq] at this
    exact this.1.2
  have hkeys : (((ar.args.map (·.arg)).zip vals).map (·.1)) = ar.args.map (·.arg) := by
    rw [List.map_fst_zip]
    simp [hlen]
  have htg : ∀ p ∈ (ar.args.map (·.arg)).zip vals, isTgt scope.names p.1 = true := fun p hp => by
    have := (List.of_mem_zip hp).1
    obtain ⟨ag, hag', e⟩ := List.mem_map.mp this
    rw [← e]
    obtain ⟨i, hi⟩ := List.mem_iff_getElem?.mp hag'
    have hip : i < fn.params.length := by rw [← hl2]; exact (List.getElem?_eq_some_iff.mp hi).1
    obtain ⟨b, hb1, hb2⟩ := hag i _ (List.getElem?_eq_getElem hip)
    rw [hi] at hb1; cases hb1
    rw [Bool.and_eq_true] at hb2
    exact hb2.2
  refine wpAny_call ?_
  refine codeAny_call_cells (o := o) (fd := fd) (body := body) (binds := (ar.args.map (·.arg)).zip vals) (by have := ok.depth; omega) (st.base _ _ g2) g3 (C.nolimit.keeps st.base) ?_ (by rw [← hfd]; rfl) ?_ (by rw [← hfd]; rfl) (fun p hp => ?_) (fun s₁ ic => ?_) (by rw [hscope]; exact fo.co) (by rw [hscope]; exact fo.gen) (by rw [hscope]; exact fo.kind)
  · have : fd.code = code ∧ fd.qualname = fnm f := by rw [← hfd]; exact ⟨rfl, rfl⟩
    rw [this.1, this.2]
    exact g4.keeps st.base
  · have hp : fd.params = ar := by rw [← hfd]; rfl
    have := bind_args (fd := fd) (vals := vals) hf d1 hp (by rw [← hfd]; rfl) (by rw [hp]; exact hlen)
    rw [this, hp]
  · have := htg p hp
    unfold isTgt at this
    rw [hscope]
    split at this
    · exact .inl (by assumption)
    · rename_i q
      refine .inr ⟨q, ?_⟩
      obtain ⟨c, hc⟩ := cells_has (s.heap.objs.size + 1) scope.names _ (mem_of_lookup q)
      obtain ⟨d, hd⟩ := lookup_of_mem hc
      rw [hd]; rfl
    · cases this
  generalize hE : callEnvC fd s.heap.objs.size a = En at ic ⊢
  have eL : En.locals = s.heap.objs.size := by rw [← hE]; rfl
  have eC : En.cells = cellsFrom (s.heap.objs.size + 1) scope.names [] := by rw [← hE, ← hscope]; rfl
  have eK : ∀ x, En.kindOf x = scope.names.lookup x := fun x => by rw [← hE, ← hscope]; rfl
  have eF : En.frame = some En.locals := by rw [← hE]; rfl
  have eS : En.scope.kind = .function := by rw [← hE]; show fd.scope.kind = _; rw [hscope]; exact fo.kind
  have eo : EnvOk X En scope.names := by
    refine ⟨eS, by rw [← hE, ← hfd]; rfl, by rw [← hE, ← hfd]; rfl, by rw [eL]; exact hL, fun x k e _ => by rw [eK]; exact e, fun x e => .inr (by rw [eK]; exact e), fun x e => ?_, fun x c e => ?_, fun x y c e1 e2 => name_of_addr ic.apart (mem_of_lookup e1) (mem_of_lookup e2)⟩
    · rw [eK] at e
      rcases e with e | e
      · rw [eC]
        obtain ⟨c, hc⟩ := cells_has (s.heap.objs.size + 1) scope.names _ (mem_of_lookup e)
        exact lookup_of_mem hc
      · exact absurd (mem_of_lookup e) (fo.free x)
    · have := ic.above x c (mem_of_lookup e)
      rw [eL] at this
      exact Nat.le_of_lt (Nat.lt_of_le_of_lt hL this)
  obtain ⟨h1, tk1, hs1⟩ := ic.toInCall.same
  have kp : Kept s.heap s₁.heap := ic.toInCall.keep
  obtain ⟨fs, hfs, hFr⟩ := st.frs
  have stk := st.kp (h' := s₁.heap) kp.kp
  have hdf : (A.deeper En).frames = some (En :: fs) := by show A.frames.map _ = _; rw [hfs]; rfl
  have st1 : St X (A.deeper En) En 0 σ ρ0 W s₁.heap := by
    refine ⟨stk.base, ⟨En :: fs, hdf, fun e he => ?_⟩, ⟨_, ic.toInCall.ns⟩, fun x c e => ⟨_, ic.cell x c e⟩, fun x v e => ?_, stk.sto, ⟨st.hnd.zero, fun q => absurd q (by decide)⟩⟩
    · rcases List.mem_cons.mp he with rfl | he
      · exact ⟨eS, _, _, eF, by rw [eL]; exact hL, ic.toInCall.ns⟩
      · obtain ⟨fs', hfs', hFr'⟩ := stk.frs
        rw [hfs] at hfs'; cases hfs'
        exact hFr' e he
    · obtain ⟨i, hi1, hi2⟩ := hget x v e
      obtain ⟨ag, ha1, ha2⟩ := hag i x hi1
      rw [Bool.and_eq_true] at ha2
      obtain ⟨val, hv1, hv2⟩ := vr.get i v hi2
      have hnm := isNm_eq ha2.1
      have hmem : (nm x, val) ∈ (ar.args.map (·.arg)).zip vals := by
        rw [List.mem_iff_getElem?]
        refine ⟨i, ?_⟩
        rw [List.getElem?_zip_eq_some]
        exact ⟨by rw [List.getElem?_map, ha1, ← hnm]; rfl, hv1⟩
      refine ⟨isNm_lt ha2.1, val, ?_, ?_⟩
      · have ht := ha2.2
        rw [hnm] at ht
        unfold isTgt at ht
        split at ht
        · rename_i q
          have kl : En.kindOf (nm x) = some .local := by rw [eK]; exact q
          exact .inl ⟨kl, _, ic.toInCall.ns, bindL_mem kl (by rw [hkeys]; exact hnames) hmem⟩
        · rename_i q
          have kl : En.kindOf (nm x) = some .cell := by rw [eK]; exact q
          obtain ⟨c, hc⟩ := eo.cap _ (.inl kl)
          refine .inr ⟨.inl kl, c, hc, ?_⟩
          have := ic.cell _ c hc
          rw [bindC_mem (by rw [kl]; decide) (by rw [hkeys]; exact hnames) hmem] at this
          exact this
        · cases ht
      · cases v with
        | dat d => exact Rd.kept hv2 kp
        | mref k => exact hv2
  have ok1 : OkA n (A.deeper En) := ⟨by show A.depth + 1 + n < _; have := ok.depth; omega, by show A.units + 3 + 4 * n + 100 < _; have := ok.units; omega⟩
  have fa1 : FrA (A.deeper En) En := ⟨eF, fs, hdf⟩
  refine wpAny_mono (seq_of (ih := ih) d4 eo ok1 fa1 σ ρ0 W s₁ st1 hneb) (fun fl s2 p2 => ?_) fun v s2 p2 => ?_
  · obtain ⟨g, σ2, ρ2, W2, e2, rc2, fr2⟩ := p2
    rw [e2] at hr
    obtain ⟨τ, hτ⟩ := rc2.gr.pre
    have hsl : W.length = σ.length := st.sto.len
    have sto2 := rc2.st.sto
    rw [hτ] at sto2
    obtain ⟨sto3, lv3⟩ := sto_takeG sto2 hsl
    have k2 : Keep X.B (live σ W) s.heap s2.heap := (kp.keep).trans rc2.kp fun b ob eb t => by
      rcases t with l | w
      · exact l
      · rcases w with rfl | ⟨z, hz⟩
        · rw [eL] at eb; exact absurd (Heap.lt_size eb) (Nat.lt_irrefl _)
        · have := ic.above z b (mem_of_lookup hz)
          rw [eL] at this
          exact absurd (Nat.lt_trans this (Heap.lt_size eb)) (Nat.lt_irrefl _)
    have stp : Stp s s2 := Stp.trans ⟨h1, tk1, hs1⟩ rc2.stp
    have done : ∀ (v : Value) (d : D), r = .ok d (W2.take W.length) → Rd s2.heap (live σ2 W2) v d → PG Rd X A env 0 σ ρ s W r v s2 := fun v d er rd =>
      ⟨d, _, er, stp, k2, rc2.gr.dec, st.step k2 rc2.gr.dec sto3, rd.weaken fun b ob eb l => by rw [hτ]; exact lv3 b l⟩
    cases g with
    | next => cases fl <;> first | exact fr2.elim | exact done .none .none hr.symm .none
    | ret d =>
      cases fl with
      | ret v => exact done v d hr.symm fr2
      | _ => exact fr2.elim
    | _ => exact absurd hr.symm hne
  · obtain ⟨c, σ2, ρ2, W2, e2, rc2, xa2⟩ := p2
    rw [e2] at hr
    exact absurd hr.symm hne
end
end Mine
end
section
open PySem PySem.W PyProof.Rows PySem.Calls
set_option maxRecDepth 100000
set_option linter.unusedVariables false
set_option linter.unusedSimpArgs false
namespace Mine

section
variable {X : Cx} {n m : Nat} {A : Around} {env : Env} {sc : Sc} {hd : Nat} {σ : List Addr} {ρ : Rho} {x : PySem.Expr}

theorem sd_comp {caps : List Nat} {elt : E} {gens : List (Nat × E × List E)} (ihs : ∀ k ≤ n, IHI X k) (h : chE m sc (.comp caps elt gens) x = true) (eo : EnvOk X env sc) (ok : OkA (n + 1) A) : Sd Rd X A env hd σ ρ (eval x env) (evE fns (n + 1) hd ρ (.comp caps elt gens)) := by
  cases m with
  | zero => rw [ch_zero] at h; cases h
  | succ m =>
  obtain ⟨t, it, ifs, rest, ex, y, q, ix, fx, gs, scope, p, rfl, rfl, so, hy, ht, hit, hfx, hgs, hel, hlen⟩ := inv_comp h
  intro W s st hne
  generalize hr : evE fns (n + 1) hd ρ (.comp caps elt ((t, it, ifs) :: rest)) W = r at hne ⊢
  rw [evE] at hr
  split at hr
  · rename_i hc
    obtain ⟨rfl, co⟩ := hc
    have hr' : compRes fns n caps elt t it ifs rest ρ W = r := hr
    rw [eval_ListComp]
    refine comp_whole (use := none) ihs eo ok.pred so hy ht hit hfx hgs hel hlen co st (by rw [hr']; exact hne) (fun v s' xe => by rw [hr'] at xe; exact xe) ?_
    intro Dl C d W' s' mC e1 p1 k1 c1 st1 r1 fr hnC
    rw [hr'] at e1
    refine ⟨mC, hnC, fun h' sb => ?_⟩
    exact ⟨d, W', e1, p1.trans (.mk s' h' s'.toks), keep_letGo k1 fr sb, c1, st1.letGo st fr hnC sb, rd_dict hnC sb r1⟩
  · exact absurd hr.symm hne

theorem sd_bad {β α : Type} {Rel : Heap → Adr → β → α → Prop} {t : Sem β} {f : Sto → Res α} (h : ∀ W, f W = .bad) : Sd Rel X A env hd σ ρ t f := fun W s st hne => absurd (h W) hne
theorem ss_bad {t : Sem Flow} {f : Rho → Sto → SRes} (h : ∀ ρ W, f ρ W = .bad) : SdS X A env hd t f := fun σ ρ W s st hne => absurd (h ρ W) hne

theorem step_E {e : E} (C : CxOk X) (ihs : ∀ k ≤ n, IHI X k) (h : chE m sc e x = true) (eo : EnvOk X env sc) (ok : OkA (n + 1) A) : Sd Rd X A env hd σ ρ (eval x env) (evE fns (n + 1) hd ρ e) := by
  have ih := (ihs n (Nat.le_refl n)).toIH
  cases e with
  | var i => exact sd_var h eo
  | int i => exact sd_int h
  | neg i => exact sd_neg h
  | bool b => exact sd_bool h
  | bin op a b => exact sd_bin ih h eo ok
  | cmp op a b => exact sd_cmp ih h eo ok
  | and a b => exact sd_and ih h eo ok
  | not a => exact sd_bad fun W => by rw [evE]
  | ite c a b => exact sd_ite ih h eo ok
  | list es => exact sd_list ih h eo ok
  | tup es => exact sd_tup ih h eo ok
  | idx a i => exact sd_idx ih h eo ok
  | midx a i => exact sd_midx ih h eo ok
  | slc a lo hi => exact sd_slc ih h eo ok
  | call f es => exact sd_call C ih h eo ok
  | bi b a => exact sd_bi C ih h eo ok
  | mlen a => exact sd_mlen C h eo
  | mtrue a => exact sd_bad fun W => by rw [evE]
  | comp caps elt gens => exact sd_comp ihs h eo ok
  | pop a => exact sd_pop h eo
  | range a => exact sd_bad fun W => by rw [evE]
theorem step_T {e : E} (ih : IH X n) (h : chE m sc e x = true) (eo : EnvOk X env sc) (ok : OkA (n + 1) A) : Sd RB X A env hd σ ρ (isTrue x env (eval x env)) (evT fns (n + 1) hd ρ e) := by
  cases e with
  | cmp op a b => exact st_cmp ih h eo ok
  | and a b => exact st_and ih h eo ok
  | not a => exact st_not ih h eo ok
  | bool b => exact st_bool h
  | mtrue a => exact st_mtrue h eo
  | _ => exact sd_bad fun W => by rw [evT] <;> (intros; rename_i q; cases q)

theorem step_S {a : S} {y : PySem.Stmt} (C : CxOk X) (ihs : ∀ k ≤ n, IHS X k) (h : chS m sc a y = true) (eo : EnvOk X env sc) (ok : OkA (n + 1) A) (fa : FrA A env) : SdS X A env hd (exec y env) (fun ρ W => exS fns (n + 1) hd ρ a W) := by
  have ih := ihs n (Nat.le_refl n)
  cases a with
  | asg i e => exact ss_asg (fun k hk => (ihs k hk).toIHI) h eo ok
  | new i es => exact ss_new ih.toIHI h eo ok
  | asg2 i j k => exact ss_asg2 h eo
  | unp i j e => exact ss_unp ih.toIHI h eo ok
  | set x i v => exact ss_set ih.toIHI h eo ok
  | inc x i => exact ss_inc h eo
  | app x e => exact ss_app ih.toIHI h eo ok
  | ext x e => exact ss_ext ih.toIHI h eo ok
  | exp e => exact ss_exp ih.toIHI h eo ok
  | ifs c a b => exact ss_ifs ih h eo ok fa
  | whl c b => exact ss_whl ihs h eo ok fa
  | for_ x it b => exact ss_for ih h eo ok fa
  | ret e => exact ss_ret ih.toIHI h eo ok
  | brk => exact ss_brk h
  | cont => exact ss_cont h
  | trye b hb => exact ss_trye C ih h eo ok fa
  | tryf b f => exact ss_tryf ih h eo ok fa
  | stop => exact ss_bad fun ρ W => by rw [exS]
end

theorem all_ih {X : Cx} (C : CxOk X) : ∀ n, IHS X n := by
  intro n
  induction n using Nat.strongRecOn with
  | _ n IHn =>
  cases n with
  | zero =>
    refine { E := ?_, T := ?_, O := ?_, V := ?_, C := ?_, I := ?_, S := ?_ }
    · intros; exact sd_bad fun W => by rw [evE]
    · intros; exact sd_bad fun W => by rw [evT]
    · intros; exact sd_bad fun W => by rw [evO]
    · intros; exact sd_bad fun W => by rw [evV]
    · intro f a A env σ ρ W s vs vals _ _ _ _ _ _ hne; exact absurd (by rw [callF]) hne
    · intro m sc e x A env σ ρ _ _ _ W s _ hne; exact absurd (by rw [evI]) hne
    · intros; exact ss_bad fun ρ W => by rw [exS]
  | succ n =>
    have ihs : ∀ k ≤ n, IHS X k := fun k hk => IHn k (by first | decide | omega)
    have ih := ihs n (Nat.le_refl n)
    refine { E := ?_, T := ?_, O := ?_, V := ?_, C := ?_, I := ?_, S := ?_ }
    · intro m sc e x A env hd σ ρ h eo ok; exact step_E C (fun k hk => (ihs k hk).toIHI) h eo ok
    · intro m sc e x A env hd σ ρ h eo ok; exact step_T ih.toIH h eo ok
    · intro m sc o xo A env hd σ ρ h eo ok; exact sd_O ih.toIH h eo ok.pred
    · intro m sc e x A env σ ρ h eo ok; exact sv_step ih.toIH h eo ok
    · intro f a A env σ ρ W s vs vals hf ha st lo ok vr hne; exact sc_call C ih hf ha st lo ok vr hne
    · intro m sc e x A env σ ρ h eo ok; exact si_step C ih.toIH h eo ok
    · intro m sc a x A env hd h eo ok fa; exact step_S C ihs h eo ok fa
end Mine
end
section
open PySem PySem.W PyProof.Rows PySem.Calls
set_option maxRecDepth 100000
set_option linter.unusedVariables false
set_option linter.unusedSimpArgs false
namespace Mine

section
variable {X : Cx} {n : Nat} {A : Around} {s : Shared}

theorem top_call {f : Nat} {a : Addr} {vs : List V} {vals : List Value} {d0 : D} {W0 : Sto} {R : Result → Shared → Prop} (C : CxOk X) (ih : IHS X n) (hf : f < 10) (ha : X.mg (fnm f) = some (.ref a)) (hX : X.h₀ = s.heap) (hfs : A.frames = some []) (hh : A.handled = none) (ok : OkA (n + 1) A) (vr : VRs [] s.heap (live [] []) vals vs)
    (hr : callF fns (n + 1) f vs [] = .ok d0 W0) (K : ∀ v s2, Stp s s2 → Kept s.heap s2.heap → Rd s2.heap (fun _ => False) v d0 → R (.ok (.ret v)) s2) : codeAny (model X.prog X.w) A (.call (.ref a) ⟨vals, []⟩) R s := by
  have hbase : Kept X.h₀ s.heap := by rw [hX]; exact fun _ _ e => e
  have hne : callF fns (n + 1) f vs [] ≠ .bad := by rw [hr]; intro q; cases q
  obtain ⟨ar, body, scope, fn, d1, d2, d3, d4⟩ := def_of hf
  obtain ⟨a', o, pm, code, doc, g1, g2, g3, g4⟩ := C.fn f ar body scope hf d1
  rw [ha] at g1; cases g1
  have fo := fnOk_of hf d1
  rw [callF, d2] at hr
  dsimp only at hr
  cases hb : bindArgsV fn.params vs with
  | none => rw [hb] at hr; cases hr
  | some ρ0 =>
  rw [hb] at hr
  dsimp only at hr
  obtain ⟨hl1, hget⟩ := bindArgsV_get hb
  obtain ⟨hl2, hag⟩ := all2_get d3
  have hl3 : vals.length = vs.length := vr.length
  have hlen : vals.length = ar.args.length := by rw [hl3, ← hl1, hl2]
  have hneb : exSeq (fun s ρ W => exS fns n 0 ρ s W) fn.body ρ0 [] ≠ .bad := fun q => by rw [q] at hr; cases hr
  have hL : X.B ≤ s.heap.objs.size := by unfold Cx.B; rw [hX]; exact Nat.le_refl _
  generalize hfd : docDef (fnm f) ar body scope pm code doc = fd at g3
  have hscope : fd.scope = scope := by rw [← hfd]; rfl
  have hnames : (ar.args.map (·.arg)).Nodup := by
    have := fo.args
    unfold argsOk at this
    simp only [Bool.and_eq_true, decide_eq_true_eq] at this
    exact this.1.2
  have hkeys : (((ar.args.map (·.arg)).zip vals).map (·.1)) = ar.args.map (·.arg) := by
    rw [List.map_fst_zip]
    simp [hlen]
  have htg : ∀ p ∈ (ar.args.map (·.arg)).zip vals, isTgt scope.names p.1 = true := fun p hp => by
    have := (List.of_mem_zip hp).1
    obtain ⟨ag, hag', e⟩ := List.mem_map.mp this
    rw [← e]
    obtain ⟨i, hi⟩ := List.mem_iff_getElem?.mp hag'
    have hip : i < fn.params.length := by rw [← hl2]; exact (List.getElem?_eq_some_iff.mp hi).1
    obtain ⟨b, hb1, hb2⟩ := hag i _ (List.getElem?_eq_getElem hip)
    rw [hi] at hb1; cases hb1
    rw [Bool.and_eq_true] at hb2
    exact hb2.2
  refine codeAny_call_cells (o := o) (fd := fd) (body := body) (binds := (ar.args.map (·.arg)).zip vals) (by have := ok.depth; omega) (hbase _ _ g2) g3 (C.nolimit.keeps hbase) ?_ (by rw [← hfd]; rfl) ?_ (by rw [← hfd]; rfl) (fun p hp => ?_) (fun s₁ ic => ?_) (by rw [hscope]; exact fo.co) (by rw [hscope]; exact fo.gen) (by rw [hscope]; exact fo.kind)
  · have : fd.code = code ∧ fd.qualname = fnm f := by rw [← hfd]; exact ⟨rfl, rfl⟩
    rw [this.1, this.2]
    exact g4.keeps hbase
  · have hp : fd.params = ar := by rw [← hfd]; rfl
    have := bind_args (fd := fd) (vals := vals) hf d1 hp (by rw [← hfd]; rfl) (by rw [hp]; exact hlen)
    rw [this, hp]
  · have := htg p hp
    unfold isTgt at this
    rw [hscope]
    split at this
    · exact .inl (by assumption)
    · rename_i q
      refine .inr ⟨q, ?_⟩
      obtain ⟨c, hc⟩ := cells_has (s.heap.objs.size + 1) scope.names _ (mem_of_lookup q)
      obtain ⟨d, hd⟩ := lookup_of_mem hc
      rw [hd]; rfl
    · cases this
  generalize hE : callEnvC fd s.heap.objs.size a = En at ic ⊢
  have eL : En.locals = s.heap.objs.size := by rw [← hE]; rfl
  have eC : En.cells = cellsFrom (s.heap.objs.size + 1) scope.names [] := by rw [← hE, ← hscope]; rfl
  have eK : ∀ x, En.kindOf x = scope.names.lookup x := fun x => by rw [← hE, ← hscope]; rfl
  have eF : En.frame = some En.locals := by rw [← hE]; rfl
  have eS : En.scope.kind = .function := by rw [← hE]; show fd.scope.kind = _; rw [hscope]; exact fo.kind
  have eo : EnvOk X En scope.names := by
    refine ⟨eS, by rw [← hE, ← hfd]; rfl, by rw [← hE, ← hfd]; rfl, by rw [eL]; exact hL, fun x k e _ => by rw [eK]; exact e, fun x e => .inr (by rw [eK]; exact e), fun x e => ?_, fun x c e => ?_, fun x y c e1 e2 => name_of_addr ic.apart (mem_of_lookup e1) (mem_of_lookup e2)⟩
    · rw [eK] at e
      rcases e with e | e
      · rw [eC]
        obtain ⟨c, hc⟩ := cells_has (s.heap.objs.size + 1) scope.names _ (mem_of_lookup e)
        exact lookup_of_mem hc
      · exact absurd (mem_of_lookup e) (fo.free x)
    · have := ic.above x c (mem_of_lookup e)
      rw [eL] at this
      exact Nat.le_of_lt (Nat.lt_of_le_of_lt hL this)
  obtain ⟨h1, tk1, hs1⟩ := ic.toInCall.same
  have kp : Kept s.heap s₁.heap := ic.toInCall.keep
  have hdf : (A.deeper En).frames = some [En] := by show A.frames.map _ = _; rw [hfs]; rfl
  have st1 : St X (A.deeper En) En 0 [] ρ0 [] s₁.heap := by
    refine ⟨hbase.trans kp, ⟨[En], hdf, fun e he => ?_⟩, ⟨_, ic.toInCall.ns⟩, fun x c e => ⟨_, ic.cell x c e⟩, fun x v e => ?_, ⟨rfl, fun i j ds es a h1 => by simp at h1, fun a ha => by simp at ha, fun j ds a h1 => by simp at h1⟩, ⟨fun _ => hh, fun q => absurd q (by decide)⟩⟩
    · rcases List.mem_cons.mp he with rfl | he
      · exact ⟨eS, _, _, eF, by rw [eL]; exact hL, ic.toInCall.ns⟩
      · exact (nomatch he)
    · obtain ⟨i, hi1, hi2⟩ := hget x v e
      obtain ⟨ag, ha1, ha2⟩ := hag i x hi1
      rw [Bool.and_eq_true] at ha2
      obtain ⟨val, hv1, hv2⟩ := vr.get i v hi2
      have hnm := isNm_eq ha2.1
      have hmem : (nm x, val) ∈ (ar.args.map (·.arg)).zip vals := by
        rw [List.mem_iff_getElem?]
        refine ⟨i, ?_⟩
        rw [List.getElem?_zip_eq_some]
        exact ⟨by rw [List.getElem?_map, ha1, ← hnm]; rfl, hv1⟩
      refine ⟨isNm_lt ha2.1, val, ?_, ?_⟩
      · have ht := ha2.2
        rw [hnm] at ht
        unfold isTgt at ht
        split at ht
        · rename_i q
          have kl : En.kindOf (nm x) = some .local := by rw [eK]; exact q
          exact .inl ⟨kl, _, ic.toInCall.ns, bindL_mem kl (by rw [hkeys]; exact hnames) hmem⟩
        · rename_i q
          have kl : En.kindOf (nm x) = some .cell := by rw [eK]; exact q
          obtain ⟨c, hc⟩ := eo.cap _ (.inl kl)
          refine .inr ⟨.inl kl, c, hc, ?_⟩
          have := ic.cell _ c hc
          rw [bindC_mem (by rw [kl]; decide) (by rw [hkeys]; exact hnames) hmem] at this
          exact this
        · cases ht
      · cases v with
        | dat d => exact Rd.kept hv2 kp
        | mref k => exact hv2
  have ok1 : OkA n (A.deeper En) := ⟨by show A.depth + 1 + n < _; have := ok.depth; omega, by show A.units + 3 + 4 * n + 100 < _; have := ok.units; omega⟩
  have fa1 : FrA (A.deeper En) En := ⟨eF, [], hdf⟩
  refine wpAny_mono (seq_of (ih := ih) d4 eo ok1 fa1 [] ρ0 [] s₁ st1 hneb) (fun fl s2 p2 => ?_) fun v s2 p2 => ?_
  · obtain ⟨g, σ2, ρ2, W2, e2, rc2, fr2⟩ := p2
    rw [e2] at hr
    have k2 : Kept s.heap s2.heap := by rw [← hX]; exact rc2.st.base
    have stp : Stp s s2 := Stp.trans ⟨h1, tk1, hs1⟩ rc2.stp
    cases g with
    | next =>
      cases hr
      cases fl <;> first | exact fr2.elim | exact K .none s2 stp k2 .none
    | ret d =>
      cases hr
      cases fl with
      | ret v => exact K v s2 stp k2 (Rd.weaken (fun _ _ _ q => q.elim) fr2)
      | _ => exact fr2.elim
    | _ => cases hr
  · obtain ⟨c, σ2, ρ2, W2, e2, rc2, xa2⟩ := p2
    rw [e2] at hr
    cases hr

noncomputable def bareName (p : Program) (loose : List Str) (x : Str) : Bool := !startupNames.contains x && !loose.contains x && !((recsOf p).map (·.name)).contains x && !((litsOf p).map (·.1)).contains x && !((clssOf p loose).map (·.name)).contains x && x != ("__name__" : Str)
theorem boot_bi : ∀ x v, (x, v) ∈ biVals → bootBuiltins x = some v := by
  intro x v h
  simp only [biVals, List.mem_cons, List.not_mem_nil, or_false, Prod.mk.injEq] at h
  rcases h with ⟨rfl, rfl⟩ | ⟨rfl, rfl⟩ | ⟨rfl, rfl⟩ | ⟨rfl, rfl⟩ | ⟨rfl, rfl⟩ | ⟨rfl, rfl⟩ <;> kernel_rfl
theorem cx_of_top {p prog : Program} {w : World} {loose : List Str} {mean : ExcName → Option Value} {mg mb : Str → Option Value} {h : Heap} (T : Top p loose mean mg mb h)
    (hrec : ∀ i < 10, ((recsOf p)[i]?).map (fun d => (d.name, d.params, d.body, d.scope)) = (defOf (fnm i) PySem.Challenge.pw_oc0061_01.main.body).map fun q => (fnm i, q.1, q.2.1, q.2.2))
    (hbare : (biVals.map (·.1)).all (bareName p loose) = true) : CxOk ⟨prog, w, h, mg, mb⟩ := by
  refine ⟨T.g, T.b, T.nolimit, fun f args body scope hf hd => ?_, fun x v hx => ?_⟩
  · have := hrec f hf
    rw [hd] at this
    cases hr : (recsOf p)[f]? with
    | none => rw [hr] at this; cases this
    | some d =>
      rw [hr] at this
      simp only [Option.map_some, Option.some.injEq, Prod.mk.injEq] at this
      obtain ⟨e1, e2, e3, e4⟩ := this
      have := T.fn d (List.mem_of_getElem? hr)
      rw [e1, e2, e3, e4] at this
      exact this
  · rw [List.all_eq_true] at hbare
    have := hbare x (List.mem_map.mpr ⟨_, hx, rfl⟩)
    unfold bareName at this
    simp only [Bool.and_eq_true, Bool.not_eq_true', bne_iff_ne, ne_eq, List.contains_eq_mem, decide_eq_false_iff_not] at this
    obtain ⟨⟨⟨⟨⟨h1, h2⟩, h3⟩, h4⟩, h5⟩, h6⟩ := this
    exact ⟨T.free x h1 h2 h3 h4 h5, (T.builtins x h6).trans (boot_bi x v hx)⟩
end
end Mine
end
section
open PySem PySem.W
namespace Mine
abbrev Pl := List Nat
noncomputable def cost (w : List Nat) : Pl → Nat
  | [] => 0
  | i :: p => w.getD i 0 + cost w p
noncomputable def lexlt : Pl → Pl → Bool
  | x :: xs, y :: ys => if x = y then lexlt xs ys else decide (x < y)
  | [], ys => !ys.isEmpty
  | _ :: _, [] => false
noncomputable def ltP (w : List Nat) (p q : Pl) : Bool := if cost w p = cost w q then lexlt p q else decide (cost w p < cost w q)

section
variable {α : Type} (lt : α → α → Bool)
noncomputable def sdM : Nat → List α → Nat → α → List α
  | 0, hs, pos, x => hs.set pos x
  | n + 1, hs, pos, x =>
    if 0 < pos then
      match hs[(pos - 1) / 2]? with
      | some par => if lt x par then sdM n (hs.set pos par) ((pos - 1) / 2) x else hs.set pos x
      | none => hs
    else hs.set pos x
noncomputable def pushM (hs : List α) (x : α) : List α := sdM lt (hs.length + 1) (hs ++ [x]) hs.length x
noncomputable def suM : Nat → List α → Nat → List α × Nat
  | 0, hs, pos => (hs, pos)
  | n + 1, hs, pos =>
    match hs[2 * pos + 1]? with
    | none => (hs, pos)
    | some l =>
      match hs[2 * pos + 2]? with
      | none => suM n (hs.set pos l) (2 * pos + 1)
      | some r => if lt l r then suM n (hs.set pos l) (2 * pos + 1) else suM n (hs.set pos r) (2 * pos + 2)
noncomputable def siftM (hs : List α) (x : α) : List α :=
  let r := suM lt hs.length (hs.set 0 x) 0
  sdM lt (r.1.length + 1) (r.1.set r.2 x) r.2 x
noncomputable def popM (hs : List α) : Option (α × List α) :=
  match hs.getLast? with
  | none => none
  | some last => match hs.dropLast with
    | [] => some (last, [])
    | a :: r => some (a, siftM lt (a :: r) last)
end
noncomputable def stepM (n : Nat) (w : List Nat) (st : List Pl × List Pl) : Option (List Pl × List Pl) :=
  match popM (ltP w) st.1 with
  | none => none
  | some (x, hs) =>
    let after := match x.getLast? with | some k => k + 1 | none => 0
    let hs := if after < n then
      let hs := pushM (ltP w) hs (x ++ [after])
      if x = [] then hs else pushM (ltP w) hs (x.dropLast ++ [after])
      else hs
    some (hs, st.2 ++ [x])
noncomputable def runM (n : Nat) (w : List Nat) : Nat → List Pl × List Pl → Option (List Pl × List Pl)
  | 0, st => some st
  | k + 1, st => match stepM n w st with
    | some st' => runM n w k st'
    | none => none
/-- the k-th set of places -/
noncomputable def pickM (n number : Nat) : Pl := (List.range n).filter fun k => (number >>> k) % 2 == 1
noncomputable def allM (n : Nat) : List Pl := (List.range (2 ^ n)).map (pickM n)
noncomputable def sortM (w : List Nat) (ps : List Pl) : Option (List Pl) :=
  (kgo (fun i j => match ps[i]?, ps[j]? with | some p, some q => some (ltP w p q) | _, _ => none) (kas_sort ps.length)).map fun r => r.toList.map fun i => ps.getD i []
noncomputable def goodM (n : Nat) (w : List Nat) : Bool :=
  match runM n w (2 ^ n) ([[]], []) with
  | some (hs, off) => hs.isEmpty && decide (sortM w (allM n) = some off)
  | none => false
/-- all sorted weights of one parity -/
noncomputable def ups (lo hi : Nat) : Nat → List (List Nat)
  | 0 => [[]]
  | k + 1 => (List.range (hi + 1 - lo)).flatMap fun i => (ups (lo + i) hi k).map ((lo + i) :: ·)
end Mine
end
section
open PySem PySem.W
set_option maxRecDepth 100000
set_option linter.unusedVariables false
set_option linter.unusedSimpArgs false
namespace Mine

/-! ### pure evaluation: any store, any fuel from N on -/
noncomputable def PE (N : Nat) (ρ : Rho) (e : E) (d : D) : Prop := ∀ n, N ≤ n → ∀ V : Sto, evE fns n 0 ρ e V = .ok d V
noncomputable def PT (N : Nat) (ρ : Rho) (e : E) (b : Bool) : Prop := ∀ n, N ≤ n → ∀ V : Sto, evT fns n 0 ρ e V = .ok b V
noncomputable def PTs (N : Nat) (ρ : Rho) (es : List E) (b : Bool) : Prop := ∀ n, N ≤ n → ∀ V : Sto, testAll (fun c W => evT fns n 0 ρ c W) es V = .ok b V
noncomputable def PI (N : Nat) (ρ : Rho) (e : E) (ds : List D) : Prop := ∀ n, N ≤ n → ∀ V : Sto, evI fns n ρ e V = .ok ds V
noncomputable def PVs (N : Nat) (ρ : Rho) (es : List E) (vs : List V) : Prop := ∀ n, N ≤ n → ∀ W : Sto, mapR (fun e W => evV fns n ρ e W) es W = .ok vs W
noncomputable def PEs (N : Nat) (ρ : Rho) (es : List E) (ds : List D) : Prop := ∀ n, N ≤ n → ∀ W : Sto, mapR (fun e W => evE fns n 0 ρ e W) es W = .ok ds W
noncomputable def PC (N : Nat) (f : Nat) (vs : List V) (d : D) : Prop := ∀ n, N ≤ n → ∀ W : Sto, callF fns n f vs W = .ok d W
noncomputable def PO (N : Nat) (ρ : Rho) (o : Option E) (i : Option Int) : Prop := ∀ n, N ≤ n → ∀ V : Sto, evO fns n 0 ρ o V = .ok i V

section
variable {N M : Nat} {ρ : Rho}
theorem PE.mono {e : E} {d : D} (h : PE N ρ e d) (hM : N ≤ M) : PE M ρ e d := fun n hn V => h n (by first | decide | omega) V
theorem PT.mono {e : E} {d : Bool} (h : PT N ρ e d) (hM : N ≤ M) : PT M ρ e d := fun n hn V => h n (by first | decide | omega) V
theorem PI.mono {e : E} {d : List D} (h : PI N ρ e d) (hM : N ≤ M) : PI M ρ e d := fun n hn V => h n (by first | decide | omega) V
theorem PC.mono {f : Nat} {vs : List V} {d : D} (h : PC N f vs d) (hM : N ≤ M) : PC M f vs d := fun n hn V => h n (by first | decide | omega) V
theorem PTs.mono {e : List E} {d : Bool} (h : PTs N ρ e d) (hM : N ≤ M) : PTs M ρ e d := fun n hn V => h n (by first | decide | omega) V

theorem fits_of {k : Nat} (h : k ≤ lim) : fits k = true := decide_eq_true h
theorem succ_of {n : Nat} (h : N + 1 ≤ n) : ∃ m, n = m + 1 ∧ N ≤ m := ⟨n - 1, by omega, by omega⟩

theorem pe_var {i : Nat} {d : D} (h : getV ρ i = some (.dat d)) : PE 1 ρ (.var i) d := fun n hn V => by
  obtain ⟨m, rfl, hm⟩ := succ_of hn
  rw [evE, h]
theorem pe_int {i : Int} : PE 1 ρ (.int i) (.int i) := fun n hn V => by
  obtain ⟨m, rfl, hm⟩ := succ_of hn
  rw [evE]
theorem pe_neg {i : Int} : PE 1 ρ (.neg i) (.int (-i)) := fun n hn V => by
  obtain ⟨m, rfl, hm⟩ := succ_of hn
  rw [evE]
theorem pe_bool {b : Bool} : PE 1 ρ (.bool b) (.bool b) := fun n hn V => by
  obtain ⟨m, rfl, hm⟩ := succ_of hn
  rw [evE]
theorem pe_bin {op : BOp} {a b : E} {da db d : D} (ha : PE N ρ a da) (hb : PE N ρ b db) (h : binD op da db = some d) : PE (N + 1) ρ (.bin op a b) d := fun n hn V => by
  obtain ⟨m, rfl, hm⟩ := succ_of hn
  rw [evE, ha m hm]; simp only [Res.bind]; rw [hb m hm]; simp only [Res.bind, h, optR]
theorem pe_cmp {op : COp} {a b : E} {da db d : D} (ha : PE N ρ a da) (hb : PE N ρ b db) (h : cmpD op da db = some d) : PE (N + 1) ρ (.cmp op a b) d := fun n hn V => by
  obtain ⟨m, rfl, hm⟩ := succ_of hn
  rw [evE, ha m hm]; simp only [Res.bind]; rw [hb m hm]; simp only [Res.bind, h, optR]
theorem pt_cmp {op : COp} {a b : E} {da db : D} {t : Bool} (ha : PE N ρ a da) (hb : PE N ρ b db) (h : cmpD op da db = some (.bool t)) : PT (N + 1) ρ (.cmp op a b) t := fun n hn V => by
  obtain ⟨m, rfl, hm⟩ := succ_of hn
  rw [evT, ha m hm]; simp only [Res.bind]; rw [hb m hm]; simp only [Res.bind, h]
theorem pe_and {a b : E} {x y : Bool} (ha : PE N ρ a (.bool x)) (hb : x = true → PE N ρ b (.bool y)) (hy : x = false → y = false) : PE (N + 1) ρ (.and a b) (.bool y) := fun n hn V => by
  obtain ⟨m, rfl, hm⟩ := succ_of hn
  rw [evE, ha m hm]; simp only [Res.bind]
  cases x with
  | true => exact hb rfl m hm V
  | false => rw [hy rfl]
theorem pe_ite {c a b : E} {t : Bool} {d : D} (hc : PT N ρ c t) (ha : t = true → PE N ρ a d) (hb : t = false → PE N ρ b d) : PE (N + 1) ρ (.ite c a b) d := fun n hn V => by
  obtain ⟨m, rfl, hm⟩ := succ_of hn
  rw [evE, hc m hm]; simp only [Res.bind]
  cases t with
  | true => rw [if_pos rfl]; exact ha rfl m hm V
  | false => rw [if_neg Bool.false_ne_true]; exact hb rfl m hm V
theorem pes_nil : PEs N ρ [] [] := fun n hn W => rfl
theorem pes_cons {e : E} {es : List E} {d : D} {ds : List D} (h : PE N ρ e d) (hs : PEs N ρ es ds) : PEs N ρ (e :: es) (d :: ds) := fun n hn W => by
  rw [mapR, h n hn]; simp only [Res.bind]; rw [hs n hn]
theorem pe_list {es : List E} {ds : List D} (h : PEs N ρ es ds) (hf : ds.length ≤ 1000) : PE (N + 1) ρ (.list es) (.list ds) := fun n hn V => by
  obtain ⟨m, rfl, hm⟩ := succ_of hn
  rw [evE, h m hm]; simp only [Res.bind]
  rw [if_pos (fits_of (by unfold lim; omega))]
theorem pe_tup {es : List E} {ds : List D} (h : PEs N ρ es ds) (hf : ds.length ≤ 1000) : PE (N + 1) ρ (.tup es) (.tup ds) := fun n hn V => by
  obtain ⟨m, rfl, hm⟩ := succ_of hn
  rw [evE, h m hm]; simp only [Res.bind]
  rw [if_pos (fits_of (by unfold lim; omega))]
theorem pe_idx {a i : E} {da di d : D} (ha : PE N ρ a da) (hi : PE N ρ i di) (h : ∀ W, idxD 0 da di W = .ok d W) : PE (N + 1) ρ (.idx a i) d := fun n hn V => by
  obtain ⟨m, rfl, hm⟩ := succ_of hn
  rw [evE, ha m hm]; simp only [Res.bind]; rw [hi m hm]; simp only [Res.bind]; exact h V
theorem pe_slc {a : E} {lo hi : Option E} {da d : D} {l u : Option Int} (ha : PE N ρ a da) (hl : PO N ρ lo l) (hu : PO N ρ hi u) (h : slcD da l u = some d) : PE (N + 1) ρ (.slc a lo hi) d := fun n hn V => by
  obtain ⟨m, rfl, hm⟩ := succ_of hn
  rw [evE, ha m hm]; simp only [Res.bind]; rw [hl m hm]; simp only [Res.bind]; rw [hu m hm]; simp only [Res.bind, h, optR]
theorem po_none : PO 1 ρ none none := fun n hn V => by
  obtain ⟨m, rfl, hm⟩ := succ_of hn
  rw [evO]
theorem po_some {e : E} {j : Int} (h : PE N ρ e (.int j)) (hj : -(2 ^ 62) ≤ j ∧ j < 2 ^ 62) : PO (N + 1) ρ (some e) (some j) := fun n hn V => by
  obtain ⟨m, rfl, hm⟩ := succ_of hn
  rw [evO, h m hm]; simp only [Res.bind]
  rw [if_pos hj]
theorem pvs_nil : PVs N ρ [] [] := fun n hn W => rfl
theorem pvs_cons {e : E} {es : List E} {d : D} {vs : List V} (h : PE N ρ e d) (hv : ∀ i, e ≠ .var i) (hs : PVs (N + 1) ρ es vs) : PVs (N + 1) ρ (e :: es) (.dat d :: vs) := fun n hn W => by
  obtain ⟨m, rfl, hm⟩ := succ_of hn
  have : evV fns (m + 1) ρ e W = .ok (.dat d) W := by
    rw [evV]
    · rw [h m hm]; rfl
    · exact hv
  rw [mapR, this]; simp only [Res.bind]; rw [hs (m + 1) (by first | decide | omega)]
theorem pvs_var {i : Nat} {es : List E} {v : V} {vs : List V} (h : getV ρ i = some v) (hs : PVs (N + 1) ρ es vs) : PVs (N + 1) ρ (.var i :: es) (v :: vs) := fun n hn W => by
  obtain ⟨m, rfl, hm⟩ := succ_of hn
  have : evV fns (m + 1) ρ (.var i) W = .ok v W := by rw [evV, h]
  rw [mapR, this]; simp only [Res.bind]; rw [hs (m + 1) (by first | decide | omega)]
theorem pe_call {f : Nat} {es : List E} {vs : List V} {d : D} (hs : PVs N ρ es vs) (h : PC N f vs d) : PE (N + 1) ρ (.call f es) d := fun n hn V => by
  obtain ⟨m, rfl, hm⟩ := succ_of hn
  rw [evE, if_pos rfl, hs m hm]; simp only [Res.bind]; exact h m hm V
theorem pe_bi {b : BI} {a : E} {da d : D} (ha : PE N ρ a da) (h : biD b da = some d) : PE (N + 1) ρ (.bi b a) d := fun n hn V => by
  obtain ⟨m, rfl, hm⟩ := succ_of hn
  rw [evE, if_pos rfl, ha m hm]; simp only [Res.bind, h, optR]
theorem pi_of {e : E} {d : D} {ds : List D} (h : PE N ρ e d) (hi : itemsD d = some ds) (hr : ∀ a, e ≠ .range a) : PI (N + 1) ρ e ds := fun n hn V => by
  obtain ⟨m, rfl, hm⟩ := succ_of hn
  rw [evI]
  · rw [h m hm]; simp only [Res.bind, hi, optR]
  · exact hr
theorem pi_range {a : E} {j : Int} (h : PE N ρ a (.int j)) (hj : 0 ≤ j ∧ j < 1000) : PI (N + 1) ρ (.range a) ((List.range j.toNat).map fun (i : Nat) => D.int (i : Int)) := fun n hn V => by
  obtain ⟨m, rfl, hm⟩ := succ_of hn
  rw [evI, h m hm]; simp only [Res.bind]
  rw [if_pos hj]
theorem pts_nil : PTs N ρ [] true := fun n hn V => rfl
theorem pts_one {c : E} {t : Bool} (h : PT N ρ c t) : PTs N ρ [c] t := fun n hn V => by
  rw [testAll, h n hn]; simp only [Res.bind]
  cases t <;> rfl

/-! comprehensions -/
theorem set_last (V : Sto) (a b : Option (List D)) : (V ++ [a]).set V.length b = V ++ [b] := by
  rw [List.set_append_right _ _ (Nat.le_refl _)]; simp
theorem emit_last {V : Sto} {acc : List D} {r : D} (h : acc.length + 1 ≤ lim) : emitR V.length r (V ++ [some acc]) = .ok () (V ++ [some (acc ++ [r])]) := by
  unfold emitR
  rw [List.getElem?_append_right (Nat.le_refl _)]
  simp only [Nat.sub_self, List.getElem?_cons_zero]
  rw [if_pos (fits_of h), set_last]
theorem take_last {V : Sto} {r : List D} (h : r.length ≤ lim) : takeR V.length (V ++ [some r]) = .ok (.list r) V := by
  unfold takeR
  rw [List.getElem?_append_right (Nat.le_refl _)]
  simp only [Nat.sub_self, List.getElem?_cons_zero]
  rw [if_pos (fits_of h), List.take_left]

theorem items_go {f : D → Sto → Res Unit} {V : Sto} {g : D → List D} : ∀ (ds : List D) (acc : List D), (∀ d ∈ ds, ∀ acc : List D, acc.length + (g d).length ≤ lim → f d (V ++ [some acc]) = .ok () (V ++ [some (acc ++ g d)])) → acc.length + (ds.flatMap g).length ≤ lim →
    exItems f ds (V ++ [some acc]) = .ok () (V ++ [some (acc ++ ds.flatMap g)])
  | [], acc, _, _ => by rw [exItems]; simp
  | d :: ds, acc, h, hl => by
    rw [List.flatMap_cons, List.length_append] at hl
    rw [exItems, h d (.head _) acc (by first | decide | omega)]
    simp only [Res.bind]
    rw [items_go ds (acc ++ g d) (fun e he => h e (.tail _ he)) (by rw [List.length_append]; omega), List.flatMap_cons, List.append_assoc]

theorem pe_comp1 {caps : List Nat} {x : Nat} {it elt : E} {ifs : List E} {ds : List D} {t : D → Bool} {r : D → D} (co : compOk caps [(x, it, ifs)] = true) (hi : PI (N + 1) ρ it ds)
    (ht : ∀ d ∈ ds, PTs N (setV x (.dat d) (ρ.filter fun p => caps.contains p.1)) ifs (t d)) (hr : ∀ d ∈ ds, t d = true → PE N (setV x (.dat d) (ρ.filter fun p => caps.contains p.1)) elt (r d)) (hl : ds.length ≤ 1000) :
    PE (N + 2) ρ (.comp caps elt [(x, it, ifs)]) (.list ((ds.filter t).map r)) := fun n hn V => by
  obtain ⟨m, rfl, hm⟩ := succ_of hn
  rw [evE, if_pos ⟨rfl, co⟩]
  rw [hi m hm]; simp only [Res.bind]
  obtain ⟨k, rfl, hk⟩ := succ_of hm
  rw [evG]
  have e : ds.flatMap (fun d => if t d then [r d] else []) = (ds.filter t).map r := by
    clear hl ht hr hi
    induction ds with
    | nil => rfl
    | cons d ds ih =>
      rw [List.flatMap_cons, ih, List.filter_cons]
      cases t d <;> simp
  have hlen : (ds.flatMap (fun d => if t d then [r d] else [])).length ≤ lim := by
    rw [e, List.length_map]
    have := List.length_filter_le t ds
    unfold lim; omega
  rw [items_go (g := fun d => if t d then [r d] else []) ds [] (fun d hd acc ha => ?_) (by simpa using hlen)]
  · simp only [noExc, Res.bind, List.nil_append]
    rw [take_last hlen, e]
  · rw [ht d hd k hk]; simp only [Res.bind]
    cases htd : t d with
    | false => simp
    | true =>
      rw [if_pos rfl, hr d hd htd k hk]; simp only [Res.bind]
      rw [htd] at ha
      rw [emit_last (by simpa using ha)]; simp

theorem pe_comp2 {caps : List Nat} {x y : Nat} {it it2 elt : E} {ifs : List E} {ds : List D} {ds2 : D → List D} {t : D → D → Bool} {r : D → D → D} (co : compOk caps [(x, it, []), (y, it2, ifs)] = true) (hi : PI (N + 2) ρ it ds)
    (hi2 : ∀ d ∈ ds, PI (N + 1) (setV x (.dat d) (ρ.filter fun p => caps.contains p.1)) it2 (ds2 d))
    (ht : ∀ d ∈ ds, ∀ c ∈ ds2 d, PTs N (setV y (.dat c) (setV x (.dat d) (ρ.filter fun p => caps.contains p.1))) ifs (t d c)) (hr : ∀ d ∈ ds, ∀ c ∈ ds2 d, t d c = true → PE N (setV y (.dat c) (setV x (.dat d) (ρ.filter fun p => caps.contains p.1))) elt (r d c))
    (hl : (ds.flatMap fun d => ((ds2 d).filter (t d)).map (r d)).length ≤ lim) :
    PE (N + 3) ρ (.comp caps elt [(x, it, []), (y, it2, ifs)]) (.list (ds.flatMap fun d => ((ds2 d).filter (t d)).map (r d))) := fun n hn V => by
  obtain ⟨m, rfl, hm⟩ := succ_of hn
  rw [evE, if_pos ⟨rfl, co⟩]
  rw [hi m hm]; simp only [Res.bind]
  obtain ⟨k, rfl, hk⟩ := succ_of hm
  rw [evG]
  rw [items_go (g := fun d => ((ds2 d).filter (t d)).map (r d)) ds [] (fun d hd acc ha => ?_) (by simpa using hl)]
  · simp only [noExc, Res.bind, List.nil_append]
    rw [take_last hl]
  · rw [testAll]; simp only [Res.bind]
    rw [if_pos trivial, hi2 d hd k hk]; simp only [Res.bind]
    obtain ⟨j, rfl, hj⟩ := succ_of hk
    rw [evG]
    have e : (ds2 d).flatMap (fun c => if t d c then [r d c] else []) = ((ds2 d).filter (t d)).map (r d) := by
      generalize ds2 d = l
      induction l with
      | nil => rfl
      | cons c l ih =>
        rw [List.flatMap_cons, ih, List.filter_cons]
        cases t d c <;> simp
    rw [items_go (g := fun c => if t d c then [r d c] else []) (ds2 d) acc (fun c hc acc ha => ?_) (by rw [e]; exact ha), e]
    rw [ht d hd c hc j hj]; simp only [Res.bind]
    cases htd : t d c with
    | false => simp
    | true =>
      rw [if_pos rfl, hr d hd c hc htd j hj]; simp only [Res.bind]
      rw [htd] at ha
      rw [emit_last (by simpa using ha)]; simp
end
end Mine
end
section
open PySem PySem.W
set_option maxRecDepth 100000
set_option linter.unusedVariables false
set_option linter.unusedSimpArgs false
namespace Mine

/-! ### sorted_list_difference -/
noncomputable def goS : List Int → List Int → List Int × List Int
  | [], ys => ([], ys)
  | x :: xs, [] => (x :: xs, [])
  | x :: xs, y :: ys => if x < y then let r := goS xs (y :: ys); (x :: r.1, r.2) else if y < x then let r := goS (x :: xs) ys; (r.1, y :: r.2) else goS xs ys
termination_by xs ys => xs.length + ys.length

structure SL (ρ : Rho) (xs ys : List Int) (i j k : Nat) : Prop where
  h14 : getV ρ 14 = some (.dat (.list (xs.map .int)))
  h15 : getV ρ 15 = some (.dat (.list (ys.map .int)))
  h16 : getV ρ 16 = some (.dat (.int (i : Int)))
  h17 : getV ρ 17 = some (.dat (.int (j : Int)))
  h18 : getV ρ 18 = some (.mref k)
  h19 : getV ρ 19 = some (.mref (k + 1))
theorem SL.setI {ρ : Rho} {xs ys : List Int} {i j k : Nat} (h : SL ρ xs ys i j k) (i' : Nat) : SL (setV 16 (.dat (.int (i' : Int))) ρ) xs ys i' j k :=
  ⟨by rw [getV_set_ne _ _ (by decide)]; exact h.h14, by rw [getV_set_ne _ _ (by decide)]; exact h.h15, getV_set_self .., by rw [getV_set_ne _ _ (by decide)]; exact h.h17, by rw [getV_set_ne _ _ (by decide)]; exact h.h18, by rw [getV_set_ne _ _ (by decide)]; exact h.h19⟩
theorem SL.setJ {ρ : Rho} {xs ys : List Int} {i j k : Nat} (h : SL ρ xs ys i j k) (j' : Nat) : SL (setV 17 (.dat (.int (j' : Int))) ρ) xs ys i j' k :=
  ⟨by rw [getV_set_ne _ _ (by decide)]; exact h.h14, by rw [getV_set_ne _ _ (by decide)]; exact h.h15, by rw [getV_set_ne _ _ (by decide)]; exact h.h16, getV_set_self .., by rw [getV_set_ne _ _ (by decide)]; exact h.h18, by rw [getV_set_ne _ _ (by decide)]; exact h.h19⟩
theorem SL.other {ρ : Rho} {xs ys : List Int} {i j k x : Nat} {v : V} (h : SL ρ xs ys i j k) (hx : 19 < x) : SL (setV x v ρ) xs ys i j k :=
  ⟨by rw [getV_set_ne _ _ (by first | decide | omega)]; exact h.h14, by rw [getV_set_ne _ _ (by first | decide | omega)]; exact h.h15, by rw [getV_set_ne _ _ (by first | decide | omega)]; exact h.h16, by rw [getV_set_ne _ _ (by first | decide | omega)]; exact h.h17, by rw [getV_set_ne _ _ (by first | decide | omega)]; exact h.h18, by rw [getV_set_ne _ _ (by first | decide | omega)]; exact h.h19⟩

section
variable {ρ : Rho} {n : Nat} {W : Sto} {hd : Nat}
theorem ev_var {x : Nat} {d : D} (h : getV ρ x = some (.dat d)) : evE fns (n + 1) hd ρ (.var x) W = .ok d W := by rw [evE, h]
theorem small62 {i : Nat} (h : i ≤ 5000) : (i : Int) < 2 ^ 62 := Int.lt_of_le_of_lt (b := 5000) (by first | decide | omega) (by decide)
theorem small63 {i : Nat} : -(2 ^ 62) ≤ (i : Int) := Int.le_trans (b := 0) (by decide) (by first | decide | omega)
theorem ev_at {a b : Nat} {xs : List Int} {i : Nat} (ha : getV ρ a = some (.dat (.list (xs.map .int)))) (hb : getV ρ b = some (.dat (.int (i : Int)))) (hi : i ≤ 5000) :
    evE fns (n + 2) hd ρ (.idx (.var a) (.var b)) W = match xs[i]? with | some x => .ok (.int x) W | none => raiseR hd W := by
  rw [evE, ev_var ha]; simp only [Res.bind]; rw [ev_var hb]; simp only [Res.bind, idxD]
  rw [if_pos ⟨Int.natCast_nonneg i, small62 hi⟩]
  simp only [Int.toNat_natCast, List.getElem?_map]
  cases xs[i]? <;> rfl

/-- the inner loops: one look -/
theorem wl_look {a b c : Nat} {xs : List Int} {i : Nat} {e : Int} (ha : getV ρ a = some (.dat (.list (xs.map .int)))) (hb : getV ρ b = some (.dat (.int (i : Int)))) (hc : getV ρ c = some (.dat (.int e))) (hi : i ≤ 5000) (hx : xs[i]? ≠ some e) :
    exS fns (n + 4) hd ρ (.whl (.cmp .eq (.idx (.var a) (.var b)) (.var c)) [.inc b 1]) W = match xs[i]? with | some _ => .ok .next ρ W | none => (raiseR hd W : Res Bool).to ρ fun _ _ => .bad := by
  rw [exS, evT, ev_at ha hb hi]
  cases hxi : xs[i]? with
  | some x =>
    simp only [Res.bind]
    rw [ev_var hc]
    have hne : (x == e) = false := beq_eq_false_iff_ne.mpr fun q => hx (by rw [hxi, q])
    simp only [Res.bind, cmpD, D.dep, D.eq, hne, Nat.zero_le, true_or, if_true, Res.to, Bool.false_eq_true, if_false]
  | none =>
    simp only [raiseR]
    by_cases h0 : hd = 0
    · rw [if_pos h0, if_pos h0]; rfl
    · rw [if_neg h0, if_neg h0]
      by_cases h1 : hd = 1
      · rw [if_pos h1, if_pos h1]; rfl
      · rw [if_neg h1, if_neg h1]; rfl

theorem seq_cons {s : S} {ss : List S} {f : S → Rho → Sto → SRes} {ρ1 : Rho} {W1 : Sto} (h : f s ρ W = .ok .next ρ1 W1) : exSeq f (s :: ss) ρ W = exSeq f ss ρ1 W1 := by rw [exSeq, h]; rfl
theorem seq_exc {s : S} {ss : List S} {f : S → Rho → Sto → SRes} {ρ1 : Rho} {W1 : Sto} {c : Bool} (h : f s ρ W = .exc c ρ1 W1) : exSeq f (s :: ss) ρ W = .exc c ρ1 W1 := by rw [exSeq, h]; rfl
theorem seq_nil {f : S → Rho → Sto → SRes} : exSeq f [] ρ W = .ok .next ρ W := rfl

theorem ex_inc {x : Nat} {j i : Int} (h : getV ρ x = some (.dat (.int j))) : exS fns (n + 1) hd ρ (.inc x i) W = .ok .next (setV x (.dat (.int (j + i))) ρ) W := by rw [exS, h]
theorem ex_app {x k : Nat} {e : E} {d : D} {ds : List D} (h : getV ρ x = some (.mref k)) (he : evE fns n hd ρ e W = .ok d W) (hW : W[k]? = some (some ds)) (hl : ds.length + 1 ≤ lim) :
    exS fns (n + 1) hd ρ (.app x e) W = .ok .next ρ (W.set k (some (ds ++ [d]))) := by
  rw [exS, h]
  simp only
  rw [if_pos (by unfold isLive; rw [hW]), he]
  simp only [Res.to, hW]
  rw [if_pos (fits_of hl)]
theorem ex_ext {x k : Nat} {e : E} {es ds : List D} (h : getV ρ x = some (.mref k)) (he : evE fns n hd ρ e W = .ok (.list es) W) (hW : W[k]? = some (some ds)) (hl : ds.length + es.length ≤ lim) :
    exS fns (n + 1) hd ρ (.ext x e) W = .ok .next ρ (W.set k (some (ds ++ es))) := by
  rw [exS, h]
  simp only
  rw [if_pos (by unfold isLive; rw [hW]), he]
  simp only [Res.to, hW]
  rw [if_pos (fits_of hl)]
theorem ex_asg {x : Nat} {e : E} {d : D} (he : evE fns n hd ρ e W = .ok d W) : exS fns (n + 1) hd ρ (.asg x e) W = .ok .next (setV x (.dat d) ρ) W := by rw [exS, he]; rfl
theorem ex_if {c : E} {a b : List S} {t : Bool} (h : evT fns n hd ρ c W = .ok t W) : exS fns (n + 1) hd ρ (.ifs c a b) W = exSeq (fun s ρ W => exS fns n hd ρ s W) (if t then a else b) ρ W := by rw [exS, h]; rfl
theorem slc_from {xs : List Int} {i : Nat} (hl : xs.length ≤ lim) : slcD (.list (xs.map .int)) (some (i : Int)) none = some (.list ((xs.drop i).map .int)) := by
  show (if 0 ≤ (i : Int) ∧ fits (xs.map D.int).length = true then some (D.list ((xs.map D.int).drop (i : Int).toNat)) else none) = _
  rw [if_pos ⟨Int.natCast_nonneg i, fits_of (by rw [List.length_map]; exact hl)⟩, Int.toNat_natCast, List.map_drop]
theorem evO_var {x : Nat} {j : Int} (h : getV ρ x = some (.dat (.int j))) (hj : -(2 ^ 62) ≤ j ∧ j < 2 ^ 62) : evO fns (n + 2) hd ρ (some (.var x)) W = .ok (some j) W := by
  rw [evO, ev_var h]
  simp only [Res.bind]
  rw [if_pos hj]
theorem evO_none : evO fns (n + 1) hd ρ none W = .ok none W := by rw [evO]
theorem ev_slice {a b : Nat} {xs : List Int} {i : Nat} (ha : getV ρ a = some (.dat (.list (xs.map .int)))) (hb : getV ρ b = some (.dat (.int (i : Int)))) (hi : i ≤ 5000) (hl : xs.length ≤ lim) :
    evE fns (n + 3) hd ρ (.slc (.var a) (some (.var b)) none) W = .ok (.list ((xs.drop i).map .int)) W := by
  rw [evE, ev_var ha]
  show (evO fns (n + 2) hd ρ (some (.var b)) W).bind (fun l W2 => (evO fns (n + 2) hd ρ none W2).bind fun h W3 => optR (slcD (.list (xs.map .int)) l h) W3) = _
  rw [evO_var hb ⟨small63, small62 hi⟩]
  show (evO fns (n + 2) hd ρ none W).bind (fun h W3 => optR (slcD (.list (xs.map .int)) (some (i : Int)) h) W3) = _
  rw [evO_none]
  show optR (slcD (.list (xs.map .int)) (some (i : Int)) none) W = _
  rw [slc_from hl]; rfl
end

/-- the last two lists of a store -/
theorem two_get0 (V : Sto) (a b : Option (List D)) : (V ++ [a, b])[V.length]? = some a := by rw [List.getElem?_append_right (Nat.le_refl _)]; simp
theorem two_get1 (V : Sto) (a b : Option (List D)) : (V ++ [a, b])[V.length + 1]? = some b := by rw [List.getElem?_append_right (by first | decide | omega)]; simp
theorem two_set0 (V : Sto) (a b c : Option (List D)) : (V ++ [a, b]).set V.length c = V ++ [c, b] := by rw [List.set_append_right _ _ (Nat.le_refl _)]; simp
theorem two_set1 (V : Sto) (a b c : Option (List D)) : (V ++ [a, b]).set (V.length + 1) c = V ++ [a, c] := by rw [List.set_append_right _ _ (by first | decide | omega)]; simp

theorem sld_end {ρ : Rho} {n : Nat} {V : Sto} {xs ys : List Int} {i j : Nat} {ms us : List D} (h : SL ρ xs ys i j V.length) (hi : i ≤ 5000) (hj : j ≤ 5000) (hx : xs.length ≤ 1000) (hy : ys.length ≤ 1000) (hm : ms.length ≤ 2000) (hu : us.length ≤ 2000) :
    exSeq (fun s ρ W => exS fns (n + 4) 2 ρ s W) sldEnd ρ (V ++ [some ms, some us]) = .ok .brk ρ (V ++ [some (ms ++ (xs.drop i).map .int), some (us ++ (ys.drop j).map .int)]) := by
  unfold sldEnd
  rw [seq_cons (ex_ext (n := n + 3) h.h18 (ev_slice h.h14 h.h16 hi (by unfold lim; omega)) (two_get0 ..) (by simp only [List.length_map, List.length_drop]; unfold lim; omega))]
  rw [two_set0]
  rw [seq_cons (ex_ext (n := n + 3) h.h19 (ev_slice h.h15 h.h17 hj (by unfold lim; omega)) (two_get1 ..) (by simp only [List.length_map, List.length_drop]; unfold lim; omega))]
  rw [two_set1]
  rw [exSeq, exS]; rfl
end Mine
end
section
open PySem PySem.W
set_option maxRecDepth 100000
set_option linter.unusedVariables false
set_option linter.unusedSimpArgs false
namespace Mine

section
variable {ρ : Rho} {n : Nat} {W : Sto} {hd : Nat}
theorem ex_asg_exc {x : Nat} {e : E} {c : Bool} (he : evE fns n hd ρ e W = .exc c W) : exS fns (n + 1) hd ρ (.asg x e) W = .exc c ρ W := by rw [exS, he]; rfl
theorem evT_cmp {op : COp} {a b : Nat} {x y : D} {t : Bool} (ha : getV ρ a = some (.dat x)) (hb : getV ρ b = some (.dat y)) (h : cmpD op x y = some (.bool t)) : evT fns (n + 2) hd ρ (.cmp op (.var a) (.var b)) W = .ok t W := by
  rw [evT, ev_var ha]; simp only [Res.bind]; rw [ev_var hb]; simp only [Res.bind, h]
end

noncomputable def Adj (xs : List Int) : Prop := ∀ (k : Nat) x, xs[k]? = some x → xs[k + 1]? ≠ some x
theorem drop_some {xs : List Int} {i : Nat} {x : Int} (h : xs[i]? = some x) : xs.drop i = x :: xs.drop (i + 1) := by
  obtain ⟨hi, he⟩ := List.getElem?_eq_some_iff.mp h
  rw [List.drop_eq_getElem_cons hi, he]
theorem goS_nil_r (xs : List Int) : goS xs [] = (xs, []) := by cases xs <;> simp [goS]

section
variable {ρ : Rho} {n : Nat} {V : Sto} {xs ys : List Int} {i j : Nat} {ms us : List D}

theorem cast_succ (i : Nat) : (i : Int) + 1 = ((i + 1 : Nat) : Int) := by omega

theorem try_body (h : SL ρ xs ys i j V.length) (sx : Adj xs) (sy : Adj ys) (lx : xs.length ≤ 1000) (ly : ys.length ≤ 1000) (hi : i ≤ xs.length) (hj : j ≤ ys.length) (hm : ms.length ≤ i) (hu : us.length ≤ j) :
    ∃ ρ' i' j' ms' us', SL ρ' xs ys i' j' V.length ∧ i' ≤ xs.length ∧ j' ≤ ys.length ∧ List.length ms' ≤ i' ∧ List.length us' ≤ j' ∧
      ms' ++ (goS (xs.drop i') (ys.drop j')).1.map D.int = ms ++ (goS (xs.drop i) (ys.drop j)).1.map D.int ∧ us' ++ (goS (xs.drop i') (ys.drop j')).2.map D.int = us ++ (goS (xs.drop i) (ys.drop j)).2.map D.int ∧
      ((exSeq (fun s ρ W => exS fns (n + 12) 0 ρ s W) sldTry ρ (V ++ [some ms, some us]) = .ok .next ρ' (V ++ [some ms', some us']) ∧ i + j < i' + j') ∨
        (∃ c, exSeq (fun s ρ W => exS fns (n + 12) 0 ρ s W) sldTry ρ (V ++ [some ms, some us]) = .exc c ρ' (V ++ [some ms', some us']) ∧ (xs.length ≤ i' ∨ ys.length ≤ j'))) := by
  have h1 : evE fns (n + 11) 0 ρ (.idx (.var 14) (.var 16)) (V ++ [some ms, some us]) = _ := ev_at h.h14 h.h16 (by first | decide | omega)
  cases hxi : xs[i]? with
  | none =>
    rw [hxi] at h1
    refine ⟨ρ, i, j, ms, us, h, hi, hj, hm, hu, rfl, rfl, .inr ⟨true, ?_, .inl (List.getElem?_eq_none_iff.mp hxi)⟩⟩
    exact seq_exc (ex_asg_exc h1)
  | some x =>
    rw [hxi] at h1
    have hil : i < xs.length := (List.getElem?_eq_some_iff.mp hxi).1
    unfold sldTry
    rw [seq_cons (ex_asg (n := n + 11) h1)]
    have hA : SL (setV 20 (.dat (.int x)) ρ) xs ys i j V.length := h.other (by decide)
    have h2 : evE fns (n + 11) 0 (setV 20 (.dat (.int x)) ρ) (.idx (.var 15) (.var 17)) (V ++ [some ms, some us]) = _ := ev_at hA.h15 hA.h17 (by first | decide | omega)
    cases hyj : ys[j]? with
    | none =>
      rw [hyj] at h2
      refine ⟨_, i, j, ms, us, hA, hi, hj, hm, hu, rfl, rfl, .inr ⟨true, ?_, .inr (List.getElem?_eq_none_iff.mp hyj)⟩⟩
      exact seq_exc (ex_asg_exc h2)
    | some y =>
      rw [hyj] at h2
      have hjl : j < ys.length := (List.getElem?_eq_some_iff.mp hyj).1
      rw [seq_cons (ex_asg (n := n + 11) h2)]
      generalize hρ2 : setV 21 (.dat (.int y)) (setV 20 (.dat (.int x)) ρ) = ρ2
      have hB : SL ρ2 xs ys i j V.length := hρ2 ▸ hA.other (by decide)
      have g20 : getV ρ2 20 = some (.dat (.int x)) := by rw [← hρ2, getV_set_ne _ _ (by decide), getV_set_self]
      have g21 : getV ρ2 21 = some (.dat (.int y)) := by rw [← hρ2, getV_set_self]
      have dx := drop_some hxi
      have dy := drop_some hyj
      have c1 : evT fns (n + 11) 0 ρ2 (.cmp .lt (.var 20) (.var 21)) (V ++ [some ms, some us]) = .ok (decide (x < y)) _ := evT_cmp g20 g21 (by simp [cmpD, D.lt])
      rw [exSeq, ex_if (n := n + 11) c1]
      by_cases hxy : x < y
      · rw [decide_eq_true hxy, if_pos rfl]
        rw [seq_cons (ex_app (n := n + 10) hB.h18 (ev_var g20) (two_get0 ..) (by unfold lim; omega)), two_set0, seq_cons (ex_inc (n := n + 10) hB.h16), cast_succ]
        have hC := hB.setI (i + 1)
        have gC : getV (setV 16 (.dat (.int ((i + 1 : Nat) : Int))) ρ2) 20 = some (.dat (.int x)) := by rw [getV_set_ne _ _ (by decide)]; exact g20
        have hw : exS fns (n + 11) 0 (setV 16 (.dat (.int ((i + 1 : Nat) : Int))) ρ2) wlE (V ++ [some (ms ++ [.int x]), some us]) = _ := wl_look (n := n + 7) hC.h14 hC.h16 gC (by first | decide | omega) (sx i x hxi)
        have hg : goS (xs.drop i) (ys.drop j) = (x :: (goS (xs.drop (i + 1)) (ys.drop j)).1, (goS (xs.drop (i + 1)) (ys.drop j)).2) := by rw [dx, dy, goS, if_pos hxy]
        refine ⟨_, i + 1, j, ms ++ [.int x], us, hC, by omega, hj, by simp; omega, hu, by rw [hg]; simp, by rw [hg], ?_⟩
        cases hn : xs[i + 1]? with
        | some z =>
          rw [hn] at hw
          left
          rw [exSeq, hw]
          exact ⟨rfl, by omega⟩
        | none =>
          rw [hn] at hw
          right
          rw [exSeq, hw]
          exact ⟨true, rfl, .inl (List.getElem?_eq_none_iff.mp hn)⟩
      · rw [decide_eq_false hxy, if_neg Bool.false_ne_true]
        have c2 : evT fns (n + 10) 0 ρ2 (.cmp .gt (.var 20) (.var 21)) (V ++ [some ms, some us]) = .ok (decide (y < x)) _ := evT_cmp g20 g21 (by simp [cmpD])
        rw [exSeq, ex_if (n := n + 10) c2]
        by_cases hyx : y < x
        · rw [decide_eq_true hyx, if_pos rfl]
          rw [seq_cons (ex_app (n := n + 9) hB.h19 (ev_var g21) (two_get1 ..) (by unfold lim; omega)), two_set1, seq_cons (ex_inc (n := n + 9) hB.h17), cast_succ]
          have hC := hB.setJ (j + 1)
          have gC : getV (setV 17 (.dat (.int ((j + 1 : Nat) : Int))) ρ2) 21 = some (.dat (.int y)) := by rw [getV_set_ne _ _ (by decide)]; exact g21
          have hw : exS fns (n + 10) 0 (setV 17 (.dat (.int ((j + 1 : Nat) : Int))) ρ2) wlA (V ++ [some ms, some (us ++ [.int y])]) = _ := wl_look (n := n + 6) hC.h15 hC.h17 gC (by first | decide | omega) (sy j y hyj)
          have hg : goS (xs.drop i) (ys.drop j) = ((goS (xs.drop i) (ys.drop (j + 1))).1, y :: (goS (xs.drop i) (ys.drop (j + 1))).2) := by rw [dx, dy, goS, if_neg hxy, if_pos hyx]
          refine ⟨_, i, j + 1, ms, us ++ [.int y], hC, hi, by omega, hm, by simp; omega, by rw [hg], by rw [hg]; simp, ?_⟩
          cases hn : ys[j + 1]? with
          | some z =>
            rw [hn] at hw
            left
            rw [exSeq, hw]
            exact ⟨rfl, by omega⟩
          | none =>
            rw [hn] at hw
            right
            rw [exSeq, hw]
            exact ⟨true, rfl, .inr (List.getElem?_eq_none_iff.mp hn)⟩
        · rw [decide_eq_false hyx, if_neg Bool.false_ne_true]
          rw [seq_cons (ex_inc (n := n + 9) hB.h16), cast_succ]
          have hC := hB.setI (i + 1)
          generalize hρ3 : setV 16 (.dat (.int ((i + 1 : Nat) : Int))) ρ2 = ρ3 at hC
          have g3 : getV ρ3 20 = some (.dat (.int x)) := by rw [← hρ3, getV_set_ne _ _ (by decide)]; exact g20
          have g4 : getV ρ3 21 = some (.dat (.int y)) := by rw [← hρ3, getV_set_ne _ _ (by decide)]; exact g21
          have hE := hC.setJ (j + 1)
          have g5 : getV (setV 17 (.dat (.int ((j + 1 : Nat) : Int))) ρ3) 21 = some (.dat (.int y)) := by rw [getV_set_ne _ _ (by decide)]; exact g4
          have hg : goS (xs.drop i) (ys.drop j) = goS (xs.drop (i + 1)) (ys.drop (j + 1)) := by rw [dx, dy, goS, if_neg hxy, if_neg hyx]
          have hw : exS fns (n + 9) 0 ρ3 wlE (V ++ [some ms, some us]) = _ := wl_look (n := n + 5) hC.h14 hC.h16 g3 (by first | decide | omega) (sx i x hxi)
          have hf : ∀ hd, exSeq (fun s ρ W => exS fns (n + 9) hd ρ s W) [.inc 17 1, wlA] ρ3 (V ++ [some ms, some us]) = exSeq (fun s ρ W => exS fns (n + 9) hd ρ s W) [wlA] (setV 17 (.dat (.int ((j + 1 : Nat) : Int))) ρ3) (V ++ [some ms, some us]) := fun hd => by
            rw [seq_cons (ex_inc (n := n + 8) hC.h17), cast_succ]
          have hv : ∀ hd, exS fns (n + 9) hd (setV 17 (.dat (.int ((j + 1 : Nat) : Int))) ρ3) wlA (V ++ [some ms, some us]) = _ := fun hd => wl_look (n := n + 5) (hd := hd) (W := V ++ [some ms, some us]) hE.h15 hE.h17 g5 (by first | decide | omega) (sy j y hyj)
          refine ⟨_, i + 1, j + 1, ms, us, hE, by omega, by omega, by omega, by omega, by rw [hg], by rw [hg], ?_⟩
          rw [exSeq, exS, if_pos rfl]
          cases hn : xs[i + 1]? with
          | some z =>
            rw [hn] at hw
            have e1 : exSeq (fun s ρ W => exS fns (n + 9) 0 ρ s W) [wlE] ρ3 (V ++ [some ms, some us]) = .ok .next ρ3 (V ++ [some ms, some us]) := by rw [exSeq, hw]; rfl
            rw [e1]
            simp only
            rw [hf 0, exSeq, hv 0]
            cases hp : ys[j + 1]? with
            | some z' => left; exact ⟨rfl, by omega⟩
            | none => right; exact ⟨true, rfl, .inr (List.getElem?_eq_none_iff.mp hp)⟩
          | none =>
            rw [hn] at hw
            have e1 : exSeq (fun s ρ W => exS fns (n + 9) 0 ρ s W) [wlE] ρ3 (V ++ [some ms, some us]) = .exc true ρ3 (V ++ [some ms, some us]) := by rw [exSeq, hw]; rfl
            rw [e1]
            simp only
            rw [hf 1, exSeq, hv 1]
            right
            cases hp : ys[j + 1]? with
            | some z' => exact ⟨true, rfl, .inl (List.getElem?_eq_none_iff.mp hn)⟩
            | none => exact ⟨false, rfl, .inl (List.getElem?_eq_none_iff.mp hn)⟩
end
end Mine
end
section
open PySem PySem.W
set_option maxRecDepth 100000
set_option linter.unusedVariables false
set_option linter.unusedSimpArgs false
namespace Mine

theorem goS_stop {xs ys : List Int} {i j : Nat} (h : xs.length ≤ i ∨ ys.length ≤ j) : goS (xs.drop i) (ys.drop j) = (xs.drop i, ys.drop j) := by
  rcases h with h | h
  · rw [List.drop_eq_nil_of_le h, goS]
  · rw [List.drop_eq_nil_of_le h, goS_nil_r]

theorem sld_loop {n : Nat} {V : Sto} {xs ys : List Int} (sx : Adj xs) (sy : Adj ys) (lx : xs.length ≤ 1000) (ly : ys.length ≤ 1000) : ∀ (k : Nat) (ρ : Rho) (i j : Nat) (ms us : List D), SL ρ xs ys i j V.length → i ≤ xs.length → j ≤ ys.length → ms.length ≤ i → us.length ≤ j → xs.length + ys.length - (i + j) ≤ k →
    ∃ ρ' i' j', SL ρ' xs ys i' j' V.length ∧ exS fns (k + n + 20) 0 ρ sldLoop (V ++ [some ms, some us]) = .ok .next ρ' (V ++ [some (ms ++ (goS (xs.drop i) (ys.drop j)).1.map .int), some (us ++ (goS (xs.drop i) (ys.drop j)).2.map .int)]) := by
  intro k
  induction k with
  | zero =>
    intro ρ i j ms us h hi hj hm hu hk
    obtain ⟨ρ', i', j', ms', us', h', hi', hj', hm', hu', e1, e2, r⟩ := try_body (n := 0 + n + 6) h sx sy lx ly hi hj hm hu
    rcases r with ⟨_, hlt⟩ | ⟨c, r, hs⟩
    · omega
    · refine ⟨ρ', i', j', h', ?_⟩
      unfold sldLoop
      rw [exS, evT]
      simp only [Res.to, if_true]
      rw [exSeq, exS, if_pos rfl, r]
      simp only
      rw [sld_end (n := 0 + n + 14) h' (by first | decide | omega) (by first | decide | omega) lx ly (by first | decide | omega) (by first | decide | omega)]
      rw [← e1, ← e2, goS_stop hs]
      rfl
  | succ k ih =>
    intro ρ i j ms us h hi hj hm hu hk
    obtain ⟨ρ', i', j', ms', us', h', hi', hj', hm', hu', e1, e2, r⟩ := try_body (n := k + 1 + n + 6) h sx sy lx ly hi hj hm hu
    rcases r with ⟨r, hlt⟩ | ⟨c, r, hs⟩
    · obtain ⟨ρ2, i2, j2, h2, e⟩ := ih ρ' i' j' ms' us' h' hi' hj' hm' hu' (by first | decide | omega)
      refine ⟨ρ2, i2, j2, h2, ?_⟩
      have hfu : k + 1 + n + 20 = (k + n + 20) + 1 := by omega
      unfold sldLoop
      rw [hfu, exS]
      have e3 : evT fns (k + n + 20) 0 ρ (.bool true) (V ++ [some ms, some us]) = .ok true (V ++ [some ms, some us]) := by
        rw [show k + n + 20 = (k + n + 19) + 1 by omega, evT]
      rw [e3]
      simp only [Res.to, if_true]
      have e4 : exSeq (fun s ρ W => exS fns (k + n + 20) 0 ρ s W) [.trye sldTry sldEnd] ρ (V ++ [some ms, some us]) = .ok .next ρ' (V ++ [some ms', some us']) := by
        rw [exSeq, show k + n + 20 = (k + 1 + n + 6 + 12) + 1 by omega, exS, if_pos rfl, r]
        rfl
      rw [e4]
      simp only
      rw [← e1, ← e2]
      exact e
    · refine ⟨ρ', i', j', h', ?_⟩
      unfold sldLoop
      rw [exS, evT]
      simp only [Res.to, if_true]
      rw [exSeq, exS, if_pos rfl, r]
      simp only
      rw [sld_end (n := k + 1 + n + 14) h' (by first | decide | omega) (by first | decide | omega) lx ly (by first | decide | omega) (by first | decide | omega)]
      rw [← e1, ← e2, goS_stop hs]
      rfl

theorem pc_sld {xs ys : List Int} (sx : Adj xs) (sy : Adj ys) (lx : xs.length ≤ 10) (ly : ys.length ≤ 10) : PC 60 6 [.dat (.list (xs.map .int)), .dat (.list (ys.map .int))] (.tup [.list ((goS xs ys).1.map .int), .list ((goS xs ys).2.map .int)]) := fun n hn V => by
  obtain ⟨m, rfl⟩ : ∃ m, n = (20 + m + 20) + 1 := ⟨n - 41, by omega⟩
  rw [callF]
  have hf : fns[6]? = some fSld := rfl
  rw [hf]
  show (match exSeq (fun s ρ W => exS fns (20 + m + 20) 0 ρ s W) fSld.body [(14, .dat (.list (xs.map .int))), (15, .dat (.list (ys.map .int)))] V with
    | .ok (.ret d) _ W' => Res.ok d (W'.take V.length)
    | .ok .next _ W' => .ok .none (W'.take V.length)
    | _ => .bad) = _
  have s1 : ∀ ρ, exS fns (20 + m + 20) 0 ρ (.asg2 16 17 0) V = .ok .next (setV 17 (.dat (.int 0)) (setV 16 (.dat (.int 0)) ρ)) V := fun ρ => by rw [exS]
  have s2 : ∀ ρ x (W : Sto), exS fns (20 + m + 20) 0 ρ (.new x []) W = .ok .next (setV x (.mref W.length) ρ) (W ++ [some []]) := fun ρ x W => by
    rw [exS, if_pos rfl, mapR]; rfl
  unfold fSld
  dsimp only
  rw [seq_cons (s1 _), seq_cons (s2 _ _ _), seq_cons (s2 _ _ _)]
  rw [List.length_append, List.append_assoc]
  simp only [List.length_cons, List.length_nil, List.cons_append, List.nil_append, Nat.zero_add]
  generalize hρ : setV 19 (.mref (V.length + 1)) (setV 18 (.mref V.length) (setV 17 (.dat (.int 0)) (setV 16 (.dat (.int 0)) [(14, .dat (.list (xs.map .int))), (15, .dat (.list (ys.map .int)))]))) = ρ
  have h : SL ρ xs ys 0 0 V.length := by subst hρ; exact ⟨rfl, rfl, rfl, rfl, rfl, rfl⟩
  obtain ⟨ρ', i', j', h', e⟩ := sld_loop (n := m) (V := V) sx sy (by first | decide | omega) (by first | decide | omega) 20 ρ 0 0 [] [] h (by first | decide | omega) (by first | decide | omega) (by simp) (by simp) (by first | decide | omega)
  rw [seq_cons e]
  simp only [List.drop_zero, List.nil_append]
  rw [exSeq, exS, evE, mapR, evE, h'.h18]
  simp only
  rw [two_get0]
  simp only [Res.bind]
  rw [two_set0, mapR, evE, h'.h19]
  simp only
  rw [two_get1]
  simp only [Res.bind, mapR]
  rw [two_set1]
  simp only [List.length_cons, List.length_nil, Nat.zero_add]
  rw [if_pos (fits_of (by decide))]
  simp only [Res.to, SRes.bind]
  rw [List.take_left]
end Mine
end
section
open PySem PySem.W
set_option maxRecDepth 100000
set_option linter.unusedVariables false
set_option linter.unusedSimpArgs false
namespace Mine

/-! ### sublists of one rising list -/
abbrev Up (l : List Int) : Prop := l.Pairwise (· < ·)
theorem up_filter {l : List Int} (h : Up l) (p : Int → Bool) : Up (l.filter p) := h.sublist List.filter_sublist
theorem adj_of_up : ∀ {l : List Int}, Up l → Adj l
  | [], _, k, x, h, _ => by simp at h
  | a :: l, hu, k, x, h, h' => by
    have hu := List.pairwise_cons.mp hu
    cases k with
    | zero =>
      simp at h h'
      have := hu.1 x (List.mem_of_getElem? h')
      omega
    | succ k =>
      simp at h h'
      exact adj_of_up hu.2 k x h h'
theorem goS_low {x : Int} {A B : List Int} (h : ∀ y ∈ B, x < y) : goS (x :: A) B = (x :: (goS A B).1, (goS A B).2) := by
  cases B with
  | nil => rw [goS_nil_r, goS_nil_r]
  | cons y B => rw [goS, if_pos (h y (.head _))]
theorem goS_high {y : Int} {A B : List Int} (h : ∀ x ∈ A, y < x) : goS A (y :: B) = ((goS A B).1, y :: (goS A B).2) := by
  cases A with
  | nil => rw [goS, goS]
  | cons x A =>
    have := h x (.head _)
    rw [goS, if_neg (by first | decide | omega), if_pos this]
theorem goS_filter (p q : Int → Bool) : ∀ {l : List Int}, Up l → goS (l.filter p) (l.filter q) = (l.filter fun c => p c && !q c, l.filter fun c => q c && !p c)
  | [], _ => by simp [goS]
  | c :: l, hu => by
    have hu := List.pairwise_cons.mp hu
    have ih := goS_filter p q hu.2
    have lo : ∀ (r : Int → Bool) y, y ∈ l.filter r → c < y := fun r y hy => hu.1 y (List.mem_filter.mp hy).1
    simp only [List.filter_cons]
    cases hp : p c <;> cases hq : q c <;> simp only [Bool.not_true, Bool.not_false, Bool.and_true, Bool.and_false, Bool.true_and, Bool.false_and, if_true, if_false, Bool.false_eq_true]
    · exact ih
    · rw [goS_high (lo p), ih]
    · rw [goS_low (lo q), ih]
    · rw [goS, if_neg (by first | decide | omega), if_neg (by first | decide | omega), ih]

noncomputable def dI (l : List Int) : D := .list (l.map .int)
/-- how far two sets of things lie apart -/
noncomputable def dist (l : List Int) (p q : Int → Bool) : Nat := (l.filter fun c => p c != q c).length
theorem dist_parts (p q : Int → Bool) : ∀ l : List Int, (l.filter fun c => p c && !q c).length + (l.filter fun c => q c && !p c).length = dist l p q
  | [] => rfl
  | c :: l => by
    have ih := dist_parts p q l
    unfold dist at ih ⊢
    simp only [List.filter_cons]
    cases hp : p c <;> cases hq : q c <;> simp <;> omega

theorem any_eq (S : List Int) (x : Int) : ((S.map D.int).any fun y => D.eq y (.int x)) = S.contains x := by
  induction S with
  | nil => rfl
  | cons a S ih =>
    rw [List.map_cons, List.any_cons, ih, List.contains_cons]
    simp only [D.eq]
    rw [Bool.beq_comm]
theorem isin_int (S : List Int) (x : Int) : cmpD .isin (.int x) (dI S) = some (.bool (S.contains x)) := by
  unfold cmpD dI; simp only [any_eq]
theorem ne_bool (a b : Bool) : cmpD .ne (.bool a) (.bool b) = some (.bool (a != b)) := by cases a <;> cases b <;> rfl
theorem eq_int (a b : Int) : cmpD .eq (.int a) (.int b) = some (.bool (a == b)) := by simp [cmpD, D.dep, D.eq]
theorem contains_filter {l : List Int} {p : Int → Bool} {x : Int} (h : x ∈ l) : (l.filter p).contains x = p x := by
  rw [Bool.eq_iff_iff]
  simp [List.mem_filter, h]

/-! ### _law_turned -/
theorem call_of {N f : Nat} {fn : Fn} {vs : List V} {ρ : Rho} {d : D} (hf : fns[f]? = some fn) (hb : bindArgsV fn.params vs = some ρ) (h : ∀ n, N ≤ n → ∀ V : Sto, ∃ ρ' W', exSeq (fun s ρ W => exS fns n 0 ρ s W) fn.body ρ V = .ok (.ret d) ρ' (V ++ W')) : PC (N + 1) f vs d := fun n hn V => by
  obtain ⟨m, rfl, hm⟩ := succ_of hn
  obtain ⟨ρ', W', e⟩ := h m hm V
  rw [callF, hf]
  simp only
  rw [hb]
  simp only
  rw [e]
  simp only
  rw [List.take_left]
theorem ret_pure {N : Nat} {ρ : Rho} {e : E} {d : D} (h : PE N ρ e d) {n : Nat} (hn : N + 1 ≤ n) (V : Sto) {ss : List S} : ∃ ρ' W', exSeq (fun s ρ W => exS fns n 0 ρ s W) (.ret e :: ss) ρ V = .ok (.ret d) ρ' (V ++ W') := by
  obtain ⟨m, rfl, hm⟩ := succ_of hn
  refine ⟨ρ, [], ?_⟩
  rw [exSeq, exS, h m hm]
  simp only [Res.to, SRes.bind, List.append_nil]

theorem pc_turned {B O L : List Int} (hl : L.length ≤ 1000) : PC 10 8 [.dat (dI B), .dat (dI O), .dat (dI L)] (dI (L.filter fun c => B.contains c != O.contains c)) := by
  refine call_of (fn := fTurned) rfl rfl fun n hn V => ?_
  refine ret_pure (N := 6) ?_ (by first | decide | omega) V
  have e : (dI (L.filter fun c => B.contains c != O.contains c)) = .list (((L.map D.int).filter fun d => match d with | .int c => B.contains c != O.contains c | _ => false).map id) := by
    unfold dI
    rw [List.map_id, List.filter_map]
    rfl
  rw [e]
  refine pe_comp1 (N := 4) (by decide) ((pi_of (N := 1) (d := dI L) (pe_var rfl) rfl (by intro a q; cases q)).mono (by first | decide | omega)) (fun d hd => ?_) (fun d hd _ => ?_) (by simpa using hl)
  · obtain ⟨c, hc, rfl⟩ := List.mem_map.mp hd
    refine pts_one ((pt_cmp (N := 3) (pe_cmp (N := 1) (pe_var (d := .int c) rfl) (pe_var (d := dI B) rfl) (isin_int ..) |>.mono (by first | decide | omega)) (pe_cmp (N := 1) (pe_var (d := .int c) rfl) (pe_var (d := dI O) rfl) (isin_int ..) |>.mono (by first | decide | omega)) (ne_bool ..)))
  · exact (pe_var rfl).mono (by first | decide | omega)
end Mine
end
section
open PySem PySem.W
set_option maxRecDepth 100000
set_option linter.unusedVariables false
set_option linter.unusedSimpArgs false
namespace Mine

theorem asg_pure {N n : Nat} {ρ : Rho} {x : Nat} {e : E} {d : D} (h : PE N ρ e d) (hn : N + 1 ≤ n) (V : Sto) : exS fns n 0 ρ (.asg x e) V = .ok .next (setV x (.dat d) ρ) V := by
  obtain ⟨m, rfl, hm⟩ := succ_of hn
  exact ex_asg (h m hm V)
theorem unp_pure {N n : Nat} {ρ : Rho} {x y : Nat} {e : E} {a b : D} (h : PE N ρ e (.tup [a, b])) (hn : N + 1 ≤ n) (V : Sto) : exS fns n 0 ρ (.unp x y e) V = .ok .next (setV y (.dat b) (setV x (.dat a) ρ)) V := by
  obtain ⟨m, rfl, hm⟩ := succ_of hn
  rw [exS, if_pos rfl, h m hm]; rfl
theorem len_int {l : List D} (h : l.length ≤ 1000) : biD .len (.list l) = some (.int l.length) := by
  unfold biD; simp only; rw [if_pos (fits_of (by unfold lim; omega))]

/-! ### _law_ways -/
noncomputable def total (l : List Int) (p : Int → Bool) (q : Int → Int → Bool) (xs : List Int) : Int := (xs.map fun x => (dist l p (q x) : Int)).sum
theorem ways_go {n : Nat} (hn : 90 ≤ n) {V : Sto} {l : List Int} (hu : Up l) (hl : l.length ≤ 10) {p : Int → Bool} {q : Int → Int → Bool} : ∀ (xs : List Int) (ρ : Rho) (acc : Int), getV ρ 22 = some (.dat (dI (l.filter p))) → getV ρ 24 = some (.dat (.int acc)) →
    ∃ ρ', exFor (fun ρ W => exSeq (fun s ρ W => exS fns n 0 ρ s W) [.unp 26 27 (.call 6 [.var 22, .var 25]),
  .asg 24 (.bin .add (.bin .add (.var 24) (.bi .len (.var 26))) (.bi .len (.var 27)))] ρ W) 25 (xs.map fun x => dI (l.filter (q x))) ρ V = .ok .next ρ' V ∧ getV ρ' 24 = some (.dat (.int (acc + total l p q xs)))
  | [], ρ, acc, h1, h2 => ⟨ρ, rfl, by rw [h2]; simp [total]⟩
  | x :: xs, ρ, acc, h1, h2 => by
    have lp := List.length_filter_le p l
    have lq := List.length_filter_le (q x) l
    have e1 : exS fns n 0 (setV 25 (.dat (dI (l.filter (q x)))) ρ) (.unp 26 27 (.call 6 [.var 22, .var 25])) V = .ok .next (setV 27 (.dat (.list ((l.filter fun c => q x c && !p c).map .int))) (setV 26 (.dat (.list ((l.filter fun c => p c && !q x c).map .int))) (setV 25 (.dat (dI (l.filter (q x)))) ρ))) V := by
      have := unp_pure (x := 26) (y := 27) (N := 61) (pe_call (N := 60) (ρ := setV 25 (.dat (dI (l.filter (q x)))) ρ) (pvs_var (N := 59) (i := 22) (by rw [getV_set_ne _ _ (by decide)]; exact h1) (pvs_var (N := 59) (i := 25) (getV_set_self ..) pvs_nil)) (pc_sld (adj_of_up (up_filter hu p)) (adj_of_up (up_filter hu (q x))) (by first | decide | omega) (by first | decide | omega))) (show 61 + 1 ≤ n by omega) V
      rw [goS_filter p (q x) hu] at this
      exact this
    have l1 := List.length_filter_le (fun c => p c && !q x c) l
    have l2 := List.length_filter_le (fun c => q x c && !p c) l
    generalize hρ : setV 27 (.dat (.list ((l.filter fun c => q x c && !p c).map .int))) (setV 26 (.dat (.list ((l.filter fun c => p c && !q x c).map .int))) (setV 25 (.dat (dI (l.filter (q x)))) ρ)) = ρ1 at e1
    have g24 : getV ρ1 24 = some (.dat (.int acc)) := by rw [← hρ, getV_set_ne _ _ (by decide), getV_set_ne _ _ (by decide), getV_set_ne _ _ (by decide)]; exact h2
    have g22 : getV ρ1 22 = some (.dat (dI (l.filter p))) := by rw [← hρ, getV_set_ne _ _ (by decide), getV_set_ne _ _ (by decide), getV_set_ne _ _ (by decide)]; exact h1
    have g26 : getV ρ1 26 = some (.dat (.list ((l.filter fun c => p c && !q x c).map .int))) := by rw [← hρ, getV_set_ne _ _ (by decide), getV_set_self]
    have g27 : getV ρ1 27 = some (.dat (.list ((l.filter fun c => q x c && !p c).map .int))) := by rw [← hρ, getV_set_self]
    have e2 : exS fns n 0 ρ1 (.asg 24 (.bin .add (.bin .add (.var 24) (.bi .len (.var 26))) (.bi .len (.var 27)))) V = _ :=
      asg_pure (N := 4) (d := .int (acc + dist l p (q x))) (pe_bin (N := 3) (pe_bin (N := 2) ((pe_var g24).mono (by first | decide | omega)) (pe_bi (N := 1) (pe_var g26) (len_int (by simp; omega))) rfl) ((pe_bi (N := 1) (pe_var g27) (len_int (by simp; omega))).mono (by first | decide | omega)) (by
        simp only [binD, List.length_map, ← dist_parts]
        congr 2
        push_cast
        omega)) (by first | decide | omega) V
    rw [List.map_cons, exFor, seq_cons e1, seq_cons e2, seq_nil]
    simp only
    obtain ⟨ρ', e3, g3⟩ := ways_go hn hu hl xs (setV 24 (.dat (.int (acc + dist l p (q x)))) ρ1) (acc + dist l p (q x)) (by rw [getV_set_ne _ _ (by decide)]; exact g22) (getV_set_self ..)
    refine ⟨ρ', e3, ?_⟩
    rw [g3]
    simp [total, Int.add_assoc]

theorem pc_ways {l : List Int} (hu : Up l) (hl : l.length ≤ 10) {p : Int → Bool} {q : Int → Int → Bool} {xs : List Int} : PC 100 7 [.dat (dI (l.filter p)), .dat (.list (xs.map fun x => dI (l.filter (q x))))] (.int (total l p q xs)) := by
  refine PC.mono (N := 95 + 1) (call_of (N := 95) (fn := fWays) rfl rfl fun n hn V => ?_) (by first | decide | omega)
  have e1 : exS fns n 0 [(22, .dat (dI (l.filter p))), (23, .dat (.list (xs.map fun x => dI (l.filter (q x)))))] (.asg 24 (.int 0)) V = _ := asg_pure (N := 1) pe_int (by first | decide | omega) V
  unfold fWays
  dsimp only
  rw [seq_cons e1]
  generalize hρ : setV 24 (.dat (.int 0)) [(22, .dat (dI (l.filter p))), (23, .dat (.list (xs.map fun x => dI (l.filter (q x)))))] = ρ
  have g22 : getV ρ 22 = some (.dat (dI (l.filter p))) := by subst hρ; rfl
  have g23 : getV ρ 23 = some (.dat (.list (xs.map fun x => dI (l.filter (q x))))) := by subst hρ; rfl
  have g24 : getV ρ 24 = some (.dat (.int 0)) := by subst hρ; rfl
  obtain ⟨m, rfl, hm⟩ := succ_of (N := 94) (n := n) hn
  obtain ⟨ρ', e2, g⟩ := ways_go (n := m) (by first | decide | omega) (V := V) hu hl (p := p) (q := q) xs ρ 0 g22 g24
  have e3 : exS fns (m + 1) 0 ρ (.for_ 25 (.var 23) [.unp 26 27 (.call 6 [.var 22, .var 25]), .asg 24 (.bin .add (.bin .add (.var 24) (.bi .len (.var 26))) (.bi .len (.var 27)))]) V = .ok .next ρ' V := by
    rw [exS, if_pos rfl, pi_of (N := 1) (pe_var g23) (ds := xs.map fun x => dI (l.filter (q x))) rfl (by intro a q; cases q) m (by first | decide | omega) V]
    simp only [noExc, Res.to]
    exact e2
  rw [seq_cons e3]
  rw [Int.zero_add] at g
  exact ret_pure (pe_var g) (by first | decide | omega) V
end Mine
end
section
open PySem PySem.W
set_option maxRecDepth 100000
set_option linter.unusedVariables false
set_option linter.unusedSimpArgs false
namespace Mine

/-! ### the medians of marks -/
noncomputable def zo (z o : Nat) : List Int := List.replicate z 0 ++ List.replicate o 1
theorem ins0 (z o : Nat) : insI 0 (zo z o) = zo (z + 1) o := by
  unfold zo
  cases z with
  | succ z => simp [List.replicate_succ, insI]
  | zero => cases o <;> simp [List.replicate_succ, insI]
theorem ins1 (z o : Nat) : insI 1 (zo z o) = zo z (o + 1) := by
  unfold zo
  induction z with
  | succ z ih => simp [List.replicate_succ, insI] at ih ⊢; exact ih
  | zero => cases o <;> simp [List.replicate_succ, insI]
noncomputable def marksOf (b : Int → Bool) (xs : List Int) : List Int := xs.map fun x => if b x then 1 else 0
noncomputable def onesOf (b : Int → Bool) (xs : List Int) : Nat := (xs.filter b).length
theorem ones_le (b : Int → Bool) (xs : List Int) : onesOf b xs ≤ xs.length := List.length_filter_le ..
theorem sort_marks (b : Int → Bool) : ∀ xs : List Int, sortI (marksOf b xs) = zo (xs.length - onesOf b xs) (onesOf b xs)
  | [] => rfl
  | x :: xs => by
    have ih := sort_marks b xs
    have := ones_le b xs
    unfold marksOf at ih ⊢
    rw [List.map_cons, sortI, ih]
    unfold onesOf at this ⊢
    rw [List.filter_cons]
    cases b x
    · simp only [Bool.false_eq_true, if_false, List.length_cons]
      rw [ins0]
      congr 1
      omega
    · simp only [if_true, List.length_cons]
      rw [ins1]
      congr 1
      omega
theorem zo_get {z o k : Nat} (h : k < z + o) : (zo z o)[k]? = some (if k < z then 0 else 1) := by
  unfold zo
  by_cases hk : k < z
  · rw [List.getElem?_append_left (by simpa using hk), List.getElem?_replicate, if_pos hk, if_pos hk]
  · rw [List.getElem?_append_right (by simp; omega), List.getElem?_replicate, if_neg hk, if_pos (by simp; omega)]
theorem fmod2 (m : Nat) : (m : Int).fmod 2 = ((m % 2 : Nat) : Int) := by rw [Int.fmod_eq_emod_of_nonneg _ (by decide)]; omega
theorem fdiv2 (m : Nat) : (m : Int).fdiv 2 = ((m / 2 : Nat) : Int) := by rw [Int.fdiv_eq_ediv_of_nonneg _ (by decide)]; omega

theorem if_pure {N n : Nat} {ρ : Rho} {c : E} {a b : List S} {t : Bool} (h : PT N ρ c t) (hn : N + 1 ≤ n) (V : Sto) : ∃ m, n = m + 1 ∧ exS fns n 0 ρ (.ifs c a b) V = exSeq (fun s ρ W => exS fns m 0 ρ s W) (if t then a else b) ρ V := by
  obtain ⟨m, rfl, hm⟩ := succ_of hn
  exact ⟨m, rfl, ex_if (h m hm V)⟩

theorem idx_nat {l : List D} {k : Nat} {d : D} (h : l[k]? = some d) (hk : k ≤ 5000) (W : Sto) : idxD 0 (.list l) (.int (k : Int)) W = .ok d W := by
  have := small62 hk
  generalize hj : (k : Int) = j at this
  have h0 : 0 ≤ j := by omega
  have e : j.toNat = k := by omega
  unfold idxD
  simp only
  rw [if_pos ⟨h0, this⟩, e, h]

theorem sorted_marks {b : Int → Bool} {xs : List Int} (h : xs.length < 64) : biD .sorted (dI (marksOf b xs)) = some (dI (zo (xs.length - onesOf b xs) (onesOf b xs))) := by
  unfold biD dI
  simp only [List.length_map]
  rw [if_pos (by unfold marksOf; simpa using h)]
  unfold D.sort
  have h1 : ((marksOf b xs).map D.int).all D.isInt = true := by simp [D.isInt]
  have h2 : ((marksOf b xs).map D.int).map D.toInt = marksOf b xs := by rw [List.map_map]; exact List.map_id' _
  rw [if_pos h1, h2, sort_marks]; rfl

theorem pc_low {b : Int → Bool} {xs : List Int} (h0 : 0 < xs.length) (h : xs.length < 64) : PC 12 4 [.dat (dI (marksOf b xs))] (.int (if xs.length < 2 * onesOf b xs then 1 else 0)) := by
  refine PC.mono (N := 10 + 1) (call_of (N := 10) (fn := fMedianLow) rfl rfl fun n hn V => ?_) (by first | decide | omega)
  have hle := ones_le b xs
  unfold fMedianLow
  dsimp only
  have e1 : exS fns n 0 [(12, .dat (dI (marksOf b xs)))] (.asg 12 (.bi .sorted (.var 12))) V = _ := asg_pure (N := 2) (pe_bi (N := 1) (pe_var rfl) (sorted_marks h)) (by first | decide | omega) V
  rw [seq_cons e1]
  have e2 : exS fns n 0 [(12, .dat (dI (zo (xs.length - onesOf b xs) (onesOf b xs))))] (.asg 13 (.bi .len (.var 12))) V = _ := asg_pure (N := 2) (d := .int xs.length) (pe_bi (N := 1) (pe_var rfl) (by
    unfold dI; rw [len_int (by simp [zo]; omega)]; simp [zo]; omega)) (by first | decide | omega) V
  rw [show setV 12 (.dat (dI (zo (xs.length - onesOf b xs) (onesOf b xs)))) [(12, .dat (dI (marksOf b xs)))] = [(12, .dat (dI (zo (xs.length - onesOf b xs) (onesOf b xs))))] from rfl, seq_cons e2]
  generalize hρ : setV 13 (.dat (.int (xs.length : Int))) [(12, .dat (dI (zo (xs.length - onesOf b xs) (onesOf b xs))))] = ρ
  have g12 : getV ρ 12 = some (.dat (dI (zo (xs.length - onesOf b xs) (onesOf b xs)))) := by subst hρ; rfl
  have g13 : getV ρ 13 = some (.dat (.int (xs.length : Int))) := by subst hρ; rfl
  obtain ⟨m, rfl, e3⟩ := if_pure (N := 2) (n := n) (a := [.stop]) (b := []) (t := false) (pt_cmp (N := 1) (pe_var g13) (pe_int (i := 0)) (by rw [eq_int]; congr 2; exact beq_eq_false_iff_ne.mpr (by first | decide | omega))) (by first | decide | omega) V
  rw [seq_cons (e3.trans seq_nil)]
  have hget : ∀ k, k < xs.length → ((zo (xs.length - onesOf b xs) (onesOf b xs)).map D.int)[k]? = some (.int (if k < xs.length - onesOf b xs then 0 else 1)) := fun k hk => by
    rw [List.getElem?_map, zo_get (by first | decide | omega)]; rfl
  have c4 : PT 3 ρ (.cmp .eq (.bin .mod (.var 13) (.int 2)) (.int 1)) (decide (xs.length % 2 = 1)) := pt_cmp (N := 2) (pe_bin (N := 1) (pe_var g13) pe_int (d := .int ((xs.length % 2 : Nat) : Int)) (by simp [binD, fmod2])) (pe_int.mono (by first | decide | omega)) (by
    rw [eq_int]; congr 2; rw [Bool.eq_iff_iff]; simp; omega)
  have pd : PE 2 ρ (.bin .fdiv (.var 13) (.int 2)) (.int ((xs.length / 2 : Nat) : Int)) := pe_bin (N := 1) (pe_var g13) pe_int (by simp [binD, fdiv2])
  rw [exSeq]
  obtain ⟨k, hk, e4⟩ := if_pure (N := 3) (n := m + 1) (a := [.ret (.idx (.var 12) (.bin .fdiv (.var 13) (.int 2)))]) (b := [.ret (.idx (.var 12) (.bin .sub (.bin .fdiv (.var 13) (.int 2)) (.int 1)))]) c4 (by first | decide | omega) V
  rw [e4]
  by_cases ho : xs.length % 2 = 1
  · rw [decide_eq_true ho, if_pos rfl]
    obtain ⟨ρ', W', e5⟩ := ret_pure (n := k) (ss := []) (pe_idx (N := 2) ((pe_var g12).mono (by first | decide | omega)) pd (idx_nat (hget (xs.length / 2) (by first | decide | omega)) (by first | decide | omega))) (by first | decide | omega) V
    refine ⟨ρ', W', ?_⟩
    rw [e5]
    have : (if xs.length / 2 < xs.length - onesOf b xs then (0 : Int) else 1) = if xs.length < 2 * onesOf b xs then 1 else 0 := by split <;> split <;> omega
    rw [this]; rfl
  · rw [decide_eq_false ho, if_neg Bool.false_ne_true]
    have ez : ((xs.length / 2 : Nat) : Int) - 1 = ((xs.length / 2 - 1 : Nat) : Int) := by omega
    have ps : PE 3 ρ (.bin .sub (.bin .fdiv (.var 13) (.int 2)) (.int 1)) (.int ((xs.length / 2 - 1 : Nat) : Int)) := pe_bin (N := 2) pd (pe_int.mono (by first | decide | omega)) (by rw [← ez]; rfl)
    obtain ⟨ρ', W', e5⟩ := ret_pure (n := k) (ss := []) (pe_idx (N := 3) ((pe_var g12).mono (by first | decide | omega)) ps (idx_nat (hget (xs.length / 2 - 1) (by first | decide | omega)) (by first | decide | omega))) (by first | decide | omega) V
    refine ⟨ρ', W', ?_⟩
    rw [e5]
    have : (if xs.length / 2 - 1 < xs.length - onesOf b xs then (0 : Int) else 1) = if xs.length < 2 * onesOf b xs then 1 else 0 := by split <;> split <;> omega
    rw [this]; rfl

theorem pc_high {b : Int → Bool} {xs : List Int} (h0 : 0 < xs.length) (h : xs.length < 64) : PC 12 5 [.dat (dI (marksOf b xs))] (.int (if xs.length ≤ 2 * onesOf b xs then 1 else 0)) := by
  refine PC.mono (N := 10 + 1) (call_of (N := 10) (fn := fMedianHigh) rfl rfl fun n hn V => ?_) (by first | decide | omega)
  have hle := ones_le b xs
  unfold fMedianHigh
  dsimp only
  have e1 : exS fns n 0 [(12, .dat (dI (marksOf b xs)))] (.asg 12 (.bi .sorted (.var 12))) V = _ := asg_pure (N := 2) (pe_bi (N := 1) (pe_var rfl) (sorted_marks h)) (by first | decide | omega) V
  rw [seq_cons e1]
  have e2 : exS fns n 0 [(12, .dat (dI (zo (xs.length - onesOf b xs) (onesOf b xs))))] (.asg 13 (.bi .len (.var 12))) V = _ := asg_pure (N := 2) (d := .int xs.length) (pe_bi (N := 1) (pe_var rfl) (by
    unfold dI; rw [len_int (by simp [zo]; omega)]; simp [zo]; omega)) (by first | decide | omega) V
  rw [show setV 12 (.dat (dI (zo (xs.length - onesOf b xs) (onesOf b xs)))) [(12, .dat (dI (marksOf b xs)))] = [(12, .dat (dI (zo (xs.length - onesOf b xs) (onesOf b xs))))] from rfl, seq_cons e2]
  generalize hρ : setV 13 (.dat (.int (xs.length : Int))) [(12, .dat (dI (zo (xs.length - onesOf b xs) (onesOf b xs))))] = ρ
  have g12 : getV ρ 12 = some (.dat (dI (zo (xs.length - onesOf b xs) (onesOf b xs)))) := by subst hρ; rfl
  have g13 : getV ρ 13 = some (.dat (.int (xs.length : Int))) := by subst hρ; rfl
  obtain ⟨m, rfl, e3⟩ := if_pure (N := 2) (n := n) (a := [.stop]) (b := []) (t := false) (pt_cmp (N := 1) (pe_var g13) (pe_int (i := 0)) (by rw [eq_int]; congr 2; exact beq_eq_false_iff_ne.mpr (by first | decide | omega))) (by first | decide | omega) V
  rw [seq_cons (e3.trans seq_nil)]
  have hget : ∀ k, k < xs.length → ((zo (xs.length - onesOf b xs) (onesOf b xs)).map D.int)[k]? = some (.int (if k < xs.length - onesOf b xs then 0 else 1)) := fun k hk => by
    rw [List.getElem?_map, zo_get (by first | decide | omega)]; rfl
  have pd : PE 2 ρ (.bin .fdiv (.var 13) (.int 2)) (.int ((xs.length / 2 : Nat) : Int)) := pe_bin (N := 1) (pe_var g13) pe_int (by simp [binD, fdiv2])
  obtain ⟨ρ', W', e5⟩ := ret_pure (n := m + 1) (ss := []) (pe_idx (N := 2) ((pe_var g12).mono (by first | decide | omega)) pd (idx_nat (hget (xs.length / 2) (by first | decide | omega)) (by first | decide | omega))) (by first | decide | omega) V
  refine ⟨ρ', W', ?_⟩
  rw [e5]
  have : (if xs.length / 2 < xs.length - onesOf b xs then (0 : Int) else 1) = if xs.length ≤ 2 * onesOf b xs then 1 else 0 := by split <;> split <;> omega
  rw [this]
end Mine
end
section
open PySem PySem.W
set_option maxRecDepth 100000
set_option linter.unusedVariables false
set_option linter.unusedSimpArgs false
namespace Mine

/-! ### the law's data -/
noncomputable def bit (x c : Int) : Bool := (x.fdiv (2 ^ c.toNat)).fmod 2 == 1
noncomputable def th (four : Bool) : List Int := if four then [0, 1, 2, 3] else [0, 1, 2]
theorem th_up (f : Bool) : Up (th f) := by cases f <;> decide
theorem th_len (f : Bool) : (th f).length ≤ 4 := by cases f <;> decide
theorem th_mem {f : Bool} {c : Int} (h : c ∈ th f) : 0 ≤ c ∧ c ≤ 3 := by
  cases f <;> simp [th] at h <;> omega
theorem th_get {f : Bool} {c : Int} (h : c ∈ th f) : (th f)[c.toNat]? = some c := by
  cases f <;> simp [th] at h
  · rcases h with rfl | rfl | rfl <;> rfl
  · rcases h with rfl | rfl | rfl | rfl <;> rfl
noncomputable def gvn (f : Bool) (xs : List Int) : D := .list (xs.map fun x => dI ((th f).filter (bit x)))
noncomputable def mks (f : Bool) (xs : List Int) : D := .list ((th f).map fun c => dI (marksOf (fun x => bit x c) xs))
noncomputable def coreP (xs : List Int) (c : Int) : Bool := decide (xs.length < 2 * onesOf (fun x => bit x c) xs)
noncomputable def rimP (xs : List Int) (c : Int) : Bool := decide (xs.length ≤ 2 * onesOf (fun x => bit x c) xs)
noncomputable def tot (f : Bool) (xs : List Int) (p : Int → Bool) : Int := total (th f) p bit xs
noncomputable def flip (f : Bool) (xs : List Int) (c x : Int) : Bool := ((th f).filter (coreP xs)).contains x != [c].contains x
noncomputable def prc (f : Bool) (xs : List Int) (c : Int) : Int := tot f xs (flip f xs c) - tot f xs (coreP xs)

theorem lt_int (a b : Int) : cmpD .lt (.int a) (.int b) = some (.bool (decide (a < b))) := by simp [cmpD, D.lt]

theorem getV_cap {caps : List Nat} {x : Nat} (h : caps.contains x = true) : ∀ {ρ : Rho}, getV (ρ.filter fun p => caps.contains p.1) x = getV ρ x := by
  intro ρ
  unfold getV
  induction ρ with
  | nil => rfl
  | cons p r ih =>
    obtain ⟨y, u⟩ := p
    rw [List.filter_cons]
    by_cases hc : caps.contains y = true
    · rw [if_pos hc, List.lookup_cons, List.lookup_cons, ih]
    · rw [if_neg hc, List.lookup_cons, ih]
      cases e : x == y with
      | true => rw [← beq_iff_eq.mp e] at hc; exact absurd h hc
      | false => rfl

section
variable {f : Bool} {xs ns : List Int}

theorem pe_things (h : f = decide (2 ≤ ns.length)) (hl : ns.length ≤ 1000) {ρ : Rho} (g : getV ρ 31 = some (.dat (dI ns))) : PE 6 ρ eThings (dI (th f)) := by
  have c1 : PT 3 ρ (.cmp .lt (.bi .len (.var 31)) (.int 2)) (decide (ns.length < 2)) := pt_cmp (N := 2) (pe_bi (N := 1) (pe_var g) (len_int (by simpa using hl))) (pe_int.mono (by first | decide | omega)) (by rw [lt_int]; congr 2; rw [Bool.eq_iff_iff]; simp; omega)
  refine pe_ite (N := 5) (c1.mono (by first | decide | omega)) (fun q => ?_) (fun q => ?_)
  · have : f = false := by rw [h]; exact decide_eq_false (by have := of_decide_eq_true q; omega)
    subst this
    exact (pe_list (N := 1) (pes_cons pe_int (pes_cons pe_int (pes_cons pe_int pes_nil))) (by decide)).mono (by first | decide | omega)
  · have : f = true := by rw [h]; exact decide_eq_true (by have := of_decide_eq_false q; omega)
    subst this
    exact (pe_list (N := 1) (pes_cons pe_int (pes_cons pe_int (pes_cons pe_int (pes_cons pe_int pes_nil)))) (by decide)).mono (by first | decide | omega)

theorem pe_given (hx : xs = [3, 6] ++ ns.take 10) (hl : ns.length ≤ 1000) {ρ : Rho} (g : getV ρ 31 = some (.dat (dI ns))) (g2 : getV ρ 32 = some (.dat (dI (th f)))) : PE 12 ρ eGiven (gvn f xs) := by
  have e : gvn f xs = .list (((xs.map D.int).filter fun _ => true).map fun d => match d with | .int x => dI ((th f).filter (bit x)) | _ => .none) := by
    unfold gvn
    rw [List.filter_eq_self.mpr (fun _ _ => rfl), List.map_map]; rfl
  rw [e]
  have hxl : xs.length ≤ 12 := by rw [hx]; simp; omega
  refine pe_comp1 (N := 10) (by decide) ?_ (fun d hd => pts_nil) (fun d hd _ => ?_) (by simp; omega)
  · refine (pi_of (N := 4) (d := dI xs) (pe_bin (N := 3) ((pe_list (N := 1) (ds := [.int 3, .int 6]) (pes_cons pe_int (pes_cons pe_int pes_nil)) (by decide)).mono (by first | decide | omega)) (pe_slc (N := 2) (da := dI ns) (d := dI (ns.take 10)) ((pe_var g).mono (by first | decide | omega)) (fun n hn V => po_none n (by first | decide | omega) V) (po_some (N := 1) (j := 10) pe_int (by decide)) ?_) ?_) rfl (by intro a q; cases q)).mono (by first | decide | omega)
    · unfold dI slcD
      simp only
      rw [if_pos ⟨by decide, fits_of (by simp; unfold lim; omega)⟩, List.map_take]; rfl
    · rw [hx]
      unfold dI binD
      simp only
      rw [if_pos (fits_of (by simp; unfold lim; omega))]
      simp
  · obtain ⟨x, hx', rfl⟩ := List.mem_map.mp hd
    have e2 : dI ((th f).filter (bit x)) = .list ((((th f).map D.int).filter fun d => match d with | .int c => bit x c | _ => false).map id) := by
      unfold dI
      rw [List.map_id, List.filter_map]; rfl
    dsimp only
    rw [e2]
    refine pe_comp1 (N := 8) (by decide) ((pi_of (N := 1) (d := dI (th f)) (pe_var (by rw [getV_set_ne _ _ (by decide), getV_cap (by decide)]; exact g2)) rfl (by intro a q; cases q)).mono (by first | decide | omega)) (fun d hd => ?_) (fun d hd _ => (pe_var (getV_set_self ..)).mono (by first | decide | omega)) (by have := th_len f; simp; omega)
    obtain ⟨c, hc, rfl⟩ := List.mem_map.mp hd
    have hc' := th_mem hc
    refine pts_one ((pt_cmp (N := 3) (da := .int ((x.fdiv (2 ^ c.toNat)).fmod 2)) (db := .int 1) (pe_bin (N := 2) (pe_bin (N := 1) (pe_var (d := .int x) ?_) (pe_var (getV_set_self ..)) (d := .int (x.fdiv (2 ^ c.toNat))) ?_) (pe_int.mono (by first | decide | omega)) ?_) (pe_int.mono (by first | decide | omega)) (by rw [eq_int]; rfl)).mono (by first | decide | omega))
    · rw [getV_set_ne _ _ (by decide), getV_cap (by decide), getV_set_self]
    · unfold binD; simp only; rw [if_pos hc'.1]
    · unfold binD; simp
end
end Mine
end
section
open PySem PySem.W
set_option maxRecDepth 100000
set_option linter.unusedVariables false
set_option linter.unusedSimpArgs false
namespace Mine

section
variable {f : Bool} {xs : List Int} {ρ : Rho}

theorem pi_things (g : getV ρ 32 = some (.dat (dI (th f)))) : PI 2 ρ (.var 32) ((th f).map D.int) := pi_of (N := 1) (d := dI (th f)) (pe_var g) rfl (by intro a q; cases q)
theorem thl (f : Bool) : ((th f).map D.int).length ≤ 1000 := by have := th_len f; simp; omega
theorem filt_all {α : Type} (l : List α) : l.filter (fun _ => true) = l := List.filter_eq_self.mpr fun _ _ => rfl

theorem pe_marks (hx : xs.length ≤ 12) (g1 : getV ρ 32 = some (.dat (dI (th f)))) (g2 : getV ρ 33 = some (.dat (gvn f xs))) : PE 12 ρ eMarks (mks f xs) := by
  have e : mks f xs = .list ((((th f).map D.int).filter fun _ => true).map fun d => match d with | .int c => dI (marksOf (fun x => bit x c) xs) | _ => .none) := by
    unfold mks
    rw [filt_all, List.map_map]; rfl
  rw [e]
  refine pe_comp1 (N := 10) (by decide) ((pi_things g1).mono (by first | decide | omega)) (fun d hd => pts_nil) (fun d hd _ => ?_) (thl f)
  obtain ⟨c, hc, rfl⟩ := List.mem_map.mp hd
  dsimp only
  have e2 : dI (marksOf (fun x => bit x c) xs) = .list (((xs.map fun x => dI ((th f).filter (bit x))).filter fun _ => true).map fun d => match d with | .list o => .int (if o.any (fun y => D.eq y (.int c)) then 1 else 0) | _ => .none) := by
    unfold dI marksOf
    rw [filt_all, List.map_map, List.map_map]
    congr 1
    apply List.map_congr_left
    intro x _
    simp only [Function.comp, any_eq, contains_filter hc]
  rw [e2]
  refine pe_comp1 (N := 8) (by decide) ((pi_of (N := 1) (d := gvn f xs) (pe_var (by rw [getV_set_ne _ _ (by decide), getV_cap (by decide)]; exact g2)) rfl (by intro a q; cases q)).mono (by first | decide | omega)) (fun d hd => pts_nil) (fun d hd _ => ?_) (by simp; omega)
  obtain ⟨x, hx', rfl⟩ := List.mem_map.mp hd
  dsimp only [dI]
  rw [any_eq]
  refine pe_ite (N := 7) ((pt_cmp (N := 1) (pe_var (d := .int c) (by rw [getV_set_ne _ _ (by decide), getV_cap (by decide), getV_set_self])) (pe_var (getV_set_self ..)) (isin_int ((th f).filter (bit x)) c)).mono (by first | decide | omega)) (fun q => ?_) (fun q => ?_)
  · rw [q, if_pos rfl]; exact pe_int.mono (by first | decide | omega)
  · rw [q, if_neg Bool.false_ne_true]; exact pe_int.mono (by first | decide | omega)

theorem pe_core {k : Nat} {P : Int → Bool} (hk : ∀ c, PC 12 k [.dat (dI (marksOf (fun x => bit x c) xs))] (.int (if P c then 1 else 0))) (g1 : getV ρ 32 = some (.dat (dI (th f)))) (g2 : getV ρ 36 = some (.dat (mks f xs))) : PE 20 ρ (eCore k) (dI ((th f).filter P)) := by
  have e : dI ((th f).filter P) = .list ((((th f).map D.int).filter fun d => match d with | .int c => P c | _ => false).map id) := by
    unfold dI
    rw [List.map_id, List.filter_map]; rfl
  rw [e]
  refine pe_comp1 (N := 18) rfl ((pi_things g1).mono (by first | decide | omega)) (fun d hd => ?_) (fun d hd _ => (pe_var (getV_set_self ..)).mono (by first | decide | omega)) (thl f)
  obtain ⟨c, hc, rfl⟩ := List.mem_map.mp hd
  have hc' := th_mem hc
  have pi : PE 2 (setV 35 (.dat (.int c)) (ρ.filter fun p => [36].contains p.1)) (.idx (.var 36) (.var 35)) (dI (marksOf (fun x => bit x c) xs)) := by
    refine pe_idx (N := 1) (pe_var (d := mks f xs) (by rw [getV_set_ne _ _ (by decide), getV_cap (by decide)]; exact g2)) (pe_var (getV_set_self ..)) fun W => ?_
    unfold mks
    have : c = ((c.toNat : Nat) : Int) := by omega
    conv => lhs; rw [this]
    exact idx_nat (by rw [List.getElem?_map, th_get hc]; rfl) (by first | decide | omega) W
  refine pts_one ((pt_cmp (N := 14) (da := .int (if P c then 1 else 0)) (db := .int 1) ((pe_call (N := 12) (pvs_cons (N := 11) (pi.mono (by first | decide | omega)) (by intro i q; cases q) pvs_nil) (hk c)).mono (by first | decide | omega)) (pe_int.mono (by first | decide | omega)) ?_).mono (by first | decide | omega))
  rw [eq_int]
  dsimp only
  cases P c <;> rfl

theorem pe_least (hP : True) {P : Int → Bool} (g1 : getV ρ 38 = some (.dat (dI ((th f).filter P)))) (g2 : getV ρ 33 = some (.dat (gvn f xs))) : PE 101 ρ (.call 7 [.var 38, .var 33]) (.int (tot f xs P)) :=
  pe_call (N := 100) (pvs_var (N := 99) g1 (pvs_var (N := 99) g2 pvs_nil)) (pc_ways (th_up f) (by have := th_len f; omega))

noncomputable def prl (f : Bool) (xs : List Int) : List D := (th f).map fun c => .tup [.int (prc f xs c), .int c]
theorem pe_prices (g1 : getV ρ 32 = some (.dat (dI (th f)))) (g2 : getV ρ 33 = some (.dat (gvn f xs))) (g3 : getV ρ 38 = some (.dat (dI ((th f).filter (coreP xs))))) (g4 : getV ρ 40 = some (.dat (.int (tot f xs (coreP xs))))) {ds : List D} (hs : D.sort (prl f xs) = some ds) : PE 120 ρ ePrices (.list ds) := by
  refine PE.mono (N := 111 + 1) (pe_bi (N := 111) (da := .list (prl f xs)) ?_ ?_) (by first | decide | omega)
  · have e : D.list (prl f xs) = .list ((((th f).map D.int).filter fun _ => true).map fun d => match d with | .int c => .tup [.int (prc f xs c), .int c] | _ => .none) := by
      unfold prl
      rw [filt_all, List.map_map]; rfl
    rw [e]
    refine pe_comp1 (N := 109) (by decide) ((pi_things g1).mono (by first | decide | omega)) (fun d hd => pts_nil) (fun d hd _ => ?_) (thl f)
    obtain ⟨c, hc, rfl⟩ := List.mem_map.mp hd
    dsimp only
    generalize hρ' : setV 35 (.dat (.int c)) (ρ.filter fun p => [38, 33, 40, 32].contains p.1) = ρ'
    have k1 : getV ρ' 32 = some (.dat (dI (th f))) := by rw [← hρ', getV_set_ne _ _ (by decide), getV_cap (by decide)]; exact g1
    have k2 : getV ρ' 33 = some (.dat (gvn f xs)) := by rw [← hρ', getV_set_ne _ _ (by decide), getV_cap (by decide)]; exact g2
    have k3 : getV ρ' 38 = some (.dat (dI ((th f).filter (coreP xs)))) := by rw [← hρ', getV_set_ne _ _ (by decide), getV_cap (by decide)]; exact g3
    have k4 : getV ρ' 40 = some (.dat (.int (tot f xs (coreP xs)))) := by rw [← hρ', getV_set_ne _ _ (by decide), getV_cap (by decide)]; exact g4
    have k5 : getV ρ' 35 = some (.dat (.int c)) := by rw [← hρ', getV_set_self]
    have t1 : PE 11 ρ' (.call 8 [.var 38, .list [.var 35], .var 32]) (dI ((th f).filter (flip f xs c))) :=
      pe_call (N := 10) (pvs_var (N := 9) k3 (pvs_cons (N := 9) ((pe_list (N := 1) (ds := [.int c]) (pes_cons (pe_var k5) pes_nil) (show 1 ≤ 1000 by decide)).mono (by first | decide | omega)) (by intro i q; cases q) (pvs_var (N := 9) k1 pvs_nil))) (pc_turned (O := [c]) (by have := th_len f; omega))
    have t2 : PE 101 ρ' (.call 7 [.call 8 [.var 38, .list [.var 35], .var 32], .var 33]) (.int (tot f xs (flip f xs c))) :=
      pe_call (N := 100) (pvs_cons (N := 99) (t1.mono (by first | decide | omega)) (by intro i q; cases q) (pvs_var (N := 99) k2 pvs_nil)) (pc_ways (th_up f) (by have := th_len f; omega))
    exact (pe_tup (N := 102) (pes_cons (pe_bin (N := 101) t2 ((pe_var k4).mono (by first | decide | omega)) rfl) (pes_cons ((pe_var k5).mono (by first | decide | omega)) pes_nil)) (by decide : 2 ≤ 1000)).mono (by first | decide | omega)
  · unfold biD
    simp only
    rw [if_pos (by have := th_len f; unfold prl; simp; omega), hs]; rfl
end
end Mine
end
section
open PySem PySem.W
set_option maxRecDepth 100000
set_option linter.unusedVariables false
set_option linter.unusedSimpArgs false
namespace Mine

/-! ### the heap's functions -/
section
variable {ρ : Rho} {n : Nat} {W : Sto} {hd : Nat}
theorem ev_midx {a b k : Nat} {l : List D} {j : Nat} {d : D} (ha : getV ρ a = some (.mref k)) (hb : getV ρ b = some (.dat (.int (j : Int)))) (hW : W[k]? = some (some l)) (hl : l[j]? = some d) (hj : j ≤ 5000) : evE fns (n + 2) hd ρ (.midx a (.var b)) W = .ok d W := by
  have h62 := small62 hj
  generalize hz : (j : Int) = z at h62 hb
  have h0 : 0 ≤ z := by omega
  have e : z.toNat = j := by omega
  rw [evE, ha]
  simp only
  rw [ev_var hb]
  simp only [Res.bind, hW]
  rw [if_pos ⟨h0, h62⟩, e, hl]; rfl
theorem ex_set {a b c k : Nat} {l : List D} {j : Nat} {d : D} (ha : getV ρ a = some (.mref k)) (hb : getV ρ b = some (.dat (.int (j : Int)))) (hc : getV ρ c = some (.dat d)) (hW : W[k]? = some (some l)) (hl : j < l.length) (hj : j ≤ 5000) : exS fns (n + 2) hd ρ (.set a (.var b) (.var c)) W = .ok .next ρ (W.set k (some (l.set j d))) := by
  have h62 := small62 hj
  have hl' : (j : Int) < l.length := by omega
  generalize hz : (j : Int) = z at h62 hb hl'
  have h0 : 0 ≤ z := by omega
  have e : z.toNat = j := by omega
  rw [exS, ha]
  simp only
  rw [ev_var hc]
  simp only [Res.to]
  rw [ev_var hb]
  simp only [Res.to, hW]
  rw [if_pos ⟨h0, hl', h62⟩, e]
theorem ex_set_midx {a b c k : Nat} {l : List D} {i j : Nat} {d : D} (ha : getV ρ a = some (.mref k)) (hb : getV ρ b = some (.dat (.int (j : Int)))) (hc : getV ρ c = some (.dat (.int (i : Int)))) (hW : W[k]? = some (some l)) (hd' : l[i]? = some d) (hl : j < l.length) (hi : i ≤ 5000) (hj : j ≤ 5000) : exS fns (n + 3) hd ρ (.set a (.var b) (.midx a (.var c))) W = .ok .next ρ (W.set k (some (l.set j d))) := by
  have h62 := small62 hj
  have hl' : (j : Int) < l.length := by omega
  generalize hz : (j : Int) = z at h62 hb hl'
  have h0 : 0 ≤ z := by omega
  have e : z.toNat = j := by omega
  rw [exS, ha]
  simp only
  rw [ev_midx ha hc hW hd' hi]
  simp only [Res.to]
  rw [ev_var hb]
  simp only [Res.to, hW]
  rw [if_pos ⟨h0, hl', h62⟩, e]
end

theorem set_get (W : Sto) {k : Nat} {a : Option (List D)} (h : k < W.length) : (W.set k a)[k]? = some a := by rw [List.getElem?_set_self h]
theorem half (pos : Nat) (h : 0 < pos) : binD .rsh (.int ((pos : Int) - 1)) (.int 1) = some (.int (((pos - 1) / 2 : Nat) : Int)) := by
  have e : (pos : Int) - 1 = ((pos - 1 : Nat) : Int) := by omega
  rw [e]
  show (if (0 : Int) ≤ 1 then some (D.int (Int.fdiv ((pos - 1 : Nat) : Int) (2 ^ (1 : Int).toNat))) else none) = _
  rw [if_pos (by decide)]
  show some (D.int (Int.fdiv ((pos - 1 : Nat) : Int) 2)) = _
  rw [fdiv2]

section
variable {α : Type} {enc : α → D} {lt : α → α → Bool} (hlt : ∀ a b, D.lt 3 (enc a) (enc b) = some (lt a b))

structure SD (ρ : Rho) (k pos : Nat) (d : D) : Prop where
  h0 : getV ρ 0 = some (.mref k)
  h4 : getV ρ 4 = some (.dat (.int 0))
  h5 : getV ρ 5 = some (.dat (.int (pos : Int)))
  h6 : getV ρ 6 = some (.dat d)

theorem seq_cont {n hd : Nat} {ρ : Rho} {W : Sto} {ss : List S} : exSeq (fun s ρ W => exS fns (n + 1) hd ρ s W) (.cont :: ss) ρ W = .ok .cont ρ W := by rw [exSeq, exS]; rfl
theorem set_same {W : Sto} {k : Nat} {a : Option (List D)} (h : W[k]? = some a) : W.set k a = W := by
  apply List.ext_getElem?
  intro i
  rw [List.getElem?_set]
  split
  · rename_i q
    subst q
    have := (List.getElem?_eq_some_iff.mp h).1
    rw [if_pos this, h]
  · rfl

include hlt in
theorem sd_loop {k : Nat} {x : α} : ∀ (pos : Nat) (hs : List α) (ρ : Rho) (W : Sto) (n : Nat), SD ρ k pos (enc x) → k < W.length → W[k]? = some (some (hs.map enc)) → pos < hs.length → hs.length ≤ 1000 → ∀ j, pos < j →
    ∃ (ρ' : Rho) (hs' : List α) (pos' : Nat), exS fns (pos + n + 12) 0 ρ sdLoop W = .ok .next ρ' (W.set k (some (hs'.map enc))) ∧ SD ρ' k pos' (enc x) ∧ pos' < hs'.length ∧ hs'.length = hs.length ∧ hs'.set pos' x = sdM lt j hs pos x := by
  intro pos
  induction pos using Nat.strongRecOn with
  | _ pos IH =>
  intro hs ρ W n h hk hW hp hl j hj
  have hself : W.set k (some (hs.map enc)) = W := set_same hW
  cases j with
  | zero => omega
  | succ j =>
  have c1 : ∀ m, evT fns (m + 2) 0 ρ (.cmp .gt (.var 5) (.var 4)) W = .ok (decide (0 < pos)) W := fun m => evT_cmp h.h5 h.h4 (by simp [cmpD])
  unfold sdLoop
  rw [exS, c1 (pos + n + 9)]
  simp only [Res.to]
  by_cases h0 : 0 < pos
  · rw [decide_eq_true h0]
    simp only [if_true]
    have hpp : (pos - 1) / 2 < pos := by omega
    have hget : hs[(pos - 1) / 2]? = some hs[(pos - 1) / 2] := List.getElem?_eq_getElem (by first | decide | omega)
    generalize hpar : hs[(pos - 1) / 2]'(by first | decide | omega) = par at hget
    have e7 : exS fns (pos + n + 11) 0 ρ (.asg 7 (.bin .rsh (.bin .sub (.var 5) (.int 1)) (.int 1))) W = _ := asg_pure (N := 3) (pe_bin (N := 2) (pe_bin (N := 1) (pe_var h.h5) pe_int (d := .int ((pos : Int) - 1)) rfl) (pe_int.mono (by first | decide | omega)) (half pos h0)) (by first | decide | omega) W
    rw [seq_cons e7]
    generalize hρ1 : setV 7 (.dat (.int (((pos - 1) / 2 : Nat) : Int))) ρ = ρ1
    have g0 : getV ρ1 0 = some (.mref k) := by rw [← hρ1, getV_set_ne _ _ (by decide)]; exact h.h0
    have g7 : getV ρ1 7 = some (.dat (.int (((pos - 1) / 2 : Nat) : Int))) := by rw [← hρ1, getV_set_self]
    have e8 : exS fns (pos + n + 11) 0 ρ1 (.asg 8 (.midx 0 (.var 7))) W = _ := ex_asg (n := pos + n + 10) (ev_midx (n := pos + n + 8) (d := enc par) g0 g7 hW (by rw [List.getElem?_map, hget]; rfl) (by first | decide | omega))
    rw [seq_cons e8]
    generalize hρ2 : setV 8 (.dat (enc par)) ρ1 = ρ2
    have q0 : getV ρ2 0 = some (.mref k) := by rw [← hρ2, getV_set_ne _ _ (by decide)]; exact g0
    have q4 : getV ρ2 4 = some (.dat (.int 0)) := by rw [← hρ2, getV_set_ne _ _ (by decide), ← hρ1, getV_set_ne _ _ (by decide)]; exact h.h4
    have q5 : getV ρ2 5 = some (.dat (.int (pos : Int))) := by rw [← hρ2, getV_set_ne _ _ (by decide), ← hρ1, getV_set_ne _ _ (by decide)]; exact h.h5
    have q6 : getV ρ2 6 = some (.dat (enc x)) := by rw [← hρ2, getV_set_ne _ _ (by decide), ← hρ1, getV_set_ne _ _ (by decide)]; exact h.h6
    have q7 : getV ρ2 7 = some (.dat (.int (((pos - 1) / 2 : Nat) : Int))) := by rw [← hρ2, getV_set_ne _ _ (by decide)]; exact g7
    have q8 : getV ρ2 8 = some (.dat (enc par)) := by rw [← hρ2, getV_set_self]
    have c2 : evT fns (pos + n + 10) 0 ρ2 (.cmp .lt (.var 6) (.var 8)) W = .ok (lt x par) W := evT_cmp (n := pos + n + 8) q6 q8 (by simp [cmpD, hlt])
    have e9 := ex_if (n := pos + n + 10) (a := [.set 0 (.var 5) (.var 8), .asg 5 (.var 7), .cont]) (b := []) c2
    cases hc : lt x par with
    | true =>
      rw [hc, if_pos rfl] at e9
      have e10 : exS fns (pos + n + 10) 0 ρ2 (.set 0 (.var 5) (.var 8)) W = _ := ex_set (n := pos + n + 8) q0 q5 q8 hW (by simpa using hp) (by first | decide | omega)
      have em : (hs.map enc).set pos (enc par) = (hs.set pos par).map enc := by rw [List.map_set]
      rw [em] at e10
      rw [seq_cons e10] at e9
      have e11 : exS fns (pos + n + 10) 0 ρ2 (.asg 5 (.var 7)) (W.set k (some ((hs.set pos par).map enc))) = _ := ex_asg (n := pos + n + 9) (ev_var (n := pos + n + 8) q7)
      rw [seq_cons e11, seq_cont] at e9
      rw [exSeq, e9]
      simp only [SRes.bind]
      have hS : SD (setV 5 (.dat (.int (((pos - 1) / 2 : Nat) : Int))) ρ2) k ((pos - 1) / 2) (enc x) :=
        ⟨by rw [getV_set_ne _ _ (by decide)]; exact q0, by rw [getV_set_ne _ _ (by decide)]; exact q4, getV_set_self .., by rw [getV_set_ne _ _ (by decide)]; exact q6⟩
      obtain ⟨ρ', hs', pos', r1, r2, r3, r4, r5⟩ := IH ((pos - 1) / 2) hpp (hs.set pos par) _ (W.set k (some ((hs.set pos par).map enc))) (n + pos - (pos - 1) / 2 - 1) hS (by simpa using hk) (set_get W hk) (by simp; omega) (by simpa using hl) j (by first | decide | omega)
      refine ⟨ρ', hs', pos', ?_, r2, r3, by rw [r4]; simp, ?_⟩
      · have hfu : pos + n + 11 = (pos - 1) / 2 + (n + pos - (pos - 1) / 2 - 1) + 12 := by omega
        rw [List.set_set] at r1
        unfold sdLoop at r1
        rw [hfu]; exact r1
      · rw [r5, sdM, if_pos h0, hget]
        simp only [hc, if_true]
    | false =>
      rw [hc, if_neg Bool.false_ne_true] at e9
      rw [seq_cons (e9.trans seq_nil), exSeq, exS]
      simp only [SRes.bind]
      refine ⟨ρ2, hs, pos, by rw [hself], ⟨q0, q4, q5, q6⟩, hp, rfl, ?_⟩
      rw [sdM, if_pos h0, hget]
      simp only [hc, Bool.false_eq_true, if_false]
  · rw [decide_eq_false h0]
    simp only [Bool.false_eq_true, if_false]
    have : pos = 0 := by omega
    subst this
    refine ⟨ρ, hs, 0, ?_, h, hp, rfl, ?_⟩
    · rw [hself]
    · rw [sdM, if_neg (by decide)]

include hlt in
theorem call_sd {k pos n : Nat} {x : α} {hs : List α} {W : Sto} (hn : 200 ≤ n) (hk : k < W.length) (hW : W[k]? = some (some (hs.map enc))) (hx : hs[pos]? = some x) (hl : hs.length ≤ 100) (j : Nat) (hj : pos < j) :
    callF fns n 2 [.mref k, .dat (.int 0), .dat (.int (pos : Int))] W = .ok .none (W.set k (some ((sdM lt j hs pos x).map enc))) := by
  have hp : pos < hs.length := (List.getElem?_eq_some_iff.mp hx).1
  obtain ⟨m, rfl⟩ : ∃ m, n = (pos + m + 12) + 1 := ⟨n - pos - 13, by omega⟩
  rw [callF]
  have hf : fns[2]? = some fSiftdown := rfl
  rw [hf]
  show (match exSeq (fun s ρ W => exS fns (pos + m + 12) 0 ρ s W) fSiftdown.body [(0, .mref k), (4, .dat (.int 0)), (5, .dat (.int (pos : Int)))] W with
    | .ok (.ret d) _ W' => Res.ok d (W'.take W.length)
    | .ok .next _ W' => .ok .none (W'.take W.length)
    | _ => .bad) = _
  unfold fSiftdown
  dsimp only
  have e1 : exS fns (pos + m + 12) 0 [(0, .mref k), (4, .dat (.int 0)), (5, .dat (.int (pos : Int)))] (.asg 6 (.midx 0 (.var 5))) W = _ := ex_asg (n := pos + m + 11) (ev_midx (n := pos + m + 9) (d := enc x) rfl rfl hW (by rw [List.getElem?_map, hx]; rfl) (by first | decide | omega))
  rw [seq_cons e1]
  obtain ⟨ρ', hs', pos', r1, r2, r3, r4, r5⟩ := sd_loop hlt (k := k) (x := x) pos hs (setV 6 (.dat (enc x)) [(0, .mref k), (4, .dat (.int 0)), (5, .dat (.int (pos : Int)))]) W m ⟨rfl, rfl, rfl, rfl⟩ hk hW hp (by first | decide | omega) j hj
  rw [seq_cons r1]
  have e3 : exS fns (pos + m + 12) 0 ρ' (.set 0 (.var 5) (.var 6)) (W.set k (some (hs'.map enc))) = _ := ex_set (n := pos + m + 10) r2.h0 r2.h5 r2.h6 (set_get W hk) (by simpa using r3) (by first | decide | omega)
  rw [seq_cons e3, seq_nil]
  simp only
  rw [List.set_set, ← List.map_set, r5, List.take_of_length_le (by simp)]
end
end Mine
end
section
open PySem PySem.W
set_option maxRecDepth 100000
set_option linter.unusedVariables false
set_option linter.unusedSimpArgs false
namespace Mine

section
variable {α : Type} {enc : α → D} {lt : α → α → Bool} (hlt : ∀ a b, D.lt 3 (enc a) (enc b) = some (lt a b))

structure SU (ρ : Rho) (k pos len : Nat) (d : D) : Prop where
  h0 : getV ρ 0 = some (.mref k)
  h4 : getV ρ 4 = some (.dat (.int 0))
  h5 : getV ρ 5 = some (.dat (.int (pos : Int)))
  h6 : getV ρ 6 = some (.dat d)
  h9 : getV ρ 9 = some (.dat (.int (len : Int)))
  h10 : getV ρ 10 = some (.dat (.int ((2 * pos + 1 : Nat) : Int)))

theorem twice {ρ : Rho} {pos : Nat} (h : getV ρ 5 = some (.dat (.int (pos : Int)))) : PE 3 ρ (.bin .add (.bin .mul (.int 2) (.var 5)) (.int 1)) (.int ((2 * pos + 1 : Nat) : Int)) :=
  pe_bin (N := 2) (pe_bin (N := 1) pe_int (pe_var h) (d := .int (2 * (pos : Int))) (by simp [binD])) (pe_int.mono (by first | decide | omega)) (by simp only [binD]; congr 2)

theorem su_len (lt : α → α → Bool) : ∀ (j : Nat) (hs : List α) (pos : Nat), (suM lt j hs pos).1.length = hs.length
  | 0, hs, pos => rfl
  | j + 1, hs, pos => by
    rw [suM]
    split
    · rfl
    · split
      · rw [su_len lt j]; simp
      · split
        · rw [su_len lt j]; simp
        · rw [su_len lt j]; simp

include hlt in
theorem su_loop {k len : Nat} {d : D} : ∀ (j : Nat) (hs : List α) (pos : Nat) (ρ : Rho) (W : Sto) (n : Nat), SU ρ k pos len d → k < W.length → W[k]? = some (some (hs.map enc)) → hs.length = len → pos < len → len ≤ 100 → len - pos ≤ j →
    ∃ (ρ' : Rho), exS fns (j + n + 16) 0 ρ suLoop W = .ok .next ρ' (W.set k (some ((suM lt j hs pos).1.map enc))) ∧ SU ρ' k (suM lt j hs pos).2 len d ∧ (suM lt j hs pos).2 < len := by
  intro j
  induction j with
  | zero => intro hs pos ρ W n h hk hW hl hp h100 hj; omega
  | succ j IH =>
  intro hs pos ρ W n h hk hW hl hp h100 hj
  have hfu : j + 1 + n + 16 = (j + n + 16) + 1 := by omega
  unfold suLoop
  rw [hfu, exS]
  have c1 : evT fns (j + n + 16) 0 ρ (.cmp .lt (.var 10) (.var 9)) W = .ok (decide (2 * pos + 1 < len)) W := evT_cmp (n := j + n + 14) h.h10 h.h9 (by rw [lt_int]; congr 2; rw [Bool.eq_iff_iff]; simp; omega)
  rw [c1]
  simp only [Res.to]
  by_cases h1 : 2 * pos + 1 < len
  · rw [decide_eq_true h1]
    simp only [if_true]
    have hgl : hs[2 * pos + 1]? = some hs[2 * pos + 1] := List.getElem?_eq_getElem (by first | decide | omega)
    generalize hs[2 * pos + 1]'(by first | decide | omega) = l at hgl
    have e11 : exS fns (j + n + 16) 0 ρ (.asg 11 (.bin .add (.var 10) (.int 1))) W = _ := asg_pure (N := 2) (d := .int ((2 * pos + 2 : Nat) : Int)) (pe_bin (N := 1) (pe_var h.h10) pe_int (by simp only [binD]; congr 2)) (by first | decide | omega) W
    rw [seq_cons e11]
    generalize hρ1 : setV 11 (.dat (.int ((2 * pos + 2 : Nat) : Int))) ρ = ρ1
    have S1 : SU ρ1 k pos len d := by
      rw [← hρ1]
      exact ⟨by rw [getV_set_ne _ _ (by decide)]; exact h.h0, by rw [getV_set_ne _ _ (by decide)]; exact h.h4, by rw [getV_set_ne _ _ (by decide)]; exact h.h5, by rw [getV_set_ne _ _ (by decide)]; exact h.h6, by rw [getV_set_ne _ _ (by decide)]; exact h.h9, by rw [getV_set_ne _ _ (by decide)]; exact h.h10⟩
    have g11 : getV ρ1 11 = some (.dat (.int ((2 * pos + 2 : Nat) : Int))) := by rw [← hρ1, getV_set_self]
    -- the rest of the turn, with the child c chosen
    have rest : ∀ (c : Nat) (v : α) (ρ2 : Rho), getV ρ2 0 = some (.mref k) → getV ρ2 4 = some (.dat (.int 0)) → getV ρ2 5 = some (.dat (.int (pos : Int))) → getV ρ2 6 = some (.dat d) → getV ρ2 9 = some (.dat (.int (len : Int))) → getV ρ2 10 = some (.dat (.int (c : Int))) → hs[c]? = some v → pos < c →
        suM lt (j + 1) hs pos = suM lt j (hs.set pos v) c →
        ∃ (ρ' : Rho), (match exSeq (fun s ρ W => exS fns (j + n + 16) 0 ρ s W) [.set 0 (.var 5) (.midx 0 (.var 10)), .asg 5 (.var 10), .asg 10 (.bin .add (.bin .mul (.int 2) (.var 5)) (.int 1))] ρ2 W with
          | .ok .next ρ' W' => exS fns (j + n + 16) 0 ρ' suLoop W'
          | .ok .cont ρ' W' => exS fns (j + n + 16) 0 ρ' suLoop W'
          | .ok .brk ρ' W' => .ok .next ρ' W'
          | r => r) = .ok .next ρ' (W.set k (some ((suM lt (j + 1) hs pos).1.map enc))) ∧ SU ρ' k (suM lt (j + 1) hs pos).2 len d ∧ (suM lt (j + 1) hs pos).2 < len := by
      intro c v ρ2 g0 g4 g5 g6 g9 g10 hv hpc em
      have hcl : c < hs.length := (List.getElem?_eq_some_iff.mp hv).1
      have s1 : exS fns (j + n + 16) 0 ρ2 (.set 0 (.var 5) (.midx 0 (.var 10))) W = _ := ex_set_midx (n := j + n + 13) (d := enc v) g0 g5 g10 hW (by rw [List.getElem?_map, hv]; rfl) (by simp; omega) (by first | decide | omega) (by first | decide | omega)
      rw [← List.map_set] at s1
      have s2 : exS fns (j + n + 16) 0 ρ2 (.asg 5 (.var 10)) (W.set k (some ((hs.set pos v).map enc))) = _ := ex_asg (n := j + n + 15) (ev_var (n := j + n + 14) g10)
      generalize hρ3 : setV 5 (.dat (.int (c : Int))) ρ2 = ρ3 at s2
      have k5 : getV ρ3 5 = some (.dat (.int (c : Int))) := by rw [← hρ3, getV_set_self]
      have s3 : exS fns (j + n + 16) 0 ρ3 (.asg 10 (.bin .add (.bin .mul (.int 2) (.var 5)) (.int 1))) (W.set k (some ((hs.set pos v).map enc))) = _ := asg_pure (twice k5) (by first | decide | omega) _
      rw [seq_cons s1, seq_cons s2, seq_cons s3, seq_nil]
      simp only
      have hS : SU (setV 10 (.dat (.int ((2 * c + 1 : Nat) : Int))) ρ3) k c len d := by
        refine ⟨?_, ?_, ?_, ?_, ?_, getV_set_self ..⟩
        · rw [getV_set_ne _ _ (by decide), ← hρ3, getV_set_ne _ _ (by decide)]; exact g0
        · rw [getV_set_ne _ _ (by decide), ← hρ3, getV_set_ne _ _ (by decide)]; exact g4
        · rw [getV_set_ne _ _ (by decide)]; exact k5
        · rw [getV_set_ne _ _ (by decide), ← hρ3, getV_set_ne _ _ (by decide)]; exact g6
        · rw [getV_set_ne _ _ (by decide), ← hρ3, getV_set_ne _ _ (by decide)]; exact g9
      obtain ⟨ρ', r1, r2, r3⟩ := IH (hs.set pos v) c _ (W.set k (some ((hs.set pos v).map enc))) n hS (by simpa using hk) (set_get W hk) (by simpa using hl) (by first | decide | omega) h100 (by first | decide | omega)
      rw [List.set_set] at r1
      rw [em]
      exact ⟨ρ', r1, r2, r3⟩
    have cA : evT fns (j + n + 14) 0 ρ1 (.cmp .lt (.var 11) (.var 9)) W = .ok (decide (2 * pos + 2 < len)) W := evT_cmp (n := j + n + 12) g11 S1.h9 (by rw [lt_int]; congr 2; rw [Bool.eq_iff_iff]; simp; omega)
    by_cases h2 : 2 * pos + 2 < len
    · have hgr : hs[2 * pos + 2]? = some hs[2 * pos + 2] := List.getElem?_eq_getElem (by first | decide | omega)
      generalize hs[2 * pos + 2]'(by first | decide | omega) = r at hgr
      have cB : evT fns (j + n + 15) 0 ρ1 (.and (.cmp .lt (.var 11) (.var 9)) (.not (.cmp .lt (.midx 0 (.var 10)) (.midx 0 (.var 11))))) W = .ok (!lt l r) W := by
        rw [evT, cA, decide_eq_true h2]
        simp only [Res.bind, if_true]
        rw [evT, evT, ev_midx (n := j + n + 10) (d := enc l) S1.h0 S1.h10 hW (by rw [List.getElem?_map, hgl]; rfl) (by first | decide | omega)]
        simp only [Res.bind]
        rw [ev_midx (n := j + n + 10) (d := enc r) S1.h0 g11 hW (by rw [List.getElem?_map, hgr]; rfl) (by first | decide | omega)]
        simp only [Res.bind, cmpD, hlt, Option.map_some]
      have e12 := ex_if (n := j + n + 15) (a := [.asg 10 (.var 11)]) (b := []) cB
      cases hc : lt l r with
      | true =>
        rw [hc] at e12
        simp only [Bool.not_true, Bool.false_eq_true, if_false] at e12
        rw [seq_cons (e12.trans seq_nil)]
        exact rest (2 * pos + 1) l ρ1 S1.h0 S1.h4 S1.h5 S1.h6 S1.h9 S1.h10 hgl (by first | decide | omega) (by rw [suM, hgl]; simp only [hgr, hc, if_true])
      | false =>
        rw [hc] at e12
        simp only [Bool.not_false, if_true] at e12
        have s0 : exS fns (j + n + 15) 0 ρ1 (.asg 10 (.var 11)) W = _ := ex_asg (n := j + n + 14) (ev_var (n := j + n + 13) g11)
        rw [seq_cons s0, seq_nil] at e12
        rw [seq_cons e12]
        exact rest (2 * pos + 2) r _ (by rw [getV_set_ne _ _ (by decide)]; exact S1.h0) (by rw [getV_set_ne _ _ (by decide)]; exact S1.h4) (by rw [getV_set_ne _ _ (by decide)]; exact S1.h5) (by rw [getV_set_ne _ _ (by decide)]; exact S1.h6) (by rw [getV_set_ne _ _ (by decide)]; exact S1.h9) (getV_set_self ..) hgr (by first | decide | omega) (by rw [suM, hgl]; simp only [hgr, hc, Bool.false_eq_true, if_false])
    · have hgr : hs[2 * pos + 2]? = none := List.getElem?_eq_none (by first | decide | omega)
      have cB : evT fns (j + n + 15) 0 ρ1 (.and (.cmp .lt (.var 11) (.var 9)) (.not (.cmp .lt (.midx 0 (.var 10)) (.midx 0 (.var 11))))) W = .ok false W := by
        rw [evT, cA, decide_eq_false h2]
        simp only [Res.bind, Bool.false_eq_true, if_false]
      have e12 := ex_if (n := j + n + 15) (a := [.asg 10 (.var 11)]) (b := []) cB
      simp only [Bool.false_eq_true, if_false] at e12
      rw [seq_cons (e12.trans seq_nil)]
      exact rest (2 * pos + 1) l ρ1 S1.h0 S1.h4 S1.h5 S1.h6 S1.h9 S1.h10 hgl (by first | decide | omega) (by rw [suM, hgl]; simp only [hgr])
  · rw [decide_eq_false h1]
    simp only [Bool.false_eq_true, if_false]
    have hgl : hs[2 * pos + 1]? = none := List.getElem?_eq_none (by first | decide | omega)
    have em : suM lt (j + 1) hs pos = (hs, pos) := by rw [suM, hgl]
    rw [em]
    exact ⟨ρ, by rw [set_same hW], h, hp⟩
end
end Mine
end
section
open PySem PySem.W
set_option maxRecDepth 100000
set_option linter.unusedVariables false
set_option linter.unusedSimpArgs false
namespace Mine

section
variable {ρ : Rho} {n : Nat} {W : Sto} {hd : Nat}
theorem ev_mlen {a k : Nat} {l : List D} (ha : getV ρ a = some (.mref k)) (hW : W[k]? = some (some l)) (hl : l.length ≤ 1000) : evE fns (n + 1) hd ρ (.mlen a) W = .ok (.int (l.length : Int)) W := by
  rw [evE, ha]
  simp only
  rw [hW]
  simp only
  rw [if_pos (fits_of (by unfold lim; omega))]
theorem ex_call {f : Nat} {es : List E} {vs : List V} {W' : Sto} {N : Nat} (hs : PVs N ρ es vs) (hn : N ≤ n) (h : callF fns n f vs W = .ok .none W') : exS fns (n + 2) 0 ρ (.exp (.call f es)) W = .ok .next ρ W' := by
  rw [exS, evE, if_pos rfl, hs n hn]
  simp only [Res.bind]
  rw [h]
  simp only [Res.to]
theorem mapR_cons {α β : Type} {f : α → Sto → Res β} {a : α} {as : List α} {b : β} {bs : List β} {W1 W2 : Sto} (h : f a W = .ok b W1) (hs : mapR f as W1 = .ok bs W2) : mapR f (a :: as) W = .ok (b :: bs) W2 := by rw [mapR, h]; simp only [Res.bind]; rw [hs]
theorem ev_midx0 {a k : Nat} {l : List D} {d : D} (ha : getV ρ a = some (.mref k)) (hW : W[k]? = some (some l)) (hl : l[0]? = some d) : evE fns (n + 2) hd ρ (.midx a (.int 0)) W = .ok d W := by
  rw [evE, ha]
  simp only
  rw [evE]
  simp only [Res.bind, hW]
  rw [if_pos (by decide)]
  show optR l[0]? W = _
  rw [hl]; rfl
theorem ex_set0 {a c k : Nat} {l : List D} {d : D} (ha : getV ρ a = some (.mref k)) (hc : getV ρ c = some (.dat d)) (hW : W[k]? = some (some l)) (hl : 0 < l.length) : exS fns (n + 2) hd ρ (.set a (.int 0) (.var c)) W = .ok .next ρ (W.set k (some (l.set 0 d))) := by
  rw [exS, ha]
  simp only
  rw [ev_var hc]
  simp only [Res.to]
  rw [evE]
  simp only [Res.to, hW]
  rw [if_pos ⟨by decide, by omega, by decide⟩]; rfl
end

section
variable {α : Type} {enc : α → D} {lt : α → α → Bool} (hlt : ∀ a b, D.lt 3 (enc a) (enc b) = some (lt a b))

theorem sdM_len (lt : α → α → Bool) : ∀ (j : Nat) (hs : List α) (pos : Nat) (x : α), (sdM lt j hs pos x).length = hs.length
  | 0, hs, pos, x => by rw [sdM]; simp
  | j + 1, hs, pos, x => by
    rw [sdM]
    split
    · split
      · split
        · rw [sdM_len lt j]; simp
        · simp
      · rfl
    · simp

include hlt in
theorem call_su {k n : Nat} {x : α} {hs : List α} {W : Sto} (hn : 350 ≤ n) (hk : k < W.length) (hW : W[k]? = some (some ((hs.set 0 x).map enc))) (h0 : 0 < hs.length) (hl : hs.length ≤ 100) :
    callF fns n 3 [.mref k, .dat (.int 0)] W = .ok .none (W.set k (some ((siftM lt hs x).map enc))) := by
  obtain ⟨m, rfl⟩ : ∃ m, n = (hs.length + m + 16) + 1 := ⟨n - hs.length - 17, by omega⟩
  rw [callF]
  have hf : fns[3]? = some fSiftup := rfl
  rw [hf]
  show (match exSeq (fun s ρ W => exS fns (hs.length + m + 16) 0 ρ s W) fSiftup.body [(0, .mref k), (5, .dat (.int 0))] W with
    | .ok (.ret d) _ W' => Res.ok d (W'.take W.length)
    | .ok .next _ W' => .ok .none (W'.take W.length)
    | _ => .bad) = _
  unfold fSiftup
  dsimp only
  have e1 : exS fns (hs.length + m + 16) 0 [(0, .mref k), (5, .dat (.int 0))] (.asg 9 (.mlen 0)) W = _ := ex_asg (n := hs.length + m + 15) (ev_mlen (n := hs.length + m + 14) rfl hW (by simp; omega))
  rw [seq_cons e1]
  simp only [List.length_map, List.length_set]
  have e2 : exS fns (hs.length + m + 16) 0 (setV 9 (.dat (.int (hs.length : Int))) [(0, .mref k), (5, .dat (.int 0))]) (.asg 4 (.var 5)) W = _ := ex_asg (n := hs.length + m + 15) (ev_var (n := hs.length + m + 14) (d := .int 0) rfl)
  rw [seq_cons e2]
  have e3 : exS fns (hs.length + m + 16) 0 (setV 4 (.dat (.int 0)) (setV 9 (.dat (.int (hs.length : Int))) [(0, .mref k), (5, .dat (.int 0))])) (.asg 6 (.midx 0 (.var 5))) W = _ := ex_asg (n := hs.length + m + 15) (ev_midx (n := hs.length + m + 13) (j := 0) (d := enc x) rfl rfl hW (by rw [List.getElem?_map, List.getElem?_set_self h0]; rfl) (by first | decide | omega))
  rw [seq_cons e3]
  have e4 : exS fns (hs.length + m + 16) 0 (setV 6 (.dat (enc x)) (setV 4 (.dat (.int 0)) (setV 9 (.dat (.int (hs.length : Int))) [(0, .mref k), (5, .dat (.int 0))]))) (.asg 10 (.bin .add (.bin .mul (.int 2) (.var 5)) (.int 1))) W = _ := asg_pure (twice (pos := 0) rfl) (by first | decide | omega) W
  rw [seq_cons e4]
  obtain ⟨ρ', r1, r2, r3⟩ := su_loop hlt (k := k) (len := hs.length) (d := enc x) hs.length (hs.set 0 x) 0 (setV 10 (.dat (.int ((2 * 0 + 1 : Nat) : Int))) (setV 6 (.dat (enc x)) (setV 4 (.dat (.int 0)) (setV 9 (.dat (.int (hs.length : Int))) [(0, .mref k), (5, .dat (.int 0))])))) W m ⟨rfl, rfl, rfl, rfl, rfl, rfl⟩ hk hW (by simp) h0 hl (by first | decide | omega)
  rw [seq_cons r1]
  generalize hr : suM lt hs.length (hs.set 0 x) 0 = r at r1 r2 r3
  have rl : r.1.length = hs.length := by rw [← hr, su_len]; simp
  have e5 : exS fns (hs.length + m + 16) 0 ρ' (.set 0 (.var 5) (.var 6)) (W.set k (some (r.1.map enc))) = _ := ex_set (n := hs.length + m + 14) r2.h0 r2.h5 r2.h6 (set_get W hk) (by simp; omega) (by first | decide | omega)
  rw [seq_cons e5, List.set_set, ← List.map_set]
  have e6 : callF fns (hs.length + m + 14) 2 [.mref k, .dat (.int 0), .dat (.int (r.2 : Int))] (W.set k (some ((r.1.set r.2 x).map enc))) = _ :=
    call_sd hlt (k := k) (x := x) (hs := r.1.set r.2 x) (by first | decide | omega) (by simpa using hk) (set_get W hk) (List.getElem?_set_self (by first | decide | omega)) (by simp; omega) (r.1.length + 1) (by first | decide | omega)
  have e7 := ex_call (n := hs.length + m + 14) (N := 1) (f := 2) (es := [.var 0, .var 4, .var 5]) (pvs_var (N := 0) r2.h0 (pvs_var (N := 0) r2.h4 (pvs_var (N := 0) r2.h5 pvs_nil))) (by first | decide | omega) e6
  rw [seq_cons e7, seq_nil]
  simp only
  rw [List.set_set, List.take_of_length_le (by simp)]
  unfold siftM
  rw [hr]

include hlt in
theorem call_push {k n : Nat} {x : α} {hs : List α} {W : Sto} (hn : 360 ≤ n) (hk : k < W.length) (hW : W[k]? = some (some (hs.map enc))) (hl : hs.length ≤ 90) :
    callF fns n 0 [.mref k, .dat (enc x)] W = .ok .none (W.set k (some ((pushM lt hs x).map enc))) := by
  obtain ⟨m, rfl⟩ : ∃ m, n = (m + 300) + 1 := ⟨n - 301, by omega⟩
  rw [callF]
  have hf : fns[0]? = some fHeappush := rfl
  rw [hf]
  show (match exSeq (fun s ρ W => exS fns (m + 300) 0 ρ s W) fHeappush.body [(0, .mref k), (1, .dat (enc x))] W with
    | .ok (.ret d) _ W' => Res.ok d (W'.take W.length)
    | .ok .next _ W' => .ok .none (W'.take W.length)
    | _ => .bad) = _
  unfold fHeappush
  dsimp only
  have e1 : exS fns (m + 300) 0 [(0, .mref k), (1, .dat (enc x))] (.app 0 (.var 1)) W = _ := ex_app (n := m + 299) (d := enc x) rfl (ev_var (n := m + 298) rfl) hW (by simp; unfold lim; omega)
  have em : hs.map enc ++ [enc x] = (hs ++ [x]).map enc := by simp
  rw [em] at e1
  rw [seq_cons e1]
  have e2 : callF fns (m + 298) 2 [.mref k, .dat (.int 0), .dat (.int (hs.length : Int))] (W.set k (some ((hs ++ [x]).map enc))) = _ :=
    call_sd hlt (k := k) (x := x) (hs := hs ++ [x]) (by first | decide | omega) (by simpa using hk) (set_get W hk) (by simp) (by simp; omega) (hs.length + 1) (by first | decide | omega)
  have e3 : exS fns (m + 300) 0 [(0, .mref k), (1, .dat (enc x))] (.exp (.call 2 [.var 0, .int 0, .bin .sub (.mlen 0) (.int 1)])) (W.set k (some ((hs ++ [x]).map enc))) = .ok .next [(0, .mref k), (1, .dat (enc x))] ((W.set k (some ((hs ++ [x]).map enc))).set k (some ((sdM lt (hs.length + 1) (hs ++ [x]) hs.length x).map enc))) := by
    have v1 : evV fns (m + 298) [(0, .mref k), (1, .dat (enc x))] (.var 0) (W.set k (some ((hs ++ [x]).map enc))) = .ok (.mref k) (W.set k (some ((hs ++ [x]).map enc))) := by rw [evV]; rfl
    have v2 : evV fns (m + 298) [(0, .mref k), (1, .dat (enc x))] (.int 0) (W.set k (some ((hs ++ [x]).map enc))) = .ok (.dat (.int 0)) (W.set k (some ((hs ++ [x]).map enc))) := by
      rw [evV]
      · rw [evE]; rfl
      · intro i q; cases q
    have v3 : evV fns (m + 298) [(0, .mref k), (1, .dat (enc x))] (.bin .sub (.mlen 0) (.int 1)) (W.set k (some ((hs ++ [x]).map enc))) = .ok (.dat (.int (hs.length : Int))) (W.set k (some ((hs ++ [x]).map enc))) := by
      rw [evV]
      · rw [evE, ev_mlen (n := m + 295) (k := k) rfl (set_get W hk) (by simp; omega)]
        simp only [Res.bind]
        rw [evE]
        have : ((((hs ++ [x]).map enc).length : Int) - 1) = (hs.length : Int) := by simp
        simp only [Res.bind, binD, optR, this]
      · intro i q; cases q
    rw [exS, evE, if_pos rfl, mapR_cons v1 (mapR_cons v2 (mapR_cons v3 rfl))]
    simp only [Res.bind]
    rw [e2]
    simp only [Res.to]
  rw [seq_cons e3, seq_nil]
  simp only
  rw [List.set_set, List.take_of_length_le (by simp)]; rfl
end
end Mine
end
section
open PySem PySem.W
set_option maxRecDepth 100000
set_option linter.unusedVariables false
set_option linter.unusedSimpArgs false
namespace Mine

section
variable {α : Type} {enc : α → D} {lt : α → α → Bool} (hlt : ∀ a b, D.lt 3 (enc a) (enc b) = some (lt a b))

include hlt in
theorem call_pop {k n : Nat} {y : α} {hs hs' : List α} {W : Sto} (hn : 370 ≤ n) (hk : k < W.length) (hW : W[k]? = some (some (hs.map enc))) (hl : hs.length ≤ 90) (hp : popM lt hs = some (y, hs')) :
    callF fns n 1 [.mref k] W = .ok (enc y) (W.set k (some (hs'.map enc))) := by
  obtain ⟨m, rfl⟩ : ∃ m, n = (m + 360) + 1 := ⟨n - 361, by omega⟩
  rw [callF]
  have hf : fns[1]? = some fHeappop := rfl
  rw [hf]
  show (match exSeq (fun s ρ W => exS fns (m + 360) 0 ρ s W) fHeappop.body [(0, .mref k)] W with
    | .ok (.ret d) _ W' => Res.ok d (W'.take W.length)
    | .ok .next _ W' => .ok .none (W'.take W.length)
    | _ => .bad) = _
  unfold fHeappop
  dsimp only
  unfold popM at hp
  cases hlast : hs.getLast? with
  | none => rw [hlast] at hp; cases hp
  | some last =>
    rw [hlast] at hp
    simp only at hp
    have e1 : exS fns (m + 360) 0 [(0, .mref k)] (.asg 2 (.pop 0)) W = .ok .next [(0, .mref k), (2, .dat (enc last))] (W.set k (some (hs.dropLast.map enc))) := by
      rw [exS, evE]
      simp only [getV, List.lookup]
      rw [show ((0 : Nat) == 0) = true from rfl]
      simp only [hW]
      rw [List.getLast?_map, hlast]
      simp only [Option.map_some]
      rw [if_pos (fits_of (by simp; unfold lim; omega)), ← List.map_dropLast]
      rfl
    rw [seq_cons e1]
    have hk1 : k < (W.set k (some (hs.dropLast.map enc))).length := by simpa using hk
    have g0 : getV [(0, V.mref k), (2, .dat (enc last))] 0 = some (.mref k) := rfl
    have g2 : getV [(0, V.mref k), (2, .dat (enc last))] 2 = some (.dat (enc last)) := rfl
    have c1 : evT fns (m + 359) 0 [(0, .mref k), (2, .dat (enc last))] (.mtrue 0) (W.set k (some (hs.dropLast.map enc))) = .ok (!(hs.dropLast.map enc).isEmpty) (W.set k (some (hs.dropLast.map enc))) := by
      rw [evT, g0]
      simp only
      rw [set_get W hk]
      simp only
      rw [if_pos (fits_of (by simp; unfold lim; omega))]
    have e2 := ex_if (n := m + 359) (a := [.asg 3 (.midx 0 (.int 0)), .set 0 (.int 0) (.var 2), .exp (.call 3 [.var 0, .int 0]), .ret (.var 3)]) (b := []) c1
    cases hdl : hs.dropLast with
    | nil =>
      rw [hdl] at hp e2
      cases hp
      simp only [List.map_nil, List.isEmpty_nil, Bool.not_true, Bool.false_eq_true, if_false] at e2
      rw [List.map_nil, seq_cons (e2.trans seq_nil), exSeq, exS, ev_var (n := m + 358) g2]
      simp only [Res.to, SRes.bind]
      rw [List.take_of_length_le (by simp)]
    | cons a r =>
      rw [hdl] at hp e2 hk1
      cases hp
      simp only [List.map_cons, List.isEmpty_cons, Bool.not_false, if_true] at e2
      rw [← List.map_cons] at e2
      have hlen : (y :: r).length ≤ 90 := by rw [← hdl]; simp; omega
      have s1 : exS fns (m + 359) 0 [(0, .mref k), (2, .dat (enc last))] (.asg 3 (.midx 0 (.int 0))) (W.set k (some ((y :: r).map enc))) = _ := ex_asg (n := m + 358) (ev_midx0 (n := m + 356) g0 (set_get W hk) (d := enc y) rfl)
      have s2 : exS fns (m + 359) 0 (setV 3 (.dat (enc y)) [(0, .mref k), (2, .dat (enc last))]) (.set 0 (.int 0) (.var 2)) (W.set k (some ((y :: r).map enc))) = _ := ex_set0 (n := m + 357) (d := enc last) rfl rfl (set_get W hk) (by simp)
      rw [List.set_set, ← List.map_set] at s2
      have s3 : callF fns (m + 357) 3 [.mref k, .dat (.int 0)] (W.set k (some (((y :: r).set 0 last).map enc))) = _ := call_su hlt (k := k) (x := last) (hs := y :: r) (by first | decide | omega) (by simpa using hk) (set_get W hk) (by simp) (by first | decide | omega)
      have s4 : exS fns (m + 359) 0 (setV 3 (.dat (enc y)) [(0, .mref k), (2, .dat (enc last))]) (.exp (.call 3 [.var 0, .int 0])) (W.set k (some (((y :: r).set 0 last).map enc))) = _ :=
        ex_call (n := m + 357) (N := 2) (pvs_var (N := 1) (v := .mref k) rfl (pvs_cons (N := 1) pe_int (by intro i q; cases q) pvs_nil)) (by first | decide | omega) s3
      rw [List.set_set] at s4
      have s5 : exSeq (fun s ρ W => exS fns (m + 359) 0 ρ s W) [.ret (.var 3)] (setV 3 (.dat (enc y)) [(0, .mref k), (2, .dat (enc last))]) (W.set k (some ((siftM lt (y :: r) last).map enc))) = .ok (.ret (enc y)) (setV 3 (.dat (enc y)) [(0, .mref k), (2, .dat (enc last))]) (W.set k (some ((siftM lt (y :: r) last).map enc))) := by
        rw [exSeq, exS, ev_var (n := m + 357) (d := enc y) rfl]; rfl
      rw [seq_cons s1, seq_cons s2, seq_cons s4, s5] at e2
      rw [exSeq, e2]
      simp only [SRes.bind]
      rw [List.take_of_length_le (by simp)]
end

/-! places as data -/
noncomputable def encP (w : List Nat) (least : Int) (p : Pl) : D := .tup [.int (least + cost w p), .tup (p.map fun (i : Nat) => D.int (i : Int))]
theorem deps_ints (p : Pl) : D.deps (p.map fun (i : Nat) => D.int (i : Int)) = 0 := by
  induction p with
  | nil => rfl
  | cons a p ih => rw [List.map_cons, D.deps, ih]; rfl
theorem eqs_ints : ∀ p q : Pl, D.eqs (p.map fun (i : Nat) => D.int (i : Int)) (q.map fun (i : Nat) => D.int (i : Int)) = decide (p = q)
  | [], [] => by simp [D.eqs]
  | [], _ :: _ => by simp [D.eqs]
  | _ :: _, [] => by simp [D.eqs]
  | a :: p, b :: q => by
    simp only [List.map_cons, D.eqs, D.eq, eqs_ints p q]
    rw [Bool.eq_iff_iff]
    simp
    intro _
    omega
theorem go_ints : ∀ p q : Pl, D.lt.go 1 (p.map fun (i : Nat) => D.int (i : Int)) (q.map fun (i : Nat) => D.int (i : Int)) = some (lexlt p q)
  | [], [] => by simp [D.lt.go, lexlt]
  | [], _ :: _ => by simp [D.lt.go, lexlt]
  | _ :: _, [] => by simp [D.lt.go, lexlt]
  | a :: p, b :: q => by
    rw [List.map_cons, List.map_cons, D.lt.go, if_pos (.inl (Nat.zero_le 8)), lexlt]
    by_cases h : a = b
    · subst h
      rw [if_pos (by simp [D.eq]), if_pos rfl, go_ints p q]
    · rw [if_neg (by simp [D.eq]; omega), if_neg h]
      simp [D.lt]
theorem lex_self : ∀ p : Pl, lexlt p p = false
  | [] => rfl
  | a :: p => by rw [lexlt, if_pos rfl, lex_self p]
theorem lt_enc (w : List Nat) (least : Int) (p q : Pl) : D.lt 3 (encP w least p) (encP w least q) = some (ltP w p q) := by
  unfold encP ltP
  rw [D.lt, D.lt.go, if_pos (.inl (Nat.zero_le 8))]
  by_cases h : cost w p = cost w q
  · rw [if_pos (by simp [D.eq, h]), if_pos h, D.lt.go, if_pos (.inl (by simp [D.dep, deps_ints]))]
    simp only [D.eq, eqs_ints]
    by_cases hpq : p = q
    · subst hpq
      rw [if_pos (by simp), D.lt.go, lex_self]; rfl
    · rw [if_neg (by simpa using hpq), D.lt, go_ints]
  · rw [if_neg (by simp [D.eq]; omega), if_neg h]
    simp only [D.lt]
    congr 1
    rw [Bool.eq_iff_iff]
    simp
end Mine
end
section
open PySem PySem.W
set_option maxRecDepth 100000
set_option linter.unusedVariables false
set_option linter.unusedSimpArgs false
namespace Mine

noncomputable def prD (ps : List (Nat × Int)) : D := .list (ps.map fun p => .tup [.int (p.1 : Int), .int p.2])
noncomputable def wOf (ps : List (Nat × Int)) : List Nat := ps.map (·.1)
noncomputable def plD (p : Pl) : D := .tup (p.map fun (i : Nat) => D.int (i : Int))
noncomputable def afterM (y : Pl) : Nat := match y.getLast? with | some k => k + 1 | none => 0

structure LS (ρ : Rho) (f : Bool) (ps : List (Nat × Int)) (least : Int) : Prop where
  h0 : getV ρ 0 = some (.mref 0)
  h42 : getV ρ 42 = some (.mref 1)
  h43 : getV ρ 43 = some (.mref 2)
  h32 : getV ρ 32 = some (.dat (dI (th f)))
  h41 : getV ρ 41 = some (.dat (prD ps))
  h40 : getV ρ 40 = some (.dat (.int least))
theorem LS.other {ρ : Rho} {f : Bool} {ps : List (Nat × Int)} {least : Int} {x : Nat} {v : V} (h : LS ρ f ps least) (hx : 43 < x) : LS (setV x v ρ) f ps least :=
  ⟨by rw [getV_set_ne _ _ (by first | decide | omega)]; exact h.h0, by rw [getV_set_ne _ _ (by first | decide | omega)]; exact h.h42, by rw [getV_set_ne _ _ (by first | decide | omega)]; exact h.h43, by rw [getV_set_ne _ _ (by first | decide | omega)]; exact h.h32, by rw [getV_set_ne _ _ (by first | decide | omega)]; exact h.h41, by rw [getV_set_ne _ _ (by first | decide | omega)]; exact h.h40⟩

theorem cost_append (w : List Nat) (p q : Pl) : cost w (p ++ q) = cost w p + cost w q := by
  induction p with
  | nil => simp [cost]
  | cons a p ih => simp [cost, ih]; omega
theorem idx_last {l : List D} {d : D} (h : l.getLast? = some d) (hl : l.length ≤ 1000) (W : Sto) : idxD 0 (.tup l) (.int (-1)) W = .ok d W := by
  have hne : l ≠ [] := by rintro rfl; cases h
  have hlen : 0 < l.length := List.length_pos_iff.mpr hne
  unfold idxD
  simp only
  rw [if_pos (by decide)]
  have e : seqIndex? (-1) l.length = some (l.length - 1) := by
    unfold seqIndex?
    have e0 : (if (-1 : Int) < 0 then (-1 : Int) + (l.length : Int) else -1) = (l.length : Int) - 1 := by rw [if_pos (by decide)]; omega
    simp only [e0]
    rw [if_pos (by simp; omega)]
    congr 1
    omega
  rw [e]
  simp only [Option.bind_some]
  rw [← List.getLast?_eq_getElem?, h]; rfl
theorem ne_nil (y : Pl) : cmpD .ne (plD y) (.tup []) = some (.bool (!y.isEmpty)) := by
  unfold cmpD plD
  simp only
  rw [if_pos (.inr (by decide))]
  cases y <;> rfl
theorem pe_nil {ρ : Rho} : PE 2 ρ (.tup []) (.tup []) := pe_tup (N := 1) pes_nil (by decide)

section
variable {ρ : Rho} {f : Bool} {ps : List (Nat × Int)} {least : Int}

theorem pe_after {y : Pl} (g : getV ρ 46 = some (.dat (plD y))) (hy : y.length ≤ 100) : PE 8 ρ (.ite (.cmp .ne (.var 46) (.tup [])) (.bin .add (.idx (.var 46) (.neg 1)) (.int 1)) (.int 0)) (.int (afterM y : Int)) := by
  refine pe_ite (N := 7) ((pt_cmp (N := 2) ((pe_var g).mono (by first | decide | omega)) pe_nil (ne_nil y)).mono (by first | decide | omega)) (fun q => ?_) (fun q => ?_)
  · cases hl : y.getLast? with
    | none => rw [List.getLast?_eq_none_iff] at hl; subst hl; cases q
    | some k =>
      have e : afterM y = k + 1 := by unfold afterM; rw [hl]
      rw [e]
      refine (pe_bin (N := 2) (pe_idx (N := 1) (pe_var g) pe_neg (d := .int (k : Int)) fun W => ?_) (pe_int.mono (by first | decide | omega)) (by simp only [binD]; congr 2)).mono (by first | decide | omega)
      exact idx_last (by rw [List.getLast?_map, hl]; rfl) (by simp; omega) W
  · have : y = [] := by cases y with | nil => rfl | cons _ _ => cases q
    subst this
    exact pe_int.mono (by first | decide | omega)

theorem pe_w {e : E} {a : Nat} (h : LS ρ f ps least) (he : PE 3 ρ e (.int (a : Int))) (ha : a < ps.length) (hl : ps.length ≤ 100) : PE 5 ρ (.idx (.idx (.var 41) e) (.int 0)) (.int ((wOf ps).getD a 0 : Nat)) := by
  have hg : ps[a]? = some ps[a] := List.getElem?_eq_getElem ha
  have e1 : (wOf ps).getD a 0 = ps[a].1 := by unfold wOf; rw [List.getD_eq_getElem?_getD, List.getElem?_map, hg]; rfl
  rw [e1]
  refine pe_idx (N := 4) (pe_idx (N := 3) ((pe_var h.h41).mono (by first | decide | omega)) he (d := .tup [.int (ps[a].1 : Int), .int ps[a].2]) fun W => ?_) (pe_int.mono (by first | decide | omega)) fun W => rfl
  exact idx_nat (by rw [List.getElem?_map, hg]; rfl) (by first | decide | omega) W
end
end Mine
end
section
open PySem PySem.W
set_option maxRecDepth 100000
set_option linter.unusedVariables false
set_option linter.unusedSimpArgs false
namespace Mine

section
variable {ρ : Rho} {f : Bool} {ps : List (Nat × Int)} {least : Int}

theorem enc_snoc (w : List Nat) (least : Int) (y : Pl) (a : Nat) : encP w least (y ++ [a]) = .tup [.int (least + cost w y + (w.getD a 0 : Nat)), .tup ((y.map fun (i : Nat) => D.int (i : Int)) ++ [.int (a : Int)])] := by
  unfold encP
  rw [cost_append, List.map_append]
  simp only [cost, List.map_cons, List.map_nil, Nat.add_zero]
  congr 3
  push_cast
  omega
theorem last_split {y : Pl} {k : Nat} (h : y.getLast? = some k) : y = y.dropLast ++ [k] := by
  have hne : y ≠ [] := by rintro rfl; cases h
  rw [List.getLast?_eq_some_getLast hne] at h
  cases h
  exact (List.dropLast_concat_getLast hne).symm

noncomputable def nextM (n : Nat) (w : List Nat) (hs1 : List Pl) (y : Pl) : List Pl :=
  if afterM y < n then (if y = [] then pushM (ltP w) hs1 (y ++ [afterM y]) else pushM (ltP w) (pushM (ltP w) hs1 (y ++ [afterM y])) (y.dropLast ++ [afterM y])) else hs1
theorem step_eq {n : Nat} {w : List Nat} {hs hs1 off : List Pl} {y : Pl} (h : popM (ltP w) hs = some (y, hs1)) : stepM n w (hs, off) = some (nextM n w hs1 y, off ++ [y]) := by
  unfold stepM nextM
  simp only [h]
  rfl

theorem push_len (w : List Nat) (hs : List Pl) (x : Pl) : (pushM (ltP w) hs x).length = hs.length + 1 := by unfold pushM; rw [sdM_len]; simp

theorem loop_head {n : Nat} {hs hs1 off : List Pl} {y : Pl} {due : List D} (hn : 390 ≤ n) (h : LS ρ f ps least) (hps : ps.length = (th f).length) (hp : popM (ltP (wOf ps)) hs = some (y, hs1)) (hl : hs.length ≤ 40) (hl1 : hs1.length ≤ 40) (hy : y.length ≤ 100) (ho : off.length ≤ 100) (T : List S) :
    ∃ ρ', exSeq (fun s ρ W => exS fns n 0 ρ s W) (loopHead ++ T) ρ [some (hs.map (encP (wOf ps) least)), some (off.map (encP (wOf ps) least)), some due] =
        exSeq (fun s ρ W => exS fns n 0 ρ s W) T ρ' [some ((nextM (th f).length (wOf ps) hs1 y).map (encP (wOf ps) least)), some ((off ++ [y]).map (encP (wOf ps) least)), some due] ∧ ∀ x, x ≠ 45 → x ≠ 46 → x ≠ 47 → getV ρ' x = getV ρ x := by
  obtain ⟨m, rfl⟩ : ∃ m, n = m + 4 := ⟨n - 4, by omega⟩
  have hL := lt_enc (wOf ps) least
  have e1 : exS fns (m + 4) 0 ρ (.unp 45 46 (.call 1 [.var 0])) [some (hs.map (encP (wOf ps) least)), some (off.map (encP (wOf ps) least)), some due] = .ok .next (setV 46 (.dat (plD y)) (setV 45 (.dat (.int (least + cost (wOf ps) y))) ρ)) [some (hs1.map (encP (wOf ps) least)), some (off.map (encP (wOf ps) least)), some due] := by
    rw [exS, if_pos rfl, evE, if_pos rfl, pvs_var (N := 0) h.h0 pvs_nil (m + 2) (by first | decide | omega)]
    simp only [Res.bind]
    rw [call_pop hL (k := 0) (n := m + 2) (W := [some (hs.map (encP (wOf ps) least)), some (off.map (encP (wOf ps) least)), some due]) (by first | decide | omega) (Nat.zero_lt_succ _) rfl (by first | decide | omega) hp]
    rfl
  generalize hρ1 : setV 46 (.dat (plD y)) (setV 45 (.dat (.int (least + cost (wOf ps) y))) ρ) = ρ1 at e1
  have L1 : LS ρ1 f ps least := by rw [← hρ1]; exact (h.other (by decide)).other (by decide)
  have g45 : getV ρ1 45 = some (.dat (.int (least + cost (wOf ps) y))) := by rw [← hρ1, getV_set_ne _ _ (by decide), getV_set_self]
  have g46 : getV ρ1 46 = some (.dat (plD y)) := by rw [← hρ1, getV_set_self]
  have e2 : exS fns (m + 4) 0 ρ1 (.app 42 (.tup [.var 45, .var 46])) [some (hs1.map (encP (wOf ps) least)), some (off.map (encP (wOf ps) least)), some due] = .ok .next ρ1 [some (hs1.map (encP (wOf ps) least)), some ((off ++ [y]).map (encP (wOf ps) least)), some due] := by
    have := ex_app (n := m + 3) (W := [some (hs1.map (encP (wOf ps) least)), some (off.map (encP (wOf ps) least)), some due]) (d := encP (wOf ps) least y) (ds := off.map (encP (wOf ps) least)) L1.h42 (pe_tup (N := 1) (pes_cons (pe_var g45) (pes_cons (pe_var g46) pes_nil)) (show 2 ≤ 1000 by decide) (m + 3) (by first | decide | omega) _) rfl (by simp; unfold lim; omega)
    rw [this]; simp
  have e3 : exS fns (m + 4) 0 ρ1 (.asg 47 (.ite (.cmp .ne (.var 46) (.tup [])) (.bin .add (.idx (.var 46) (.neg 1)) (.int 1)) (.int 0))) [some (hs1.map (encP (wOf ps) least)), some ((off ++ [y]).map (encP (wOf ps) least)), some due] = _ := asg_pure (pe_after g46 hy) (by first | decide | omega) _
  generalize hρ2 : setV 47 (.dat (.int (afterM y : Int))) ρ1 = ρ2 at e3
  have L2 : LS ρ2 f ps least := by rw [← hρ2]; exact L1.other (by decide)
  have q45 : getV ρ2 45 = some (.dat (.int (least + cost (wOf ps) y))) := by rw [← hρ2, getV_set_ne _ _ (by decide)]; exact g45
  have q46 : getV ρ2 46 = some (.dat (plD y)) := by rw [← hρ2, getV_set_ne _ _ (by decide)]; exact g46
  have q47 : getV ρ2 47 = some (.dat (.int (afterM y : Int))) := by rw [← hρ2, getV_set_self]
  have hth := th_len f
  have c4 : PT 4 ρ2 (.cmp .lt (.var 47) (.bi .len (.var 32))) (decide (afterM y < (th f).length)) := (pt_cmp (N := 2) ((pe_var q47).mono (by first | decide | omega)) (pe_bi (N := 1) (pe_var L2.h32) (len_int (by simp; omega))) (by rw [lt_int]; congr 2; rw [Bool.eq_iff_iff]; simp)).mono (by first | decide | omega)
  refine ⟨ρ2, ?_, fun x h1 h2 h3 => by rw [← hρ2, getV_set_ne _ _ h3, ← hρ1, getV_set_ne _ _ h2, getV_set_ne _ _ h1]⟩
  unfold loopHead
  rw [List.cons_append, seq_cons e1, List.cons_append, seq_cons e2, List.cons_append, seq_cons e3, List.cons_append, List.nil_append]
  unfold pushes
  have e4 := ex_if (n := m + 3) (a := [
      .exp (.call 0 [.var 0, .tup [.bin .add (.var 45) (.idx (.idx (.var 41) (.var 47)) (.int 0)), .bin .add (.var 46) (.tup [.var 47])]]),
      .ifs (.cmp .ne (.var 46) (.tup [])) [
        .exp (.call 0 [.var 0, .tup [.bin .sub (.bin .add (.var 45) (.idx (.idx (.var 41) (.var 47)) (.int 0))) (.idx (.idx (.var 41) (.bin .sub (.var 47) (.int 1))) (.int 0)),
          .bin .add (.slc (.var 46) none (some (.neg 1))) (.tup [.var 47])]])] []]) (b := []) (c4 (m + 3) (by first | decide | omega) [some (hs1.map (encP (wOf ps) least)), some ((off ++ [y]).map (encP (wOf ps) least)), some due])
  by_cases ha : afterM y < (th f).length
  · rw [decide_eq_true ha, if_pos rfl] at e4
    have pw : PE 5 ρ2 (.idx (.idx (.var 41) (.var 47)) (.int 0)) (.int ((wOf ps).getD (afterM y) 0 : Nat)) := pe_w L2 ((pe_var q47).mono (by first | decide | omega)) (by first | decide | omega) (by first | decide | omega)
    have pA : PE 6 ρ2 (.bin .add (.var 45) (.idx (.idx (.var 41) (.var 47)) (.int 0))) (.int (least + cost (wOf ps) y + ((wOf ps).getD (afterM y) 0 : Nat))) := pe_bin (N := 5) ((pe_var q45).mono (by first | decide | omega)) pw rfl
    have pT : PE 2 ρ2 (.tup [.var 47]) (.tup [.int (afterM y : Int)]) := pe_tup (N := 1) (pes_cons (pe_var q47) pes_nil) (show 1 ≤ 1000 by decide)
    have p1 : PE 8 ρ2 (.tup [.bin .add (.var 45) (.idx (.idx (.var 41) (.var 47)) (.int 0)), .bin .add (.var 46) (.tup [.var 47])]) (encP (wOf ps) least (y ++ [afterM y])) := by
      rw [enc_snoc]
      refine pe_tup (N := 7) (pes_cons (pA.mono (by first | decide | omega)) (pes_cons ((pe_bin (N := 2) ((pe_var q46).mono (by first | decide | omega)) pT ?_).mono (by first | decide | omega)) pes_nil)) (show 2 ≤ 1000 by decide)
      unfold plD binD
      simp only
      rw [if_pos (fits_of (by simp; unfold lim; omega))]
    have s1 : exS fns (m + 3) 0 ρ2 (.exp (.call 0 [.var 0, .tup [.bin .add (.var 45) (.idx (.idx (.var 41) (.var 47)) (.int 0)), .bin .add (.var 46) (.tup [.var 47])]])) [some (hs1.map (encP (wOf ps) least)), some ((off ++ [y]).map (encP (wOf ps) least)), some due] = _ :=
      ex_call (n := m + 1) (N := 9) (pvs_var (N := 8) L2.h0 (pvs_cons (N := 8) p1 (by intro i q; cases q) pvs_nil)) (by first | decide | omega) (call_push hL (k := 0) (x := y ++ [afterM y]) (hs := hs1) (by first | decide | omega) (Nat.zero_lt_succ _) rfl (by first | decide | omega))
    rw [seq_cons s1] at e4
    simp only [List.set_cons_zero] at e4
    have c5 : PT 4 ρ2 (.cmp .ne (.var 46) (.tup [])) (!y.isEmpty) := (pt_cmp (N := 2) ((pe_var q46).mono (by first | decide | omega)) pe_nil (ne_nil y)).mono (by first | decide | omega)
    have e5 := ex_if (n := m + 2) (a := [
        .exp (.call 0 [.var 0, .tup [.bin .sub (.bin .add (.var 45) (.idx (.idx (.var 41) (.var 47)) (.int 0))) (.idx (.idx (.var 41) (.bin .sub (.var 47) (.int 1))) (.int 0)),
          .bin .add (.slc (.var 46) none (some (.neg 1))) (.tup [.var 47])]])]) (b := []) (c5 (m + 2) (by first | decide | omega) [some ((pushM (ltP (wOf ps)) hs1 (y ++ [afterM y])).map (encP (wOf ps) least)), some ((off ++ [y]).map (encP (wOf ps) least)), some due])
    cases hlast : y.getLast? with
    | none =>
      rw [List.getLast?_eq_none_iff] at hlast
      subst hlast
      simp only [List.isEmpty_nil, Bool.not_true, Bool.false_eq_true, if_false] at e5
      rw [seq_cons (e5.trans seq_nil), seq_nil] at e4
      rw [seq_cons e4]
      unfold nextM
      rw [if_pos ha, if_pos rfl]
    | some k =>
      have hk : afterM y = k + 1 := by unfold afterM; rw [hlast]
      have hsp := last_split hlast
      have hne : y ≠ [] := by rintro rfl; cases hlast
      have hne' : y.isEmpty = false := by cases y with | nil => exact absurd rfl hne | cons _ _ => rfl
      simp only [hne', Bool.not_false, if_true] at e5
      have pm : PE 2 ρ2 (.bin .sub (.var 47) (.int 1)) (.int (k : Int)) := pe_bin (N := 1) (pe_var q47) pe_int (by rw [hk]; simp only [binD]; congr 2; omega)
      have pw2 : PE 5 ρ2 (.idx (.idx (.var 41) (.bin .sub (.var 47) (.int 1))) (.int 0)) (.int ((wOf ps).getD k 0 : Nat)) := pe_w L2 (pm.mono (by first | decide | omega)) (by first | decide | omega) (by first | decide | omega)
      have hcost : cost (wOf ps) y = cost (wOf ps) y.dropLast + (wOf ps).getD k 0 := by
        conv => lhs; rw [hsp]
        rw [cost_append]; simp [cost]
      have p2 : PE 8 ρ2 (.tup [.bin .sub (.bin .add (.var 45) (.idx (.idx (.var 41) (.var 47)) (.int 0))) (.idx (.idx (.var 41) (.bin .sub (.var 47) (.int 1))) (.int 0)), .bin .add (.slc (.var 46) none (some (.neg 1))) (.tup [.var 47])]) (encP (wOf ps) least (y.dropLast ++ [afterM y])) := by
        rw [enc_snoc]
        refine pe_tup (N := 7) (pes_cons (pe_bin (N := 6) pA (pw2.mono (by first | decide | omega)) ?_) (pes_cons ((pe_bin (N := 4) (pe_slc (N := 3) ((pe_var q46).mono (by first | decide | omega)) (fun n hn V => po_none n (by first | decide | omega) V) (fun n hn V => po_some (N := 1) (j := -1) pe_neg (by decide) n (by first | decide | omega) V) (d := plD y.dropLast) ?_) (pT.mono (by first | decide | omega)) ?_).mono (by first | decide | omega)) pes_nil)) (show 2 ≤ 1000 by decide)
        · simp only [binD]
          congr 2
          rw [hcost]
          push_cast
          omega
        · unfold plD slcD
          simp only
          rw [if_pos ⟨trivial, by simp [hne], fits_of (by simp; unfold lim; omega)⟩, List.map_dropLast]
        · unfold plD binD
          simp only
          rw [if_pos (fits_of (by simp; unfold lim; omega))]
      have s2 : exS fns (m + 2) 0 ρ2 (.exp (.call 0 [.var 0, .tup [.bin .sub (.bin .add (.var 45) (.idx (.idx (.var 41) (.var 47)) (.int 0))) (.idx (.idx (.var 41) (.bin .sub (.var 47) (.int 1))) (.int 0)), .bin .add (.slc (.var 46) none (some (.neg 1))) (.tup [.var 47])]])) [some ((pushM (ltP (wOf ps)) hs1 (y ++ [afterM y])).map (encP (wOf ps) least)), some ((off ++ [y]).map (encP (wOf ps) least)), some due] = _ :=
        ex_call (n := m) (N := 9) (pvs_var (N := 8) L2.h0 (pvs_cons (N := 8) p2 (by intro i q; cases q) pvs_nil)) (by first | decide | omega) (call_push hL (k := 0) (x := y.dropLast ++ [afterM y]) (hs := pushM (ltP (wOf ps)) hs1 (y ++ [afterM y])) (by first | decide | omega) (Nat.zero_lt_succ _) rfl (by rw [push_len]; omega))
      rw [seq_cons s2, seq_nil] at e5
      simp only [List.set_cons_zero] at e5
      rw [seq_cons e5, seq_nil] at e4
      rw [seq_cons e4]
      unfold nextM
      rw [if_pos ha, if_neg hne]
  · rw [decide_eq_false ha, if_neg Bool.false_ne_true] at e4
    rw [seq_cons (e4.trans seq_nil)]
    unfold nextM
    rw [if_neg ha]
end
end Mine
end
section
open PySem PySem.W
set_option maxRecDepth 100000
set_option linter.unusedVariables false
set_option linter.unusedSimpArgs false
namespace Mine

section
variable {ρ : Rho} {f : Bool} {ps : List (Nat × Int)} {least : Int} {xs : List Int}

theorem pe_picked {k : Nat} (g44 : getV ρ 44 = some (.dat (.int (k : Int)))) (g32 : getV ρ 32 = some (.dat (dI (th f)))) :
    PE 14 ρ (.bi .tuple (.comp [44] (.var 49) [(49, .range (.bi .len (.var 32)), [.cmp .eq (.bin .mod (.bin .rsh (.var 44) (.var 49)) (.int 2)) (.int 1)])])) (plD (pickM (th f).length k)) := by
  have hth := th_len f
  have e : D.list ((pickM (th f).length k).map fun (i : Nat) => D.int (i : Int)) = .list ((((List.range (th f).length).map fun (i : Nat) => D.int (i : Int)).filter fun d => match d with | .int c => ((k >>> c.toNat) % 2 == 1) | _ => false).map id) := by
    unfold pickM
    rw [List.map_id, List.filter_map]
    rfl
  refine pe_bi (N := 13) (da := .list ((pickM (th f).length k).map fun (i : Nat) => D.int (i : Int))) ?_ ?_
  · rw [e]
    refine PE.mono (N := 8 + 2) (pe_comp1 (N := 8) (by decide) ?_ (fun d hd => ?_) (fun d hd _ => (pe_var (getV_set_self ..)).mono (by first | decide | omega)) (by simp; omega)) (by first | decide | omega)
    · have := pi_range (N := 2) (pe_bi (N := 1) (ρ := ρ) (a := .var 32) (pe_var g32) (len_int (l := (th f).map D.int) (by simp; omega))) (by simp; omega)
      simp only [List.length_map, Int.toNat_natCast] at this
      exact this.mono (by first | decide | omega)
    · obtain ⟨i, hi, rfl⟩ := List.mem_map.mp hd
      have er : binD .rsh (.int (k : Int)) (.int (i : Int)) = some (.int ((k >>> i : Nat) : Int)) := by
        unfold binD
        simp only
        rw [if_pos (by first | decide | omega)]
        congr 2
        rw [Int.fdiv_eq_ediv_of_nonneg _ (by exact Int.le_of_lt (Int.pow_pos (by decide))), Int.toNat_natCast, Nat.shiftRight_eq_div_pow]
        push_cast
        rfl
      have em : binD .mod (.int ((k >>> i : Nat) : Int)) (.int 2) = some (.int (((k >>> i) % 2 : Nat) : Int)) := by
        show some (D.int (Int.fmod ((k >>> i : Nat) : Int) 2)) = _
        rw [fmod2]
      refine pts_one ((pt_cmp (N := 3) (da := .int (((k >>> i) % 2 : Nat) : Int)) (db := .int 1) (pe_bin (N := 2) (pe_bin (N := 1) (pe_var (d := .int (k : Int)) (by rw [getV_set_ne _ _ (by decide), getV_cap (by decide)]; exact g44)) (pe_var (getV_set_self ..)) er) (pe_int.mono (by first | decide | omega)) em) (pe_int.mono (by first | decide | omega)) ?_).mono (by first | decide | omega))
      rw [eq_int]
      dsimp only
      rw [Int.toNat_natCast]
      congr 2
      rw [Bool.eq_iff_iff, beq_iff_eq, beq_iff_eq]
      omega
  · unfold biD plD
    simp only
    rw [if_pos (fits_of (by simp; have := List.length_filter_le (fun i => (k >>> i) % 2 == 1) (List.range (th f).length); unfold pickM lim; simp at this; omega))]
end
end Mine
end
section
open PySem PySem.W
set_option maxRecDepth 100000
set_option linter.unusedVariables false
set_option linter.unusedSimpArgs false
namespace Mine

section
variable {ρ : Rho} {f : Bool} {ps : List (Nat × Int)} {least : Int} {xs : List Int}

noncomputable def turnL (ps : List (Nat × Int)) (p : Pl) : List Int := p.map fun i => (ps.getD i (0, 0)).2
theorem pe_turned {p : Pl} (g41 : getV ρ 41 = some (.dat (prD ps))) (g48 : getV ρ 48 = some (.dat (plD p))) (hp : ∀ i ∈ p, i < ps.length) (hl : ps.length ≤ 100) (hpl : p.length ≤ 100) :
    PE 10 ρ (.comp [41] (.idx (.idx (.var 41) (.var 49)) (.int 1)) [(49, .var 48, [])]) (dI (turnL ps p)) := by
  have e : dI (turnL ps p) = .list (((p.map fun (i : Nat) => D.int (i : Int)).filter fun _ => true).map fun d => match d with | .int i => .int (ps.getD i.toNat (0, 0)).2 | _ => .none) := by
    unfold dI turnL
    rw [filt_all, List.map_map, List.map_map]; rfl
  rw [e]
  refine pe_comp1 (N := 8) (by decide) ((pi_of (N := 1) (d := plD p) (pe_var g48) rfl (by intro a q; cases q)).mono (by first | decide | omega)) (fun d hd => pts_nil) (fun d hd _ => ?_) (by simp; omega)
  obtain ⟨i, hi, rfl⟩ := List.mem_map.mp hd
  have hil := hp i hi
  have hg : ps[i]? = some ps[i] := List.getElem?_eq_getElem hil
  have e1 : (ps.getD i (0, 0)) = ps[i] := by rw [List.getD_eq_getElem?_getD, hg]; rfl
  dsimp only
  rw [Int.toNat_natCast, e1]
  refine (pe_idx (N := 4) (pe_idx (N := 3) ((pe_var (d := prD ps) (by rw [getV_set_ne _ _ (by decide), getV_cap (by decide)]; exact g41)).mono (by first | decide | omega)) ((pe_var (getV_set_self ..)).mono (by first | decide | omega)) (d := .tup [.int (ps[i].1 : Int), .int ps[i].2]) fun W => ?_) (pe_int.mono (by first | decide | omega)) fun W => rfl).mono (by first | decide | omega)
  exact idx_nat (by rw [List.getElem?_map, hg]; rfl) (by first | decide | omega) W

theorem sum_ones {l : List Int} {xs : List Int} {p : Int → Bool} {q : Int → Int → Bool} : (((xs.flatMap fun x => ((l.map D.int).filter fun d => match d with | .int c => q x c != p c | _ => false).map fun _ => D.int 1)).map D.toInt).sum = total l p q xs := by
  induction xs with
  | nil => rfl
  | cons x xs ih =>
    rw [List.flatMap_cons, List.map_append, List.sum_append, ih]
    unfold total
    rw [List.map_cons, List.sum_cons]
    congr 1
    unfold dist
    rw [List.filter_map, List.map_map, List.map_map]
    have : ∀ (l : List Int) (r s : Int → Bool), (∀ c, r c = s c) → ((l.filter r).map (D.toInt ∘ (fun _ => D.int 1) ∘ D.int)).sum = ((l.filter s).length : Int) := by
      intro l r s hrs
      induction l with
      | nil => rfl
      | cons c l ih =>
        rw [List.filter_cons, List.filter_cons, hrs c]
        cases s c
        · simpa using ih
        · simp only [if_true, List.map_cons, List.sum_cons, List.length_cons, ih]
          simp only [Function.comp, D.toInt]
          push_cast
          omega
    exact this l _ _ fun c => by simp only [Function.comp]; cases p c <;> cases q x c <;> rfl

theorem pe_total {ch : Int → Bool} (hx : xs.length ≤ 12) (g33 : getV ρ 33 = some (.dat (gvn f xs))) (g32 : getV ρ 32 = some (.dat (dI (th f)))) (g51 : getV ρ 51 = some (.dat (dI ((th f).filter ch)))) :
    PE 14 ρ (.bi .sum (.comp [51, 32] (.int 1) [(37, .var 33, []), (35, .var 32, [.cmp .ne (.cmp .isin (.var 35) (.var 37)) (.cmp .isin (.var 35) (.var 51))])])) (.int (tot f xs ch)) := by
  have hth := th_len f
  have hlen : (xs.flatMap fun x => (((th f).map D.int).filter fun d => match d with | .int c => bit x c != ch c | _ => false).map fun _ => D.int 1).length ≤ lim := by
    have : ∀ xs : List Int, (xs.flatMap fun x => (((th f).map D.int).filter fun d => match d with | .int c => bit x c != ch c | _ => false).map fun _ => D.int 1).length ≤ 4 * xs.length := by
      intro xs
      induction xs with
      | nil => simp
      | cons x xs ih =>
        rw [List.flatMap_cons, List.length_append, List.length_map, List.length_cons]
        have := List.length_filter_le (fun d => match d with | .int c => bit x c != ch c | _ => false) ((th f).map D.int)
        rw [List.length_map] at this
        omega
    have := this xs
    unfold lim; omega
  refine pe_bi (N := 13) (da := .list (xs.flatMap fun x => (((th f).map D.int).filter fun d => match d with | .int c => bit x c != ch c | _ => false).map fun _ => D.int 1)) ?_ ?_
  · have e : (xs.flatMap fun x => (((th f).map D.int).filter fun d => match d with | .int c => bit x c != ch c | _ => false).map fun _ => D.int 1) =
        ((xs.map fun x => dI ((th f).filter (bit x))).flatMap fun o => (((th f).map D.int).filter fun d => match o, d with | .list os, .int c => (os.any fun y => D.eq y (.int c)) != ((th f).filter ch).contains c | _, _ => false).map fun _ => D.int 1) := by
      rw [List.flatMap_map]
      congr 1
      funext x
      congr 1
      apply List.filter_congr
      intro d hd
      obtain ⟨c, hc, rfl⟩ := List.mem_map.mp hd
      simp only [dI, any_eq, contains_filter hc]
    rw [e] at hlen ⊢
    refine PE.mono (N := 8 + 3) (pe_comp2 (N := 8) (ds2 := fun _ => (th f).map D.int) (t := fun o d => match o, d with | .list os, .int c => (os.any fun y => D.eq y (.int c)) != ((th f).filter ch).contains c | _, _ => false) (r := fun _ _ => D.int 1) (by decide) ((pi_of (N := 1) (d := gvn f xs) (pe_var g33) rfl (by intro a q; cases q)).mono (by first | decide | omega)) (fun o ho => (pi_things (by rw [getV_set_ne _ _ (by decide), getV_cap (by decide)]; exact g32)).mono (by first | decide | omega)) (fun o ho d hd => ?_) (fun o ho d hd _ => pe_int.mono (by first | decide | omega)) hlen) (by first | decide | omega)
    obtain ⟨c, hc, rfl⟩ := List.mem_map.mp hd
    obtain ⟨x, hx', rfl⟩ := List.mem_map.mp ho
    dsimp only [dI]
    rw [any_eq]
    exact pts_one ((pt_cmp (N := 3) (pe_cmp (N := 1) (pe_var (d := .int c) (getV_set_self ..)) (pe_var (d := dI ((th f).filter (bit x))) (by rw [getV_set_ne _ _ (by decide), getV_set_self]; rfl)) (isin_int ..) |>.mono (by first | decide | omega)) (pe_cmp (N := 1) (pe_var (d := .int c) (getV_set_self ..)) (pe_var (d := dI ((th f).filter ch)) (by rw [getV_set_ne _ _ (by decide), getV_set_ne _ _ (by decide), getV_cap (by decide)]; exact g51)) (isin_int ..) |>.mono (by first | decide | omega)) (ne_bool ..)).mono (by first | decide | omega))
  · unfold biD
    simp only
    rw [if_pos ?_, sum_ones]; rfl
    rw [List.all_eq_true]
    intro d hd
    obtain ⟨x, _, h2⟩ := List.mem_flatMap.mp hd
    obtain ⟨_, _, rfl⟩ := List.mem_map.mp h2
    rfl
end
end Mine
end
section
open PySem PySem.W
set_option maxRecDepth 100000
set_option linter.unusedVariables false
set_option linter.unusedSimpArgs false
namespace Mine

theorem eqs_self : ∀ l : List Int, D.eqs (l.map D.int) (l.map D.int) = true
  | [] => rfl
  | a :: l => by rw [List.map_cons, D.eqs, eqs_self l]; simp [D.eq]
theorem dep_dI (l : List Int) : (dI l).dep = 1 := by
  unfold dI
  have : D.deps (l.map D.int) = 0 := by
    induction l with
    | nil => rfl
    | cons a l ih => rw [List.map_cons, D.deps, ih]; rfl
  rw [D.dep, this]
theorem ne_pair (A B : List Int) : cmpD .ne (.tup [dI A, dI B]) (.tup [dI A, dI B]) = some (.bool false) := by
  unfold cmpD
  simp only
  rw [if_pos (.inl (by simp [D.dep, D.deps, dep_dI]))]
  simp [D.eq, D.eqs, dI, eqs_self]
theorem eq_nil (A : List Int) : cmpD .eq (dI A) (.list []) = some (.bool A.isEmpty) := by
  unfold cmpD
  simp only
  rw [if_pos (.inr (by decide))]
  unfold dI
  cases A <;> rfl

section
variable {ρ : Rho} {f : Bool} {ps : List (Nat × Int)} {least : Int} {xs : List Int}

theorem pe_both {S T : List Int} {a b : Nat} {caps : List Nat} (hS : S.length ≤ 100) (ga : getV ρ a = some (.dat (dI S))) (gb : getV ρ 50 = some (.dat (dI T))) : PE 8 ρ (.comp [50] (.var 35) [(35, .var a, [.cmp .isin (.var 35) (.var 50)])]) (dI (S.filter fun c => T.contains c)) := by
  have e : dI (S.filter fun c => T.contains c) = .list (((S.map D.int).filter fun d => match d with | .int c => T.contains c | _ => false).map id) := by
    unfold dI
    rw [List.map_id, List.filter_map]; rfl
  rw [e]
  refine pe_comp1 (N := 6) (by simp [compOk]) ((pi_of (N := 1) (d := dI S) (pe_var ga) rfl (by intro a q; cases q)).mono (by first | decide | omega)) (fun d hd => ?_) (fun d hd _ => (pe_var (getV_set_self ..)).mono (by first | decide | omega)) (by simp; omega)
  obtain ⟨c, hc, rfl⟩ := List.mem_map.mp hd
  exact pts_one ((pt_cmp (N := 1) (pe_var (d := .int c) (getV_set_self ..)) (pe_var (d := dI T) (by rw [getV_set_ne _ _ (by decide), getV_cap (by decide)]; exact gb)) (isin_int ..)).mono (by first | decide | omega))
end
end Mine
end
section
open PySem PySem.W
set_option maxRecDepth 100000
set_option linter.unusedVariables false
set_option linter.unusedSimpArgs false
namespace Mine

/-- the set that comes of the core with some turned -/
noncomputable def chP (xs : List Int) (T : List Int) (c : Int) : Bool := coreP xs c != T.contains c
theorem ch_eq {f : Bool} {xs T : List Int} : ((th f).filter fun c => ((th f).filter (coreP xs)).contains c != T.contains c) = (th f).filter (chP xs T) := by
  apply List.filter_congr
  intro c hc
  rw [contains_filter hc]; rfl

section
variable {ρ : Rho} {f : Bool} {ps : List (Nat × Int)} {least : Int} {xs : List Int}

theorem loop_tail {n k : Nat} {h o : Option (List D)} {due : List D} (hn : 200 ≤ n) (L : LS ρ f ps least) (hx : xs.length ≤ 12) (hps : ps.length = (th f).length)
    (g33 : getV ρ 33 = some (.dat (gvn f xs))) (g38 : getV ρ 38 = some (.dat (dI ((th f).filter (coreP xs))))) (g39 : getV ρ 39 = some (.dat (dI ((th f).filter (rimP xs))))) (g44 : getV ρ 44 = some (.dat (.int (k : Int)))) (hd : due.length ≤ 100)
    {T : List Int} (hT : T = turnL ps (pickM (th f).length k))
    (hb : (((th f).filter fun c => coreP xs c && !chP xs T c).isEmpty && ((th f).filter fun c => chP xs T c && !rimP xs c).isEmpty) = (tot f xs (chP xs T) == least)) :
    ∃ ρ', exSeq (fun s ρ W => exS fns n 0 ρ s W) loopTail ρ [h, o, some due] = .ok .next ρ' [h, o, some (due ++ [.tup [.int (tot f xs (chP xs T)), plD (pickM (th f).length k)]])] ∧ ∀ x, x ≠ 48 → x ≠ 50 → x ≠ 51 → x ≠ 52 → x ≠ 53 → x ≠ 54 → getV ρ' x = getV ρ x := by
  have hth := th_len f
  have hpl : ∀ i ∈ pickM (th f).length k, i < ps.length := fun i hi => by
    have := (List.mem_filter.mp hi).1
    rw [hps]; exact List.mem_range.mp this
  have hpn : (pickM (th f).length k).length ≤ 4 := by
    have := List.length_filter_le (fun i => (k >>> i) % 2 == 1) (List.range (th f).length)
    unfold pickM; simp at this ⊢; omega
  obtain ⟨m, rfl⟩ : ∃ m, n = m + 1 := ⟨n - 1, by omega⟩
  unfold loopTail
  have e1 := asg_pure (x := 48) (pe_picked g44 L.h32) (show 14 + 1 ≤ m + 1 by omega) [h, o, some due]
  rw [seq_cons e1]
  generalize h1 : setV 48 (.dat (plD (pickM (th f).length k))) ρ = ρ1
  have k1 : ∀ x, x ≠ 48 → getV ρ1 x = getV ρ x := fun x hx => by rw [← h1, getV_set_ne _ _ hx]
  have g48 : getV ρ1 48 = some (.dat (plD (pickM (th f).length k))) := by rw [← h1, getV_set_self]
  have e2 := asg_pure (x := 50) (pe_turned (ps := ps) (by rw [k1 _ (by decide)]; exact L.h41) g48 hpl (by first | decide | omega) (by first | decide | omega)) (show 10 + 1 ≤ m + 1 by omega) [h, o, some due]
  rw [← hT] at e2
  rw [seq_cons e2]
  generalize h2 : setV 50 (.dat (dI T)) ρ1 = ρ2
  have k2 : ∀ x, x ≠ 50 → getV ρ2 x = getV ρ1 x := fun x hx => by rw [← h2, getV_set_ne _ _ hx]
  have g50 : getV ρ2 50 = some (.dat (dI T)) := by rw [← h2, getV_set_self]
  have p3 : PE 11 ρ2 (.call 8 [.var 38, .var 50, .var 32]) (dI ((th f).filter (chP xs T))) := by
    rw [← ch_eq]
    exact pe_call (N := 10) (pvs_var (N := 9) (by rw [k2 _ (by decide), k1 _ (by decide)]; exact g38) (pvs_var (N := 9) g50 (pvs_var (N := 9) (by rw [k2 _ (by decide), k1 _ (by decide)]; exact L.h32) pvs_nil))) (pc_turned (by first | decide | omega))
  have e3 := asg_pure (x := 51) p3 (show 11 + 1 ≤ m + 1 by omega) [h, o, some due]
  rw [seq_cons e3]
  generalize h3 : setV 51 (.dat (dI ((th f).filter (chP xs T)))) ρ2 = ρ3
  have k3 : ∀ x, x ≠ 51 → getV ρ3 x = getV ρ2 x := fun x hx => by rw [← h3, getV_set_ne _ _ hx]
  have g51 : getV ρ3 51 = some (.dat (dI ((th f).filter (chP xs T)))) := by rw [← h3, getV_set_self]
  have back3 : ∀ x, x ≠ 48 → x ≠ 50 → x ≠ 51 → getV ρ3 x = getV ρ x := fun x a b c => by rw [k3 _ c, k2 _ b, k1 _ a]
  have e4 := asg_pure (x := 52) (pe_total (ch := chP xs T) hx (by rw [back3 _ (by decide) (by decide) (by decide)]; exact g33) (by rw [back3 _ (by decide) (by decide) (by decide)]; exact L.h32) g51) (show 14 + 1 ≤ m + 1 by omega) [h, o, some due]
  rw [seq_cons e4]
  generalize h4 : setV 52 (.dat (.int (tot f xs (chP xs T)))) ρ3 = ρ4
  have k4 : ∀ x, x ≠ 52 → getV ρ4 x = getV ρ3 x := fun x hx => by rw [← h4, getV_set_ne _ _ hx]
  have g52 : getV ρ4 52 = some (.dat (.int (tot f xs (chP xs T)))) := by rw [← h4, getV_set_self]
  have q48 : getV ρ4 48 = some (.dat (plD (pickM (th f).length k))) := by rw [k4 _ (by decide), k3 _ (by decide), k2 _ (by decide)]; exact g48
  have back4 : ∀ x, x ≠ 48 → x ≠ 50 → x ≠ 51 → x ≠ 52 → getV ρ4 x = getV ρ x := fun x a b c d => by rw [k4 _ d, back3 _ a b c]
  have e5 := ex_app (n := m) (hd := 0) (W := [h, o, some due]) (x := 43) (k := 2) (ds := due) (by rw [back4 _ (by decide) (by decide) (by decide) (by decide)]; exact L.h43) (pe_tup (N := 1) (pes_cons (pe_var g52) (pes_cons (pe_var q48) pes_nil)) (show 2 ≤ 1000 by decide) m (by first | decide | omega) _) rfl (by unfold lim; omega)
  rw [seq_cons e5]
  simp only [List.set_cons_succ, List.set_cons_zero]
  have lC := List.length_filter_le (coreP xs) (th f)
  have lH := List.length_filter_le (chP xs T) (th f)
  have lR := List.length_filter_le (rimP xs) (th f)
  have p6 : PE 61 ρ4 (.call 6 [.var 38, .var 51]) (.tup [dI ((th f).filter fun c => coreP xs c && !chP xs T c), dI ((th f).filter fun c => chP xs T c && !coreP xs c)]) := by
    have := pe_call (N := 60) (ρ := ρ4) (f := 6) (es := [.var 38, .var 51]) (pvs_var (N := 59) (by rw [back4 _ (by decide) (by decide) (by decide) (by decide)]; exact g38) (pvs_var (N := 59) (by rw [k4 _ (by decide)]; exact g51) pvs_nil)) (pc_sld (adj_of_up (up_filter (th_up f) (coreP xs))) (adj_of_up (up_filter (th_up f) (chP xs T))) (by first | decide | omega) (by first | decide | omega))
    rw [goS_filter _ _ (th_up f)] at this
    exact this
  have e6 := unp_pure (x := 53) (y := 54) p6 (show 61 + 1 ≤ m + 1 by omega) [h, o, some (due ++ [.tup [.int (tot f xs (chP xs T)), plD (pickM (th f).length k)]])]
  rw [seq_cons e6]
  generalize h6 : setV 54 (.dat (dI ((th f).filter fun c => chP xs T c && !coreP xs c))) (setV 53 (.dat (dI ((th f).filter fun c => coreP xs c && !chP xs T c))) ρ4) = ρ6
  have k6 : ∀ x, x ≠ 53 → x ≠ 54 → getV ρ6 x = getV ρ4 x := fun x a b => by rw [← h6, getV_set_ne _ _ b, getV_set_ne _ _ a]
  have g53 : getV ρ6 53 = some (.dat (dI ((th f).filter fun c => coreP xs c && !chP xs T c))) := by rw [← h6, getV_set_ne _ _ (by decide), getV_set_self]
  have g54 : getV ρ6 54 = some (.dat (dI ((th f).filter fun c => chP xs T c && !coreP xs c))) := by rw [← h6, getV_set_self]
  have z50 : getV ρ6 50 = some (.dat (dI T)) := by rw [k6 _ (by decide) (by decide), k4 _ (by decide), k3 _ (by decide)]; exact g50
  have z51 : getV ρ6 51 = some (.dat (dI ((th f).filter (chP xs T)))) := by rw [k6 _ (by decide) (by decide), k4 _ (by decide)]; exact g51
  have z52 : getV ρ6 52 = some (.dat (.int (tot f xs (chP xs T)))) := by rw [k6 _ (by decide) (by decide)]; exact g52
  have back6 : ∀ x, x ≠ 48 → x ≠ 50 → x ≠ 51 → x ≠ 52 → x ≠ 53 → x ≠ 54 → getV ρ6 x = getV ρ x := fun x a b c d e g => by rw [k6 _ e g, back4 _ a b c d]
  have z38 : getV ρ6 38 = some (.dat (dI ((th f).filter (coreP xs)))) := by rw [back6 _ (by decide) (by decide) (by decide) (by decide) (by decide) (by decide)]; exact g38
  have z39 : getV ρ6 39 = some (.dat (dI ((th f).filter (rimP xs)))) := by rw [back6 _ (by decide) (by decide) (by decide) (by decide) (by decide) (by decide)]; exact g39
  have z40 : getV ρ6 40 = some (.dat (.int least)) := by rw [back6 _ (by decide) (by decide) (by decide) (by decide) (by decide) (by decide)]; exact L.h40
  have f1 : ((th f).filter (coreP xs)).filter (fun c => T.contains c) = (th f).filter fun c => coreP xs c && !chP xs T c := by
    rw [List.filter_filter]
    apply List.filter_congr
    intro c _
    unfold chP
    cases coreP xs c <;> cases T.contains c <;> rfl
  have f2 : ((th f).filter (chP xs T)).filter (fun c => T.contains c) = (th f).filter fun c => chP xs T c && !coreP xs c := by
    rw [List.filter_filter]
    apply List.filter_congr
    intro c _
    unfold chP
    cases coreP xs c <;> cases T.contains c <;> rfl
  have t7 : PT 11 ρ6 (.cmp .ne (.tup [.var 53, .var 54]) (.tup [.comp [50] (.var 35) [(35, .var 38, [.cmp .isin (.var 35) (.var 50)])], .comp [50] (.var 35) [(35, .var 51, [.cmp .isin (.var 35) (.var 50)])]])) false := by
    refine pt_cmp (N := 10) ((pe_tup (N := 1) (pes_cons (pe_var g53) (pes_cons (pe_var g54) pes_nil)) (show 2 ≤ 1000 by decide)).mono (by first | decide | omega)) (pe_tup (N := 9) (ds := [dI ((th f).filter fun c => coreP xs c && !chP xs T c), dI ((th f).filter fun c => chP xs T c && !coreP xs c)]) (pes_cons ?_ (pes_cons ?_ pes_nil)) (show 2 ≤ 1000 by decide)) (ne_pair ..)
    · rw [← f1]; exact (pe_both (b := 0) (caps := []) (by first | decide | omega) z38 z50).mono (by first | decide | omega)
    · rw [← f2]; exact (pe_both (b := 0) (caps := []) (by first | decide | omega) z51 z50).mono (by first | decide | omega)
  obtain ⟨m7, hm7, e7⟩ := if_pure (a := [.ret (.bool false)]) (b := []) t7 (show 11 + 1 ≤ m + 1 by omega) [h, o, some (due ++ [.tup [.int (tot f xs (chP xs T)), plD (pickM (th f).length k)]])]
  rw [seq_cons (e7.trans seq_nil)]
  have p8 : PE 61 ρ6 (.call 6 [.var 51, .var 39]) (.tup [dI ((th f).filter fun c => chP xs T c && !rimP xs c), dI ((th f).filter fun c => rimP xs c && !chP xs T c)]) := by
    have := pe_call (N := 60) (ρ := ρ6) (f := 6) (es := [.var 51, .var 39]) (pvs_var (N := 59) z51 (pvs_var (N := 59) z39 pvs_nil)) (pc_sld (adj_of_up (up_filter (th_up f) (chP xs T))) (adj_of_up (up_filter (th_up f) (rimP xs))) (by first | decide | omega) (by first | decide | omega))
    rw [goS_filter _ _ (th_up f)] at this
    exact this
  have pl : PE 2 ρ6 (.list []) (.list []) := pe_list (N := 1) pes_nil (by decide)
  have t8 : PT 66 ρ6 (.cmp .ne (.and (.cmp .eq (.var 53) (.list [])) (.cmp .eq (.idx (.call 6 [.var 51, .var 39]) (.int 0)) (.list []))) (.cmp .eq (.var 52) (.var 40))) false := by
    refine pt_cmp (N := 65) (da := .bool (((th f).filter fun c => coreP xs c && !chP xs T c).isEmpty && ((th f).filter fun c => chP xs T c && !rimP xs c).isEmpty)) (db := .bool (tot f xs (chP xs T) == least)) (pe_and (N := 64) (x := ((th f).filter fun c => coreP xs c && !chP xs T c).isEmpty) ((pe_cmp (N := 2) ((pe_var g53).mono (by first | decide | omega)) pl (eq_nil _)).mono (by first | decide | omega)) (fun q => ?_) (fun q => by rw [q]; rfl)) ((pe_cmp (N := 1) (pe_var z52) (pe_var z40) (eq_int ..)).mono (by first | decide | omega)) (by rw [hb, ne_bool]; simp)
    rw [q, Bool.true_and]
    exact (pe_cmp (N := 62) (pe_idx (N := 61) p8 (pe_int.mono (by first | decide | omega)) fun W => rfl) (pl.mono (by first | decide | omega)) (eq_nil _)).mono (by first | decide | omega)
  obtain ⟨m8, hm8, e8⟩ := if_pure (a := [.ret (.bool false)]) (b := []) t8 (show 66 + 1 ≤ m + 1 by omega) [h, o, some (due ++ [.tup [.int (tot f xs (chP xs T)), plD (pickM (th f).length k)]])]
  rw [seq_cons (e8.trans seq_nil), seq_nil]
  exact ⟨ρ6, rfl, back6⟩
end
end Mine
end
section
open PySem PySem.W
set_option maxRecDepth 100000
set_option linter.unusedVariables false
set_option linter.unusedSimpArgs false
namespace Mine

noncomputable def aOf (xs : List Int) (c : Int) : Nat := onesOf (fun x => bit x c) xs
/-- what one thing costs -/
noncomputable def one (xs : List Int) (p : Int → Bool) (c : Int) : Int := if p c then (xs.length : Int) - aOf xs c else aOf xs c
theorem one_sum (p : Int → Bool) (c : Int) : ∀ xs : List Int, (xs.map fun x => (if p c != bit x c then (1 : Int) else 0)).sum = one xs p c
  | [] => by unfold one aOf onesOf; cases p c <;> rfl
  | x :: xs => by
    rw [List.map_cons, List.sum_cons, one_sum p c xs]
    unfold one aOf onesOf
    rw [List.filter_cons]
    cases hp : p c <;> cases hb : bit x c <;> simp <;> omega
theorem tot_sum (p : Int → Bool) (xs : List Int) : ∀ l : List Int, total l p bit xs = (l.map (one xs p)).sum
  | [] => by unfold total dist; induction xs <;> simp_all
  | c :: l => by
    rw [List.map_cons, List.sum_cons, ← tot_sum p xs l, ← one_sum p c xs]
    unfold total
    induction xs with
    | nil => rfl
    | cons x xs ih =>
      simp only [List.map_cons, List.sum_cons]
      have e : (dist (c :: l) p (bit x) : Int) = (if p c != bit x c then (1 : Int) else 0) + dist l p (bit x) := by
        unfold dist
        rw [List.filter_cons]
        cases p c != bit x c <;> simp <;> omega
      rw [e, ih]
      omega
/-- the weight of a thing -/
noncomputable def wt (xs : List Int) (c : Int) : Nat := ((xs.length : Int) - 2 * aOf xs c).natAbs
theorem one_flip (xs T : List Int) (c : Int) : one xs (chP xs T) c = one xs (coreP xs) c + (if T.contains c then (wt xs c : Int) else 0) := by
  have := ones_le (fun x => bit x c) xs
  unfold one chP coreP wt aOf
  by_cases hc : xs.length < 2 * onesOf (fun x => bit x c) xs
  · cases T.contains c <;> simp [hc] <;> omega
  · cases T.contains c <;> simp [hc] <;> omega
theorem tot_flip (f : Bool) (xs T : List Int) : tot f xs (chP xs T) = tot f xs (coreP xs) + ((th f).map fun c => if T.contains c then (wt xs c : Int) else 0).sum := by
  unfold tot
  rw [tot_sum, tot_sum]
  generalize th f = l
  induction l with
  | nil => rfl
  | cons c l ih =>
    simp only [List.map_cons, List.sum_cons, ih, one_flip]
    omega
end Mine
end
section
open PySem PySem.W
set_option maxRecDepth 100000
set_option linter.unusedVariables false
set_option linter.unusedSimpArgs false
namespace Mine

theorem total_congr {l : List Int} {p p' : Int → Bool} {q : Int → Int → Bool} {xs : List Int} (h : ∀ c ∈ l, p c = p' c) : total l p q xs = total l p' q xs := by
  unfold total dist
  congr 1
  apply List.map_congr_left
  intro x _
  congr 2
  apply List.filter_congr
  intro c hc
  rw [h c hc]
theorem prc_wt {f : Bool} {xs : List Int} {c : Int} (hc : c ∈ th f) : prc f xs c = (wt xs c : Int) := by
  have e : tot f xs (flip f xs c) = tot f xs (chP xs [c]) := total_congr fun x hx => by
    unfold flip chP
    rw [contains_filter hx]
  unfold prc
  rw [e, tot_flip]
  have : ((th f).map fun x => if [c].contains x then (wt xs x : Int) else 0).sum = (wt xs c : Int) := by
    cases f <;> simp [th] at hc
    · rcases hc with rfl | rfl | rfl <;> simp [th]
    · rcases hc with rfl | rfl | rfl | rfl <;> simp [th]
  rw [this]
  omega
theorem sum_zero {l : List Int} {g : Int → Nat} {t : Int → Bool} : (l.map fun c => if t c then (g c : Int) else 0).sum = 0 ↔ ∀ c ∈ l, t c = true → g c = 0 := by
  have nn : ∀ l : List Int, 0 ≤ (l.map fun c => if t c then (g c : Int) else 0).sum := fun l => by
    induction l with
    | nil => simp
    | cons c l ih =>
      rw [List.map_cons, List.sum_cons]
      split <;> omega
  induction l with
  | nil => simp
  | cons c l ih =>
    rw [List.map_cons, List.sum_cons]
    have := nn l
    constructor
    · intro h d hd ht
      have hc0 : 0 ≤ (if t c then (g c : Int) else 0) := by split <;> omega
      rcases List.mem_cons.mp hd with rfl | hd
      · rw [if_pos ht] at h hc0; omega
      · exact ih.mp (by first | decide | omega) d hd ht
    · intro h
      have h1 := ih.mpr fun d hd => h d (.tail _ hd)
      rw [h1]
      cases ht : t c with
      | false => simp
      | true => simp [h c (.head _) ht]
theorem hb_of (f : Bool) (xs T : List Int) : (((th f).filter fun c => coreP xs c && !chP xs T c).isEmpty && ((th f).filter fun c => chP xs T c && !rimP xs c).isEmpty) = (tot f xs (chP xs T) == tot f xs (coreP xs)) := by
  rw [Bool.eq_iff_iff, Bool.and_eq_true, beq_iff_eq, List.isEmpty_iff, List.isEmpty_iff, List.filter_eq_nil_iff, List.filter_eq_nil_iff, tot_flip]
  have key : ∀ c, (¬ (coreP xs c && !chP xs T c) = true ∧ ¬ (chP xs T c && !rimP xs c) = true) ↔ (T.contains c = true → wt xs c = 0) := fun c => by
    unfold chP coreP rimP wt aOf
    by_cases h1 : xs.length < 2 * onesOf (fun x => bit x c) xs
    · by_cases h2 : xs.length ≤ 2 * onesOf (fun x => bit x c) xs
      · cases T.contains c <;> simp [h1, h2] <;> omega
      · omega
    · by_cases h2 : xs.length ≤ 2 * onesOf (fun x => bit x c) xs
      · cases T.contains c <;> simp [h1, h2] <;> omega
      · cases T.contains c <;> simp [h1, h2] <;> omega
  have e : tot f xs (coreP xs) + ((th f).map fun c => if T.contains c then (wt xs c : Int) else 0).sum = tot f xs (coreP xs) ↔ ((th f).map fun c => if T.contains c then (wt xs c : Int) else 0).sum = 0 := by omega
  rw [e, sum_zero]
  constructor
  · rintro ⟨h1, h2⟩ c hc
    exact (key c).mp ⟨h1 c hc, h2 c hc⟩
  · intro h
    exact ⟨fun c hc => ((key c).mpr (h c hc)).1, fun c hc => ((key c).mpr (h c hc)).2⟩
end Mine
end
section
open PySem PySem.W
set_option maxRecDepth 100000
namespace Mine
noncomputable def boundM (hs : List Pl) : Bool := decide (hs.length ≤ 38) && hs.all fun p => decide (p.length ≤ 50)
noncomputable def runC (n : Nat) (w : List Nat) : Nat → List Pl × List Pl → Option (List Pl × List Pl)
  | 0, st => some st
  | k + 1, st => if boundM st.1 then (match stepM n w st with
    | some st' => runC n w k st'
    | none => none) else none
/-- the sort of the places, every index within -/
noncomputable def sortC (w : List Nat) (ps off : List Pl) : Bool :=
  match kgo (fun i j => match ps[i]?, ps[j]? with | some p, some q => some (ltP w p q) | _, _ => none) (kas_sort ps.length) with
  | some r => (r.toList.all fun i => decide (i < ps.length)) && decide (r.toList.map (fun i => ps.getD i []) = off)
  | none => false
noncomputable def goodC (n : Nat) (w : List Nat) : Bool :=
  match runC n w (2 ^ n) ([[]], []) with
  | some (hs, off) => hs.isEmpty && sortC w (allM n) off
  | none => false
/-- all rising weights of one parity that begin with one weight -/
noncomputable def goodAt (n i p : Nat) : Bool := (ups i 6 n).all fun v => goodC (n + 1) ((i :: v).map (2 * · + p))
theorem good2_0_0 : goodAt 2 0 0 = true := by decide +kernel
theorem good2_0_1 : goodAt 2 0 1 = true := by decide +kernel
theorem good2_1_0 : goodAt 2 1 0 = true := by decide +kernel
theorem good2_1_1 : goodAt 2 1 1 = true := by decide +kernel
theorem good2_2_0 : goodAt 2 2 0 = true := by decide +kernel
theorem good2_2_1 : goodAt 2 2 1 = true := by decide +kernel
theorem good2_3_0 : goodAt 2 3 0 = true := by decide +kernel
theorem good2_3_1 : goodAt 2 3 1 = true := by decide +kernel
theorem good2_4_0 : goodAt 2 4 0 = true := by decide +kernel
theorem good2_4_1 : goodAt 2 4 1 = true := by decide +kernel
theorem good2_5_0 : goodAt 2 5 0 = true := by decide +kernel
theorem good2_5_1 : goodAt 2 5 1 = true := by decide +kernel
theorem good2_6_0 : goodAt 2 6 0 = true := by decide +kernel
theorem good2_6_1 : goodAt 2 6 1 = true := by decide +kernel
theorem good3_0_0 : goodAt 3 0 0 = true := by decide +kernel
theorem good3_0_1 : goodAt 3 0 1 = true := by decide +kernel
theorem good3_1_0 : goodAt 3 1 0 = true := by decide +kernel
theorem good3_1_1 : goodAt 3 1 1 = true := by decide +kernel
theorem good3_2_0 : goodAt 3 2 0 = true := by decide +kernel
theorem good3_2_1 : goodAt 3 2 1 = true := by decide +kernel
theorem good3_3_0 : goodAt 3 3 0 = true := by decide +kernel
theorem good3_3_1 : goodAt 3 3 1 = true := by decide +kernel
theorem good3_4_0 : goodAt 3 4 0 = true := by decide +kernel
theorem good3_4_1 : goodAt 3 4 1 = true := by decide +kernel
theorem good3_5_0 : goodAt 3 5 0 = true := by decide +kernel
theorem good3_5_1 : goodAt 3 5 1 = true := by decide +kernel
theorem good3_6_0 : goodAt 3 6 0 = true := by decide +kernel
theorem good3_6_1 : goodAt 3 6 1 = true := by decide +kernel
theorem good_at2 : ∀ i < 7, ∀ p < 2, goodAt 2 i p = true := by
  intro i hi p hp
  have h1 : i = 0 ∨ i = 1 ∨ i = 2 ∨ i = 3 ∨ i = 4 ∨ i = 5 ∨ i = 6 := by omega
  have h2 : p = 0 ∨ p = 1 := by omega
  rcases h1 with rfl | rfl | rfl | rfl | rfl | rfl | rfl <;> rcases h2 with rfl | rfl
  · exact good2_0_0
  · exact good2_0_1
  · exact good2_1_0
  · exact good2_1_1
  · exact good2_2_0
  · exact good2_2_1
  · exact good2_3_0
  · exact good2_3_1
  · exact good2_4_0
  · exact good2_4_1
  · exact good2_5_0
  · exact good2_5_1
  · exact good2_6_0
  · exact good2_6_1
theorem good_at3 : ∀ i < 7, ∀ p < 2, goodAt 3 i p = true := by
  intro i hi p hp
  have h1 : i = 0 ∨ i = 1 ∨ i = 2 ∨ i = 3 ∨ i = 4 ∨ i = 5 ∨ i = 6 := by omega
  have h2 : p = 0 ∨ p = 1 := by omega
  rcases h1 with rfl | rfl | rfl | rfl | rfl | rfl | rfl <;> rcases h2 with rfl | rfl
  · exact good3_0_0
  · exact good3_0_1
  · exact good3_1_0
  · exact good3_1_1
  · exact good3_2_0
  · exact good3_2_1
  · exact good3_3_0
  · exact good3_3_1
  · exact good3_4_0
  · exact good3_4_1
  · exact good3_5_0
  · exact good3_5_1
  · exact good3_6_0
  · exact good3_6_1
theorem mem_ups : ∀ (n lo hi : Nat) (v : List Nat), v.length = n → v.Pairwise (· ≤ ·) → (∀ x ∈ v, lo ≤ x ∧ x ≤ hi) → v ∈ ups lo hi n
  | 0, lo, hi, v, hl, _, _ => by
    have : v = [] := List.eq_nil_of_length_eq_zero hl
    subst this; simp [ups]
  | n + 1, lo, hi, [], hl, _, _ => by simp at hl
  | n + 1, lo, hi, x :: v, hl, hp, hr => by
    rw [List.pairwise_cons] at hp
    have hx := hr x (.head _)
    rw [ups, List.mem_flatMap]
    refine ⟨x - lo, List.mem_range.mpr (by first | decide | omega), ?_⟩
    have e : lo + (x - lo) = x := by omega
    rw [e]
    exact List.mem_map.mpr ⟨v, mem_ups n x hi v (by simpa using hl) hp.2 fun y hy => ⟨hp.1 y hy, (hr y (.tail _ hy)).2⟩, rfl⟩
theorem good_any {n p : Nat} {w : List Nat} (hn : n = 2 ∨ n = 3) (hp : p < 2) (hl : w.length = n + 1) (hw : w.Pairwise (· ≤ ·)) (hr : ∀ x ∈ w, x ≤ 12 + p ∧ x % 2 = p) : goodC (n + 1) w = true := by
  have ev : w = (w.map (· / 2)).map (2 * · + p) := by
    rw [List.map_map]
    conv => lhs; rw [← List.map_id w]
    apply List.map_congr_left
    intro x hx
    have := hr x hx
    simp only [id, Function.comp]
    omega
  have hpv : (w.map (· / 2)).Pairwise (· ≤ ·) := hw.map _ fun a b h => Nat.div_le_div_right h
  have hrv : ∀ x ∈ w.map (· / 2), x ≤ 6 := fun x hx => by
    obtain ⟨y, hy, rfl⟩ := List.mem_map.mp hx
    have := hr y hy
    omega
  have hlv : (w.map (· / 2)).length = n + 1 := by rw [List.length_map]; exact hl
  rw [ev]
  generalize w.map (· / 2) = v at hpv hrv hlv
  cases v with
  | nil => simp at hlv
  | cons i v =>
    rw [List.pairwise_cons] at hpv
    have hi := hrv i (.head _)
    have hm : v ∈ ups i 6 n := mem_ups n i 6 v (by simpa using hlv) hpv.2 fun x hx => ⟨hpv.1 x hx, hrv x (.tail _ hx)⟩
    have hg : goodAt n i p = true := by
      rcases hn with rfl | rfl
      · exact good_at2 i (by first | decide | omega) p hp
      · exact good_at3 i (by first | decide | omega) p hp
    exact List.all_eq_true.mp hg v hm
end Mine
end
section
open PySem PySem.W
set_option maxRecDepth 100000
set_option linter.unusedVariables false
set_option linter.unusedSimpArgs false
namespace Mine
/-- pairs of a weight and its thing -/
noncomputable def ltW (a b : Nat × Int) : Bool := if a.1 = b.1 then decide (a.2 < b.2) else decide (a.1 < b.1)
noncomputable def encW (a : Nat × Int) : D := .tup [.int (a.1 : Int), .int a.2]
theorem lt_encW (a b : Nat × Int) : D.lt 3 (encW a) (encW b) = some (ltW a b) := by
  unfold encW ltW
  rw [D.lt, D.lt.go, if_pos (.inl (Nat.zero_le 8))]
  by_cases h : a.1 = b.1
  · rw [if_pos (by simp [D.eq, h]), if_pos h, D.lt.go, if_pos (.inl (Nat.zero_le 8))]
    by_cases h2 : a.2 = b.2
    · rw [if_pos (by simp [D.eq, h2]), D.lt.go, h2]; simp
    · rw [if_neg (by simp [D.eq, h2])]; simp [D.lt]
  · rw [if_neg (by simp [D.eq]; omega), if_neg h]
    simp only [D.lt]
    congr 1
    rw [Bool.eq_iff_iff]
    simp
/-- a tournament: who is less of each two -/
noncomputable def tour (n : Nat) (b : Nat → Nat → Bool) (i j : Nat) : Option Bool :=
  if i < n ∧ j < n then some (if i = j then false else if i < j then b i j else !b j i) else none
noncomputable def adjB (r : Nat → Nat → Option Bool) : List Nat → Bool
  | i :: j :: l => (match r i j with | some true => true | _ => false) && adjB r (j :: l)
  | _ => true
noncomputable def sortedB (n : Nat) (b : Nat → Nat → Bool) : Bool :=
  match kgo (tour n b) (kas_sort n) with
  | some r => r.toList.isPerm (List.range n) && adjB (tour n b) r.toList
  | none => false
noncomputable def b3 (x01 x02 x12 : Bool) (i j : Nat) : Bool := if i = 0 then (if j = 1 then x01 else x02) else x12
noncomputable def b4 (x01 x02 x03 x12 x13 x23 : Bool) (i j : Nat) : Bool := if i = 0 then (if j = 1 then x01 else if j = 2 then x02 else x03) else if i = 1 then (if j = 2 then x12 else x13) else x23
noncomputable def isT (o : Option Bool) : Bool := match o with | some true => true | _ => false
noncomputable def transB (n : Nat) (r : Nat → Nat → Option Bool) : Bool :=
  (List.range n).all fun i => (List.range n).all fun j => (List.range n).all fun k => !isT (r i j) || !isT (r j k) || isT (r i k)
theorem sorted3 : ∀ x01 x02 x12, sortedB 3 (b3 x01 x02 x12) = true := by decide +kernel
theorem sorted4 : ∀ x01 x02 x03 x12 x13 x23, (!transB 4 (tour 4 (b4 x01 x02 x03 x12 x13 x23)) || sortedB 4 (b4 x01 x02 x03 x12 x13 x23)) = true := by decide +kernel

theorem ltW_trans {a b c : Nat × Int} (h1 : ltW a b = true) (h2 : ltW b c = true) : ltW a c = true := by
  unfold ltW at *
  split at h1 <;> split at h2 <;> simp at h1 h2 <;> split <;> simp <;> omega
theorem ltW_self (a : Nat × Int) : ltW a a = false := by simp [ltW]
theorem ltW_flip {a b : Nat × Int} (h : a.2 ≠ b.2) : ltW a b = !ltW b a := by
  unfold ltW
  by_cases e : a.1 = b.1
  · rw [if_pos e, if_pos e.symm, Bool.eq_iff_iff]; simp; omega
  · rw [if_neg e, if_neg (Ne.symm e), Bool.eq_iff_iff]; simp; omega
theorem ltW_le {a b : Nat × Int} (h : ltW a b = true) : a.1 ≤ b.1 := by
  unfold ltW at h
  split at h
  · omega
  · simp at h; omega
/-- what the sort asks of the pairs -/
noncomputable def askW (qs : List (Nat × Int)) (i j : Nat) : Option Bool := match qs[i]?, qs[j]? with | some p, some q => some (ltW p q) | _, _ => none
theorem ltAt_encW (qs : List (Nat × Int)) : D.ltAt (qs.map encW) = askW qs := by
  funext i j
  unfold D.ltAt askW
  rw [List.getElem?_map, List.getElem?_map]
  cases qs[i]? <;> cases qs[j]? <;> simp [lt_encW]
theorem ask3 {a b c : Nat × Int} (h1 : a.2 ≠ b.2) (h2 : a.2 ≠ c.2) (h3 : b.2 ≠ c.2) : askW [a, b, c] = tour 3 (b3 (ltW a b) (ltW a c) (ltW b c)) := by
  funext i j
  match i, j with
  | 0, 0 | 1, 1 | 2, 2 => simp [askW, tour, ltW_self]
  | 0, 1 | 0, 2 | 1, 2 => simp [askW, tour, b3]
  | 1, 0 => simp [askW, tour, b3, ltW_flip (Ne.symm h1)]
  | 2, 0 => simp [askW, tour, b3, ltW_flip (Ne.symm h2)]
  | 2, 1 => simp [askW, tour, b3, ltW_flip (Ne.symm h3)]
  | i + 3, j => simp [askW, tour]; omega
  | 0, j + 3 | 1, j + 3 | 2, j + 3 => simp [askW, tour]
theorem ask4 {a b c d : Nat × Int} (h1 : a.2 ≠ b.2) (h2 : a.2 ≠ c.2) (h3 : a.2 ≠ d.2) (h4 : b.2 ≠ c.2) (h5 : b.2 ≠ d.2) (h6 : c.2 ≠ d.2) : askW [a, b, c, d] = tour 4 (b4 (ltW a b) (ltW a c) (ltW a d) (ltW b c) (ltW b d) (ltW c d)) := by
  funext i j
  match i, j with
  | 0, 0 | 1, 1 | 2, 2 | 3, 3 => simp [askW, tour, ltW_self]
  | 0, 1 | 0, 2 | 0, 3 | 1, 2 | 1, 3 | 2, 3 => simp [askW, tour, b4]
  | 1, 0 => simp [askW, tour, b4, ltW_flip (Ne.symm h1)]
  | 2, 0 => simp [askW, tour, b4, ltW_flip (Ne.symm h2)]
  | 3, 0 => simp [askW, tour, b4, ltW_flip (Ne.symm h3)]
  | 2, 1 => simp [askW, tour, b4, ltW_flip (Ne.symm h4)]
  | 3, 1 => simp [askW, tour, b4, ltW_flip (Ne.symm h5)]
  | 3, 2 => simp [askW, tour, b4, ltW_flip (Ne.symm h6)]
  | i + 4, j => simp [askW, tour]; omega
  | 0, j + 4 | 1, j + 4 | 2, j + 4 | 3, j + 4 => simp [askW, tour]
theorem ask_trans (qs : List (Nat × Int)) (n : Nat) : transB n (askW qs) = true := by
  unfold transB
  simp only [List.all_eq_true]
  intro i _ j _ k _
  unfold askW
  cases qs[i]? <;> cases qs[j]? <;> cases qs[k]? <;> simp [isT]
  rename_i x y z
  cases h1 : ltW x y <;> cases h2 : ltW y z <;> simp
  simp [ltW_trans h1 h2]
/-- what the check says of the pairs -/
theorem sort_pairs {qs : List (Nat × Int)} {b : Nat → Nat → Bool} {n : Nat} (hn : qs.length = n) (ha : askW qs = tour n b) (hs : sortedB n b = true) (hl : 2 ≤ n) :
    ∃ ps, D.sort (qs.map encW) = some (ps.map encW) ∧ ps.Perm qs ∧ (wOf ps).Pairwise (· ≤ ·) := by
  unfold sortedB at hs
  rw [← ha] at hs
  cases hk : kgo (askW qs) (kas_sort n) with
  | none => rw [hk] at hs; cases hs
  | some r =>
    rw [hk] at hs
    simp only [Bool.and_eq_true] at hs
    obtain ⟨hperm, hadj⟩ := hs
    have hperm := List.isPerm_iff.mp hperm
    have hlt : ∀ i ∈ r.toList, i < qs.length := fun i hi => by rw [hn]; exact List.mem_range.mp (hperm.mem_iff.mp hi)
    refine ⟨r.toList.map fun i => qs.getD i (0, 0), ?_, ?_, ?_⟩
    · unfold D.sort
      rw [if_neg, if_pos, List.length_map, hn, ltAt_encW, hk]
      · simp only [Option.map_some, List.map_map]
        congr 1
        apply List.map_congr_left
        intro i hi
        have := hlt i hi
        simp [List.getD_eq_getElem?_getD, List.getElem?_eq_getElem this]
      · simp [hn, hl, encW, D.pairKey]
      · cases qs with
        | nil => simp at hn; omega
        | cons q qs => simp [encW, D.isInt]
    · have : (List.range n).map (fun i => qs.getD i (0, 0)) = qs := by
        apply List.ext_getElem
        · simp [hn]
        · intro i h1 h2
          simp [List.getD_eq_getElem?_getD, h2]
      conv => rhs; rw [← this]
      exact hperm.map _
    · have : ∀ l : List Nat, (∀ i ∈ l, i < qs.length) → adjB (askW qs) l = true → (l.map fun i => qs.getD i (0, 0)).Pairwise (fun a b => ltW a b = true) := by
        intro l
        induction l with
        | nil => intro _ _; exact .nil
        | cons i l ih =>
          intro h1 h2
          cases l with
          | nil => simp
          | cons j l =>
            simp only [adjB, Bool.and_eq_true] at h2
            have ih := ih (fun k hk => h1 k (.tail _ hk)) h2.2
            have hi := h1 i (.head _)
            have hj := h1 j (.tail _ (.head _))
            have e : ltW (qs.getD i (0, 0)) (qs.getD j (0, 0)) = true := by
              have := h2.1
              unfold askW at this
              rw [List.getElem?_eq_getElem hi, List.getElem?_eq_getElem hj] at this
              simp only at this
              rw [List.getD_eq_getElem?_getD, List.getD_eq_getElem?_getD, List.getElem?_eq_getElem hi, List.getElem?_eq_getElem hj]
              simp only [Option.getD_some]
              cases hh : ltW qs[i] qs[j] with
              | true => rfl
              | false => rw [hh] at this; simp at this
            rw [List.map_cons, List.pairwise_cons]
            refine ⟨?_, ih⟩
            rw [List.map_cons, List.pairwise_cons] at ih
            intro x hx
            rcases List.mem_cons.mp hx with rfl | hx
            · exact e
            · exact ltW_trans e (ih.1 x hx)
      have := this r.toList hlt hadj
      unfold wOf
      exact this.map _ fun a b h => ltW_le h
theorem sort_th (f : Bool) (g : Int → Nat) : ∃ ps, D.sort ((th f).map fun c => encW (g c, c)) = some (ps.map encW) ∧ ps.Perm ((th f).map fun c => (g c, c)) ∧ (wOf ps).Pairwise (· ≤ ·) := by
  have e : ((th f).map fun c => encW (g c, c)) = ((th f).map fun c => (g c, c)).map encW := by rw [List.map_map]; rfl
  rw [e]
  cases f with
  | false => exact sort_pairs (n := 3) rfl (ask3 (a := (g 0, 0)) (b := (g 1, 1)) (c := (g 2, 2)) (show (0 : Int) ≠ 1 by decide) (show (0 : Int) ≠ 2 by decide) (show (1 : Int) ≠ 2 by decide)) (sorted3 ..) (by decide)
  | true =>
    have ha := ask4 (a := (g 0, 0)) (b := (g 1, 1)) (c := (g 2, 2)) (d := (g 3, 3)) (show (0 : Int) ≠ 1 by decide) (show (0 : Int) ≠ 2 by decide) (show (0 : Int) ≠ 3 by decide) (show (1 : Int) ≠ 2 by decide) (show (1 : Int) ≠ 3 by decide) (show (2 : Int) ≠ 3 by decide)
    have hs := sorted4 (ltW (g 0, 0) (g 1, 1)) (ltW (g 0, 0) (g 2, 2)) (ltW (g 0, 0) (g 3, 3)) (ltW (g 1, 1) (g 2, 2)) (ltW (g 1, 1) (g 3, 3)) (ltW (g 2, 2) (g 3, 3))
    rw [← ha, ask_trans] at hs
    exact sort_pairs (n := 4) rfl ha (by simpa using hs) (by decide)
end Mine
end
section
open PySem PySem.W
set_option maxRecDepth 100000
set_option linter.unusedVariables false
set_option linter.unusedSimpArgs false
namespace Mine
theorem perm_sum {α : Type} {a b : List α} (h : a.Perm b) (g : α → Int) : (a.map g).sum = (b.map g).sum := by
  induction h with
  | nil => rfl
  | cons x _ ih => simp only [List.map_cons, List.sum_cons, ih]
  | swap x y l => simp only [List.map_cons, List.sum_cons]; omega
  | trans _ _ h1 h2 => rw [h1, h2]
theorem cost_filter (w : List Nat) (t : Nat → Bool) : ∀ l : List Nat, (l.map fun i => if t i then (w.getD i 0 : Int) else 0).sum = (cost w (l.filter t) : Int)
  | [] => rfl
  | i :: l => by
    rw [List.map_cons, List.sum_cons, cost_filter w t l, List.filter_cons]
    cases t i
    · simp
    · simp only [if_true, cost]; push_cast; rfl
theorem turn_contains {ps : List (Nat × Int)} (hd : (ps.map (·.2)).Nodup) (t : Nat → Bool) {i : Nat} (hi : i < ps.length) : (turnL ps ((List.range ps.length).filter t)).contains (ps.getD i (0, 0)).2 = t i := by
  rw [Bool.eq_iff_iff, List.contains_iff_mem]
  unfold turnL
  constructor
  · intro h
    obtain ⟨j, hj, e⟩ := List.mem_map.mp h
    obtain ⟨hj, htj⟩ := List.mem_filter.mp hj
    have hj := List.mem_range.mp hj
    simp only [List.getD_eq_getElem?_getD, List.getElem?_eq_getElem hi, List.getElem?_eq_getElem hj, Option.getD_some] at e
    have : (ps.map (·.2))[j]'(by simpa using hj) = (ps.map (·.2))[i]'(by simpa using hi) := by simpa using e
    have := (List.getElem_inj hd).mp this
    rw [← this]; exact htj
  · intro h
    exact List.mem_map.mpr ⟨i, List.mem_filter.mpr ⟨List.mem_range.mpr hi, h⟩, rfl⟩
theorem sum_turn {ps : List (Nat × Int)} (hd : (ps.map (·.2)).Nodup) (t : Nat → Bool) :
    (ps.map fun q => if (turnL ps ((List.range ps.length).filter t)).contains q.2 then (q.1 : Int) else 0).sum = (cost (wOf ps) ((List.range ps.length).filter t) : Int) := by
  rw [← cost_filter]
  have e : ps = (List.range ps.length).map fun i => ps.getD i (0, 0) := by
    apply List.ext_getElem
    · simp
    · intro i h1 h2
      simp [List.getD_eq_getElem?_getD, h1]
  have e2 : (ps.map fun q => if (turnL ps ((List.range ps.length).filter t)).contains q.2 then (q.1 : Int) else 0) = ((List.range ps.length).map fun i => ps.getD i (0, 0)).map fun q => if (turnL ps ((List.range ps.length).filter t)).contains q.2 then (q.1 : Int) else 0 := by
    rw [← e]
  rw [e2, List.map_map]
  congr 1
  apply List.map_congr_left
  intro i hi
  have hi := List.mem_range.mp hi
  simp only [Function.comp]
  rw [turn_contains hd t hi]
  have : (ps.getD i (0, 0)).1 = (wOf ps).getD i 0 := by
    unfold wOf
    simp [List.getD_eq_getElem?_getD, List.getElem?_eq_getElem hi]
  rw [this]
theorem prices_ok {xs : List Int} (f : Bool) (hx : xs.length ≤ 12) : ∃ ps, D.sort (prl f xs) = some (ps.map encW) ∧ ps.length = (th f).length ∧ goodC (th f).length (wOf ps) = true ∧
    ∀ k, tot f xs (chP xs (turnL ps (pickM (th f).length k))) = tot f xs (coreP xs) + cost (wOf ps) (pickM (th f).length k) := by
  obtain ⟨ps, h1, h2, h3⟩ := sort_th f (wt xs)
  have hl : ps.length = (th f).length := by rw [h2.length_eq, List.length_map]
  have hnd : (ps.map (·.2)).Nodup := by
    have := (h2.map (·.2)).nodup_iff
    rw [this, List.map_map]
    have e : (th f).map ((fun x : Nat × Int => x.2) ∘ fun c => (wt xs c, c)) = th f := List.map_id (th f)
    rw [e]
    cases f <;> decide
  refine ⟨ps, ?_, hl, ?_, ?_⟩
  · rw [← h1]
    congr 1
    unfold prl
    apply List.map_congr_left
    intro c hc
    rw [prc_wt hc]; rfl
  · have hw : ∀ x ∈ wOf ps, x ≤ 12 + xs.length % 2 ∧ x % 2 = xs.length % 2 := fun x hx' => by
      unfold wOf at hx'
      obtain ⟨q, hq, rfl⟩ := List.mem_map.mp hx'
      have := h2.mem_iff.mp hq
      obtain ⟨c, hc, rfl⟩ := List.mem_map.mp this
      have := ones_le (fun x => bit x c) xs
      simp only [wt, aOf]
      omega
    have hlw : (wOf ps).length = (th f).length := by unfold wOf; rw [List.length_map, hl]
    cases f with
    | false => exact good_any (n := 2) (.inl rfl) (Nat.mod_lt _ (by decide)) hlw h3 hw
    | true => exact good_any (n := 3) (.inr rfl) (Nat.mod_lt _ (by decide)) hlw h3 hw
  · intro k
    rw [tot_flip]
    congr 1
    have := sum_turn hnd (fun i => (k >>> i) % 2 == 1)
    rw [hl] at this
    unfold pickM
    rw [← this, perm_sum h2, List.map_map]
    rfl
end Mine
end
section
open PySem PySem.W
set_option maxRecDepth 100000
set_option linter.unusedVariables false
set_option linter.unusedSimpArgs false
namespace Mine
theorem suM_len {α : Type} (lt : α → α → Bool) : ∀ (n : Nat) (hs : List α) (pos : Nat), (suM lt n hs pos).1.length = hs.length
  | 0, hs, pos => rfl
  | n + 1, hs, pos => by
    unfold suM
    split
    · rfl
    · split
      · rw [suM_len lt n]; simp
      · split
        · rw [suM_len lt n]; simp
        · rw [suM_len lt n]; simp
theorem pop_facts {α : Type} {lt : α → α → Bool} {hs hs1 : List α} {y : α} (h : popM lt hs = some (y, hs1)) : y ∈ hs ∧ hs1.length ≤ hs.length := by
  unfold popM at h
  cases hlast : hs.getLast? with
  | none => rw [hlast] at h; cases h
  | some last =>
    rw [hlast] at h
    simp only at h
    have hm : last ∈ hs := List.mem_of_getLast? hlast
    cases hd : hs.dropLast with
    | nil =>
      rw [hd] at h
      cases h
      exact ⟨hm, Nat.zero_le _⟩
    | cons a r =>
      rw [hd] at h
      cases h
      have hlen : (y :: r).length ≤ hs.length := by rw [← hd, List.length_dropLast]; omega
      refine ⟨List.dropLast_subset hs (by rw [hd]; exact .head _), ?_⟩
      unfold siftM
      dsimp only
      rw [sdM_len, List.length_set, suM_len, List.length_set]
      exact hlen

/-- what the loop keeps -/
structure LK (ρ : Rho) (f : Bool) (ps : List (Nat × Int)) (xs : List Int) : Prop where
  ls : LS ρ f ps (tot f xs (coreP xs))
  g33 : getV ρ 33 = some (.dat (gvn f xs))
  g38 : getV ρ 38 = some (.dat (dI ((th f).filter (coreP xs))))
  g39 : getV ρ 39 = some (.dat (dI ((th f).filter (rimP xs))))
theorem LK.keep {ρ ρ' : Rho} {f : Bool} {ps : List (Nat × Int)} {xs : List Int} (h : LK ρ f ps xs) (e : ∀ x, x < 44 → getV ρ' x = getV ρ x) : LK ρ' f ps xs :=
  ⟨⟨by rw [e _ (by decide)]; exact h.ls.h0, by rw [e _ (by decide)]; exact h.ls.h42, by rw [e _ (by decide)]; exact h.ls.h43, by rw [e _ (by decide)]; exact h.ls.h32, by rw [e _ (by decide)]; exact h.ls.h41, by rw [e _ (by decide)]; exact h.ls.h40⟩,
    by rw [e _ (by decide)]; exact h.g33, by rw [e _ (by decide)]; exact h.g38, by rw [e _ (by decide)]; exact h.g39⟩

section
variable {f : Bool} {ps : List (Nat × Int)} {xs : List Int}
theorem loop_all {n : Nat} (hn : 390 ≤ n) (hx : xs.length ≤ 12) (hps : ps.length = (th f).length)
    (hc : ∀ k, tot f xs (chP xs (turnL ps (pickM (th f).length k))) = tot f xs (coreP xs) + cost (wOf ps) (pickM (th f).length k)) :
    ∀ (j k : Nat) (ρ : Rho) (hs off hs' off' : List Pl), LK ρ f ps xs → runC (th f).length (wOf ps) j (hs, off) = some (hs', off') → off.length = k → k + j ≤ 90 →
    ∃ ρ', exFor (fun ρ W => exSeq (fun s ρ W => exS fns n 0 ρ s W) (loopHead ++ loopTail) ρ W) 44 ((List.range' k j).map fun (i : Nat) => D.int (i : Int)) ρ
      [some (hs.map (encP (wOf ps) (tot f xs (coreP xs)))), some (off.map (encP (wOf ps) (tot f xs (coreP xs)))), some (((List.range k).map (pickM (th f).length)).map (encP (wOf ps) (tot f xs (coreP xs))))] =
      .ok .next ρ' [some (hs'.map (encP (wOf ps) (tot f xs (coreP xs)))), some (off'.map (encP (wOf ps) (tot f xs (coreP xs)))), some (((List.range (k + j)).map (pickM (th f).length)).map (encP (wOf ps) (tot f xs (coreP xs))))] ∧ LK ρ' f ps xs
  | 0, k, ρ, hs, off, hs', off', L, hr, ho, hk => by
    cases hr
    exact ⟨ρ, rfl, L⟩
  | j + 1, k, ρ, hs, off, hs', off', L, hr, ho, hk => by
    unfold runC at hr
    split at hr
    case isFalse => cases hr
    rename_i hb
    unfold boundM at hb
    simp only [Bool.and_eq_true, List.all_eq_true, decide_eq_true_eq] at hb
    cases hp : popM (ltP (wOf ps)) hs with
    | none =>
      have : stepM (th f).length (wOf ps) (hs, off) = none := by unfold stepM; simp only [hp]
      rw [this] at hr
      cases hr
    | some r =>
      obtain ⟨y, hs1⟩ := r
      rw [step_eq hp] at hr
      simp only at hr
      obtain ⟨hy, hl1⟩ := pop_facts hp
      have hy' := hb.2 y hy
      rw [List.range'_succ, List.map_cons, exFor]
      have L1 : LK (setV 44 (.dat (.int (k : Int))) ρ) f ps xs := L.keep fun x hx => getV_set_ne _ _ (by first | decide | omega)
      obtain ⟨ρ1, e1, k1⟩ := loop_head (n := n) (due := ((List.range k).map (pickM (th f).length)).map (encP (wOf ps) (tot f xs (coreP xs)))) (off := off) hn L1.ls hps hp (by first | decide | omega) (by first | decide | omega) (by first | decide | omega) (by first | decide | omega) loopTail
      have L2 : LK ρ1 f ps xs := L1.keep fun x hx => k1 x (by first | decide | omega) (by first | decide | omega) (by first | decide | omega)
      have g44 : getV ρ1 44 = some (.dat (.int (k : Int))) := by rw [k1 _ (by decide) (by decide) (by decide), getV_set_self]
      obtain ⟨ρ2, e2, k2⟩ := loop_tail (n := n) (k := k) (h := some ((nextM (th f).length (wOf ps) hs1 y).map (encP (wOf ps) (tot f xs (coreP xs))))) (o := some ((off ++ [y]).map (encP (wOf ps) (tot f xs (coreP xs))))) (due := ((List.range k).map (pickM (th f).length)).map (encP (wOf ps) (tot f xs (coreP xs)))) (by first | decide | omega) L2.ls hx hps L2.g33 L2.g38 L2.g39 g44 (by simp; omega) rfl (hb_of f xs _)
      have L3 : LK ρ2 f ps xs := L2.keep fun x hx => k2 x (by first | decide | omega) (by first | decide | omega) (by first | decide | omega) (by first | decide | omega) (by first | decide | omega) (by first | decide | omega)
      rw [hc k] at e2
      have hdue : ((List.range k).map (pickM (th f).length)).map (encP (wOf ps) (tot f xs (coreP xs))) ++ [.tup [.int (tot f xs (coreP xs) + cost (wOf ps) (pickM (th f).length k)), plD (pickM (th f).length k)]] = ((List.range (k + 1)).map (pickM (th f).length)).map (encP (wOf ps) (tot f xs (coreP xs))) := by
        rw [List.range_succ, List.map_append, List.map_append]; rfl
      rw [hdue] at e2
      rw [e1, e2]
      simp only
      obtain ⟨ρ', e3, L4⟩ := loop_all hn hx hps hc j (k + 1) ρ2 (nextM (th f).length (wOf ps) hs1 y) (off ++ [y]) hs' off' L3 hr (by simp [ho]) (by first | decide | omega)
      refine ⟨ρ', ?_, L4⟩
      rw [e3]
      have : k + 1 + j = k + (j + 1) := by omega
      rw [this]
end
end Mine
end
section
open PySem PySem.W
set_option maxRecDepth 100000
set_option linter.unusedVariables false
set_option linter.unusedSimpArgs false
namespace Mine
theorem sort_due {w : List Nat} {least : Int} {ps off : List Pl} (hl : 2 ≤ ps.length) (h : sortC w ps off = true) : D.sort (ps.map (encP w least)) = some (off.map (encP w least)) := by
  have ea : D.ltAt (ps.map (encP w least)) = fun i j => match ps[i]?, ps[j]? with | some p, some q => some (ltP w p q) | _, _ => none := by
    funext i j
    unfold D.ltAt
    rw [List.getElem?_map, List.getElem?_map]
    cases ps[i]? <;> cases ps[j]? <;> simp [lt_enc]
  have h : (match kgo (D.ltAt (ps.map (encP w least))) (kas_sort ps.length) with
    | some r => (r.toList.all fun i => decide (i < ps.length)) && decide (r.toList.map (fun i => ps.getD i []) = off)
    | none => false) = true := by rw [ea]; exact h
  unfold D.sort
  rw [if_neg, if_pos, List.length_map]
  · cases hk : kgo (D.ltAt (ps.map (encP w least))) (kas_sort ps.length) with
    | none => rw [hk] at h; cases h
    | some r =>
      rw [hk] at h
      simp only [Bool.and_eq_true, List.all_eq_true, decide_eq_true_eq] at h
      simp only [Option.map_some]
      congr 1
      rw [← h.2, List.map_map]
      apply List.map_congr_left
      intro i hi
      have := h.1 i hi
      simp [List.getD_eq_getElem?_getD, List.getElem?_eq_getElem this]
  · simp only [Bool.and_eq_true, List.all_eq_true, decide_eq_true_eq, List.length_map]
    refine ⟨fun d hd => ?_, hl⟩
    obtain ⟨p, _, rfl⟩ := List.mem_map.mp hd
    rfl
  · cases ps with
    | nil => simp at hl
    | cons q qs => simp [encP, D.isInt]
theorem eq_enc (w : List Nat) (least : Int) (p : Pl) : D.eq (encP w least p) (encP w least p) = true := by
  simp [encP, D.eq, D.eqs, eqs_ints]
theorem eqs_enc (w : List Nat) (least : Int) : ∀ l : List Pl, D.eqs (l.map (encP w least)) (l.map (encP w least)) = true
  | [] => by simp [D.eqs]
  | p :: l => by rw [List.map_cons, D.eqs, eq_enc, eqs_enc w least l]; rfl
theorem dep_enc (w : List Nat) (least : Int) (l : List Pl) : D.dep (.list (l.map (encP w least))) ≤ 8 := by
  have : D.deps (l.map (encP w least)) ≤ 2 := by
    induction l with
    | nil => simp [D.deps]
    | cons p l ih =>
      rw [List.map_cons, D.deps]
      have : (encP w least p).dep = 2 := by simp [encP, D.dep, D.deps, deps_ints]
      omega
  rw [D.dep]; omega
theorem law_end {n : Nat} {ρ : Rho} {w : List Nat} {least : Int} {ps off : List Pl} (hn : 10 ≤ n) (h0 : getV ρ 0 = some (.mref 0)) (h42 : getV ρ 42 = some (.mref 1)) (h43 : getV ρ 43 = some (.mref 2)) (hl : 2 ≤ ps.length) (hu : ps.length < 64) (h : sortC w ps off = true) :
    exS fns n 0 ρ lawEnd [some [], some (off.map (encP w least)), some (ps.map (encP w least))] = .ok (.ret (.bool true)) ρ [none, none, none] := by
  obtain ⟨m, rfl⟩ : ∃ m, n = m + 6 := ⟨n - 6, by omega⟩
  unfold lawEnd
  have e1 : evE fns (m + 4) 0 ρ (.cmp .eq (.var 0) (.list [])) [some [], some (off.map (encP w least)), some (ps.map (encP w least))] = .ok (.bool true) [none, some (off.map (encP w least)), some (ps.map (encP w least))] := by
    rw [evE, evE, h0]
    simp only [List.getElem?_cons_zero, List.set_cons_zero, Res.bind]
    rw [pe_list (N := 1) pes_nil (by decide) (m + 3) (by first | decide | omega)]
    rfl
  have e2 : evE fns (m + 4) 0 ρ (.cmp .eq (.var 42) (.bi .sorted (.var 43))) [none, some (off.map (encP w least)), some (ps.map (encP w least))] = .ok (.bool true) [none, none, none] := by
    rw [evE, evE, h42]
    simp only [List.getElem?_cons_zero, List.getElem?_cons_succ, List.set_cons_zero, List.set_cons_succ, Res.bind]
    rw [evE, if_pos rfl, evE, h43]
    simp only [List.getElem?_cons_zero, List.getElem?_cons_succ, List.set_cons_zero, List.set_cons_succ, Res.bind]
    unfold biD
    simp only
    rw [if_pos (by rw [List.length_map]; exact hu), sort_due hl h]
    simp only [Option.map_some, optR]
    unfold cmpD
    simp only
    rw [if_pos (.inl (dep_enc w least off)), D.eq, eqs_enc]
  rw [exS, evE, e1]
  simp only [Res.bind]
  rw [e2]
  rfl
theorem seq_app {f : S → Rho → Sto → SRes} : ∀ {a b : List S} {ρ ρ1 : Rho} {W W1 : Sto}, exSeq f a ρ W = .ok .next ρ1 W1 → exSeq f (a ++ b) ρ W = exSeq f b ρ1 W1
  | [], b, ρ, ρ1, W, W1, h => by cases h; rfl
  | s :: a, b, ρ, ρ1, W, W1, h => by
    rw [exSeq] at h
    rw [List.cons_append, exSeq]
    cases hs : f s ρ W with
    | ok fl r V =>
      rw [hs] at h
      cases fl with
      | next => exact seq_app (a := a) h
      | _ => cases h
    | exc c r V => rw [hs] at h; cases h
    | bad => rw [hs] at h; cases h
theorem law_pre {n : Nat} {ns xs : List Int} {f : Bool} {ps : List (Nat × Int)} (hn : 200 ≤ n) (hl : ns.length ≤ 63) (hf : f = decide (2 ≤ ns.length)) (hx : xs = [3, 6] ++ ns.take 10) (hs : D.sort (prl f xs) = some (ps.map encW)) :
    ∃ ρ, exSeq (fun s ρ W => exS fns n 0 ρ s W) lawPre [(31, .dat (dI ns))] [] = .ok .next ρ [some ([[]].map (encP (wOf ps) (tot f xs (coreP xs)))), some [], some []] ∧ LK ρ f ps xs := by
  have hx12 : xs.length ≤ 12 := by rw [hx]; simp; omega
  have hx0 : 0 < xs.length := by rw [hx]; simp
  obtain ⟨m, rfl⟩ : ∃ m, n = m + 1 := ⟨n - 1, by omega⟩
  unfold lawPre
  have g31 : getV [(31, V.dat (dI ns))] 31 = some (.dat (dI ns)) := rfl
  rw [seq_cons (asg_pure (pe_things hf (by first | decide | omega) g31) (by first | decide | omega) _)]
  generalize h1 : setV 32 (.dat (dI (th f))) [(31, V.dat (dI ns))] = ρ1
  have a31 : getV ρ1 31 = some (.dat (dI ns)) := by rw [← h1, getV_set_ne _ _ (by decide)]; exact g31
  have a32 : getV ρ1 32 = some (.dat (dI (th f))) := by rw [← h1, getV_set_self]
  rw [seq_cons (asg_pure (pe_given hx (by first | decide | omega) a31 a32) (by first | decide | omega) _)]
  generalize h2 : setV 33 (.dat (gvn f xs)) ρ1 = ρ2
  have b32 : getV ρ2 32 = some (.dat (dI (th f))) := by rw [← h2, getV_set_ne _ _ (by decide)]; exact a32
  have b33 : getV ρ2 33 = some (.dat (gvn f xs)) := by rw [← h2, getV_set_self]
  rw [seq_cons (asg_pure (pe_marks hx12 b32 b33) (by first | decide | omega) _)]
  generalize h3 : setV 36 (.dat (mks f xs)) ρ2 = ρ3
  have c32 : getV ρ3 32 = some (.dat (dI (th f))) := by rw [← h3, getV_set_ne _ _ (by decide)]; exact b32
  have c33 : getV ρ3 33 = some (.dat (gvn f xs)) := by rw [← h3, getV_set_ne _ _ (by decide)]; exact b33
  have c36 : getV ρ3 36 = some (.dat (mks f xs)) := by rw [← h3, getV_set_self]
  rw [seq_cons (asg_pure (pe_core (P := coreP xs) (fun c => by have := pc_low (b := fun x => bit x c) hx0 (by first | decide | omega); unfold coreP; simpa using this) c32 c36) (by first | decide | omega) _)]
  generalize h4 : setV 38 (.dat (dI ((th f).filter (coreP xs)))) ρ3 = ρ4
  have d32 : getV ρ4 32 = some (.dat (dI (th f))) := by rw [← h4, getV_set_ne _ _ (by decide)]; exact c32
  have d33 : getV ρ4 33 = some (.dat (gvn f xs)) := by rw [← h4, getV_set_ne _ _ (by decide)]; exact c33
  have d36 : getV ρ4 36 = some (.dat (mks f xs)) := by rw [← h4, getV_set_ne _ _ (by decide)]; exact c36
  have d38 : getV ρ4 38 = some (.dat (dI ((th f).filter (coreP xs)))) := by rw [← h4, getV_set_self]
  rw [seq_cons (asg_pure (pe_core (P := rimP xs) (fun c => by have := pc_high (b := fun x => bit x c) hx0 (by first | decide | omega); unfold rimP; simpa using this) d32 d36) (by first | decide | omega) _)]
  generalize h5 : setV 39 (.dat (dI ((th f).filter (rimP xs)))) ρ4 = ρ5
  have e32 : getV ρ5 32 = some (.dat (dI (th f))) := by rw [← h5, getV_set_ne _ _ (by decide)]; exact d32
  have e33 : getV ρ5 33 = some (.dat (gvn f xs)) := by rw [← h5, getV_set_ne _ _ (by decide)]; exact d33
  have e38 : getV ρ5 38 = some (.dat (dI ((th f).filter (coreP xs)))) := by rw [← h5, getV_set_ne _ _ (by decide)]; exact d38
  have e39 : getV ρ5 39 = some (.dat (dI ((th f).filter (rimP xs)))) := by rw [← h5, getV_set_self]
  rw [seq_cons (asg_pure (pe_least trivial e38 e33) (by first | decide | omega) _)]
  generalize h6 : setV 40 (.dat (.int (tot f xs (coreP xs)))) ρ5 = ρ6
  have f32 : getV ρ6 32 = some (.dat (dI (th f))) := by rw [← h6, getV_set_ne _ _ (by decide)]; exact e32
  have f33 : getV ρ6 33 = some (.dat (gvn f xs)) := by rw [← h6, getV_set_ne _ _ (by decide)]; exact e33
  have f38 : getV ρ6 38 = some (.dat (dI ((th f).filter (coreP xs)))) := by rw [← h6, getV_set_ne _ _ (by decide)]; exact e38
  have f39 : getV ρ6 39 = some (.dat (dI ((th f).filter (rimP xs)))) := by rw [← h6, getV_set_ne _ _ (by decide)]; exact e39
  have f40 : getV ρ6 40 = some (.dat (.int (tot f xs (coreP xs)))) := by rw [← h6, getV_set_self]
  rw [seq_cons (asg_pure (pe_prices f32 f33 f38 f40 hs) (by first | decide | omega) _)]
  have ep : D.list (ps.map encW) = prD ps := rfl
  rw [ep]
  generalize h7 : setV 41 (.dat (prD ps)) ρ6 = ρ7
  have g32 : getV ρ7 32 = some (.dat (dI (th f))) := by rw [← h7, getV_set_ne _ _ (by decide)]; exact f32
  have g33 : getV ρ7 33 = some (.dat (gvn f xs)) := by rw [← h7, getV_set_ne _ _ (by decide)]; exact f33
  have g38 : getV ρ7 38 = some (.dat (dI ((th f).filter (coreP xs)))) := by rw [← h7, getV_set_ne _ _ (by decide)]; exact f38
  have g39 : getV ρ7 39 = some (.dat (dI ((th f).filter (rimP xs)))) := by rw [← h7, getV_set_ne _ _ (by decide)]; exact f39
  have g40 : getV ρ7 40 = some (.dat (.int (tot f xs (coreP xs)))) := by rw [← h7, getV_set_ne _ _ (by decide)]; exact f40
  have g41 : getV ρ7 41 = some (.dat (prD ps)) := by rw [← h7, getV_set_self]
  have n0 : exS fns (m + 1) 0 ρ7 (.new 0 [.tup [.var 40, .tup []]]) [] = .ok .next (setV 0 (.mref 0) ρ7) [some [.tup [.int (tot f xs (coreP xs)), .tup []]]] := by
    rw [exS, if_pos rfl, pes_cons (pe_tup (N := 2) (pes_cons ((pe_var g40).mono (by first | decide | omega)) (pes_cons pe_nil pes_nil)) (show 2 ≤ 1000 by decide)) pes_nil m (by first | decide | omega)]
    rfl
  have n1 : exS fns (m + 1) 0 (setV 0 (.mref 0) ρ7) (.new 42 []) [some [.tup [.int (tot f xs (coreP xs)), .tup []]]] = .ok .next (setV 42 (.mref 1) (setV 0 (.mref 0) ρ7)) [some [.tup [.int (tot f xs (coreP xs)), .tup []]], some []] := by
    rw [exS, if_pos rfl]; rfl
  have n2 : exS fns (m + 1) 0 (setV 42 (.mref 1) (setV 0 (.mref 0) ρ7)) (.new 43 []) [some [.tup [.int (tot f xs (coreP xs)), .tup []]], some []] = .ok .next (setV 43 (.mref 2) (setV 42 (.mref 1) (setV 0 (.mref 0) ρ7))) [some [.tup [.int (tot f xs (coreP xs)), .tup []]], some [], some []] := by
    rw [exS, if_pos rfl]; rfl
  rw [seq_cons n0, seq_cons n1, seq_cons n2, seq_nil]
  generalize h8 : setV 43 (.mref 2) (setV 42 (.mref 1) (setV 0 (.mref 0) ρ7)) = ρ8
  have back : ∀ x, x ≠ 0 → x ≠ 42 → x ≠ 43 → getV ρ8 x = getV ρ7 x := fun x a b c => by rw [← h8, getV_set_ne _ _ c, getV_set_ne _ _ b, getV_set_ne _ _ a]
  refine ⟨ρ8, ?_, ⟨⟨?_, ?_, ?_, ?_, ?_, ?_⟩, ?_, ?_, ?_⟩⟩
  · simp [encP, cost]
  · rw [← h8, getV_set_ne _ _ (by decide), getV_set_ne _ _ (by decide), getV_set_self]
  · rw [← h8, getV_set_ne _ _ (by decide), getV_set_self]
  · rw [← h8, getV_set_self]
  · rw [back _ (by decide) (by decide) (by decide)]; exact g32
  · rw [back _ (by decide) (by decide) (by decide)]; exact g41
  · rw [back _ (by decide) (by decide) (by decide)]; exact g40
  · rw [back _ (by decide) (by decide) (by decide)]; exact g33
  · rw [back _ (by decide) (by decide) (by decide)]; exact g38
  · rw [back _ (by decide) (by decide) (by decide)]; exact g39
theorem law_loop {n : Nat} {xs : List Int} {f : Bool} {ps : List (Nat × Int)} {ρ : Rho} (hn : 391 ≤ n) (hx : xs.length ≤ 12) (hps : ps.length = (th f).length)
    (hc : ∀ k, tot f xs (chP xs (turnL ps (pickM (th f).length k))) = tot f xs (coreP xs) + cost (wOf ps) (pickM (th f).length k)) (L : LK ρ f ps xs) {hs' off' : List Pl} (hr : runC (th f).length (wOf ps) (2 ^ (th f).length) ([[]], []) = some (hs', off')) :
    ∃ ρ', exS fns n 0 ρ lawLoop [some ([[]].map (encP (wOf ps) (tot f xs (coreP xs)))), some [], some []] =
      .ok .next ρ' [some (hs'.map (encP (wOf ps) (tot f xs (coreP xs)))), some (off'.map (encP (wOf ps) (tot f xs (coreP xs)))), some ((allM (th f).length).map (encP (wOf ps) (tot f xs (coreP xs))))] ∧ LK ρ' f ps xs := by
  obtain ⟨m, rfl⟩ : ∃ m, n = m + 1 := ⟨n - 1, by omega⟩
  have h16 : 2 ^ (th f).length ≤ 16 := by cases f <;> decide
  obtain ⟨ρ', e, L'⟩ := loop_all (n := m) (by first | decide | omega) hx hps hc (2 ^ (th f).length) 0 ρ [[]] [] hs' off' L hr rfl (by first | decide | omega)
  refine ⟨ρ', ?_, L'⟩
  unfold lawLoop
  have pp : PE 3 ρ (.bin .pow (.int 2) (.bi .len (.var 32))) (.int ((2 ^ (th f).length : Nat) : Int)) := by
    refine pe_bin (N := 2) (pe_int.mono (by first | decide | omega)) (pe_bi (N := 1) (pe_var L.ls.h32) (len_int (thl f))) ?_
    cases f <;> rfl
  have hi := pi_range pp ⟨Int.natCast_nonneg _, Int.lt_of_le_of_lt (Int.ofNat_le.mpr h16) (by decide)⟩
  rw [exS, if_pos rfl, hi m (by first | decide | omega)]
  simp only [noExc, Res.to]
  rw [Int.toNat_natCast, List.range_eq_range']
  rw [Nat.zero_add] at e
  exact e
theorem law_plain (ns : List Int) (h : ns.length ≤ 63) : ∃ W, callF fns (400 + 1) 9 [.dat (.list (ns.map .int))] [] = .ok (.bool true) W := by
  generalize hf : decide (2 ≤ ns.length) = f
  generalize hxs : [3, 6] ++ ns.take 10 = xs
  have hx12 : xs.length ≤ 12 := by rw [← hxs]; simp; omega
  obtain ⟨ps, p1, p2, p3, p4⟩ := prices_ok f hx12
  obtain ⟨ρ1, e1, L1⟩ := law_pre (n := 400) (by decide) h hf.symm hxs.symm p1
  unfold goodC at p3
  cases hr : runC (th f).length (wOf ps) (2 ^ (th f).length) ([[]], []) with
  | none => rw [hr] at p3; cases p3
  | some r =>
    obtain ⟨hs', off'⟩ := r
    rw [hr] at p3
    simp only [Bool.and_eq_true, List.isEmpty_iff] at p3
    obtain ⟨rfl, p3⟩ := p3
    obtain ⟨ρ2, e2, L2⟩ := law_loop (n := 400) (by decide) hx12 p2 p4 L1 hr
    have hal : (allM (th f).length).length = 2 ^ (th f).length := by unfold allM; simp
    have e3 := law_end (n := 400) (least := tot f xs (coreP xs)) (by decide) L2.ls.h0 L2.ls.h42 L2.ls.h43 (by rw [hal]; cases f <;> decide) (by rw [hal]; cases f <;> decide) p3
    refine ⟨[], ?_⟩
    rw [callF]
    have hfn : fns[9]? = some fLaw := rfl
    rw [hfn]
    show (match exSeq (fun s ρ W => exS fns 400 0 ρ s W) (lawPre ++ [lawLoop, lawEnd]) [(31, .dat (dI ns))] [] with
      | .ok (.ret d) _ W' => Res.ok d (W'.take 0)
      | .ok .next _ W' => .ok .none (W'.take 0)
      | _ => .bad) = _
    rw [seq_app e1, seq_cons e2, exSeq]
    rw [List.map_nil, e3]
    rfl
end Mine
end
open PySem PySem.W PyProof.Rows
namespace Mine
/-- the fuel that the caller's room leaves -/
noncomputable def fuel : Nat := 400
theorem fuel_ok : OkA (fuel + 1) callerA := ⟨by decide +kernel, by decide +kernel⟩
theorem law_fuel (ns : List Int) (h : ns.length ≤ 63) : ∃ W, callF fns (fuel + 1) 9 [.dat (.list (ns.map .int))] [] = .ok (.bool true) W := by
  unfold fuel; exact law_plain ns h
/-! the program without its names' rows -/
noncomputable def notAsg : PySem.Stmt → Bool
  | .Assign .. => false
  | _ => true
noncomputable def viewQ : Program := { PySem.Challenge.pw_oc0061_01 with main := { PySem.Challenge.pw_oc0061_01.main with body := PySem.Challenge.pw_oc0061_01.main.body.filter notAsg } }
theorem well_ints {P : Params} {h : Heap} {N : Adr} : ∀ {ns : List Int} {vs : List Value}, WellAll P h vs (ns.map WData.int) → RdAll h N vs (ns.map .int)
  | [], vs, w => by cases w; exact .nil
  | n :: ns, vs, w => by
    cases w with
    | cons a b =>
      cases a with
      | int _ t => exact .cons (.int n t) (well_ints b)
theorem well_list {P : Params} {h : Heap} {l : Addr} {ns : List Int} (w : Well P h (.ref l) (ofPy (PyData.list (ns.map PyData.int)))) (N : Adr) (hN : ¬ N l) : Rd h N (.ref l) (.list (ns.map .int)) := by
  have e : ofPy (PyData.list (ns.map PyData.int)) = WData.list (ns.map WData.int) := by
    show WData.list (ofPys _) = _
    rw [ofPys_eq, List.map_map]; rfl
  rw [e] at w
  cases w with
  | list h1 h2 => exact .list h1 (well_ints h2) hN
end Mine
set_option maxRecDepth 100000 in
set_option maxHeartbeats 8000000 in
theorem PySem.Challenge.cw_oc0061_01_holds : PySem.Challenge.rw_oc0061_01.Holds := by
  w_on
  refine holds_law (by decide +kernel) fun said => ?_
  refine holds_open (q := Mine.viewQ) (loose := []) (Xt := fun s => xlAt Mine.viewQ [] s && recOk (RowW.records (OpenRow.toRowW (OpenLaw.row PySem.Challenge.rw_oc0061_01))) s) (XP := XL Mine.viewQ []) (Yf := Hook.obs Hook.none) (Ya := Hook.val Hook.none) (YP := Hook.says Hook.none) (N := 1194) ?hl (Hook.of Hook.none) (Hook.keeps Hook.none) (fun s e => xl_of s (Bool.and_eq_true_iff.mp e).1) XL.keeps (by rfl) (by rfl) (by rfl) (fun s e => recFacts_of (Bool.and_eq_true_iff.mp e).2) (by rfl) said (by decide +kernel) ⟨rfl, rfl, rfl, rfl, rfl, by decide +kernel⟩ ?hw ?hc
  case hw => w_witness2
  case hl => intro w; kernel_rfl
  intro w s₀ s₁ mg mb G Y fa o pm cd doc dV kV ho hd hcd hD hmg hg args vals as hpre hlay hrd hwl hlo
  refine Ground.open G ?_
  intro T B D TE TW
  wrow_args hpre hlay hrd hwl hlo
  rename_i ns _ _ _ _ _ _ _ l vs _ _ _ w1 _ hI _ h63 _
  have C := Mine.cx_of_top (prog := PySem.Challenge.rw_oc0061_01.row.prog) (w := w) T (by
    refine Mine.all_ten ?_ ?_ ?_ ?_ ?_ ?_ ?_ ?_ ?_ ?_ <;> kernel_rfl) (by decide +kernel)
  obtain ⟨W, hl⟩ := Mine.law_fuel ns (by first | decide | omega)
  have vr : Mine.VRs [] s₁.heap (Mine.live [] []) [.ref l] [.dat (.list (ns.map .int))] := .cons (show Mine.Rd _ _ _ _ from Mine.well_list w1 _ (by rintro ⟨k, ds, h1, h2⟩; simp at h2)) .nil
  refine enter_call (codeAny_mono (R := GoodW _ _ _ _ s₁) ?_ fun _ _ g => GoodW.toG g)
  refine Mine.top_call (X := ⟨PySem.Challenge.rw_oc0061_01.row.prog, w, s₁.heap, mg, mb⟩) (f := 9) C (Mine.all_ih C Mine.fuel) (by decide) hmg rfl rfl rfl Mine.fuel_ok vr hl fun v s2 stp kept rd => ?_
  have hv := rd.ofBool
  subst hv
  obtain ⟨h2, t2, rfl⟩ := stp
  refine ⟨.inl ⟨_, .bool true, [], rfl, ?_, .bool true, ?_, fun _ => ⟨List.nodup_nil, fun a ha => (nomatch ha)⟩⟩, kept, rfl, hg⟩
  · intro cls; rfl
  · wrow_post
