import PyProof.Rows.All
import Wide.All
import OpenK.AllK
import Wide.FinOn
import PySem.Challenge.RW_in0236_01
set_option Elab.async false
set_option linter.unusedVariables false
set_option linter.unusedSimpArgs false
section
/-! My own small evaluator: data, operations, expressions, statements. -/
namespace Mine

inductive D where
  | none
  | bool (b : Bool)
  | int (i : Int)
  | str (s : List Nat)
  | tup (l : List D)
  | list (l : List D)
  | dict (l : List (List Nat × D))
  | adr (a : Nat)

inductive Tag where
  | fz
  | fresh
  | own (k : Nat)

/-- a slot: unbound, frozen data, an own mutable list or dict, the bound append of a slot's list -/
inductive LV where
  | un
  | fz (d : D)
  | ow (d : D)
  | app (k : Nat)

inductive BOp where
  | add | sub | mul | fdiv | mod | pow | band
inductive COp where
  | eq | ne | lt | le | gt | ge | isin | notin | is_ | isnot
inductive Meth where
  | replace | find | rfind | rstrip | startswith | endswith | split | join

mutual
inductive PE where
  | lit (d : D)
  | var (k : Nat)
  | glob (n : Nat)
  | tup (es : PEs)
  | lst (es : PEs)
  | neg (a : PE)
  | bin (op : BOp) (a b : PE)
  | cmp (op : COp) (a b : PE)
  | chain (o1 o2 : COp) (a b c : PE)
  | and (a : PE) (r : PEs)
  | or (a : PE) (r : PEs)
  | not (a : PE)
  | ite (c a b : PE)
  | idx (a i : PE)
  | sl (a lo hi : PE)
  | slFrom (a lo : PE)
  | slTo (a hi : PE)
  | len (a : PE)
  | sorted (a : PE)
  | listRange (lo hi : PE)
  | meth (m : Meth) (o : PE) (args : PEs)
  | call (f : Nat) (args : PEs)
  | compR (elt n : PE)
  | compRI (elt n c : PE)
  | compL (elt xs : PE)
  | compLI (elt xs c : PE)
  | fstr (pre : List Nat) (e : PE) (post : List Nat)
  | joinG (sep elt xs : PE)
  | prim (n : Nat) (args : PEs)
inductive PEs where
  | nil
  | cons (e : PE) (r : PEs)
end

inductive Fl where
  | next | brk
  | ret (d : D)

mutual
inductive PS where
  | assign (k : Nat) (e : PE)
  | assignD (k : Nat)
  | assignD1 (k : Nat) (i v : PE)
  | unpack (ks : List Nat) (e : PE)
  | appnd (k : Nat) (e : PE)
  | bindApp (kb k : Nat)
  | appndB (kb : Nat) (e : PE)
  | setD (k : Nat) (i v : PE)
  | setL (k : Nat) (i v : PE)
  | aug (k : Nat) (op : BOp) (e : PE)
  | augIdx (k : Nat) (i : PE) (op : BOp) (e : PE)
  | delL (k : Nat) (i : PE)
  | ite (c : PE) (a b : PSs)
  | while_ (n : Nat) (c : PE) (body : PSs)
  | forR (k : Nat) (lo hi : PE) (body : PSs)
  | forDown (k : Nat) (hi lo : PE) (body : PSs)
  | forE (k : Nat) (xs : PE) (body orelse : PSs)
  | forT (ks : List Nat) (xs : PE) (body orelse : PSs)
  | forEnum (ki kx : Nat) (xs : PE) (body : PSs)
  | ret (e : PE)
  | brk
  | assert_ (e : PE)
  | try_ (body : PSs)
inductive PSs where
  | nil
  | cons (s : PS) (r : PSs)
end

def sizeMax : Nat := 16777216

def truth : D → Option Bool
  | .none => some false
  | .bool b => some b
  | .int i => some (i != 0)
  | .str s => if s.length ≤ 1000000 then some (!s.isEmpty) else none
  | .list l => if l.length ≤ 1000000 then some (!l.isEmpty) else none
  | _ => none

mutual
def D.beq : D → D → Bool
  | .none, .none => true
  | .bool a, .bool b => a == b
  | .bool a, .int j => (if a then 1 else 0) == j
  | .int i, .bool b => i == (if b then 1 else 0)
  | .int i, .int j => i == j
  | .str x, .str y => x == y
  | .tup xs, .tup ys => D.beqs xs ys
  | .list xs, .list ys => D.beqs xs ys
  | _, _ => false
def D.beqs : List D → List D → Bool
  | [], [] => true
  | x :: xs, y :: ys => D.beq x y && D.beqs xs ys
  | _, _ => false
end

mutual
/-- data that == may be asked of -/
def D.okEq : Nat → D → Bool
  | _, .none => true
  | _, .bool _ => true
  | _, .int _ => true
  | _, .str s => s.all (· < 1114112)
  | n + 1, .tup l => D.okEqs n l
  | n + 1, .list l => D.okEqs n l
  | _, _ => false
def D.okEqs : Nat → List D → Bool
  | _, [] => true
  | n, d :: l => D.okEq n d && D.okEqs n l
end

def ltL : List Nat → List Nat → Bool
  | [], [] => false
  | [], _ :: _ => true
  | _ :: _, [] => false
  | a :: x, b :: y => if a < b then true else if b < a then false else ltL x y

def small (i : Int) : Bool := decide (i.natAbs < 18446744073709551616)

def binOp : BOp → D → D → Option (D × Tag)
  | .add, .int a, .int b => some (.int (a + b), .fz)
  | .add, .str a, .str b => if a.length + b.length ≤ sizeMax then some (.str (a ++ b), .fz) else none
  | .add, .list a, .list b => if a.length + b.length ≤ 1000000 then some (.list (a ++ b), .fresh) else none
  | .sub, .int a, .int b => some (.int (a - b), .fz)
  | .mul, .int a, .int b => if small a || small b then some (.int (a * b), .fz) else none
  | .mul, .str a, .int b => if a.length ≤ 10 ∧ b.natAbs ≤ 1000000 then some (.str (List.replicate b.toNat a).flatten, .fz) else none
  | .mul, .list [x], .int b => if decide (b.natAbs ≤ 1000) then some (.list (List.replicate b.toNat x), .fresh) else none
  | .fdiv, .int a, .int b => if decide (b.natAbs < 1073741824) && b != 0 then some (.int (a.fdiv b), .fz) else none
  | .mod, .int a, .int b => if b != 0 then some (.int (a.fmod b), .fz) else none
  | .pow, .int a, .int b => if small a && decide (0 ≤ b) && decide (b ≤ 1000000) then some (.int (a ^ b.toNat), .fz) else none
  | .band, .int (.ofNat a), .int (.ofNat b) => some (.int (.ofNat (Nat.land a b)), .fz)
  | _, _, _ => none

def cmpOp : COp → D → D → Option Bool
  | .eq, a, b => if D.okEq 8 a && D.okEq 8 b then some (D.beq a b) else none
  | .ne, a, b => if D.okEq 8 a && D.okEq 8 b then some (!D.beq a b) else none
  | .lt, .int a, .int b => some (decide (a < b))
  | .le, .int a, .int b => some (decide (a ≤ b))
  | .gt, .int a, .int b => some (decide (b < a))
  | .ge, .int a, .int b => some (decide (b ≤ a))
  | .le, .str a, .str b => some (!ltL b a)
  | .gt, .str a, .str b => some (ltL b a)
  | .isin, .str [c], .str b => some (b.contains c)
  | .notin, .str [c], .str b => some (!b.contains c)
  | .isin, a, .list l => if D.okEq 8 a && D.okEqs 8 l then some (l.any (D.beq · a)) else none
  | .isin, a, .tup l => if D.okEq 8 a && D.okEqs 8 l then some (l.any (D.beq · a)) else none
  | .isin, .str a, .dict l => some (l.any (·.1 == a))
  | .notin, a, .list l => if D.okEq 8 a && D.okEqs 8 l then some (!l.any (D.beq · a)) else none
  | .notin, .str a, .dict l => some (!l.any (·.1 == a))
  | .isnot, .str _, .adr _ => some true
  | .isnot, .adr a, .adr b => if a == b then some false else none
  | _, _, _ => none

def item (l : List α) (i : Int) : Option α :=
  if 0 ≤ i then l[i.toNat]? else if -(l.length : Int) ≤ i then l[(l.length + i).toNat]? else none

/-- where a slice's end stands in a thing of n places -/
def cut (n : Nat) (i : Int) : Nat := if 0 ≤ i then min i.toNat n else (n + i).toNat

def slice (l : List α) (lo hi : Nat) : List α := (l.take hi).drop lo

def idxOp : D → D → Option D
  | .list l, .int i => if i.natAbs ≤ 1000000 then item l i else none
  | .tup l, .int i => if i.natAbs ≤ 1000000 then item l i else none
  | .str s, .int i => if i.natAbs ≤ 1000000 then (item s i).map fun c => .str [c] else none
  | .dict l, .str k => (l.find? (·.1 == k)).map (·.2)
  | _, _ => none

def sliceOp (d : D) (lo hi : Option Int) : Option (D × Tag) :=
  match d with
  | .list l => if l.length ≤ 1000000 then some (.list (slice l ((lo.map (cut l.length)).getD 0) ((hi.map (cut l.length)).getD l.length)), .fresh) else none
  | .str s => if s.length ≤ 1000000 then some (.str (slice s ((lo.map (cut s.length)).getD 0) ((hi.map (cut s.length)).getD s.length)), .fz) else none
  | _ => none

def lenOp : D → Option Int
  | .str s => if s.length ≤ 1000000 then some s.length else none
  | .list l => if l.length ≤ 1000000 then some l.length else none
  | _ => none

/-- the first place from lo on, below hi, where the sign c stands; -1 where none does -/
def findC (c : Nat) (s : List Nat) (lo hi : Nat) : Int :=
  match ((s.take hi).drop lo).findIdx? (· == c) with
  | some k => ((lo + k : Nat) : Int)
  | none => -1
def rfindC (c : Nat) (s : List Nat) : Int :=
  match s.reverse.findIdx? (· == c) with
  | some k => ((s.length - 1 - k : Nat) : Int)
  | none => -1

/-- replace a one-sign text -/
def replace1 (c : Nat) (y : List Nat) (s : List Nat) : List Nat := s.flatMap fun a => if a == c then y else [a]

/-- split by a one-sign text -/
def split1 (c : Nat) : List Nat → List (List Nat)
  | [] => [[]]
  | a :: s => if a == c then [] :: split1 c s else match split1 c s with
    | w :: r => (a :: w) :: r
    | [] => [[a]]

def strsOf : List D → Option (List (List Nat))
  | [] => some []
  | .str s :: r => (strsOf r).map (s :: ·)
  | _ :: _ => none

def joinL (sep : List Nat) : List (List Nat) → List Nat
  | [] => []
  | [x] => x
  | x :: y :: r => x ++ sep ++ joinL sep (y :: r)

def rstrip1 (c : Nat) (s : List Nat) : List Nat := (s.reverse.dropWhile (· == c)).reverse

def methOp : Meth → D → List D → Option (D × Tag)
  | .replace, .str s, [.str [c], .str y] => if (replace1 c y s).length ≤ 1000000 ∧ s.length ≤ 10000 ∧ y.length ≤ 1000 then some (.str (replace1 c y s), .fz) else none
  | .find, .str s, [.str [c]] => some (.int (findC c s 0 s.length), .fz)
  | .find, .str s, [.str [c], .int i, .int j] => if 0 ≤ i ∧ 0 ≤ j ∧ j ≤ s.length then some (.int (findC c s i.toNat j.toNat), .fz) else none
  | .rfind, .str s, [.str [c]] => some (.int (rfindC c s), .fz)
  | .rstrip, .str s, [.str [c]] => if s.length ≤ 1000000 then some (.str (rstrip1 c s), .fz) else none
  | .startswith, .str s, [.str x] => some (.bool (x.isPrefixOf s), .fz)
  | .endswith, .str s, [.str x] => some (.bool (x.isSuffixOf s), .fz)
  | .split, .str s, [.str [c]] => if s.length ≤ 1000000 then some (.list ((split1 c s).map .str), .fresh) else none
  | .join, .str s, [.list l] => (strsOf l).bind fun xs => if (joinL s xs).length ≤ 1000000 ∧ xs.length ≤ 100000 ∧ s.length ≤ 10 then some (.str (joinL s xs), .fz) else none
  | _, _, _ => none

/-- the order that sorted takes: texts, or tuples that begin with a text and have no two equal first texts -/
def leD : D → D → Bool
  | .str a, .str b => !ltL b a
  | .tup (.str a :: _), .tup (.str b :: _) => !ltL b a
  | _, _ => false
def insD (x : D) : List D → List D
  | [] => [x]
  | y :: r => if leD x y then x :: y :: r else y :: insD x r
def isStrD : D → Bool
  | .str _ => true
  | _ => false
def isRowD : D → Bool
  | .tup [.str _, .str _, .int _] => true
  | _ => false
def keyD : D → List Nat
  | .tup (.str a :: _) => a
  | _ => []
def sortOp (l : List D) : Option (List D) :=
  if l.length < 64 ∧ D.okEqs 8 l ∧ (l.all isStrD ∨ (l.all isRowD ∧ (l.map keyD).Nodup)) then some (l.foldr insD []) else none

def rangeL (lo hi : Int) : List D := (List.range (hi - lo).toNat).map fun (k : Nat) => .int (lo + (k : Int))
def rangeDownL (hi lo : Int) : List D := (List.range (hi - lo).toNat).map fun (k : Nat) => .int (hi - (k : Int))

def LV.get : LV → Option D
  | .fz d => some d
  | .ow d => some d
  | _ => none
def LV.tag (k : Nat) : LV → Tag
  | .ow _ => .own k
  | _ => .fz

/-- a result that may be kept: no reading of an own slot -/
def kept : D × Tag → Option D
  | (_, .own _) => none
  | (d, _) => some d

abbrev Sig := Nat → List D → Option D

variable (G : Nat → Option D) (Sg : Sig)

def mapE (f : D → Option D) : List D → Option (List D)
  | [] => some []
  | d :: r => (f d).bind fun y => (mapE f r).map (y :: ·)
def filterE (f : D → Option Bool) : List D → Option (List D)
  | [] => some []
  | d :: r => (f d).bind fun b => (filterE f r).map fun l => if b then d :: l else l

/-- a short text without a backslash -/
def noBs : D → Bool
  | .str s => !s.contains 92 && decide (s.length ≤ 1000)
  | _ => false

mutual
def evE : PE → List LV → Option (D × Tag)
  | .lit d, _ => some (d, .fz)
  | .var k, σ => (σ[k]?).bind fun v => v.get.map fun d => (d, v.tag k)
  | .glob n, _ => (G n).map fun d => (d, .fz)
  | .tup es, σ => (evEs es σ).map fun ds => (.tup ds, .fz)
  | .lst es, σ => (evEs es σ).map fun ds => (.list ds, .fresh)
  | .neg a, σ => (evE a σ).bind fun r => match r.1 with
    | .int i => some (.int (-i), .fz)
    | _ => none
  | .bin op a b, σ => (evE a σ).bind fun x => (evE b σ).bind fun y => binOp op x.1 y.1
  | .cmp op a b, σ => (evE a σ).bind fun x => (evE b σ).bind fun y => (cmpOp op x.1 y.1).map fun r => (.bool r, .fz)
  | .chain o1 o2 a b c, σ => (evE a σ).bind fun x => (evE b σ).bind fun y => (cmpOp o1 x.1 y.1).bind fun r =>
      if r then (evE c σ).bind fun z => (cmpOp o2 y.1 z.1).map fun r => (.bool r, .fz) else some (.bool false, .fz)
  | .and a r, σ => (evE a σ).bind fun x => (truth x.1).bind fun t => if t then evAnd r σ x else some x
  | .or a r, σ => (evE a σ).bind fun x => (truth x.1).bind fun t => if t then some x else evOr r σ x
  | .not a, σ => (evE a σ).bind fun x => (truth x.1).map fun t => (.bool (!t), .fz)
  | .ite c a b, σ => (evE c σ).bind fun x => (truth x.1).bind fun t => if t then evE a σ else evE b σ
  | .idx a i, σ => (evE a σ).bind fun x => (evE i σ).bind fun y => (idxOp x.1 y.1).map fun d => (d, .fz)
  | .sl a lo hi, σ => (evE a σ).bind fun x => (evE lo σ).bind fun y => (evE hi σ).bind fun z => match y.1, z.1 with
    | .int i, .int j => sliceOp x.1 (some i) (some j)
    | _, _ => none
  | .slFrom a lo, σ => (evE a σ).bind fun x => (evE lo σ).bind fun y => match y.1 with
    | .int i => sliceOp x.1 (some i) none
    | _ => none
  | .slTo a hi, σ => (evE a σ).bind fun x => (evE hi σ).bind fun y => match y.1 with
    | .int i => sliceOp x.1 none (some i)
    | _ => none
  | .len a, σ => (evE a σ).bind fun x => (lenOp x.1).map fun n => (.int n, .fz)
  | .sorted a, σ => (evE a σ).bind fun x => match x.1 with
    | .list l => (sortOp l).map fun r => (.list r, .fresh)
    | _ => none
  | .listRange lo hi, σ => (evE lo σ).bind fun x => (evE hi σ).bind fun y => match x.1, y.1 with
    | .int i, .int j => if i.natAbs ≤ 1000000 ∧ j.natAbs ≤ 1000000 then some (.list (rangeL i j), .fresh) else none
    | _, _ => none
  | .meth m o args, σ => (evE o σ).bind fun x => (evB args σ).bind fun ds => methOp m x.1 ds
  | .call f args, σ => (evEs args σ).bind fun ds => (Sg f ds).map fun d => (d, .fz)
  | .compR elt n, σ => (evE n σ).bind fun x => match x.1 with
    | .int i => if i.natAbs ≤ 1000000 then (mapE (fun d => (evE elt (σ ++ [.fz d])).bind kept) (rangeL 0 i)).map fun l => (.list l, .fresh) else none
    | _ => none
  | .compRI elt n c, σ => (evE n σ).bind fun x => match x.1 with
    | .int i => if i.natAbs ≤ 1000000 then (filterE (fun d => (evE c (σ ++ [.fz d])).bind fun x => truth x.1) (rangeL 0 i)).bind fun l =>
        (mapE (fun d => (evE elt (σ ++ [.fz d])).bind kept) l).map fun l => (.list l, .fresh) else none
    | _ => none
  | .compL elt xs, σ => (evE xs σ).bind fun x => match x.1 with
    | .list l => if 1000000 < l.length then none else (mapE (fun d => (evE elt (σ ++ [.fz d])).bind kept) l).map fun l => (.list l, .fresh)
    | _ => none
  | .compLI elt xs c, σ => (evE xs σ).bind fun x => match x.1 with
    | .list l => if 1000000 < l.length then none else (filterE (fun d => (evE c (σ ++ [.fz d])).bind fun x => truth x.1) l).bind fun l =>
        (mapE (fun d => (evE elt (σ ++ [.fz d])).bind kept) l).map fun l => (.list l, .fresh)
    | _ => none
  | .fstr pre e post, σ => (evE e σ).bind fun x => match x.1 with
    | .str s => if s.length ≤ 1000000 then some (.str (pre ++ s ++ post), .fz) else none
    | _ => none
  | .joinG sep elt xs, σ => (evE sep σ).bind fun y => (evE xs σ).bind fun x => match x.1 with
    | .list l => if l.all noBs && decide (l.length ≤ 1000) then (mapE (fun d => (evE elt (σ ++ [.fz d])).bind kept) l).bind fun l => methOp .join y.1 [.list l] else none
    | _ => none
  | .prim n args, σ => (evEs args σ).bind fun ds => (Sg n ds).map fun d => (d, .fz)
/-- arguments that are kept -/
def evEs : PEs → List LV → Option (List D)
  | .nil, _ => some []
  | .cons e r, σ => (evE e σ).bind fun x => (kept x).bind fun d => (evEs r σ).map (d :: ·)
/-- arguments that are but read -/
def evB : PEs → List LV → Option (List D)
  | .nil, _ => some []
  | .cons e r, σ => (evE e σ).bind fun x => (evB r σ).map (x.1 :: ·)
def evAnd : PEs → List LV → (D × Tag) → Option (D × Tag)
  | .nil, _, x => some x
  | .cons e r, σ, _ => (evE e σ).bind fun x => (truth x.1).bind fun t => if t then evAnd r σ x else some x
def evOr : PEs → List LV → (D × Tag) → Option (D × Tag)
  | .nil, _, x => some x
  | .cons e r, σ, _ => (evE e σ).bind fun x => (truth x.1).bind fun t => if t then some x else evOr r σ x
end

def LV.kill (k : Nat) : LV → LV
  | .app j => if j = k then .un else .app j
  | v => v
/-- a slot takes up a new own thing: a bound append of the old one is told no more -/
def putO (k : Nat) (d : D) (σ : List LV) : List LV := (σ.map (LV.kill k)).set k (.ow d)
/-- what a store of a result makes of the slots -/
def putV (k : Nat) : D × Tag → List LV → Option (List LV)
  | (d, .fz), σ => some (σ.set k (.fz d))
  | (d, .fresh), σ => some (putO k d σ)
  | (_, .own _), _ => none

def setAll : List Nat → List D → List LV → Option (List LV)
  | [], [], σ => some σ
  | k :: ks, d :: ds, σ => setAll ks ds (σ.set k (.fz d))
  | _, _, _ => none

def putD (l : List (List Nat × D)) (k : List Nat) (d : D) : List (List Nat × D) :=
  if l.any (·.1 == k) then l.map fun p => if p.1 == k then (k, d) else p else l ++ [(k, d)]

def place (n : Nat) (i : Int) : Option Nat :=
  if 0 ≤ i then (if i < n then some i.toNat else none) else if -(n : Int) ≤ i then some (n + i).toNat else none

def forGo (bind : D → List LV → Option (List LV)) (body : List LV → Option (Fl × List LV)) : List D → List LV → Option (Fl × List LV)
  | [], σ => some (.next, σ)
  | d :: r, σ => (bind d σ).bind fun σ => (body σ).bind fun x => match x.1 with
    | .next => forGo bind body r x.2
    | f => some (f, x.2)

def whileGo (test : List LV → Option Bool) (body : List LV → Option (Fl × List LV)) : Nat → List LV → Option (Fl × List LV)
  | 0, _ => none
  | n + 1, σ => (test σ).bind fun t => if t then (body σ).bind fun x => match x.1 with
      | .next => whileGo test body n x.2
      | .brk => some (.next, x.2)
      | .ret d => some (.ret d, x.2)
    else some (.next, σ)

/-- behind a for: a break skips the else block -/
def behind (orelse : List LV → Option (Fl × List LV)) : Fl × List LV → Option (Fl × List LV)
  | (.next, σ) => orelse σ
  | (.brk, σ) => some (.next, σ)
  | (.ret d, σ) => some (.ret d, σ)

def itemsOf : D → Option (List D)
  | .list l => some l
  | .tup l => some l
  | .dict l => some (l.map fun p => .str p.1)
  | _ => none

def bindT (ks : List Nat) (d : D) (σ : List LV) : Option (List LV) := match d with
  | .tup ds => setAll ks ds σ
  | _ => none

/-- a for may walk what no slot owns -/
def walkable : D × Tag → Option (List D)
  | (_, .own _) => none
  | (d, _) => itemsOf d

mutual
def exS : PS → List LV → Option (Fl × List LV)
  | .assign k e, σ => (evE G Sg e σ).bind fun x => (putV k x σ).map fun σ => (.next, σ)
  | .assignD k, σ => some (.next, putO k (.dict []) σ)
  | .assignD1 k i v, σ => (evE G Sg i σ).bind fun y => (evE G Sg v σ).bind fun x => (kept x).bind fun d => match y.1 with
    | .str key => some (.next, putO k (.dict [(key, d)]) σ)
    | _ => none
  | .unpack ks e, σ => (evE G Sg e σ).bind fun x => (bindT ks x.1 σ).map fun σ => (.next, σ)
  | .appnd k e, σ => (evE G Sg e σ).bind fun x => (kept x).bind fun d => match σ[k]? with
    | some (.ow (.list l)) => if l.length ≤ 1000000 then some (.next, σ.set k (.ow (.list (l ++ [d])))) else none
    | _ => none
  | .bindApp kb k, σ => match σ[k]? with
    | some (.ow (.list _)) => some (.next, σ.set kb (.app k))
    | _ => none
  | .appndB kb e, σ => (evE G Sg e σ).bind fun x => (kept x).bind fun d => match σ[kb]? with
    | some (.app k) => (match σ[k]? with
      | some (.ow (.list l)) => if l.length ≤ 1000000 then some (.next, σ.set k (.ow (.list (l ++ [d])))) else none
      | _ => none)
    | _ => none
  | .setD k i v, σ => (evE G Sg v σ).bind fun x => (kept x).bind fun d => (evE G Sg i σ).bind fun y => match σ[k]?, y.1 with
    | some (.ow (.dict l)), .str key => if l.length ≤ 1000 then some (.next, σ.set k (.ow (.dict (putD l key d)))) else none
    | _, _ => none
  | .setL k i v, σ => (evE G Sg v σ).bind fun x => (kept x).bind fun d => (evE G Sg i σ).bind fun y => match σ[k]?, y.1 with
    | some (.ow (.list l)), .int n => if 1000000 < l.length then none else (place l.length n).map fun p => (.next, σ.set k (.ow (.list (l.set p d))))
    | _, _ => none
  | .aug k op e, σ => (σ[k]?).bind fun v => match v with
    | .fz old => (evE G Sg e σ).bind fun x => (binOp op old x.1).bind fun r => (match r with
      | (d, .fz) => some (.next, σ.set k (.fz d))
      | _ => none)
    | _ => none
  | .augIdx k i op e, σ => (evE G Sg i σ).bind fun y => match σ[k]?, y.1 with
    | some (.ow (.list l)), .int n => if 1000000 < l.length then none else (place l.length n).bind fun p => (l[p]?).bind fun old => (evE G Sg e σ).bind fun x => (binOp op old x.1).bind fun r => (match r with
      | (d, .fz) => some (.next, σ.set k (.ow (.list (l.set p d))))
      | _ => none)
    | _, _ => none
  | .delL k i, σ => (evE G Sg i σ).bind fun y => match σ[k]?, y.1 with
    | some (.ow (.list l)), .int n => if 1000000 < l.length then none else (place l.length n).map fun p => (.next, σ.set k (.ow (.list (l.eraseIdx p))))
    | _, _ => none
  | .ite c a b, σ => (evE G Sg c σ).bind fun x => (truth x.1).bind fun t => if t then exSs a σ else exSs b σ
  | .while_ n c body, σ => whileGo (fun σ => (evE G Sg c σ).bind fun x => truth x.1) (fun σ => exSs body σ) n σ
  | .forR k lo hi body, σ => (evE G Sg lo σ).bind fun x => (evE G Sg hi σ).bind fun y => match x.1, y.1 with
    | .int i, .int j => if i.natAbs ≤ 1000000 ∧ j.natAbs ≤ 1000000 then
        (forGo (fun d σ => some (σ.set k (.fz d))) (fun σ => exSs body σ) (rangeL i j) σ).bind (behind fun σ => some (.next, σ)) else none
    | _, _ => none
  | .forDown k hi lo body, σ => (evE G Sg hi σ).bind fun x => (evE G Sg lo σ).bind fun y => match x.1, y.1 with
    | .int i, .int j => if i.natAbs ≤ 1000000 ∧ j.natAbs ≤ 1000000 then
        (forGo (fun d σ => some (σ.set k (.fz d))) (fun σ => exSs body σ) (rangeDownL i j) σ).bind (behind fun σ => some (.next, σ)) else none
    | _, _ => none
  | .forE k xs body orelse, σ => (evE G Sg xs σ).bind fun x => (walkable x).bind fun l =>
      (forGo (fun d σ => some (σ.set k (.fz d))) (fun σ => exSs body σ) l σ).bind (behind fun σ => exSs orelse σ)
  | .forT ks xs body orelse, σ => (evE G Sg xs σ).bind fun x => (walkable x).bind fun l =>
      (forGo (bindT ks) (fun σ => exSs body σ) l σ).bind (behind fun σ => exSs orelse σ)
  | .forEnum ki kx xs body, σ => (evE G Sg xs σ).bind fun x => match x.1 with
    | .tup l => (forGo (bindT [ki, kx]) (fun σ => exSs body σ) (l.mapIdx fun i d => .tup [.int i, d]) σ).bind (behind fun σ => some (.next, σ))
    | _ => none
  | .ret e, σ => (evE G Sg e σ).map fun x => (.ret x.1, σ)
  | .brk, σ => some (.brk, σ)
  | .assert_ e, σ => (evE G Sg e σ).bind fun x => (truth x.1).bind fun t => if t then some (.next, σ) else none
  | .try_ body, σ => exSs body σ
def exSs : PSs → List LV → Option (Fl × List LV)
  | .nil, σ => some (.next, σ)
  | .cons s r, σ => (exS s σ).bind fun x => match x.1 with
    | .next => exSs r x.2
    | f => some (f, x.2)
end

structure Fun where
  nargs : Nat
  nslots : Nat
  body : PSs

def runFun (F : Fun) (args : List D) : Option D :=
  if args.length = F.nargs then
    (exSs G Sg F.body (args.map .fz ++ List.replicate (F.nslots - F.nargs) .un)).bind fun x => match x.1 with
      | .ret d => some d
      | _ => some .none
  else none

end Mine
end
section
namespace Mine
/-- slots: mode=0 -/
def FS_IFMT : Fun := ⟨1, 1, (
  (.cons (.ret (.bin .band (.var 0) (.lit (.int 61440)))) .nil))⟩
/-- slots: mode=0 -/
def FS_ISDIR : Fun := ⟨1, 1, (
  (.cons (.ret (.cmp .eq (.call 0 (.cons (.var 0) .nil)) (.glob 0))) .nil))⟩
/-- slots: mode=0, perm=1, index=2, table=3, bit=4, char=5 -/
def Ffilemode : Fun := ⟨1, 6, (
  (.cons (.assign 1 (.lst .nil))
  (.cons (.forEnum 2 3 (.glob 1) (
    (.cons (.forT [4, 5] (.var 3) (
      (.cons (.ite (.cmp .eq (.var 2) (.lit (.int 0))) (
        (.cons (.ite (.cmp .eq (.call 0 (.cons (.var 0) .nil)) (.var 4)) (
          (.cons (.appnd 1 (.var 5))
          (.cons .brk .nil))) .nil) .nil)) (
        (.cons (.ite (.cmp .eq (.bin .band (.var 0) (.var 4)) (.var 4)) (
          (.cons (.appnd 1 (.var 5))
          (.cons .brk .nil))) .nil) .nil))) .nil)) (
      (.cons (.ite (.cmp .eq (.var 2) (.lit (.int 0))) (
        (.cons (.appnd 1 (.lit (.str [63]))) .nil)) (
        (.cons (.appnd 1 (.lit (.str [45]))) .nil))) .nil))) .nil)))
  (.cons (.ret (.meth .join (.lit (.str [])) (.cons (.var 1) .nil))) .nil))))⟩
/-- slots: pat=0, STAR=1, QUESTION_MARK=2, res=3, add=4, i=5, n=6, c=7, j=8, stuff=9, chunks=10, k=11, chunk=12 -/
def F_translate : Fun := ⟨3, 13, (
  (.cons (.assign 3 (.lst .nil))
  (.cons (.bindApp 4 3)
  (.cons (.unpack [5, 6] (.tup (.cons (.lit (.int 0)) (.cons (.len (.var 0)) .nil))))
  (.cons (.while_ 1000 (.cmp .lt (.var 5) (.var 6)) (
    (.cons (.assign 7 (.idx (.var 0) (.var 5)))
    (.cons (.assign 5 (.bin .add (.var 5) (.lit (.int 1))))
    (.cons (.ite (.cmp .eq (.var 7) (.lit (.str [42]))) (
      (.cons (.ite (.or (.not (.var 3)) (.cons (.cmp .isnot (.idx (.var 3) (.neg (.lit (.int 1)))) (.var 1)) .nil)) (
        (.cons (.appndB 4 (.var 1)) .nil)) .nil) .nil)) (
      (.cons (.ite (.cmp .eq (.var 7) (.lit (.str [63]))) (
        (.cons (.appndB 4 (.var 2)) .nil)) (
        (.cons (.ite (.cmp .eq (.var 7) (.lit (.str [91]))) (
          (.cons (.assign 8 (.var 5))
          (.cons (.ite (.and (.cmp .lt (.var 8) (.var 6)) (.cons (.cmp .eq (.idx (.var 0) (.var 8)) (.lit (.str [33]))) .nil)) (
            (.cons (.assign 8 (.bin .add (.var 8) (.lit (.int 1)))) .nil)) .nil)
          (.cons (.ite (.and (.cmp .lt (.var 8) (.var 6)) (.cons (.cmp .eq (.idx (.var 0) (.var 8)) (.lit (.str [93]))) .nil)) (
            (.cons (.assign 8 (.bin .add (.var 8) (.lit (.int 1)))) .nil)) .nil)
          (.cons (.while_ 1000 (.and (.cmp .lt (.var 8) (.var 6)) (.cons (.cmp .ne (.idx (.var 0) (.var 8)) (.lit (.str [93]))) .nil)) (
            (.cons (.assign 8 (.bin .add (.var 8) (.lit (.int 1)))) .nil)))
          (.cons (.ite (.cmp .ge (.var 8) (.var 6)) (
            (.cons (.appndB 4 (.lit (.str [92, 91]))) .nil)) (
            (.cons (.assign 9 (.sl (.var 0) (.var 5) (.var 8)))
            (.cons (.ite (.cmp .notin (.lit (.str [45])) (.var 9)) (
              (.cons (.assign 9 (.meth .replace (.var 9) (.cons (.lit (.str [92])) (.cons (.lit (.str [92, 92])) .nil)))) .nil)) (
              (.cons (.assign 10 (.lst .nil))
              (.cons (.assign 11 (.ite (.cmp .eq (.idx (.var 0) (.var 5)) (.lit (.str [33]))) (.bin .add (.var 5) (.lit (.int 2))) (.bin .add (.var 5) (.lit (.int 1)))))
              (.cons (.while_ 1000 (.lit (.bool true)) (
                (.cons (.assign 11 (.meth .find (.var 0) (.cons (.lit (.str [45])) (.cons (.var 11) (.cons (.var 8) .nil)))))
                (.cons (.ite (.cmp .lt (.var 11) (.lit (.int 0))) (
                  (.cons .brk .nil)) .nil)
                (.cons (.appnd 10 (.sl (.var 0) (.var 5) (.var 11)))
                (.cons (.assign 5 (.bin .add (.var 11) (.lit (.int 1))))
                (.cons (.assign 11 (.bin .add (.var 11) (.lit (.int 3)))) .nil)))))))
              (.cons (.assign 12 (.sl (.var 0) (.var 5) (.var 8)))
              (.cons (.ite (.var 12) (
                (.cons (.appnd 10 (.var 12)) .nil)) (
                (.cons (.augIdx 10 (.neg (.lit (.int 1))) .add (.lit (.str [45]))) .nil)))
              (.cons (.forDown 11 (.bin .sub (.len (.var 10)) (.lit (.int 1))) (.lit (.int 0)) (
                (.cons (.ite (.cmp .gt (.idx (.idx (.var 10) (.bin .sub (.var 11) (.lit (.int 1)))) (.neg (.lit (.int 1)))) (.idx (.idx (.var 10) (.var 11)) (.lit (.int 0)))) (
                  (.cons (.setL 10 (.bin .sub (.var 11) (.lit (.int 1))) (.bin .add (.slTo (.idx (.var 10) (.bin .sub (.var 11) (.lit (.int 1)))) (.neg (.lit (.int 1)))) (.slFrom (.idx (.var 10) (.var 11)) (.lit (.int 1)))))
                  (.cons (.delL 10 (.var 11)) .nil))) .nil) .nil)))
              (.cons (.assign 9 (.joinG (.lit (.str [45])) (.meth .replace (.meth .replace (.var 13) (.cons (.lit (.str [92])) (.cons (.lit (.str [92, 92])) .nil))) (.cons (.lit (.str [45])) (.cons (.lit (.str [92, 45])) .nil))) (.var 10))) .nil)))))))))
            (.cons (.assign 9 (.prim 100 (.cons (.var 9) .nil)))
            (.cons (.assign 5 (.bin .add (.var 8) (.lit (.int 1))))
            (.cons (.ite (.not (.var 9)) (
              (.cons (.appndB 4 (.lit (.str [40, 63, 33, 41]))) .nil)) (
              (.cons (.ite (.cmp .eq (.var 9) (.lit (.str [33]))) (
                (.cons (.appndB 4 (.lit (.str [46]))) .nil)) (
                (.cons (.ite (.cmp .eq (.idx (.var 9) (.lit (.int 0))) (.lit (.str [33]))) (
                  (.cons (.assign 9 (.bin .add (.lit (.str [94])) (.slFrom (.var 9) (.lit (.int 1))))) .nil)) (
                  (.cons (.ite (.cmp .isin (.idx (.var 9) (.lit (.int 0))) (.tup (.cons (.lit (.str [94])) (.cons (.lit (.str [91])) .nil)))) (
                    (.cons (.assign 9 (.bin .add (.lit (.str [92])) (.var 9))) .nil)) .nil) .nil)))
                (.cons (.appndB 4 (.fstr [91] (.var 9) [93])) .nil)))) .nil))) .nil))))))) .nil)))))) (
          (.cons (.appndB 4 (.call 3 (.cons (.var 7) .nil))) .nil))) .nil))) .nil))) .nil)))))
  (.cons (.assert_ (.cmp .eq (.var 5) (.var 6)))
  (.cons (.ret (.var 3)) .nil)))))))⟩
/-- slots: a=0, p=1, sep=2, path=3, b=4 -/
def Fjoin : Fun := ⟨2, 5, (
  (.cons (.assign 0 (.call 5 (.cons (.var 0) .nil)))
  (.cons (.assign 2 (.call 6 (.cons (.var 0) .nil)))
  (.cons (.assign 3 (.var 0))
  (.cons (.try_ (
    (.cons (.forE 4 (.var 1) (
      (.cons (.assign 4 (.call 5 (.cons (.var 4) .nil)))
      (.cons (.ite (.or (.meth .startswith (.var 4) (.cons (.var 2) .nil)) (.cons (.not (.var 3)) .nil)) (
        (.cons (.assign 3 (.var 4)) .nil)) (
        (.cons (.ite (.meth .endswith (.var 3) (.cons (.var 2) .nil)) (
          (.cons (.aug 3 .add (.var 4)) .nil)) (
          (.cons (.aug 3 .add (.bin .add (.var 2) (.var 4))) .nil))) .nil))) .nil))) .nil) .nil)))
  (.cons (.ret (.var 3)) .nil))))))⟩
/-- slots: p=0, sep=1, i=2 -/
def Fbasename : Fun := ⟨1, 3, (
  (.cons (.assign 0 (.call 5 (.cons (.var 0) .nil)))
  (.cons (.assign 1 (.call 6 (.cons (.var 0) .nil)))
  (.cons (.assign 2 (.bin .add (.meth .rfind (.var 0) (.cons (.var 1) .nil)) (.lit (.int 1))))
  (.cons (.ret (.slFrom (.var 0) (.var 2))) .nil)))))⟩
/-- slots: p=0, sep=1, i=2, head=3 -/
def Fdirname : Fun := ⟨1, 4, (
  (.cons (.assign 0 (.call 5 (.cons (.var 0) .nil)))
  (.cons (.assign 1 (.call 6 (.cons (.var 0) .nil)))
  (.cons (.assign 2 (.bin .add (.meth .rfind (.var 0) (.cons (.var 1) .nil)) (.lit (.int 1))))
  (.cons (.assign 3 (.slTo (.var 0) (.var 2)))
  (.cons (.ite (.and (.var 3) (.cons (.cmp .ne (.var 3) (.bin .mul (.var 1) (.len (.var 3)))) .nil)) (
    (.cons (.assign 3 (.meth .rstrip (.var 3) (.cons (.var 1) .nil))) .nil)) .nil)
  (.cons (.ret (.var 3)) .nil)))))))⟩
/-- slots: script=0, given=1, fixed=2 -/
def F_law_numbers : Fun := ⟨1, 3, (
  (.cons (.assign 1 (.bin .add (.slTo (.var 0) (.lit (.int 8))) (.bin .mul (.lst (.cons (.lit (.int 0)) .nil)) (.bin .sub (.lit (.int 8)) (.len (.slTo (.var 0) (.lit (.int 8))))))))
  (.cons (.assign 2 (.lst (.cons (.lit (.int 86)) (.cons (.lit (.int 128512)) (.cons (.lit (.int 717440)) (.cons (.lit (.int 9228868)) (.cons (.lit (.int 9502676)) (.cons (.lit (.int 150013084)) (.cons (.lit (.int 12582912)) (.cons (.lit (.int 33486052)) .nil))))))))))
  (.cons (.ret (.compR (.bin .add (.bin .mod (.idx (.var 1) (.var 3)) (.bin .pow (.lit (.int 10)) (.lit (.int 12)))) (.idx (.var 2) (.var 3))) (.lit (.int 8)))) .nil))))⟩
/-- slots: number=0, table=1, left=2, items=3, k=4 -/
def F_law_items : Fun := ⟨1, 5, (
  (.cons (.assign 1 (.lst (.cons (.tup (.cons (.lit (.str [42])) (.cons (.lit (.str [97, 110, 121, 32, 114, 117, 110])) .nil))) (.cons (.tup (.cons (.lit (.str [63])) (.cons (.lit (.str [97, 98, 46, 45, 91, 58, 32])) .nil))) (.cons (.tup (.cons (.lit (.str [97])) (.cons (.lit (.str [97])) .nil))) (.cons (.tup (.cons (.lit (.str [46])) (.cons (.lit (.str [46])) .nil))) (.cons (.tup (.cons (.lit (.str [91, 33, 97, 93])) (.cons (.lit (.str [98, 46, 45, 91, 58, 32])) .nil))) (.cons (.tup (.cons (.lit (.str [91, 46, 45, 93])) (.cons (.lit (.str [46, 45])) .nil))) (.cons (.tup (.cons (.lit (.str [91, 91, 93])) (.cons (.lit (.str [91])) .nil))) (.cons (.tup (.cons (.lit (.str [91, 98, 45, 97, 93])) (.cons (.lit (.str [])) .nil))) (.cons (.tup (.cons (.lit (.str [91, 33, 98, 45, 97, 93])) (.cons (.lit (.str [97, 98, 46, 45, 91, 58, 32])) .nil))) (.cons (.tup (.cons (.lit (.str [91, 97, 45, 98, 93])) (.cons (.lit (.str [97, 98])) .nil))) (.cons (.tup (.cons (.lit (.str [91, 33, 45, 46, 93])) (.cons (.lit (.str [97, 98, 91, 58, 32])) .nil))) (.cons (.tup (.cons (.lit (.str [91, 32, 45, 58, 93])) (.cons (.lit (.str [46, 45, 58, 32])) .nil))) (.cons (.tup (.cons (.lit (.str [91, 45, 45, 98, 93])) (.cons (.lit (.str [97, 98, 46, 45, 91, 58])) .nil))) .nil)))))))))))))))
  (.cons (.assign 2 (.bin .fdiv (.var 0) (.lit (.int 24))))
  (.cons (.assign 3 (.lst .nil))
  (.cons (.forR 4 (.lit (.int 0)) (.bin .mod (.bin .fdiv (.var 0) (.lit (.int 6))) (.lit (.int 4))) (
    (.cons (.appnd 3 (.idx (.var 1) (.bin .mod (.bin .fdiv (.var 2) (.bin .pow (.lit (.int 13)) (.var 4))) (.lit (.int 13))))) .nil)))
  (.cons (.ret (.var 3)) .nil))))))⟩
/-- slots: numbers=0, nodes=1, folders=2, number=3, kind=4, left=5, above=6, name=7, k=8 -/
def F_law_tree : Fun := ⟨1, 9, (
  (.cons (.assign 1 (.lst (.cons (.tup (.cons (.lit (.int 0)) (.cons (.lit (.str [])) (.cons (.lit (.int 4)) (.cons (.lit (.int 0)) .nil))))) .nil)))
  (.cons (.assign 2 (.lst (.cons (.lit (.int 0)) .nil)))
  (.cons (.forE 3 (.slFrom (.var 0) (.lit (.int 1))) (
    (.cons (.assign 4 (.ite (.cmp .lt (.bin .mod (.var 3) (.lit (.int 8))) (.lit (.int 4))) (.lit (.int 4)) (.bin .mod (.bin .fdiv (.var 3) (.lit (.int 8))) (.lit (.int 16)))))
    (.cons (.assign 5 (.bin .fdiv (.var 3) (.bin .pow (.lit (.int 2)) (.lit (.int 19)))))
    (.cons (.assign 6 (.idx (.var 2) (.bin .mod (.var 5) (.len (.var 2)))))
    (.cons (.aug 5 .fdiv (.len (.var 2)))
    (.cons (.assign 7 (.lit (.str [])))
    (.cons (.forR 8 (.lit (.int 0)) (.bin .add (.lit (.int 1)) (.bin .mod (.var 5) (.lit (.int 2)))) (
      (.cons (.aug 7 .add (.idx (.lit (.str [97, 98, 46, 45, 91, 58, 32])) (.bin .mod (.bin .fdiv (.bin .fdiv (.var 5) (.lit (.int 2))) (.bin .pow (.lit (.int 7)) (.var 8))) (.lit (.int 7))))) .nil)))
    (.cons (.while_ 1000 (.or (.cmp .isin (.var 7) (.lst (.cons (.lit (.str [46])) (.cons (.lit (.str [46, 46])) .nil)))) (.cons (.cmp .isin (.var 7) (.compLI (.idx (.var 9) (.lit (.int 1))) (.slFrom (.var 1) (.lit (.int 1))) (.cmp .eq (.idx (.var 9) (.lit (.int 0))) (.var 6)))) .nil)) (
      (.cons (.aug 7 .add (.lit (.str [97]))) .nil)))
    (.cons (.ite (.cmp .eq (.var 4) (.lit (.int 4))) (
      (.cons (.appnd 2 (.len (.var 1))) .nil)) .nil)
    (.cons (.appnd 1 (.tup (.cons (.var 6) (.cons (.var 7) (.cons (.var 4) (.cons (.bin .mod (.bin .fdiv (.var 3) (.lit (.int 128))) (.lit (.int 4096))) .nil)))))) .nil)))))))))) .nil)
  (.cons (.ret (.var 1)) .nil)))))⟩
/-- slots: base=0, nodes=1, paths=2, world=3, above=4, name=5, kind=6, rights=7 -/
def F_law_world : Fun := ⟨2, 8, (
  (.cons (.assign 2 (.lst (.cons (.var 0) .nil)))
  (.cons (.assignD 3)
  (.cons (.forT [4, 5, 6, 7] (.slFrom (.var 1) (.lit (.int 1))) (
    (.cons (.appnd 2 (.call 7 (.cons (.idx (.var 2) (.var 4)) (.cons (.var 5) .nil))))
    (.cons (.setD 3 (.idx (.var 2) (.neg (.lit (.int 1)))) (.bin .add (.bin .add (.bin .mul (.lit (.int 65536)) (.bin .mod (.var 7) (.lit (.int 3)))) (.bin .mul (.lit (.int 4096)) (.var 6))) (.var 7))) .nil))) .nil)
  (.cons (.ret (.var 3)) .nil)))))⟩
/-- slots: part=0, sign=1, barred=2, k=3, met=4, low=5, high=6 -/
def F_law_fits : Fun := ⟨2, 7, (
  (.cons (.ite (.cmp .eq (.var 0) (.lit (.str [46]))) (
    (.cons (.ret (.lit (.bool true))) .nil)) .nil)
  (.cons (.ite (.cmp .eq (.var 0) (.lit (.str [40, 63, 33, 41]))) (
    (.cons (.ret (.lit (.bool false))) .nil)) .nil)
  (.cons (.ite (.cmp .ne (.idx (.var 0) (.lit (.int 0))) (.lit (.str [91]))) (
    (.cons (.ret (.or (.cmp .eq (.var 0) (.var 1)) (.cons (.cmp .eq (.var 0) (.bin .add (.lit (.str [92])) (.var 1))) .nil))) .nil)) .nil)
  (.cons (.assign 2 (.cmp .eq (.idx (.var 0) (.lit (.int 1))) (.lit (.str [94]))))
  (.cons (.assign 3 (.ite (.var 2) (.lit (.int 2)) (.lit (.int 1))))
  (.cons (.assign 4 (.lit (.bool false)))
  (.cons (.while_ 1000 (.cmp .lt (.var 3) (.bin .sub (.len (.var 0)) (.lit (.int 1)))) (
    (.cons (.ite (.cmp .eq (.idx (.var 0) (.var 3)) (.lit (.str [92]))) (
      (.cons (.aug 3 .add (.lit (.int 1))) .nil)) .nil)
    (.cons (.assign 5 (.idx (.var 0) (.var 3)))
    (.cons (.assign 6 (.var 5))
    (.cons (.ite (.and (.cmp .eq (.idx (.var 0) (.bin .add (.var 3) (.lit (.int 1)))) (.lit (.str [45]))) (.cons (.cmp .lt (.bin .add (.var 3) (.lit (.int 2))) (.bin .sub (.len (.var 0)) (.lit (.int 1)))) .nil)) (
      (.cons (.aug 3 .add (.lit (.int 2)))
      (.cons (.ite (.cmp .eq (.idx (.var 0) (.var 3)) (.lit (.str [92]))) (
        (.cons (.aug 3 .add (.lit (.int 1))) .nil)) .nil)
      (.cons (.assign 6 (.idx (.var 0) (.var 3))) .nil)))) .nil)
    (.cons (.assign 4 (.or (.var 4) (.cons (.chain .le .le (.var 5) (.var 1) (.var 6)) .nil)))
    (.cons (.aug 3 .add (.lit (.int 1))) .nil))))))))
  (.cons (.ret (.cmp .ne (.var 4) (.var 2))) .nil)))))))))⟩
/-- slots: parts=0, text=1, at=2, part=3 -/
def F_law_takes : Fun := ⟨2, 4, (
  (.cons (.assign 2 (.lst (.cons (.lit (.int 0)) .nil)))
  (.cons (.forE 3 (.var 0) (
    (.cons (.ite (.cmp .eq (.var 3) (.lst (.cons (.lit (.str [115, 116, 97, 114])) .nil))) (
      (.cons (.assign 2 (.ite (.cmp .ne (.var 2) (.lst .nil)) (.listRange (.idx (.var 2) (.lit (.int 0))) (.bin .add (.len (.var 1)) (.lit (.int 1)))) (.lst .nil))) .nil)) (
      (.cons (.assign 2 (.compLI (.bin .add (.var 4) (.lit (.int 1))) (.var 2) (.and (.cmp .lt (.var 4) (.len (.var 1))) (.cons (.call 14 (.cons (.var 3) (.cons (.idx (.var 1) (.var 4)) .nil))) .nil)))) .nil))) .nil)) .nil)
  (.cons (.ret (.cmp .isin (.len (.var 1)) (.var 2))) .nil))))⟩
/-- slots: base=0, world=1, pattern=2, parts=3, rows=4, waiting=5, folder=6, deeper=7, path=8, name=9 -/
def F_law_listing : Fun := ⟨3, 10, (
  (.cons (.assign 3 (.call 4 (.cons (.var 2) (.cons (.lst (.cons (.lit (.str [115, 116, 97, 114])) .nil)) (.cons (.lit (.str [46])) .nil)))))
  (.cons (.assign 4 (.lst .nil))
  (.cons (.assign 5 (.lst (.cons (.var 0) .nil)))
  (.cons (.while_ 1000 (.cmp .ne (.var 5) (.lst .nil)) (
    (.cons (.assign 6 (.idx (.var 5) (.lit (.int 0))))
    (.cons (.appnd 4 (.bin .add (.var 6) (.lit (.str [58]))))
    (.cons (.assign 7 (.lst .nil))
    (.cons (.forE 8 (.var 1) (
      (.cons (.assign 9 (.call 8 (.cons (.var 8) .nil)))
      (.cons (.ite (.and (.cmp .eq (.call 9 (.cons (.var 8) .nil)) (.var 6)) (.cons (.not (.call 15 (.cons (.var 3) (.cons (.var 9) .nil)))) .nil)) (
        (.cons (.appnd 4 (.bin .add (.bin .add (.call 2 (.cons (.idx (.var 1) (.var 8)) .nil)) (.lit (.str [32]))) (.var 9)))
        (.cons (.ite (.call 1 (.cons (.idx (.var 1) (.var 8)) .nil)) (
          (.cons (.appnd 7 (.var 8)) .nil)) .nil) .nil))) .nil) .nil))) .nil)
    (.cons (.appnd 4 (.lit (.str [])))
    (.cons (.assign 5 (.bin .add (.var 7) (.slFrom (.var 5) (.lit (.int 1))))) .nil))))))))
  (.cons (.ret (.meth .join (.lit (.str [10])) (.cons (.var 4) .nil))) .nil))))))⟩
/-- slots: signs=0, special=1, rights=2, k=3, run=4 -/
def F_law_rights : Fun := ⟨1, 5, (
  (.cons (.assign 1 (.lit (.int 0)))
  (.cons (.assign 2 (.lit (.int 0)))
  (.cons (.forR 3 (.lit (.int 0)) (.lit (.int 3)) (
    (.cons (.assign 4 (.meth .find (.idx (.lst (.cons (.lit (.str [45, 120, 83, 115])) (.cons (.lit (.str [45, 120, 83, 115])) (.cons (.lit (.str [45, 120, 84, 116])) .nil)))) (.var 3)) (.cons (.idx (.var 0) (.bin .add (.bin .mul (.lit (.int 3)) (.var 3)) (.lit (.int 2)))) .nil)))
    (.cons (.ite (.or (.cmp .lt (.var 4) (.lit (.int 0))) (.cons (.cmp .notin (.idx (.var 0) (.bin .mul (.lit (.int 3)) (.var 3))) (.lit (.str [114, 45]))) (.cons (.cmp .notin (.idx (.var 0) (.bin .add (.bin .mul (.lit (.int 3)) (.var 3)) (.lit (.int 1)))) (.lit (.str [119, 45]))) .nil))) (
      (.cons (.ret (.neg (.lit (.int 1)))) .nil)) .nil)
    (.cons (.assign 1 (.bin .add (.bin .mul (.var 1) (.lit (.int 2))) (.bin .fdiv (.var 4) (.lit (.int 2)))))
    (.cons (.assign 2 (.bin .add (.bin .mul (.var 2) (.lit (.int 8))) (.bin .mod (.var 4) (.lit (.int 2)))))
    (.cons (.ite (.cmp .eq (.idx (.var 0) (.bin .mul (.lit (.int 3)) (.var 3))) (.lit (.str [114]))) (
      (.cons (.aug 2 .add (.lit (.int 4))) .nil)) .nil)
    (.cons (.ite (.cmp .eq (.idx (.var 0) (.bin .add (.bin .mul (.lit (.int 3)) (.var 3)) (.lit (.int 1)))) (.lit (.str [119]))) (
      (.cons (.aug 2 .add (.lit (.int 2))) .nil)) .nil) .nil))))))))
  (.cons (.ret (.bin .add (.bin .mul (.var 1) (.lit (.int 512))) (.var 2))) .nil)))))⟩
/-- slots: base=0, text=1, known=2, headings=3, files=4, folder=5, opening=6, row=7, key=8 -/
def F_law_read : Fun := ⟨2, 9, (
  (.cons (.assignD1 2 (.var 0) (.lit (.str [])))
  (.cons (.assign 3 (.lst .nil))
  (.cons (.assign 4 (.lst .nil))
  (.cons (.assign 5 (.var 0))
  (.cons (.assign 6 (.lit (.bool true)))
  (.cons (.forE 7 (.meth .split (.var 1) (.cons (.lit (.str [10])) .nil)) (
    (.cons (.ite (.var 6) (
      (.cons (.assign 5 (.slTo (.var 7) (.neg (.lit (.int 1)))))
      (.cons (.ite (.or (.cmp .ne (.slFrom (.var 7) (.neg (.lit (.int 1)))) (.lit (.str [58]))) (.cons (.cmp .notin (.var 5) (.var 2)) .nil)) (
        (.cons (.ret (.tup (.cons (.lst .nil) (.cons (.lst .nil) .nil)))) .nil)) .nil)
      (.cons (.appnd 3 (.idx (.var 2) (.var 5)))
      (.cons (.assign 6 (.lit (.bool false))) .nil))))) (
      (.cons (.ite (.cmp .eq (.var 7) (.lit (.str []))) (
        (.cons (.assign 6 (.lit (.bool true))) .nil)) (
        (.cons (.ite (.or (.cmp .lt (.len (.var 7)) (.lit (.int 12))) (.cons (.cmp .ne (.idx (.var 7) (.lit (.int 10))) (.lit (.str [32]))) .nil)) (
          (.cons (.ret (.tup (.cons (.lst .nil) (.cons (.lst .nil) .nil)))) .nil)) .nil)
        (.cons (.assign 8 (.bin .add (.bin .add (.idx (.var 2) (.var 5)) (.lit (.str [47]))) (.slFrom (.var 7) (.lit (.int 11)))))
        (.cons (.appnd 4 (.tup (.cons (.var 8) (.cons (.idx (.var 7) (.lit (.int 0))) (.cons (.call 17 (.cons (.sl (.var 7) (.lit (.int 1)) (.lit (.int 10))) .nil)) .nil)))))
        (.cons (.ite (.cmp .eq (.idx (.var 7) (.lit (.int 0))) (.lit (.str [100]))) (
          (.cons (.setD 2 (.bin .add (.bin .add (.var 5) (.ite (.or (.cmp .eq (.var 5) (.lit (.str []))) (.cons (.cmp .eq (.idx (.var 5) (.neg (.lit (.int 1)))) (.lit (.str [47]))) .nil)) (.lit (.str [])) (.lit (.str [47])))) (.slFrom (.var 7) (.lit (.int 11)))) (.var 8)) .nil)) .nil) .nil)))))) .nil))) .nil)) .nil)
  (.cons (.ret (.tup (.cons (.sorted (.var 3)) (.cons (.sorted (.var 4)) .nil)))) .nil))))))))⟩
/-- slots: items=0, name=1 -/
def F_law_plain : Fun := ⟨2, 2, (
  (.cons (.ite (.cmp .eq (.var 0) (.lst .nil)) (
    (.cons (.ret (.cmp .eq (.var 1) (.lit (.str [])))) .nil)) .nil)
  (.cons (.ite (.cmp .eq (.idx (.idx (.var 0) (.lit (.int 0))) (.lit (.int 0))) (.lit (.str [42]))) (
    (.cons (.ret (.cmp .isin (.lit (.bool true)) (.compR (.call 19 (.cons (.slFrom (.var 0) (.lit (.int 1))) (.cons (.slFrom (.var 1) (.var 2)) .nil))) (.bin .add (.len (.var 1)) (.lit (.int 1)))))) .nil)) .nil)
  (.cons (.ret (.and (.cmp .ne (.var 1) (.lit (.str []))) (.cons (.cmp .isin (.idx (.var 1) (.lit (.int 0))) (.idx (.idx (.var 0) (.lit (.int 0))) (.lit (.int 1)))) (.cons (.call 19 (.cons (.slFrom (.var 0) (.lit (.int 1))) (.cons (.slFrom (.var 1) (.lit (.int 1))) .nil))) .nil)))) .nil))))⟩
/-- slots: nodes=0, items=1, keys=2, kept=3, files=4, above=5, name=6, kind=7, rights=8, headings=9 -/
def F_law_due : Fun := ⟨2, 10, (
  (.cons (.assign 2 (.lst (.cons (.lit (.str [])) .nil)))
  (.cons (.assign 3 (.lst (.cons (.lit (.bool true)) .nil)))
  (.cons (.assign 4 (.lst .nil))
  (.cons (.forT [5, 6, 7, 8] (.slFrom (.var 0) (.lit (.int 1))) (
    (.cons (.appnd 2 (.bin .add (.bin .add (.idx (.var 2) (.var 5)) (.lit (.str [47]))) (.var 6)))
    (.cons (.appnd 3 (.and (.idx (.var 3) (.var 5)) (.cons (.not (.call 19 (.cons (.var 1) (.cons (.var 6) .nil)))) .nil)))
    (.cons (.ite (.idx (.var 3) (.neg (.lit (.int 1)))) (
      (.cons (.appnd 4 (.tup (.cons (.idx (.var 2) (.neg (.lit (.int 1)))) (.cons (.idx (.lit (.str [63, 112, 99, 63, 100, 63, 98, 63, 45, 63, 108, 63, 115, 63, 63, 63])) (.var 7)) (.cons (.var 8) .nil))))) .nil)) .nil) .nil)))) .nil)
  (.cons (.assign 9 (.compRI (.idx (.var 2) (.var 10)) (.len (.var 0)) (.and (.idx (.var 3) (.var 10)) (.cons (.cmp .eq (.idx (.idx (.var 0) (.var 10)) (.lit (.int 2))) (.lit (.int 4))) .nil))))
  (.cons (.ret (.tup (.cons (.sorted (.var 9)) (.cons (.sorted (.var 4)) .nil)))) .nil)))))))⟩
/-- slots: script=0, numbers=1, base=2, items=3, nodes=4, pattern=5, told=6 -/
def Flaw : Fun := ⟨1, 7, (
  (.cons (.assign 1 (.call 10 (.cons (.var 0) .nil)))
  (.cons (.assign 2 (.idx (.lst (.cons (.lit (.str [47])) (.cons (.lit (.str [])) (.cons (.lit (.str [116])) (.cons (.lit (.str [47, 47])) (.cons (.lit (.str [46, 47, 116])) (.cons (.lit (.str [116, 47, 97])) .nil))))))) (.bin .mod (.idx (.var 1) (.lit (.int 0))) (.lit (.int 6)))))
  (.cons (.assign 3 (.call 11 (.cons (.idx (.var 1) (.lit (.int 0))) .nil)))
  (.cons (.assign 4 (.call 12 (.cons (.var 1) .nil)))
  (.cons (.assign 5 (.meth .join (.lit (.str [])) (.cons (.compL (.idx (.var 7) (.lit (.int 0))) (.var 3)) .nil)))
  (.cons (.assign 6 (.call 16 (.cons (.var 2) (.cons (.call 13 (.cons (.var 2) (.cons (.var 4) .nil))) (.cons (.var 5) .nil)))))
  (.cons (.ret (.cmp .eq (.call 18 (.cons (.var 2) (.cons (.var 6) .nil))) (.call 20 (.cons (.var 4) (.cons (.var 3) .nil))))) .nil))))))))⟩
end Mine
end
section
open PySem PySem.W PyProof.Rows
set_option Elab.async false
set_option maxRecDepth 100000
set_option maxHeartbeats 0
namespace Mine
open_top hd for PySem.Challenge.rw_in0236_01
end Mine
end
section
set_option autoImplicit false
namespace Mine
open PySem

abbrev NoE : Value → Shared → Prop := fun _ _ => False
/-- the one object that the call may change: the table of _translate's code object -/
def gT : Addr := 111
def gC : Addr := 115

section
variable (prog : Program) (w : World) (ρ : Addr)

abbrev sk : KeyKind prog w Str := strKind prog w

mutual
inductive RD (Mu : Addr → Prop) (h : Heap) : Value → D → Prop
  | none : RD Mu h .none .none
  | bool (b : Bool) : RD Mu h (.bool b) (.bool b)
  | int (i : Int) (t : Tok) : RD Mu h (.int i t) (.int i)
  | str (s : List Nat) (t : Tok) : RD Mu h (.str ⟨s.toArray⟩ t) (.str s)
  | tup {a : Addr} {vs : List Value} {ds : List D} : ¬ Mu a → PyProof.Rows.IsTup h a vs.toArray → RDs Mu h vs ds → RD Mu h (.ref a) (.tup ds)
  | list {a : Addr} {vs : List Value} {ds : List D} : ¬ Mu a → h.PlainList a vs.toArray → RDs Mu h vs ds → RD Mu h (.ref a) (.list ds)
  | dict {a : Addr} {kvs : List (Str × Value)} {kds : List (List Nat × D)} : ¬ Mu a → (a == sysModules) = false → h.DictOf (sk prog w) a kvs → REs Mu h kvs kds → RD Mu h (.ref a) (.dict kds)
  | adr (n : Nat) : RD Mu h (.ref ρ) (.adr n)
inductive RDs (Mu : Addr → Prop) (h : Heap) : List Value → List D → Prop
  | nil : RDs Mu h [] []
  | cons {v : Value} {d : D} {vs : List Value} {ds : List D} : RD Mu h v d → RDs Mu h vs ds → RDs Mu h (v :: vs) (d :: ds)
inductive REs (Mu : Addr → Prop) (h : Heap) : List (Str × Value) → List (List Nat × D) → Prop
  | nil : REs Mu h [] []
  | cons {s : List Nat} {v : Value} {d : D} {kvs : List (Str × Value)} {kds : List (List Nat × D)} : RD Mu h v d → REs Mu h kvs kds → REs Mu h ((⟨s.toArray⟩, v) :: kvs) ((s, d) :: kds)
end
end

section
variable {prog : Program} {w : World} {ρ : Addr} {Mu Mu' : Addr → Prop} {h h' : Heap}

theorem isTup_at {a : Addr} {its : Array Value} (x : PyProof.Rows.IsTup h a its) (k : ∀ o, h.get? a = some o → h'.get? a = some o) : PyProof.Rows.IsTup h' a its :=
  let ⟨o, ho, r⟩ := x; ⟨o, k o ho, r⟩
theorem plainList_at {a : Addr} {its : Array Value} (x : h.PlainList a its) (k : ∀ o, h.get? a = some o → h'.get? a = some o) : h'.PlainList a its :=
  let ⟨n, ho⟩ := x; ⟨n, k _ ho⟩
theorem dictOf_at {K : Type} [DecidableEq K] {knd : KeyKind prog w K} {a : Addr} {kvs : List (K × Value)} (x : h.DictOf knd a kvs) (k : ∀ o, h.get? a = some o → h'.get? a = some o) : h'.DictOf knd a kvs :=
  let ⟨o, es, ep, ho, r⟩ := x; ⟨o, es, ep, k o ho, r⟩

mutual
/-- the reading goes on where every object that is not hidden stays, and no more is hidden -/
theorem RD.mono (hm : ∀ a, ¬ Mu a → ¬ Mu' a) (hk : ∀ a o, ¬ Mu a → h.get? a = some o → h'.get? a = some o) : ∀ {v : Value} {d : D}, RD prog w ρ Mu h v d → RD prog w ρ Mu' h' v d
  | _, _, .none => .none
  | _, _, .bool b => .bool b
  | _, _, .int i t => .int i t
  | _, _, .str s t => .str s t
  | _, _, .tup n t r => .tup (hm _ n) (isTup_at t fun o => hk _ o n) (RDs.mono hm hk r)
  | _, _, .list n t r => .list (hm _ n) (plainList_at t fun o => hk _ o n) (RDs.mono hm hk r)
  | _, _, .dict n e t r => .dict (hm _ n) e (dictOf_at t fun o => hk _ o n) (REs.mono hm hk r)
  | _, _, .adr a => .adr a
theorem RDs.mono (hm : ∀ a, ¬ Mu a → ¬ Mu' a) (hk : ∀ a o, ¬ Mu a → h.get? a = some o → h'.get? a = some o) : ∀ {vs : List Value} {ds : List D}, RDs prog w ρ Mu h vs ds → RDs prog w ρ Mu' h' vs ds
  | _, _, .nil => .nil
  | _, _, .cons a r => .cons (RD.mono hm hk a) (RDs.mono hm hk r)
theorem REs.mono (hm : ∀ a, ¬ Mu a → ¬ Mu' a) (hk : ∀ a o, ¬ Mu a → h.get? a = some o → h'.get? a = some o) : ∀ {vs : List (Str × Value)} {ds : List (List Nat × D)}, REs prog w ρ Mu h vs ds → REs prog w ρ Mu' h' vs ds
  | _, _, .nil => .nil
  | _, _, .cons a r => .cons (RD.mono hm hk a) (REs.mono hm hk r)
end

mutual
/-- a thing read in h knows nothing of an address at which h bears nothing -/
theorem RD.hide {a₀ : Addr} (hn : h.get? a₀ = none) : ∀ {v : Value} {d : D}, RD prog w ρ Mu h v d → RD prog w ρ (fun b => Mu b ∨ b = a₀) h v d
  | _, _, .none => .none
  | _, _, .bool b => .bool b
  | _, _, .int i t => .int i t
  | _, _, .str s t => .str s t
  | _, _, .tup n t r => .tup (fun q => q.elim n fun e => by obtain ⟨o, ho, _⟩ := t; rw [e, hn] at ho; cases ho) t (RDs.hide hn r)
  | _, _, .list n t r => .list (fun q => q.elim n fun e => by obtain ⟨k, ho⟩ := t; rw [e, hn] at ho; cases ho) t (RDs.hide hn r)
  | _, _, .dict n e t r => .dict (fun q => q.elim n fun e => by obtain ⟨o, _, _, ho, _⟩ := t; rw [e, hn] at ho; cases ho) e t (REs.hide hn r)
  | _, _, .adr a => .adr a
theorem RDs.hide {a₀ : Addr} (hn : h.get? a₀ = none) : ∀ {vs : List Value} {ds : List D}, RDs prog w ρ Mu h vs ds → RDs prog w ρ (fun b => Mu b ∨ b = a₀) h vs ds
  | _, _, .nil => .nil
  | _, _, .cons a r => .cons (RD.hide hn a) (RDs.hide hn r)
theorem REs.hide {a₀ : Addr} (hn : h.get? a₀ = none) : ∀ {vs : List (Str × Value)} {ds : List (List Nat × D)}, REs prog w ρ Mu h vs ds → REs prog w ρ (fun b => Mu b ∨ b = a₀) h vs ds
  | _, _, .nil => .nil
  | _, _, .cons a r => .cons (RD.hide hn a) (REs.hide hn r)
end

theorem RDs.length : ∀ {vs : List Value} {ds : List D}, RDs prog w ρ Mu h vs ds → vs.length = ds.length
  | _, _, .nil => rfl
  | _, _, .cons _ r => by rw [List.length_cons, List.length_cons, RDs.length r]
theorem RDs.append : ∀ {vs : List Value} {ds : List D} {us : List Value} {es : List D}, RDs prog w ρ Mu h vs ds → RDs prog w ρ Mu h us es → RDs prog w ρ Mu h (vs ++ us) (ds ++ es)
  | _, _, _, _, .nil, y => y
  | _, _, _, _, .cons a r, y => .cons a (RDs.append r y)
theorem RDs.get : ∀ {vs : List Value} {ds : List D} {i : Nat} {d : D}, RDs prog w ρ Mu h vs ds → ds[i]? = some d → ∃ v, vs[i]? = some v ∧ RD prog w ρ Mu h v d
  | _, _, 0, _, .cons a _, e => by simp at e; subst e; exact ⟨_, rfl, a⟩
  | _, _, i + 1, _, .cons _ r, e => by
    simp only [List.getElem?_cons_succ] at e
    obtain ⟨v, hv, hr⟩ := RDs.get r e
    exact ⟨v, by simpa using hv, hr⟩
theorem RDs.get' : ∀ {vs : List Value} {ds : List D} {i : Nat} {v : Value}, RDs prog w ρ Mu h vs ds → vs[i]? = some v → ∃ d, ds[i]? = some d ∧ RD prog w ρ Mu h v d
  | _, _, 0, _, .cons a _, e => by simp at e; subst e; exact ⟨_, rfl, a⟩
  | _, _, i + 1, _, .cons _ r, e => by
    simp only [List.getElem?_cons_succ] at e
    obtain ⟨v, hv, hr⟩ := RDs.get' r e
    exact ⟨v, by simpa using hv, hr⟩
theorem RDs.take : ∀ {vs : List Value} {ds : List D} (n : Nat), RDs prog w ρ Mu h vs ds → RDs prog w ρ Mu h (vs.take n) (ds.take n)
  | _, _, 0, _ => by simp only [List.take_zero]; exact .nil
  | _, _, _ + 1, .nil => by simp only [List.take_nil]; exact .nil
  | _, _, n + 1, .cons a r => by simp only [List.take_succ_cons]; exact .cons a (RDs.take n r)
theorem RDs.drop : ∀ {vs : List Value} {ds : List D} (n : Nat), RDs prog w ρ Mu h vs ds → RDs prog w ρ Mu h (vs.drop n) (ds.drop n)
  | _, _, 0, x => x
  | _, _, _ + 1, .nil => by simp only [List.drop_nil]; exact .nil
  | _, _, n + 1, .cons _ r => by simp only [List.drop_succ_cons]; exact RDs.drop n r
theorem RDs.set {x : Value} {y : D} (hx : RD prog w ρ Mu h x y) : ∀ {vs : List Value} {ds : List D} (n : Nat), RDs prog w ρ Mu h vs ds → RDs prog w ρ Mu h (vs.set n x) (ds.set n y)
  | _, _, _, .nil => .nil
  | _, _, 0, .cons _ r => .cons hx r
  | _, _, n + 1, .cons a r => .cons a (RDs.set hx n r)
theorem RDs.eraseIdx : ∀ {vs : List Value} {ds : List D} (n : Nat), RDs prog w ρ Mu h vs ds → RDs prog w ρ Mu h (vs.eraseIdx n) (ds.eraseIdx n)
  | _, _, _, .nil => .nil
  | _, _, 0, .cons _ r => r
  | _, _, n + 1, .cons a r => .cons a (RDs.eraseIdx n r)
theorem RDs.replicate {x : Value} {y : D} (hx : RD prog w ρ Mu h x y) : ∀ n : Nat, RDs prog w ρ Mu h (List.replicate n x) (List.replicate n y)
  | 0 => .nil
  | n + 1 => .cons hx (RDs.replicate hx n)
theorem RDs.mem : ∀ {vs : List Value} {ds : List D} {v : Value}, RDs prog w ρ Mu h vs ds → v ∈ vs → ∃ d ∈ ds, RD prog w ρ Mu h v d
  | _, _, _, .cons a _, .head _ => ⟨_, .head _, a⟩
  | _, _, _, .cons _ r, .tail _ hv => let ⟨d, hd, x⟩ := RDs.mem r hv; ⟨d, .tail _ hd, x⟩

theorem REs.length : ∀ {vs : List (Str × Value)} {ds : List (List Nat × D)}, REs prog w ρ Mu h vs ds → vs.length = ds.length
  | _, _, .nil => rfl
  | _, _, .cons _ r => by rw [List.length_cons, List.length_cons, REs.length r]
end

mutual
/-- my data as the library's -/
def toPy : D → PyData
  | .none => .none
  | .bool b => .bool b
  | .int i => .int i
  | .str s => .str ⟨s.toArray⟩
  | .tup l => .tuple (toPys l)
  | .list l => .list (toPys l)
  | .dict _ => .dict []
  | .adr _ => .dict []
def toPys : List D → List PyData
  | [] => []
  | d :: l => toPy d :: toPys l
end

section
variable {prog : Program} {w : World} {ρ : Addr} {Mu Mu' : Addr → Prop} {h h' : Heap}

mutual
theorem RD.reads : ∀ {v : Value} {d : D} (n : Nat), RD prog w ρ Mu h v d → D.okEq n d = true → ∃ as, Reads h v (toPy d) as
  | _, _, _, .none, _ => ⟨_, .none⟩
  | _, _, _, .bool b, _ => ⟨_, .bool b⟩
  | _, _, _, .int i t, _ => ⟨_, .int i t⟩
  | _, _, _, .str s t, _ => ⟨_, .str _ t⟩
  | _, _, 0, .tup _ _ _, e => by simp [D.okEq] at e
  | _, _, n + 1, .tup _ ⟨o, ho, hc, k, hd⟩ r, e => by
    obtain ⟨as, q⟩ := RDs.reads n r (by simpa [D.okEq] using e)
    exact ⟨as, by rw [toPy]; exact .tuple ho hc hd (by simpa using q)⟩
  | _, _, 0, .list _ _ _, e => by simp [D.okEq] at e
  | _, _, n + 1, .list _ ⟨k, ho⟩ r, e => by
    obtain ⟨as, q⟩ := RDs.reads n r (by simpa [D.okEq] using e)
    exact ⟨_, by rw [toPy]; exact .list ho rfl rfl (by simpa using q)⟩
  | _, _, n, .dict _ _ _ _, e => by cases n <;> simp [D.okEq] at e
  | _, _, n, .adr _, e => by cases n <;> simp [D.okEq] at e
theorem RDs.reads : ∀ {vs : List Value} {ds : List D} (n : Nat), RDs prog w ρ Mu h vs ds → D.okEqs n ds = true → ∃ as, ReadsAll h vs (toPys ds) as
  | _, _, _, .nil, _ => ⟨_, .nil⟩
  | _, _, n, .cons a r, e => by
    simp only [D.okEqs, Bool.and_eq_true] at e
    obtain ⟨as, q⟩ := RD.reads n a e.1
    obtain ⟨bs, p⟩ := RDs.reads n r e.2
    exact ⟨_, by rw [toPys]; exact .cons q p⟩
end
end

mutual
theorem okEq_lay : ∀ (n : Nat) (d : D), D.okEq n d = true → (toPy d).canLay0 = true ∧ (toPy d).depth ≤ n
  | n, .none, _ => by simp [toPy, PyData.canLay0, PyData.depth]
  | n, .bool _, _ => by simp [toPy, PyData.canLay0, PyData.depth]
  | n, .int _, _ => by simp [toPy, PyData.canLay0, PyData.depth]
  | n, .str s, e => by
    have e' : s.all (fun x => decide (x < 1114112)) = true := by cases n <;> simpa [D.okEq] using e
    refine ⟨?_, by simp [toPy, PyData.depth]⟩
    simp only [toPy, PyData.canLay0, PyData.strOk]
    simpa using e'
  | 0, .tup _, e => by simp [D.okEq] at e
  | n + 1, .tup l, e => by
    have q := okEqs_lay n l (by simpa [D.okEq] using e)
    simp only [toPy, PyData.canLay0, PyData.depth, q.1, true_and]
    have := q.2
    omega
  | 0, .list _, e => by simp [D.okEq] at e
  | n + 1, .list l, e => by
    have q := okEqs_lay n l (by simpa [D.okEq] using e)
    simp only [toPy, PyData.canLay0, PyData.depth, q.1, true_and]
    have := q.2
    omega
  | n, .dict _, e => by cases n <;> simp [D.okEq] at e
  | n, .adr _, e => by cases n <;> simp [D.okEq] at e
theorem okEqs_lay : ∀ (n : Nat) (l : List D), D.okEqs n l = true → PyData.canLayAll0 (toPys l) = true ∧ PyData.depthAll (toPys l) ≤ n
  | n, [], _ => by simp [toPys, PyData.canLayAll0, PyData.depthAll]
  | n, d :: l, e => by
    simp only [D.okEqs, Bool.and_eq_true] at e
    have a := okEq_lay n d e.1
    have b := okEqs_lay n l e.2
    simp only [toPys, PyData.canLayAll0, PyData.depthAll, a.1, b.1, Bool.and_self, true_and]
    have := a.2
    have := b.2
    omega
end

theorem beq_str (x y : List Nat) : ((⟨x.toArray⟩ : Str) == ⟨y.toArray⟩) = (x == y) := by
  rw [Bool.eq_iff_iff]
  simp

mutual
theorem beq_eqv : ∀ (a b : D), D.okEq 8 a = true ∨ True → PyData.eqv (toPy a) (toPy b) = D.beq a b
  | .none, b, _ => by cases b <;> simp [toPy, PyData.eqv, D.beq]
  | .bool _, b, _ => by cases b <;> simp [toPy, PyData.eqv, D.beq]
  | .int _, b, _ => by cases b <;> simp [toPy, PyData.eqv, D.beq]
  | .str _, b, _ => by
    cases b with
    | str y => simp only [toPy, PyData.eqv, D.beq]; exact beq_str _ _
    | _ => simp [toPy, PyData.eqv, D.beq]
  | .tup l, b, _ => by
    cases b with
    | tup m => simp only [toPy, PyData.eqv, D.beq]; exact beqs_eqv l m
    | _ => simp [toPy, PyData.eqv, D.beq]
  | .list l, b, _ => by
    cases b with
    | list m => simp only [toPy, PyData.eqv, D.beq]; exact beqs_eqv l m
    | _ => simp [toPy, PyData.eqv, D.beq]
  | .dict _, b, _ => by cases b <;> simp [toPy, PyData.eqv, D.beq]
  | .adr _, b, _ => by cases b <;> simp [toPy, PyData.eqv, D.beq]
theorem beqs_eqv : ∀ (l m : List D), PyData.eqvAll (toPys l) (toPys m) = D.beqs l m
  | [], m => by cases m <;> simp [toPys, PyData.eqvAll, D.beqs]
  | d :: l, m => by
    cases m with
    | nil => simp [toPys, PyData.eqvAll, D.beqs]
    | cons e m => simp only [toPys, PyData.eqvAll, D.beqs]; rw [beq_eqv d e (.inr trivial), beqs_eqv l m]
end
end Mine
end
section
set_option autoImplicit false
namespace Mine
open PySem PySem.W

/-- what may be said of the one table -/
def TabInv (h : Heap) : Prop := CodeHd h gC gT ∧ ∃ ps, h.get? gT = some (tabObj ps) ∧ TriplesOk ps.toList
theorem TabInv.keeps {h h' : Heap} (x : TabInv h) (k : ∀ b o, h.get? b = some o → h'.get? b = some o) : TabInv h' :=
  let ⟨c, ps, a, b⟩ := x; ⟨c.keeps k, ps, k _ _ a, b⟩

structure Ext (s s' : Shared) : Prop where
  keep : ∀ b o, b ≠ gT → s.heap.get? b = some o → s'.heap.get? b = some o
  tab : TabInv s.heap → TabInv s'.heap
  os : s'.os = s.os
  gens : PyProof.Rows.AllBare s.gens → PyProof.Rows.AllBare s'.gens

theorem Ext.refl (s : Shared) : Ext s s := ⟨fun _ _ _ e => e, id, rfl, id⟩
theorem Ext.trans {s₁ s₂ s₃ : Shared} (x : Ext s₁ s₂) (y : Ext s₂ s₃) : Ext s₁ s₃ :=
  ⟨fun b o n e => y.keep b o n (x.keep b o n e), fun t => y.tab (x.tab t), y.os.trans x.os, fun g => y.gens (x.gens g)⟩
theorem Ext.of {s s' : Shared} (k : ∀ b o, s.heap.get? b = some o → s'.heap.get? b = some o) (ho : s'.os = s.os) (hg : s'.gens = s.gens) : Ext s s' :=
  ⟨fun b o _ e => k b o e, fun t => t.keeps k, ho, fun g => hg ▸ g⟩
theorem Ext.toks {s : Shared} {t : Tok} : Ext s { s with toks := t } := .of (fun _ _ e => e) rfl rfl
theorem Ext.kept {s : Shared} {h' : Heap} {t : Tok} (k : ∀ b o, s.heap.get? b = some o → h'.get? b = some o) : Ext s { s with heap := h', toks := t } := .of k rfl rfl
theorem Ext.kept' {s : Shared} {h' : Heap} (k : ∀ b o, s.heap.get? b = some o → h'.get? b = some o) : Ext s { s with heap := h' } := .of k rfl rfl
theorem Ext.push {s : Shared} {o : Obj} : Ext s { s with heap := s.heap.push o } := .kept' fun _ _ e => Heap.get?_push_of_some _ e
theorem Ext.some {s s' : Shared} (x : Ext s s') (t : TabInv s.heap) {a : Addr} (h : (s.heap.get? a).isSome = true) : (s'.heap.get? a).isSome = true := by
  by_cases e : a = gT
  · subst e; obtain ⟨_, ps, h, _⟩ := x.tab t; rw [h]; rfl
  · obtain ⟨o, ho⟩ := Option.isSome_iff_exists.mp h
    rw [x.keep _ _ e ho]; rfl
theorem Ext.none {s s' : Shared} (x : Ext s s') (t : TabInv s.heap) {a : Addr} (h : s'.heap.get? a = none) : s.heap.get? a = none := by
  cases q : s.heap.get? a with
  | none => rfl
  | some o => have := x.some t (a := a) (by rw [q]; rfl); rw [h] at this; cases this

/-- an object that is not of no class is not the table -/
theorem ne_gT {h : Heap} (t : TabInv h) {a : Addr} {o : Obj} (e : h.get? a = some o) (hn : ∀ vs, o.data ≠ .fields vs) : a ≠ gT := by
  rintro rfl
  obtain ⟨_, ps, q, _⟩ := t
  rw [q] at e; cases e
  exact hn _ rfl
theorem ne_gT' {h : Heap} (t : TabInv h) {a : Addr} {o : Obj} (e : h.get? a = some o) (hn : o.cls ≠ .none) : a ≠ gT := by
  rintro rfl
  obtain ⟨_, ps, q, _⟩ := t
  rw [q] at e; cases e
  exact hn rfl

section
variable (prog : Program) (w : World) (ρ : Addr) (h₀ : Heap)

/-- what holds of the state wherever the call is: hidden addresses are the table and new things -/
structure St (Mu : Addr → Prop) (s : Shared) : Prop where
  keep : ∀ b o, b ≠ gT → h₀.get? b = some o → s.heap.get? b = some o
  tab : TabInv s.heap
  mu : ∀ a, Mu a → (s.heap.get? a).isSome = true
  mug : Mu gT
  muh : ∀ a, Mu a → a = gT ∨ h₀.get? a = none

def Loads (env : Env) (h : Heap) (x : Str) (v : Value) : Prop :=
  (env.kindOf x = some .local ∧ ∃ m, h.Ns env.locals m ∧ m x = some v) ∨ (env.kindOf x = some .cell ∧ ∃ c, env.cells.lookup x = some c ∧ h.IsCell c (some v))

/-- an own thing: a list or dict at a hidden place, its items read past what is hidden -/
def OwnAt (Mu : Addr → Prop) (a : Addr) (d : D) (h : Heap) : Prop :=
  match d with
  | .list ds => ∃ vs n, h.get? a = some { cls := .type "list", data := .seq vs.toArray n } ∧ RDs prog w ρ Mu h vs ds
  | .dict kds => (a == sysModules) = false ∧ ∃ kvs, h.DictOf (sk prog w) a kvs ∧ REs prog w ρ Mu h kvs kds
  | _ => False

def SlotAt (env : Env) (Mu : Addr → Prop) (α : Nat → Addr) (x : Str) (k : Nat) (lv : LV) (h : Heap) : Prop :=
  match lv with
  | .un => True
  | .fz d => ∃ v, Loads env h x v ∧ RD prog w ρ Mu h v d
  | .ow _ => Loads env h x (.ref (α k))
  | .app j => ∃ q o, Loads env h x (.ref q) ∧ h.get? q = some o ∧ o.cls = .type "builtin_function_or_method" ∧ o.data = .fields #[.builtin "list.append", .ref (α j)]

structure Rep (env : Env) (ν : List (Str × Nat)) (Mu : Addr → Prop) (α : Nat → Addr) (σ : List LV) (s : Shared) : Prop extends St h₀ Mu s where
  slots : ∀ x k, ν.lookup x = some k → ∀ lv, σ[k]? = some lv → SlotAt prog w ρ env Mu α x k lv s.heap
  owns : ∀ k d, σ[k]? = some (.ow d) → Mu (α k) ∧ OwnAt prog w ρ Mu (α k) d s.heap
end

section
variable {prog : Program} {w : World} {ρ : Addr} {h₀ : Heap} {env : Env} {ν : List (Str × Nat)} {Mu : Addr → Prop} {α : Nat → Addr} {σ : List LV} {s s' : Shared}

theorem St.ext (R : St h₀ Mu s) (x : Ext s s') : St h₀ Mu s' :=
  ⟨fun b o n e => x.keep b o n (R.keep b o n e), x.tab R.tab, fun a m => x.some R.tab (R.mu a m), R.mug, R.muh⟩
theorem St.notMu (R : St h₀ Mu s) {a : Addr} (h : s.heap.get? a = none) : ¬ Mu a := fun m => by
  have := R.mu a m
  rw [h] at this; cases this
/-- the base's things are read past what is hidden -/
theorem St.old (R : St h₀ Mu s) {v : Value} {d : D} (r : RD prog w ρ (· = gT) h₀ v d) : RD prog w ρ Mu s.heap v d := by
  have r' : RD prog w ρ Mu h₀ v d := by
    have go : ∀ {v d}, RD prog w ρ (· = gT) h₀ v d → RD prog w ρ (fun a => a = gT ∨ h₀.get? a = none) h₀ v d := by
      intro v d r
      refine RD.rec (motive_1 := fun v d _ => RD prog w ρ (fun a => a = gT ∨ h₀.get? a = none) h₀ v d) (motive_2 := fun vs ds _ => RDs prog w ρ (fun a => a = gT ∨ h₀.get? a = none) h₀ vs ds)
        (motive_3 := fun vs ds _ => REs prog w ρ (fun a => a = gT ∨ h₀.get? a = none) h₀ vs ds) .none .bool .int .str ?_ ?_ ?_ .adr .nil (fun _ _ a b => .cons a b) .nil (fun _ _ a b => .cons a b) r
      · intro a vs ds n t _ ih
        exact .tup (fun q => q.elim n fun e => by obtain ⟨o, ho, _⟩ := t; rw [e] at ho; cases ho) t ih
      · intro a vs ds n t _ ih
        exact .list (fun q => q.elim n fun e => by obtain ⟨k, ho⟩ := t; rw [e] at ho; cases ho) t ih
      · intro a vs ds n e t _ ih
        exact .dict (fun q => q.elim n fun e => by obtain ⟨o, _, _, ho, _⟩ := t; rw [e] at ho; cases ho) e t ih
    exact (go r).mono (fun a n m => n (R.muh a m)) fun _ _ _ e => e
  exact r'.mono (fun _ n => n) fun a o n e => R.keep a o (fun q => n (q ▸ R.mug)) e

theorem Ext.rd (x : Ext s s') (hg : Mu gT) {v : Value} {d : D} (r : RD prog w ρ Mu s.heap v d) : RD prog w ρ Mu s'.heap v d :=
  r.mono (fun _ n => n) fun a o n e => x.keep a o (fun q => n (q ▸ hg)) e
theorem Ext.rds (x : Ext s s') (hg : Mu gT) {vs : List Value} {ds : List D} (r : RDs prog w ρ Mu s.heap vs ds) : RDs prog w ρ Mu s'.heap vs ds :=
  r.mono (fun _ n => n) fun a o n e => x.keep a o (fun q => n (q ▸ hg)) e
theorem Ext.res (x : Ext s s') (hg : Mu gT) {vs : List (Str × Value)} {ds : List (List Nat × D)} (r : REs prog w ρ Mu s.heap vs ds) : REs prog w ρ Mu s'.heap vs ds :=
  r.mono (fun _ n => n) fun a o n e => x.keep a o (fun q => n (q ▸ hg)) e

theorem Ext.loads (x : Ext s s') (t : TabInv s.heap) {y : Str} {v : Value} (l : Loads env s.heap y v) : Loads env s'.heap y v := by
  rcases l with ⟨hk, m, hn, hm⟩ | ⟨hk, c, hc, o, ho, hd⟩
  · refine .inl ⟨hk, m, ?_, hm⟩
    obtain ⟨o, es, ep, ho, hd, r⟩ := hn
    exact ⟨o, es, ep, x.keep _ _ (ne_gT t ho (by rw [hd]; nofun)) ho, hd, r⟩
  · exact .inr ⟨hk, c, hc, o, x.keep _ _ (ne_gT t ho (by rw [hd]; nofun)) ho, hd⟩

theorem Ext.ownAt (x : Ext s s') (t : TabInv s.heap) (hg : Mu gT) {a : Addr} {d : D} (o : OwnAt prog w ρ Mu a d s.heap) : OwnAt prog w ρ Mu a d s'.heap := by
  cases d with
  | list ds =>
    obtain ⟨vs, n, ho, hr⟩ := o
    exact ⟨vs, n, x.keep _ _ (ne_gT' t ho (by nofun)) ho, x.rds hg hr⟩
  | dict kds =>
    obtain ⟨hs, kvs, ho, hr⟩ := o
    refine ⟨hs, kvs, ?_, x.res hg hr⟩
    obtain ⟨o, es, ep, ho, he, hd, r⟩ := ho
    exact ⟨o, es, ep, x.keep _ _ (ne_gT t ho (by rw [hd]; nofun)) ho, he, hd, r⟩
  | _ => exact o

theorem Rep.ext (R : Rep prog w ρ h₀ env ν Mu α σ s) (x : Ext s s') : Rep prog w ρ h₀ env ν Mu α σ s' where
  toSt := R.toSt.ext x
  slots := fun y k hy lv hlv => by
    have q := R.slots y k hy lv hlv
    cases lv with
    | un => trivial
    | fz d => obtain ⟨v, l, r⟩ := q; exact ⟨v, x.loads R.tab l, x.rd R.mug r⟩
    | ow d => exact x.loads R.tab q
    | app j => obtain ⟨a, o, l, ho, hc, hd⟩ := q; exact ⟨a, o, x.loads R.tab l, x.keep _ _ (ne_gT' R.tab ho (by rw [hc]; nofun)) ho, hc, hd⟩
  owns := fun k d hk => ⟨(R.owns k d hk).1, x.ownAt R.tab R.mug (R.owns k d hk).2⟩

/-- a result as it lies behind the step that began at s -/
def RV (prog : Program) (w : World) (ρ : Addr) (Mu : Addr → Prop) (α : Nat → Addr) (s s' : Shared) (v : Value) (r : D × Tag) : Prop :=
  match r.2 with
  | .fz => RD prog w ρ Mu s'.heap v r.1
  | .fresh => ∃ a, v = .ref a ∧ s.heap.get? a = none ∧ OwnAt prog w ρ (fun b => Mu b ∨ b = a) a r.1 s'.heap
  | .own k => v = .ref (α k)

theorem RV.ext {s'' : Shared} {v : Value} {r : D × Tag} (x : Ext s' s'') (t : TabInv s'.heap) (hg : Mu gT) (h : RV prog w ρ Mu α s s' v r) : RV prog w ρ Mu α s s'' v r := by
  obtain ⟨d, tg⟩ := r
  cases tg with
  | fz => exact x.rd hg h
  | fresh => obtain ⟨a, e, n, o⟩ := h; exact ⟨a, e, n, x.ownAt t (.inl hg) o⟩
  | own k => exact h
theorem RV.from {s₀ : Shared} {v : Value} {r : D × Tag} (x : Ext s₀ s) (t : TabInv s₀.heap) (h : RV prog w ρ Mu α s s' v r) : RV prog w ρ Mu α s₀ s' v r := by
  obtain ⟨d, tg⟩ := r
  cases tg with
  | fz => exact h
  | fresh => obtain ⟨a, e, n, o⟩ := h; exact ⟨a, e, x.none t n, o⟩
  | own k => exact h

/-- an own thing laid open: it may be frozen, for its items know nothing of it -/
theorem OwnAt.freeze {a : Addr} {d : D} {h : Heap} (hn : ¬ Mu a) (o : OwnAt prog w ρ (fun b => Mu b ∨ b = a) a d h) : RD prog w ρ Mu h (.ref a) d := by
  have wk : ∀ b, ¬ (Mu b ∨ b = a) → ¬ Mu b := fun b n m => n (.inl m)
  cases d with
  | list ds =>
    obtain ⟨vs, n, ho, hr⟩ := o
    exact .list hn ⟨n, ho⟩ (hr.mono wk fun _ _ _ e => e)
  | dict kds =>
    obtain ⟨hs, kvs, ho, hr⟩ := o
    exact .dict hn hs ho (hr.mono wk fun _ _ _ e => e)
  | _ => exact o.elim

/-- a result that is no own slot's is read past what is hidden -/
theorem RV.frozen {v : Value} {d : D} {r : D × Tag} (R : St h₀ Mu s) (h : RV prog w ρ Mu α s s' v r) (hk : kept r = some d) : RD prog w ρ Mu s'.heap v d := by
  obtain ⟨d', tg⟩ := r
  cases tg with
  | fz => cases hk; exact h
  | fresh => cases hk; obtain ⟨a, rfl, n, o⟩ := h; exact o.freeze (R.notMu n)
  | own k => cases hk

/-- every result is read in the open heap -/
theorem RV.open {v : Value} {r : D × Tag} (h : RV prog w ρ Mu α s s' v r) (hown : ∀ k, r.2 = .own k → OwnAt prog w ρ Mu (α k) r.1 s'.heap) : RD prog w ρ (fun _ => False) s'.heap v r.1 := by
  obtain ⟨d, tg⟩ := r
  have w1 : ∀ {M : Addr → Prop} (b : Addr), ¬ M b → ¬ False := fun _ _ => id
  have ow : ∀ {M : Addr → Prop} {a : Addr} {d : D}, OwnAt prog w ρ M a d s'.heap → RD prog w ρ (fun _ => False) s'.heap (.ref a) d := by
    intro M a d o
    cases d with
    | list ds => obtain ⟨vs, n, ho, hr⟩ := o; exact .list id ⟨n, ho⟩ (hr.mono w1 fun _ _ _ e => e)
    | dict kds => obtain ⟨hs, kvs, ho, hr⟩ := o; exact .dict id hs ho (hr.mono w1 fun _ _ _ e => e)
    | _ => exact o.elim
  cases tg with
  | fz => exact RD.mono w1 (fun _ _ _ e => e) h
  | fresh => obtain ⟨a, rfl, _, o⟩ := h; exact ow o
  | own k => obtain rfl : v = .ref (α k) := h; exact ow (hown k rfl)
end

/-- room for n calls, one in another -/
structure Room (n : Nat) (A : Around) : Prop where
  handled : A.handled = none
  depth : A.depth + n < recursionLimit
  units : A.units + 10 * n + 200 < cLine
theorem Room.mono {n m : Nat} {A : Around} (R : Room n A) (h : m ≤ n) : Room m A := ⟨R.handled, by have := R.depth; omega, by have := R.units; omega⟩
theorem Room.deeper {n : Nat} {A : Around} (R : Room (n + 1) A) (env : Env) : Room n (A.deeper env) :=
  ⟨R.handled, by have := R.depth; show A.depth + 1 + n < _; omega, by have := R.units; show A.units + 3 + 10 * n + 200 < _; omega⟩

end Mine
end
section
set_option autoImplicit false
namespace Mine
open PySem PySem.W

def opOf : BOp → Operator
  | .add => .Add | .sub => .Sub | .mul => .Mult | .fdiv => .FloorDiv | .mod => .Mod | .pow => .Pow | .band => .BitAnd
def cOf : COp → CmpOp
  | .eq => .Eq | .ne => .NotEq | .lt => .Lt | .le => .LtE | .gt => .Gt | .ge => .GtE | .isin => .In | .notin => .NotIn | .is_ => .Is | .isnot => .IsNot

theorem get_size (h : Heap) : h.get? h.objs.size = none := by
  cases e : h.get? h.objs.size with
  | none => rfl
  | some o => exact absurd (Heap.lt_size e) (Nat.lt_irrefl _)

theorem str_append (a b : List Nat) : (⟨a.toArray⟩ : Str) ++ ⟨b.toArray⟩ = ⟨(a ++ b).toArray⟩ := by
  apply Str.ext'
  rw [Str.cps_append]
  simp
theorem str_length (a : List Nat) : (⟨a.toArray⟩ : Str).length = a.length := by simp [Str.length]

section
variable {prog : Program} {w : World} {ρ : Addr} {h₀ : Heap} {Mu : Addr → Prop} {α : Nat → Addr} {A : Around} {E : Value → Shared → Prop} {s s' : Shared}

/-- a value as an operand: its items are read past what is hidden, it itself may be hidden -/
def RW (prog : Program) (w : World) (ρ : Addr) (Mu : Addr → Prop) (h : Heap) (v : Value) (d : D) : Prop :=
  match d with
  | .list ds => ∃ a vs, v = .ref a ∧ h.PlainList a vs.toArray ∧ RDs prog w ρ Mu h vs ds
  | .dict kds => ∃ a kvs, v = .ref a ∧ (a == sysModules) = false ∧ h.DictOf (sk prog w) a kvs ∧ REs prog w ρ Mu h kvs kds
  | d => RD prog w ρ Mu h v d

theorem RD.rw {h : Heap} {v : Value} {d : D} (r : RD prog w ρ Mu h v d) : RW prog w ρ Mu h v d := by
  cases r with
  | list n t r => exact ⟨_, _, rfl, t, r⟩
  | dict n e t r => exact ⟨_, _, rfl, e, t, r⟩
  | none => exact .none
  | bool b => exact .bool b
  | int i t => exact .int i t
  | str x t => exact .str x t
  | tup n t r => exact .tup n t r
  | adr a => exact .adr a
theorem OwnAt.rw {h : Heap} {a : Addr} {d : D} {Mu' : Addr → Prop} (wk : ∀ b, ¬ Mu' b → ¬ Mu b) (o : OwnAt prog w ρ Mu' a d h) : RW prog w ρ Mu h (.ref a) d := by
  cases d with
  | list ds => obtain ⟨vs, n, ho, hr⟩ := o; exact ⟨a, vs, rfl, ⟨n, ho⟩, hr.mono wk fun _ _ _ e => e⟩
  | dict kds => obtain ⟨hs, kvs, ho, hr⟩ := o; exact ⟨a, kvs, rfl, hs, ho, hr.mono wk fun _ _ _ e => e⟩
  | _ => exact o.elim
theorem RV.rw {v : Value} {r : D × Tag} (h : RV prog w ρ Mu α s s' v r) (hown : ∀ k, r.2 = .own k → OwnAt prog w ρ Mu (α k) r.1 s'.heap) : RW prog w ρ Mu s'.heap v r.1 := by
  obtain ⟨d, tg⟩ := r
  cases tg with
  | fz => exact RD.rw h
  | fresh => obtain ⟨a, rfl, _, o⟩ := h; exact o.rw fun b n m => n (.inl m)
  | own k => obtain rfl : v = .ref (α k) := h; exact (hown k rfl).rw fun _ n => n
theorem RW.open {h : Heap} {v : Value} {d : D} (r : RW prog w ρ Mu h v d) : RD prog w ρ (fun _ => False) h v d := by
  have w1 : ∀ (b : Addr), ¬ Mu b → ¬ False := fun _ _ => id
  cases d with
  | list ds => obtain ⟨a, vs, rfl, t, r⟩ := r; exact .list id t (r.mono w1 fun _ _ _ e => e)
  | dict kds => obtain ⟨a, kvs, rfl, e, t, r⟩ := r; exact .dict id e t (r.mono w1 fun _ _ _ e => e)
  | _ => exact RD.mono w1 (fun _ _ _ e => e) r
theorem RW.ext {v : Value} {d : D} (x : Ext s s') (t : TabInv s.heap) (hg : Mu gT) (r : RW prog w ρ Mu s.heap v d) : RW prog w ρ Mu s'.heap v d := by
  cases d with
  | list ds =>
    obtain ⟨a, vs, e, ⟨n, ho⟩, r⟩ := r
    exact ⟨a, vs, e, ⟨n, x.keep _ _ (ne_gT' t ho (by nofun)) ho⟩, x.rds hg r⟩
  | dict kds =>
    obtain ⟨a, kvs, e, hs, ⟨o, es, ep, ho, he, hd, q⟩, r⟩ := r
    exact ⟨a, kvs, e, hs, ⟨o, es, ep, x.keep _ _ (ne_gT t ho (by rw [hd]; nofun)) ho, he, hd, q⟩, x.res hg r⟩
  | _ => exact x.rd hg r

theorem RV.newList {vs : List Value} {ds : List D} {n : Nat} {t : Tok} (r : RDs prog w ρ Mu s.heap vs ds) :
    RV prog w ρ Mu α s { s with heap := s.heap.push { cls := .type "list", data := .seq vs.toArray n }, toks := t } (.ref s.heap.objs.size) (.list ds, .fresh) :=
  ⟨_, rfl, get_size _, vs, n, Heap.get?_push_size _ rfl, (RDs.hide (get_size _) r).mono (fun _ n => n) fun _ _ _ e => Heap.get?_push_of_some _ e⟩

theorem small_lt {a : Int} (h : small a = true) : a.natAbs < 2 ^ 64 := by
  have := of_decide_eq_true h
  exact this
theorem mulOk_of {a b : Int} (h : (small a || small b) = true) : IntMulOk a b := by
  rcases Bool.or_eq_true_iff.mp h with h | h
  · exact .of_left (PyProof.Rows.intBits_le (small_lt h))
  · exact .of_right (PyProof.Rows.intBits_le (small_lt h))

theorem txt_mul (a : List Nat) (n : Int) : Txt.mul ⟨a.toArray⟩ n = ⟨(List.replicate n.toNat a).flatten.toArray⟩ := by
  unfold Txt.mul
  by_cases h1 : n < 1
  · rw [if_pos h1, show n.toNat = 0 by omega]; rfl
  · rw [if_neg h1]
    split
    · rename_i h2
      rcases Bool.or_eq_true_iff.mp h2 with h2 | h2
      · have : n = 1 := by simpa using h2
        subst this
        simp
      · have : a = [] := by simpa [Str.length] using h2
        subst this
        simp
    · have key : ∀ (m : Nat) (acc : Array Nat), (List.replicate m a.toArray).foldl (· ++ ·) acc = acc ++ (List.replicate m a).flatten.toArray := by
        intro m
        induction m with
        | zero => intro acc; simp
        | succ m ih => intro acc; rw [List.replicate_succ, List.foldl_cons, ih, List.replicate_succ, List.flatten_cons]; simp
      apply Str.ext'
      rw [key]; simp

theorem mulOk_str {a : List Nat} {n : Int} (h1 : a.length ≤ 10) (h2 : n.natAbs ≤ 1000000) : MulOk ⟨a.toArray⟩ n := by
  refine ⟨?_, fun h3 _ h4 => ?_, fun h3 _ => ?_⟩
  · simp only [Bool.or_eq_false_iff, decide_eq_false_iff_not]; omega
  · rw [str_length] at h4
    have h5 : (10 : Int) ≤ (2 ^ 63 - 1 : Int) / n := by
      rw [Int.le_ediv_iff_mul_le (by omega)]
      omega
    omega
  · rw [str_length]
    have h6 : a.length * n.toNat ≤ 10 * 1000000 := Nat.mul_le_mul h1 (by omega)
    unfold Builtin.Str.tooLong
    rw [sizeLine_eq]
    exact decide_eq_false (by show ¬ (16777216 < a.length * n.toNat); omega)

theorem mul_list_one {l : Addr} {x : Value} {k : Nat} {n : Int} {u : Tok} {Q : Value → Shared → Prop}
    (hl : s.heap.get? l = some { cls := .type "list", data := .seq #[x] k }) (hn : n.natAbs ≤ 1000)
    (h : Q (.ref s.heap.objs.size) { s with heap := s.heap.push { cls := .type "list", data := .seq (List.replicate n.toNat x).toArray } }) :
    wpAny (model prog w) A (binaryOp .Mult (.ref l) (.int n u)) Q E s := by
  have hsz : (#[x] : Array Value).size * n.toNat ≤ 2 ^ 24 := by
    have : n.toNat ≤ 1000 := by omega
    simp
    omega
  refine wpAny_binaryOp_repeat_ref (T := "list") (U := "int") (by decide) ⟨_, hl, rfl⟩ (fun s' => typeIs_int s' n u) noFill_list_mul F.fills_int_mul F.slot_int_rmul repeat_list F.slot_int_index.lookup
    (call_meets F.slot_int_rmul (typeIs_int s n u) F.entry_int_rmul (F.args_int_rmul_2 _ _) (int___rmul___int_list n u l #[x] k)
      ⟨hl, rfl, ⟨_, hl, rfl⟩, call_meets F.slot_list_mul ⟨_, hl, rfl⟩ F.entry_list_mul (F.args_list_mul_2 _ _)
        (AutoListH.list___mul___list_int_3 l #[x] k n u (by simp [Builtin.List.listFitsIndex]; omega) (by omega) (by simp [Builtin.List.listTooLong, sizeLine]; omega))
        ⟨hl, ?_⟩⟩)
  have key : ∀ (m : Nat) (acc : Array Value), (List.replicate m #[x]).foldl (fun x1 x2 => x1 ++ x2) acc = acc ++ (List.replicate m x).toArray := by
    intro m
    induction m with
    | zero => intro acc; simp
    | succ m ih => intro acc; rw [List.replicate_succ, List.foldl_cons, ih, List.replicate_succ]; apply Array.ext'; simp
  have e : List.foldl (fun x1 x2 => x1 ++ x2) #[] (List.replicate (if (#[x] : Array Value).isEmpty = true then 0 else n.toNat) #[x]) = (List.replicate n.toNat x).toArray := by
    rw [key]; simp
  simp only [e] at *
  exact h

theorem binOp_sound {op : BOp} {a b : D} {va vb : Value} {r : D × Tag} {Q : Value → Shared → Prop} (R : St h₀ Mu s) (ha : RW prog w ρ Mu s.heap va a) (hb : RW prog w ρ Mu s.heap vb b)
    (e : binOp op a b = some r) (h : ∀ v s', Ext s s' → RV prog w ρ Mu α s s' v r → Q v s') : wpAny (model prog w) A (binaryOp (opOf op) va vb) Q E s := by
  have hi : ∀ (i : Int), r = (.int i, .fz) → Q (.int i s.toks) { s with toks := s.toks + 1 } := fun i er => by subst er; exact h _ _ .toks (.int _ _)
  have hx : ∀ (x : List Nat), r = (.str x, .fz) → ∀ t' k, Q (.str ⟨x.toArray⟩ t') { s with toks := k } := fun x er t' k => by subst er; exact h _ _ .toks (.str _ _)
  unfold binOp at e
  split at e
  · cases ha; cases hb; cases e
    exact PyProof.Rows.add_int (hi _ rfl)
  · cases ha; cases hb
    split at e
    · rename_i hl; cases e
      refine PyProof.Rows.add_str (fun t' k => ?_) (by rw [str_length, str_length]; exact hl)
      rw [str_append]; exact hx _ rfl t' k
    · cases e
  · obtain ⟨a1, vs, rfl, ⟨n1, p1⟩, r1⟩ := ha
    obtain ⟨a2, us, rfl, ⟨n2, p2⟩, r2⟩ := hb
    split at e
    · rename_i hl; cases e
      refine P.add_list p1 p2 ?_ (by simp only [List.size_toArray, r1.length, r2.length]; exact Nat.le_trans hl (by decide))
      have := h _ _ .push (RV.newList (α := α) (n := 0) (t := s.toks) (r1.append r2))
      simpa using this
    · cases e
  · cases ha; cases hb; cases e
    exact PyProof.Rows.sub_int (hi _ rfl)
  · cases ha; cases hb
    split at e
    · rename_i hl; cases e
      exact PyProof.Rows.mul_int (hi _ rfl) (mulOk_of hl)
    · cases e
  · cases ha; cases hb
    split at e
    · rename_i hl; cases e
      refine SB.mul (mulOk_str hl.1 hl.2) fun t' k => ?_
      rw [txt_mul]; exact hx _ rfl t' k
    · cases e
  · obtain ⟨a1, vs, rfl, ⟨n1, p1⟩, r1⟩ := ha
    cases hb
    split at e
    · rename_i hl; cases e
      cases r1 with
      | cons hx0 r0 =>
        cases r0
        refine mul_list_one p1 (of_decide_eq_true hl) ?_
        exact h _ _ .push (RV.newList (α := α) (n := 0) (t := s.toks) (.replicate hx0 _))
    · cases e
  · cases ha; cases hb
    split at e
    · rename_i hl; cases e
      obtain ⟨h1, h2⟩ := Bool.and_eq_true_iff.mp hl
      exact PyProof.Rows.floordiv_int (by simpa using h2) (hi _ rfl) (.inl (PyProof.noPylong_small (of_decide_eq_true h1)))
    · cases e
  · cases ha; cases hb
    split at e
    · rename_i hl; cases e
      exact PyProof.Rows.mod_int' (by simpa using hl) (hi _ rfl)
    · cases e
  · cases ha; cases hb
    split at e
    · rename_i hl; cases e
      obtain ⟨h1, h2⟩ := Bool.and_eq_true_iff.mp hl
      obtain ⟨h0, h1⟩ := Bool.and_eq_true_iff.mp h1
      exact PyProof.Rows.pow_int_small (of_decide_eq_true h1) (of_decide_eq_true h2) (small_lt h0) (hi _ rfl)
    · cases e
  · cases ha; cases hb; cases e
    refine PyProof.Rows.and_int ?_
    exact hi _ rfl
  · cases e
end
end Mine
end
section
set_option autoImplicit false
namespace Mine
open PySem PySem.W

theorem ltL_eq : ∀ a b : List Nat, ltL a b = decide (a < b)
  | [], [] => rfl
  | [], _ :: _ => rfl
  | _ :: _, [] => rfl
  | a :: x, b :: y => by
    rw [StrLaws.lt_cons_cons, ← ltL_eq x y, ltL]
    by_cases h1 : a < b
    · simp [h1]
    · by_cases h2 : b < a
      · have : ¬ a = b := by omega
        simp [h1, h2, this]
      · have : a = b := by omega
        simp [this]

section
variable {prog : Program} {w : World} {ρ : Addr} {h₀ : Heap} {Mu : Addr → Prop} {α : Nat → Addr} {A : Around} {E : Value → Shared → Prop} {s s' : Shared}

theorem okEq_shaped {n : Nat} {d : D} (hn : n ≤ 64) (h : D.okEq n d = true) : SeqAt.shaped (toPy d) = true := by
  obtain ⟨h1, h2⟩ := okEq_lay n d h
  unfold SeqAt.shaped
  rw [h1]
  simp
  omega

theorem okEqs_any {l : List D} {a : D} : ((toPys l).any fun y => PyData.eqv y (toPy a)) = l.any (D.beq · a) := by
  induction l with
  | nil => rfl
  | cons d l ih => simp only [toPys, List.any_cons]; rw [ih, beq_eqv d a (.inr trivial)]

theorem res_valueAt {h : Heap} : ∀ {kvs : List (Str × Value)} {kds : List (List Nat × D)} (k : List Nat), REs prog w ρ Mu h kvs kds →
    (∃ v d, valueAt kvs ⟨k.toArray⟩ = some v ∧ (kds.find? (·.1 == k)).map (·.2) = some d ∧ RD prog w ρ Mu h v d) ∨ (valueAt kvs ⟨k.toArray⟩ = none ∧ (kds.find? (·.1 == k)) = none)
  | _, _, k, .nil => .inr ⟨rfl, rfl⟩
  | _, _, k, .cons (s := s) (v := v) (d := d) a r => by
    by_cases e : s = k
    · subst e
      refine .inl ⟨v, d, ?_, ?_, a⟩
      · simp [valueAt]
      · simp
    · have e1 : ¬ (⟨s.toArray⟩ : Str) = ⟨k.toArray⟩ := fun q => e (by simpa using q)
      rcases res_valueAt k r with ⟨v', d', h1, h2, h3⟩ | ⟨h1, h2⟩
      · refine .inl ⟨v', d', ?_, ?_, h3⟩
        · unfold valueAt at h1 ⊢; rw [List.find?_cons]; simpa [e] using h1
        · rw [List.find?_cons, show (s == k) = false by simpa using e]; exact h2
      · refine .inr ⟨?_, ?_⟩
        · unfold valueAt at h1 ⊢; rw [List.find?_cons]; simpa [e] using h1
        · rw [List.find?_cons, show (s == k) = false by simpa using e]; exact h2
theorem find_any {kds : List (List Nat × D)} {k : List Nat} : (kds.find? (·.1 == k)).isSome = kds.any (·.1 == k) := by
  rw [Bool.eq_iff_iff]; simp [List.find?_isSome]
theorem res_isSome {h : Heap} {kvs : List (Str × Value)} {kds : List (List Nat × D)} (k : List Nat) (r : REs prog w ρ Mu h kvs kds) : (valueAt kvs ⟨k.toArray⟩).isSome = kds.any (·.1 == k) := by
  rw [← find_any]
  rcases res_valueAt k r with ⟨v, d, h1, h2, _⟩ | ⟨h1, h2⟩
  · rw [h1]
    cases e : kds.find? (·.1 == k) with
    | none => rw [e] at h2; cases h2
    | some p => rfl
  · rw [h1, h2]; rfl

theorem units_eq {n : Nat} (G : Room n A) : A.units + 64 < cLine := by have := G.units; omega
theorem units_in {n : Nat} (G : Room n A) {xs : List PyData} {d : PyData} (h : d.depth ≤ 64) : A.units + 1 + min (PyData.depthAll xs) d.depth < cLine := by
  have := G.units; omega

set_option maxHeartbeats 1000000 in
theorem cmpOp_sound {n : Nat} {op : COp} {a b : D} {va vb : Value} {r : Bool} {Q : Value → Shared → Prop} (G : Room n A) (ha : RW prog w ρ Mu s.heap va a) (hb : RW prog w ρ Mu s.heap vb b)
    (e : cmpOp op a b = some r) (h : ∀ s', Ext s s' → Q (.bool r) s') : wpAny (model prog w) A (compareOp (cOf op) va vb) Q E s := by
  unfold cmpOp at e
  split at e
  · split at e
    · rename_i hl; cases e
      obtain ⟨h1, h2⟩ := Bool.and_eq_true_iff.mp hl
      obtain ⟨as, r1⟩ := ha.open.reads 8 h1
      obtain ⟨bs, r2⟩ := hb.open.reads 8 h2
      refine PyProof.Rows.eq_dataH r1 r2 (okEq_shaped (by decide) h1) (okEq_shaped (by decide) h2) (units_eq G) ?_
      rw [beq_eqv _ _ (.inr trivial)]; exact h _ (.refl _)
    · cases e
  · split at e
    · rename_i hl; cases e
      obtain ⟨h1, h2⟩ := Bool.and_eq_true_iff.mp hl
      obtain ⟨as, r1⟩ := ha.open.reads 8 h1
      obtain ⟨bs, r2⟩ := hb.open.reads 8 h2
      refine PyProof.Rows.ne_dataH r1 r2 (okEq_shaped (by decide) h1) (okEq_shaped (by decide) h2) (units_eq G) ?_
      rw [beq_eqv _ _ (.inr trivial)]; exact h _ (.refl _)
    · cases e
  · cases ha; cases hb; cases e; exact PyProof.Rows.lt_int (h _ (.refl _))
  · cases ha; cases hb; cases e; exact PyProof.Rows.le_int (h _ (.refl _))
  · cases ha; cases hb; cases e; exact PyProof.Rows.gt_int (h _ (.refl _))
  · cases ha; cases hb; cases e; exact PyProof.Rows.ge_int (h _ (.refl _))
  · cases ha; cases hb; cases e
    refine P.le_str ?_
    have := h _ (.refl _)
    rw [ltL_eq] at this
    simpa using this
  · cases ha; cases hb; cases e
    refine P.gt_str ?_
    have := h _ (.refl _)
    rw [ltL_eq] at this
    simpa using this
  · cases ha; cases hb; cases e
    refine PyProof.Rows.in_str ?_
    rw [StrLaws.found_one]
    have := h _ (.refl _)
    simpa using this
  · cases ha; cases hb; cases e
    refine PyProof.Rows.notIn_str ?_
    rw [StrLaws.found_one]
    have := h _ (.refl _)
    simpa using this
  · split at e
    · rename_i hl; cases e
      obtain ⟨h1, h2⟩ := Bool.and_eq_true_iff.mp hl
      obtain ⟨c, vs, rfl, ⟨k, ho⟩, r2⟩ := hb
      obtain ⟨as, r1⟩ := ha.open.reads 8 h1
      obtain ⟨bs, r2⟩ := r2.reads 8 h2
      refine SeqAt.in_list_reads (.list ho rfl rfl (by simpa using r2)) r1 (okEqs_lay 8 _ h2).1 (okEq_lay 8 _ h1).1 (units_in G (Nat.le_trans (okEq_lay 8 _ h1).2 (by decide))) ?_
      rw [okEqs_any]; exact h _ (.refl _)
    · cases e
  · split at e
    · rename_i hl; cases e
      obtain ⟨h1, h2⟩ := Bool.and_eq_true_iff.mp hl
      obtain ⟨as, r1⟩ := ha.open.reads 8 h1
      obtain ⟨bs, r2⟩ := RD.reads 9 hb.open (by simpa [D.okEq] using h2)
      rw [toPy] at r2
      refine SeqAt.in_tuple_reads r2 r1 (okEqs_lay 8 _ h2).1 (okEq_lay 8 _ h1).1 (units_in G (Nat.le_trans (okEq_lay 8 _ h1).2 (by decide))) ?_
      rw [okEqs_any]; exact h _ (.refl _)
    · cases e
  · cases ha; cases e
    obtain ⟨c, kvs, rfl, hs, hd, r2⟩ := hb
    rename_i k l t
    refine wpAny_in_of (knd := sk prog w) (k := ⟨k.toArray⟩) (by show ((⟨k.toArray⟩ : Str) == ⟨k.toArray⟩) = true; simp) hs hd.mapOf ?_
    rw [res_isSome k r2]; exact h _ .toks
  · split at e
    · rename_i hl; cases e
      obtain ⟨h1, h2⟩ := Bool.and_eq_true_iff.mp hl
      obtain ⟨c, vs, rfl, ⟨k, ho⟩, r2⟩ := hb
      obtain ⟨as, r1⟩ := ha.open.reads 8 h1
      obtain ⟨bs, r2⟩ := r2.reads 8 h2
      refine SeqAt.notIn_list_reads (.list ho rfl rfl (by simpa using r2)) r1 (okEqs_lay 8 _ h2).1 (okEq_lay 8 _ h1).1 (units_in G (Nat.le_trans (okEq_lay 8 _ h1).2 (by decide))) ?_
      rw [okEqs_any]; exact h _ (.refl _)
    · cases e
  · cases ha; cases e
    obtain ⟨c, kvs, rfl, hs, hd, r2⟩ := hb
    rename_i k l t
    refine wpAny_notIn_of (knd := sk prog w) (k := ⟨k.toArray⟩) (by show ((⟨k.toArray⟩ : Str) == ⟨k.toArray⟩) = true; simp) hs hd.mapOf ?_
    rw [res_isSome k r2]; exact h _ .toks
  · cases ha; cases hb; cases e
    exact wpAny_isNot_other (by rfl) (by nofun) (h _ (.refl _))
  · split at e
    · rename_i hl; cases e
      obtain rfl := eq_of_beq hl
      cases ha; cases hb
      exact wpAny_isNot_ref_self (h _ (.refl _))
    · cases e
  · cases e
end
end Mine
end
section
set_option autoImplicit false
namespace Mine
open PySem PySem.W

theorem cut_le (n : Nat) (i : Int) : cut n i ≤ n ∨ 0 ≤ i := by unfold cut; split <;> omega
theorem range_pick {β : Type} (l : List β) (a b : Nat) (hb : b ≤ l.length) : (sliceRange (a : Int) (b : Int) 1).filterMap (l[·]?) = (l.take b).drop a := by
  have e : sliceRange (a : Int) (b : Int) 1 = (List.range (b - a)).map fun k => a + k := by
    unfold sliceRange
    have hc : ((if (1 : Int) > 0 then (if (a : Int) < (b : Int) then ((b : Int) - a + 1 - 1) / 1 else 0) else (if (a : Int) > (b : Int) then ((a : Int) - b - 1 - 1) / (-1) else 0)) : Int).toNat = b - a := by
      rw [if_pos (by decide)]
      split
      · rw [Int.ediv_one]; omega
      · omega
    simp only [hc]
    apply List.map_congr_left
    intro k _
    omega
  rw [e, List.filterMap_map]
  apply List.ext_getElem?
  intro i
  by_cases h : i < b - a
  · have hi : a + i < l.length := by omega
    have : ∀ m, m ≤ b - a → (List.filterMap ((fun x => l[x]?) ∘ fun k => a + k) (List.range m)) = (l.drop a).take m := by
      intro m
      induction m with
      | zero => intro _; simp
      | succ m ih =>
        intro hm
        have hm' : a + m < l.length := by omega
        rw [List.range_succ, List.filterMap_append, ih (by omega), List.take_add_one]
        simp [hm']
    rw [this (b - a) (Nat.le_refl _), List.getElem?_take, if_pos h, List.getElem?_drop, List.getElem?_drop, List.getElem?_take, if_pos (by omega)]
  · rw [List.getElem?_eq_none, List.getElem?_eq_none]
    · simp; omega
    · refine Nat.le_trans (List.length_filterMap_le _ _) ?_
      rw [List.length_range]; omega
theorem clip_cut (n : Nat) (v : Option Int) (d : Nat) : (match v with | none => ((d : Nat) : Int) | some i => max 0 (min (if i < 0 then i + (n : Int) else i) n)) = (((v.map fun i => min (cut n i) n).getD d : Nat) : Int) := by
  cases v with
  | none => rfl
  | some i =>
    simp only [Option.map_some, Option.getD_some]
    unfold cut
    split <;> split <;> omega
theorem cut_min (n : Nat) (i : Int) : min (cut n i) n = cut n i ∨ n < cut n i := by omega
theorem cut_le_n (n : Nat) (i : Int) : cut n i ≤ n := by
  unfold cut
  split
  · exact Nat.min_le_right _ _
  · omega
theorem clip_cut' (n : Nat) (v : Option Int) (d : Nat) : (match v with | none => ((d : Nat) : Int) | some i => max 0 (min (if i < 0 then i + (n : Int) else i) n)) = (((v.map (cut n)).getD d : Nat) : Int) := by
  rw [clip_cut]
  cases v with
  | none => rfl
  | some i => simp only [Option.map_some, Option.getD_some]; rw [Nat.min_eq_left (cut_le_n n i)]
theorem part_le (n : Nat) (v : Option Int) : (v.map (cut n)).getD n ≤ n := by
  cases v with
  | none => exact Nat.le_refl _
  | some i => exact cut_le_n n i

theorem strPick (l : List Nat) (lo hi : Option Int) : (Builtin.Str.strSliceIndices lo hi 1 l.length).filterMap (l.toArray[·]?) = slice l ((lo.map (cut l.length)).getD 0) ((hi.map (cut l.length)).getD l.length) := by
  have e : Builtin.Str.strSliceIndices lo hi 1 l.length = sliceRange (((lo.map (cut l.length)).getD 0 : Nat) : Int) (((hi.map (cut l.length)).getD l.length : Nat) : Int) 1 := by
    rw [← clip_cut' l.length lo 0, ← clip_cut' l.length hi l.length]
    rfl
  rw [e]
  have := range_pick l ((lo.map (cut l.length)).getD 0) ((hi.map (cut l.length)).getD l.length) (part_le _ _)
  simpa [slice] using this
theorem strPick_len (l : List Nat) (lo hi : Option Int) : (Builtin.Str.strSliceIndices lo hi 1 l.length).length = (slice l ((lo.map (cut l.length)).getD 0) ((hi.map (cut l.length)).getD l.length)).length := by
  have e : Builtin.Str.strSliceIndices lo hi 1 l.length = sliceRange (((lo.map (cut l.length)).getD 0 : Nat) : Int) (((hi.map (cut l.length)).getD l.length : Nat) : Int) 1 := by
    rw [← clip_cut' l.length lo 0, ← clip_cut' l.length hi l.length]
    rfl
  rw [e]
  have hb := part_le l.length hi
  unfold sliceRange slice
  rw [List.length_map, List.length_range, List.length_drop, List.length_take, Nat.min_eq_left hb, if_pos (by decide)]
  split
  · rw [Int.ediv_one]; omega
  · omega
theorem slice_whole {l : List Nat} {a b : Nat} (h : (slice l a b).length = l.length) : slice l a b = l := by
  unfold slice at h ⊢
  rw [List.length_drop, List.length_take] at h
  by_cases h0 : l.length = 0
  · have : l = [] := List.eq_nil_of_length_eq_zero h0
    subst this; simp
  · have h1 : a = 0 := by omega
    have h2 : l.length ≤ b := by omega
    subst h1
    rw [List.take_of_length_le h2, List.drop_zero]

section
variable {prog : Program} {w : World} {ρ : Addr} {h₀ : Heap} {Mu : Addr → Prop} {α : Nat → Addr} {A : Around} {E : Value → Shared → Prop} {s s' : Shared}

/-- an index that is no slice -/
def Plain (e : Expr) : Prop := ∀ o i, subscripted e false o i = operate [o, i] (getItem o i)

theorem item_at {β : Type} {l : List β} {i : Int} {x : β} (h : item l i = some x) : ∃ j, seqIndex? i l.length = some j ∧ l[j]? = some x := by
  unfold item at h
  split at h
  · rename_i h0
    have hl : i.toNat < l.length := (List.getElem?_eq_some_iff.mp h).1
    exact ⟨_, StrLaws.seqIndex_nonneg h0 (by omega), h⟩
  · split at h
    · rename_i h0 h1
      refine ⟨_, StrLaws.seqIndex_neg (by omega) h1, ?_⟩
      rw [Int.add_comm]; exact h
    · cases h

theorem idx_sound {value slc : Expr} {a y d : D} {va vi : Value} {Q : Value → Shared → Prop} (hp : Plain slc) (ha : RW prog w ρ Mu s.heap va a) (hi : RW prog w ρ Mu s.heap vi y)
    (e : idxOp a y = some d) (h : ∀ v s', Ext s s' → RD prog w ρ Mu s'.heap v d → Q v s') : wpAny (model prog w) A (PyProof.Rows.subscriptTail value slc va vi) Q E s := by
  unfold idxOp at e
  split at e
  · split at e
    · rename_i l i hl
      obtain ⟨c, vs, rfl, ⟨k, ho⟩, r⟩ := ha
      cases hi
      unfold item at e
      split at e
      · rename_i h0
        obtain ⟨v, hv, hr⟩ := r.get e
        exact PyProof.Rows.tail_any ⟨_, ho, rfl⟩ F.slot_list_getitem.lookup (wpAny_getItem_list ⟨_, ho, rfl, k, rfl⟩ h0 (by omega) (by simpa using hv) (h _ _ (.refl _) hr)) (hp _ _)
      · split at e
        · obtain ⟨v, hv, hr⟩ := r.get e
          refine PyProof.Rows.tail_any ⟨_, ho, rfl⟩ F.slot_list_getitem.lookup (wpAny_getItem_list_neg ⟨_, ho, rfl, k, rfl⟩ (by omega) (by rw [List.size_toArray, r.length]; assumption) (by omega) ?_ (h _ _ (.refl _) hr)) (hp _ _)
          rw [List.size_toArray, r.length, Int.add_comm]
          simpa using hv
        · cases e
    · cases e
  · split at e
    · rename_i l i hl
      cases hi
      obtain ⟨j, hj, hx⟩ := item_at e
      cases ha with
      | tup n t r =>
        obtain ⟨v, hv, hr⟩ := r.get hx
        refine PyProof.Rows.tail_any t.typeIs F.slot_tuple_getitem.lookup (PyProof.Rows.getItem_tuple t (by omega) (by omega) (j := j) ?_ (by simpa using hv) (h _ _ (.refl _) hr)) (hp _ _)
        rw [List.size_toArray, r.length]; exact hj
    · cases e
  · split at e
    · rename_i l i hl
      cases hi; cases ha
      obtain ⟨c, hc, rfl⟩ := Option.map_eq_some_iff.mp e
      obtain ⟨j, hj, hx⟩ := item_at hc
      refine PyProof.Rows.tail_any (T := "str") (typeIs_str _ _ _) F.slot_str_getitem.lookup (PyProof.Rows.getItem_str (c := c) ?_ ?_ (h _ _ .toks (.str [c] _))) (hp _ _)
      · simp only [Bool.or_eq_false_iff, decide_eq_false_iff_not]; omega
      · rw [str_length, hj]; simpa using hx
    · cases e
  · rename_i l k
    cases hi
    obtain ⟨c, kvs, rfl, hs, hd, r⟩ := ha
    rcases res_valueAt k r with ⟨v, d', h1, h2, h3⟩ | ⟨h1, h2⟩
    · rw [h2] at e; cases e
      exact PyProof.Rows.tail_any hd.typeIs F.slot_dict_getitem.lookup (wpAny_getItem_of (knd := sk prog w) (k := ⟨k.toArray⟩) (by show ((⟨k.toArray⟩ : Str) == ⟨k.toArray⟩) = true; simp) hd.mapOf h1 (h _ _ .toks h3)) (hp _ _)
    · rw [h2] at e; cases e
  · cases e

theorem RDs.slice {h : Heap} {vs : List Value} {ds : List D} (r : RDs prog w ρ Mu h vs ds) (a b : Nat) : RDs prog w ρ Mu h (slice vs a b) (slice ds a b) := (r.take b).drop a

theorem parts_str {l : List Nat} {t : Tok} {lo hi : Option (Int × Tok)} {Q : Value → Shared → Prop} (hl : l.length ≤ 1000000)
    (h : ∀ t' k, Q (.str ⟨(slice l (((lo.map (·.1)).map (cut l.length)).getD 0) (((hi.map (·.1)).map (cut l.length)).getD l.length)).toArray⟩ t') { s with toks := k }) :
    (sliceMade ⟨l.toArray⟩ t lo hi none).post Q s := by
  unfold sliceMade slicePicked
  rw [str_length]
  have h1 := strPick l (lo.map (·.1)) (hi.map (·.1))
  have h2 := strPick_len l (lo.map (·.1)) (hi.map (·.1))
  refine post_val_or_made (fun _ => ?_) fun t' k => ?_
  · have e : (⟨((Builtin.Str.strSliceIndices (lo.map (·.1)) (hi.map (·.1)) 1 l.length).filterMap (l.toArray[·]?)).toArray⟩ : Str).length ≤ l.length := by
      rw [str_length, h1]
      unfold Mine.slice
      rw [List.length_drop, List.length_take]; omega
    rw [sizeLine_eq]
    exact Nat.le_trans e (Nat.le_trans hl (by decide))
  · have h' := h t' k
    split
    · rename_i hc
      have hw : (slice l (((lo.map (·.1)).map (cut l.length)).getD 0) (((hi.map (·.1)).map (cut l.length)).getD l.length)).length = l.length := by
        rw [← h2]
        simpa using hc
      rw [slice_whole hw] at h'
      exact h'
    · simp only [Option.map_none, Option.getD_none] at h1 ⊢
      rw [h1]; exact h'

inductive PartIs : Value → Option Int → Prop
  | none : PartIs .none .none
  | int (i : Int) (t : Tok) : PartIs (.int i t) (some i)
theorem PartIs.part {v : Value} {o : Option Int} (p : PartIs v o) : IsPart v o := by cases p <;> constructor
theorem PartIs.val {v : Value} {o : Option Int} (p : PartIs v o) : ∃ q, v = partValue q ∧ q.map (·.1) = o := by
  cases p with
  | none => exact ⟨Option.none, rfl, rfl⟩
  | int i t => exact ⟨some (i, t), rfl, rfl⟩

theorem sliceOp_sound {value : Expr} {lower upper : Option Expr} {p : Pos} {a : D} {va vl vu : Value} {lo hi : Option Int} {r : D × Tag} {Q : Value → Shared → Prop} (T : TabInv s.heap) (hg : Mu gT)
    (ha : RW prog w ρ Mu s.heap va a) (pl : PartIs vl lo) (pu : PartIs vu hi)
    (e : sliceOp a lo hi = some r) (h : ∀ v s', Ext s s' → RV prog w ρ Mu α s s' v r → Q v s') :
    wpAny (model prog w) A (PyProof.Rows.subscriptTail value (.Slice lower upper none p) va (.ref s.heap.objs.size)) Q E { s with heap := s.heap.push { cls := .type "slice", data := .fields #[vl, vu, .none] } } := by
  have x1 : Ext s { s with heap := s.heap.push { cls := .type "slice", data := .fields #[vl, vu, .none] } } := .push
  have ha' := ha.ext x1 T hg
  unfold sliceOp at e
  split at e
  · split at e
    · rename_i l hl; cases e
      obtain ⟨c, vs, rfl, ⟨k, ho⟩, r⟩ := ha'
      have hsz : vs.toArray.size ≤ sizeLine := by
        rw [List.size_toArray, r.length, sizeLine_eq]; exact Nat.le_trans hl (by decide)
      refine PyProof.Rows.tail_any ⟨_, ho, rfl⟩ F.slot_list_getitem.lookup (wpAny_getItem_list_slice (lo := lo) (hi := hi) (st := none) ⟨_, ho, rfl, k, rfl⟩ (.new _ _ _ _) pl.part pu.part .none (by nofun) ?_ hsz) rfl
      have e2 : slicePick vs.toArray lo hi none = (slice vs ((lo.map (cut vs.length)).getD 0) ((hi.map (cut vs.length)).getD vs.length)).toArray := by
        unfold slicePick
        have e3 : (sliceBounds lo hi none vs.toArray.size) = ((((lo.map (cut vs.length)).getD 0 : Nat) : Int), (((hi.map (cut vs.length)).getD vs.length : Nat) : Int), 1) := by
          rw [← clip_cut' vs.length lo 0, ← clip_cut' vs.length hi vs.length, List.size_toArray]
          cases lo <;> cases hi <;> rfl
        rw [e3]
        have := range_pick vs ((lo.map (cut vs.length)).getD 0) ((hi.map (cut vs.length)).getD vs.length) (part_le _ _)
        simpa [slice] using this
      rw [e2]
      have rr := RV.newList (α := α) (n := 0) (t := s.toks) (s := { s with heap := s.heap.push { cls := .type "slice", data := .fields #[vl, vu, .none] } }) (r.slice ((lo.map (cut vs.length)).getD 0) ((hi.map (cut vs.length)).getD vs.length))
      rw [r.length] at rr ⊢
      exact h _ _ (x1.trans .push) (rr.from x1 T)
    · cases e
  · split at e
    · rename_i l hl; cases e
      obtain ⟨ql, rfl, el⟩ := pl.val
      obtain ⟨qu, rfl, eu⟩ := pu.val
      cases ha'
      refine PyProof.Rows.tail_any (T := "str") (typeIs_str _ _ _) F.slot_str_getitem.lookup (wpAny_getItem_str_slice (l := ql) (u := qu) (st := none) ⟨_, Heap.get?_push_size _ rfl, rfl, rfl⟩ rfl ?_) rfl
      refine parts_str hl fun t' k => ?_
      rw [el, eu]
      exact h _ _ (x1.trans .toks) (.str _ _)
    · cases e
  · cases e
end
end Mine
end
section
set_option autoImplicit false
namespace Mine
open PySem PySem.W

section
variable {prog : Program} {w : World} {ρ : Addr} {h₀ : Heap} {Mu : Addr → Prop} {α : Nat → Addr} {A : Around} {E : Value → Shared → Prop} {s s' : Shared}

theorem truth_sound {d : D} {v : Value} {b : Bool} {Q : Bool → Shared → Prop} (hv : RW prog w ρ Mu s.heap v d) (e : truth d = some b) (h : ∀ s', Ext s s' → Q b s') : wpAny (model prog w) A (truthy v) Q E s := by
  unfold truth at e
  split at e
  · cases hv; cases e
    exact wpAny_pure (h _ (.refl _))
  · cases hv; cases e; exact wpAny_truthy_bool (h _ (.refl _))
  · cases hv; cases e; exact PyProof.Rows.truthy_int (h _ (.refl _))
  · split at e
    · rename_i x hl
      cases hv; cases e
      refine KXt.truthy (b := !x.isEmpty) ?_ (by rw [str_length]; omega) fun _ => h _ .toks
      rw [str_length]
      cases x <;> simp
      omega
    · cases e
  · split at e
    · rename_i l hl
      obtain ⟨a, vs, rfl, ⟨n, ho⟩, r⟩ := hv
      cases e
      have hz : vs.toArray.isEmpty = l.isEmpty := by
        have := r.length
        cases vs <;> cases l <;> simp_all
      refine wpAny_truthy_list ⟨_, ho, rfl, n, rfl⟩ (by rw [List.size_toArray, r.length]; omega) ?_
      rw [hz]; exact h _ .toks
    · cases e
  · cases e

theorem len_sound {d : D} {v : Value} {n : Int} {Q : Value → Shared → Prop} (hv : RW prog w ρ Mu s.heap v d) (e : lenOp d = some n) (h : ∀ v s', Ext s s' → RD prog w ρ Mu s'.heap v (.int n) → Q v s') : wpAny (model prog w) A (call (.builtin "len") [v]) Q E s := by
  unfold lenOp at e
  split at e
  · split at e
    · rename_i x hl
      cases hv; cases e
      refine PyProof.Rows.len_str (by rw [str_length]; omega) ?_
      rw [str_length]
      exact h _ _ .toks (.int _ _)
    · cases e
  · split at e
    · rename_i l hl
      obtain ⟨a, vs, rfl, ⟨k, ho⟩, r⟩ := hv
      cases e
      refine Calls.call_len_list ⟨_, ho, rfl, k, rfl⟩ (by rw [List.size_toArray, r.length]; omega) ?_
      rw [List.size_toArray, r.length]
      exact h _ _ .toks (.int _ _)
    · cases e
  · cases e
end
end Mine
end
section
set_option autoImplicit false
namespace Mine
open PySem PySem.W

abbrev tx (l : List Nat) : Str := ⟨l.toArray⟩

theorem at_one {l : List Nat} {c i : Nat} : StrLaws.At (tx l) ⟨#[c]⟩ l.length i ↔ l[i]? = some c := by
  unfold StrLaws.At
  rw [← str_length l]
  exact StrLaws.subAt_one (tx l) c i
theorem at_hi {l : List Nat} {c i hi : Nat} (hh : hi ≤ l.length) : StrLaws.At (tx l) ⟨#[c]⟩ hi i ↔ i < hi ∧ l[i]? = some c := by
  unfold StrLaws.At
  constructor
  · rintro ⟨h1, h2⟩
    have h1' : i + 1 ≤ hi := h1
    exact ⟨h1', at_one.mp ⟨Nat.le_trans h1' hh, h2⟩⟩
  · rintro ⟨h1, h2⟩
    exact ⟨h1, (at_one.mpr h2).2⟩

theorem occ_head_hi (x y : Str) (lo hi : Nat) :
    (Builtin.Str.occurrences x y lo hi 1 = [] ∧ ∀ i, lo ≤ i → ¬ StrLaws.At x y hi i) ∨
    ∃ i r, Builtin.Str.occurrences x y lo hi 1 = i :: r ∧ lo ≤ i ∧ StrLaws.At x y hi i ∧ ∀ k, lo ≤ k → k < i → ¬ StrLaws.At x y hi k := by
  rw [StrLaws.occ_eq]
  rcases StrLaws.occ_first x y hi 1 (Nat.le_refl _) (List.range' lo (hi + 1 - lo)) lo (fun i hi => by have := List.mem_range'_1.mp hi; omega) with ⟨h0, hn⟩ | ⟨pre, a, post, e, h0, ha, hn⟩
  · refine .inl ⟨by rw [h0], fun i hlo hi => ?_⟩
    exact hn i (by have := hi.1; rw [List.mem_range'_1]; omega) hi
  · have hs := StrLaws.range'_split_from e
    refine .inr ⟨a, ((forIn (List.range' lo (hi + 1 - lo)) ((#[] : Array Nat), lo) (StrLaws.occBody x y hi 1)).run.fst.toList).tail, ?_, hs.1, ha, fun k hk0 hk => hn k (hs.2 k hk0 hk)⟩
    generalize (forIn (List.range' lo (hi + 1 - lo)) ((#[] : Array Nat), lo) (StrLaws.occBody x y hi 1)).run.fst = arr at h0
    have h1 : arr.toList[0]? = some a := by simpa using h0
    cases hL : arr.toList with
    | nil => rw [hL] at h1; cases h1
    | cons b t => rw [hL] at h1; simp at h1; rw [h1]; rfl

theorem findIdx_first {l : List Nat} {c k : Nat} (h1 : l[k]? = some c) (h2 : ∀ j, j < k → l[j]? ≠ some c) : l.findIdx? (· == c) = some k := by
  induction l generalizing k with
  | nil => simp at h1
  | cons a l ih =>
    cases k with
    | zero =>
      simp at h1
      simp [List.findIdx?_cons, h1]
    | succ k =>
      have h0 : a ≠ c := fun e => h2 0 (Nat.succ_pos _) (by simp [e])
      rw [List.findIdx?_cons, show (a == c) = false by simpa using h0]
      simp only [Bool.false_eq_true, if_false]
      rw [ih (by simpa using h1) fun j hj => by have := h2 (j + 1) (Nat.succ_lt_succ hj); simpa using this]
      rfl
theorem findIdx_none {l : List Nat} {c : Nat} (h : ∀ j : Nat, l[j]? ≠ some c) : l.findIdx? (· == c) = none := by
  rw [List.findIdx?_eq_none_iff]
  intro x hx
  obtain ⟨j, hj⟩ := List.getElem?_of_mem hx
  simp only [beq_eq_false_iff_ne]
  rintro rfl
  exact h j hj

theorem occ_findC (l : List Nat) (c lo hi : Nat) (hh : hi ≤ l.length) : (match Builtin.Str.occurrences (tx l) ⟨#[c]⟩ lo hi 1 with | i :: _ => (i : Int) | [] => -1) = findC c l lo hi := by
  unfold findC
  have hg : ∀ j, ((l.take hi).drop lo)[j]? = if lo + j < hi then l[lo + j]? else none := fun j => by
    rw [List.getElem?_drop, List.getElem?_take]
  rcases occ_head_hi (tx l) ⟨#[c]⟩ lo hi with ⟨e, hn⟩ | ⟨i, r, e, h1, h2, h3⟩
  · rw [e, findIdx_none]
    intro j
    rw [hg]
    split
    · rename_i hj
      intro hc
      exact hn (lo + j) (Nat.le_add_right _ _) ((at_hi hh).mpr ⟨hj, hc⟩)
    · nofun
  · obtain ⟨h4, h5⟩ := (at_hi hh).mp h2
    rw [e, findIdx_first (k := i - lo)]
    · show (i : Int) = ((lo + (i - lo) : Nat) : Int)
      omega
    · rw [hg, if_pos (by omega), show lo + (i - lo) = i by omega]; exact h5
    · intro j hj
      rw [hg]
      split
      · rename_i hj2
        intro hc
        exact h3 (lo + j) (Nat.le_add_right _ _) (by omega) ((at_hi hh).mpr ⟨hj2, hc⟩)
      · nofun
theorem find_eq (l : List Nat) (c : Nat) : Txt.find (tx l) ⟨#[c]⟩ = findC c l 0 l.length := by
  unfold Txt.find
  rw [str_length]
  exact occ_findC l c 0 l.length (Nat.le_refl _)

theorem rfind_eq (l : List Nat) (c : Nat) : Txt.rfind (tx l) ⟨#[c]⟩ = rfindC c l := by
  unfold Txt.rfind rfindC
  have hr : ∀ j, j < l.length → l.reverse[j]? = l[l.length - 1 - j]? := fun j hj => List.getElem?_reverse hj
  have ls := StrLaws.last_spec (tx l) ⟨#[c]⟩
  rw [str_length] at ls ⊢
  rcases ls with ⟨e, hn⟩ | ⟨i, e, h2, h3⟩
  · rw [e, findIdx_none]
    intro j hc
    have hj : j < l.reverse.length := (List.getElem?_eq_some_iff.mp hc).1
    rw [List.length_reverse] at hj
    rw [hr j hj] at hc
    exact hn _ (at_one.mpr hc)
  · have h4 := at_one.mp h2
    have hi : i < l.length := (List.getElem?_eq_some_iff.mp h4).1
    rw [e, findIdx_first (k := l.length - 1 - i)]
    · show (i : Int) = ((l.length - 1 - (l.length - 1 - i) : Nat) : Int)
      omega
    · rw [hr _ (by omega), show l.length - 1 - (l.length - 1 - i) = i by omega]; exact h4
    · intro j hj hc
      rw [hr j (by omega)] at hc
      exact h3 _ (by omega) (at_one.mpr hc)

theorem startswith_eq (l x : List Nat) : Txt.startswith (tx l) (tx x) = x.isPrefixOf l := by
  unfold Txt.startswith
  rw [StrLaws.subAt_eq, str_length, str_length, Bool.eq_iff_iff, List.isPrefixOf_iff_prefix]
  simp only [List.drop_zero, Nat.zero_add, Bool.and_eq_true, decide_eq_true_eq, beq_iff_eq]
  rw [List.prefix_iff_eq_take]
  constructor
  · rintro ⟨_, h⟩; exact h.symm
  · intro h
    refine ⟨?_, h.symm⟩
    have := congrArg List.length h
    rw [List.length_take] at this
    omega
theorem endswith_eq (l x : List Nat) : Txt.endswith (tx l) (tx x) = x.isSuffixOf l := by
  unfold Txt.endswith
  rw [StrLaws.subAt_eq, str_length, str_length, Bool.eq_iff_iff, List.isSuffixOf_iff_suffix]
  simp only [Nat.zero_add, Bool.and_eq_true, decide_eq_true_eq, beq_iff_eq]
  rw [List.suffix_iff_eq_drop]
  have hd : x.length ≤ l.length → ((l.drop (l.length - x.length)).take x.length) = l.drop (l.length - x.length) := fun h => List.take_of_length_le (by rw [List.length_drop]; omega)
  constructor
  · rintro ⟨h1, h⟩; rw [hd h1] at h; exact h.symm
  · intro h
    have h1 : x.length ≤ l.length := by
      have := congrArg List.length h
      rw [List.length_drop] at this
      omega
    exact ⟨h1, by rw [hd h1]; exact h.symm⟩

theorem takeWhile_rev (p : Nat → Bool) (l : List Nat) : l.take (l.length - (l.reverse.takeWhile p).length) = (l.reverse.dropWhile p).reverse := by
  have h := List.takeWhile_append_dropWhile (p := p) (l := l.reverse)
  have h2 : l = (l.reverse.dropWhile p).reverse ++ (l.reverse.takeWhile p).reverse := by
    have := congrArg List.reverse h
    rw [List.reverse_append, List.reverse_reverse] at this
    exact this.symm
  have h3 : l.length - (l.reverse.takeWhile p).length = (l.reverse.dropWhile p).reverse.length := by
    have := congrArg List.length h2
    simp at this ⊢
    omega
  rw [h3]
  have h4 : ((l.reverse.dropWhile p).reverse ++ (l.reverse.takeWhile p).reverse).take (l.reverse.dropWhile p).reverse.length = (l.reverse.dropWhile p).reverse := List.take_left' rfl
  rw [← h2] at h4
  exact h4
theorem rstrip_eq (l : List Nat) (c : Nat) : Txt.rstripChars (tx l) ⟨#[c]⟩ = tx (rstrip1 c l) := by
  have hp : (fun x => (⟨#[c]⟩ : Str).cps.contains x) = fun x => x == c := by
    funext x
    by_cases h : x = c
    · simp [h]
    · have h' : ¬ c = x := fun e => h e.symm
      simp [h]
  have hs : Builtin.Str.strSub (tx l) (stripLo (⟨#[c]⟩ : Str).cps.contains false (tx l)) (stripHi (⟨#[c]⟩ : Str).cps.contains true (tx l) (stripLo (⟨#[c]⟩ : Str).cps.contains false (tx l))) = tx (rstrip1 c l) := by
    rw [PyProof.Rows.strSub_mk]
    show tx ((l.drop 0).take (stripHi _ true (tx l) 0 - 0)) = _
    unfold stripHi
    rw [if_pos rfl, str_length]
    show tx ((l.drop 0).take (l.length - ((l.drop 0).reverse.takeWhile (fun x => (⟨#[c]⟩ : Str).cps.contains x)).length - 0)) = _
    rw [hp, List.drop_zero, Nat.sub_zero, takeWhile_rev]
    rfl
  unfold Txt.rstripChars Txt.stripBy
  split
  · rename_i h
    unfold stripSame at h
    have h2 := of_decide_eq_true (p := stripHi (⟨#[c]⟩ : Str).cps.contains true (tx l) (stripLo (⟨#[c]⟩ : Str).cps.contains false (tx l)) = (tx l).length) (by simpa using (Bool.and_eq_true_iff.mp h).2)
    rw [← hs, h2]
    exact (PyProof.Rows.strSub_whole _).symm
  · exact hs

theorem join_eq (sep : List Nat) : ∀ l : List (List Nat), Str.join (tx sep) (l.map tx) = tx (joinL sep l)
  | [] => rfl
  | [x] => rfl
  | x :: y :: r => by
    show tx x ++ tx sep ++ Str.join (tx sep) (tx y :: r.map tx) = _
    have ih := join_eq sep (y :: r)
    rw [List.map_cons] at ih
    rw [ih, str_append, str_append]
    show _ = tx (x ++ sep ++ joinL sep (y :: r))
    rfl

theorem split1_free {c : Nat} : ∀ {w : List Nat}, c ∉ w → split1 c w = [w]
  | [], _ => rfl
  | a :: w, h => by
    have h1 : a ≠ c := fun e => h (by simp [e])
    have ih := split1_free (c := c) (w := w) fun m => h (List.mem_cons_of_mem _ m)
    unfold split1
    rw [show (a == c) = false by simpa using h1, ih]
    simp
theorem split1_cat {c : Nat} : ∀ {w m : List Nat}, c ∉ w → split1 c (w ++ c :: m) = w :: split1 c m
  | [], m, _ => by
    show (if (c == c) = true then [] :: split1 c m else _) = _
    simp
  | a :: w, m, h => by
    have h1 : a ≠ c := fun e => h (by simp [e])
    have ih := split1_cat (c := c) (w := w) (m := m) fun q => h (List.mem_cons_of_mem _ q)
    show (if (a == c) = true then [] :: split1 c (w ++ c :: m) else match split1 c (w ++ c :: m) with | w :: r => (a :: w) :: r | [] => [[a]]) = _
    rw [show (a == c) = false by simpa using h1, ih]
    simp
theorem split1_join {c : Nat} : ∀ {ws : List (List Nat)}, ws ≠ [] → (∀ x ∈ ws, c ∉ x) → split1 c (joinL [c] ws) = ws
  | [], h, _ => absurd rfl h
  | [x], _, h => split1_free (h x (by simp))
  | x :: y :: r, _, h => by
    show split1 c (x ++ [c] ++ joinL [c] (y :: r)) = _
    rw [List.append_assoc]
    show split1 c (x ++ c :: joinL [c] (y :: r)) = _
    rw [split1_cat (h x (by simp)), split1_join (by simp) fun z hz => h z (List.mem_cons_of_mem _ hz)]
theorem split_ne (x y : Str) : Txt.split x y ≠ [] := by
  intro h
  have hj := StrLaws.join_split x y
  unfold Txt.split at h
  split at h
  · cases h
  · split at h
    · cases h
    · have := PySem.StrLaws.partsBetween_eq x (Builtin.Str.occurrences x y 0 x.length (x.length + 1)) y.length
      rw [this] at h
      cases hc : Builtin.Str.occurrences x y 0 x.length (x.length + 1) with
      | nil => rw [hc] at h; cases h
      | cons a r => rw [hc] at h; cases h
theorem split_eq (l : List Nat) (c : Nat) : Txt.split (tx l) ⟨#[c]⟩ = (split1 c l).map tx := by
  have hm : Txt.split (tx l) ⟨#[c]⟩ = ((Txt.split (tx l) ⟨#[c]⟩).map fun p => p.cps.toList).map tx := by
    rw [List.map_map]
    conv => lhs; rw [← List.map_id (Txt.split (tx l) ⟨#[c]⟩)]
    apply List.map_congr_left
    intro p _
    simp [tx]
  have hj := StrLaws.join_split (tx l) ⟨#[c]⟩
  rw [hm] at hj ⊢
  rw [show (⟨#[c]⟩ : Str) = tx [c] from rfl, join_eq] at hj
  have hl : joinL [c] ((Txt.split (tx l) (tx [c])).map fun p => p.cps.toList) = l := by
    have := congrArg (fun s : Str => s.cps.toList) hj
    simpa using this
  congr 1
  conv => rhs; rw [← hl]
  refine (split1_join (fun h => split_ne _ _ (List.map_eq_nil_iff.mp h)) ?_).symm
  intro x hx
  obtain ⟨p, hp, rfl⟩ := List.mem_map.mp hx
  exact StrLaws.split_free (tx l) c p hp
theorem replace1_join (c : Nat) (z : List Nat) : ∀ l : List Nat, joinL z (split1 c l) = replace1 c z l
  | [] => rfl
  | a :: l => by
    have ih := replace1_join c z l
    unfold split1
    have hne : split1 c l ≠ [] := by
      cases l with
      | nil => simp [split1]
      | cons b l =>
        unfold split1
        split
        · simp
        · split <;> simp
    cases hs : split1 c l with
    | nil => exact absurd hs hne
    | cons w r =>
      rw [hs] at ih
      by_cases h : a = c
      · subst h
        simp only [beq_self_eq_true, if_true]
        show ([] : List Nat) ++ z ++ joinL z (w :: r) = _
        rw [ih]
        simp [replace1]
      · rw [show (a == c) = false by simpa using h]
        simp only [Bool.false_eq_true, if_false]
        have e : joinL z ((a :: w) :: r) = a :: joinL z (w :: r) := by
          cases r with
          | nil => rfl
          | cons y r => rfl
        rw [e, ih]
        simp [replace1, h]
theorem replace_eq (l z : List Nat) (c : Nat) : Txt.replace (tx l) ⟨#[c]⟩ (tx z) = tx (replace1 c z l) := by
  rw [StrLaws.replace_one, split_eq, join_eq, replace1_join]
theorem txt_join_eq (sep : List Nat) (l : List (List Nat)) : Txt.join (tx sep) (l.map tx) = tx (joinL sep l) := by
  unfold Txt.join
  rw [StrLaws.glued_eq_join, join_eq]
end Mine
end
section
set_option autoImplicit false
namespace Mine
open PySem PySem.W

def midOf : Meth → String
  | .replace => "str.replace" | .find => "str.find" | .rfind => "str.rfind" | .rstrip => "str.rstrip" | .startswith => "str.startswith" | .endswith => "str.endswith" | .split => "str.split" | .join => "str.join"
def mnameOf : Meth → Str
  | .replace => "replace" | .find => "find" | .rfind => "rfind" | .rstrip => "rstrip" | .startswith => "startswith" | .endswith => "endswith" | .split => "split" | .join => "join"

section
variable (prog : Program) (w : World) (ρ : Addr)
inductive RWs (Mu : Addr → Prop) (h : Heap) : List Value → List D → Prop
  | nil : RWs Mu h [] []
  | cons {v : Value} {d : D} {vs : List Value} {ds : List D} : RW prog w ρ Mu h v d → RWs Mu h vs ds → RWs Mu h (v :: vs) (d :: ds)
end

section
variable {prog : Program} {w : World} {ρ : Addr} {h₀ : Heap} {Mu : Addr → Prop} {α : Nat → Addr} {A : Around} {E : Value → Shared → Prop} {s s' : Shared}

theorem RWs.ext (x : Ext s s') (t : TabInv s.heap) (hg : Mu gT) : ∀ {vs : List Value} {ds : List D}, RWs prog w ρ Mu s.heap vs ds → RWs prog w ρ Mu s'.heap vs ds
  | _, _, .nil => .nil
  | _, _, .cons a r => .cons (a.ext x t hg) (RWs.ext x t hg r)

theorem split_push {x y : Str} {t u : Tok} {Q : Value → Shared → Prop} (hy : (y.length == 0) = false) (hx : x.length ≤ 1000000)
    (hq : ∀ (l : List (Str × Tok)) k, l.map (·.1) = Txt.split x y → Q (.ref s.heap.objs.size) { s with heap := s.heap.push { cls := .type "list", data := .seq (strValues l).toArray }, toks := k }) :
    wpAny (model prog w) A (call (.builtin "str.split") [.str x t, .str y u]) Q E s := by
  have hsz : x.length ≤ sizeLine := by rw [sizeLine_eq]; exact Nat.le_trans hx (by decide)
  have hsz2 : (Builtin.Str.partsBetween x (Builtin.Str.occurrences x y 0 x.length (x.length + 1)) y.length).length ≤ sizeLine := by
    have h1 : (Builtin.Str.partsBetween x (Builtin.Str.occurrences x y 0 x.length (x.length + 1)) y.length).length = (Builtin.Str.occurrences x y 0 x.length (x.length + 1)).length + 1 := by
      rw [StrLaws.partsBetween_eq]
      generalize Builtin.Str.occurrences x y 0 x.length (x.length + 1) = cuts
      have : ∀ (l : List Nat) (a : Nat), (StrLaws.partsFrom x y.length a l).length = l.length + 1 := by
        intro l
        induction l with
        | nil => intro a; rfl
        | cons b l ih => intro a; simp [StrLaws.partsFrom, ih]
      exact this _ _
    have h2 := StrLaws.occ_length_le x y 0 x.length (x.length + 1)
    rw [sizeLine_eq, h1]
    omega
  cases h1 : (decide (x.length < y.length) || decide (Builtin.Str.strKind x < Builtin.Str.strKind y))
  · cases hf : (Builtin.Str.occurrences x y 0 x.length (x.length + 1)).isEmpty
    · refine call_meets F.slot_str_split (typeIs_str _ _ _) F.entry_str_split (F.args_str_split_2 _ _) (meets_str_split_sep x y t u h1 hy hf hsz hsz2) ?_
      show wants Q E _ { s with toks := _, heap := s.heap.push { cls := .type "list", data := .seq (strsFrom s.toks (Builtin.Str.partsBetween x (Builtin.Str.occurrences x y 0 x.length (x.length + 1)) y.length)).toArray } }
      rw [strsFrom_eq]
      exact hq (numbered s.toks _) _ ((numbered_texts _ _).trans ((if_neg (ne_true_of_eq_false h1)).trans (if_neg (ne_true_of_eq_false hf))).symm)
    · exact call_meets F.slot_str_split (typeIs_str _ _ _) F.entry_str_split (F.args_str_split_2 _ _) (meets_str_split_not_found x y t u h1 hy hf)
        (hq [(x, t)] _ ((if_neg (ne_true_of_eq_false h1)).trans (if_pos hf)).symm)
  · exact call_meets F.slot_str_split (typeIs_str _ _ _) F.entry_str_split (F.args_str_split_2 _ _) (meets_str_split_cannot_occur x y t u h1)
      (hq [(x, t)] _ (if_pos h1).symm)

theorem rds_strValues {h : Heap} : ∀ (l : List (Str × Tok)) (ws : List (List Nat)), l.map (·.1) = ws.map tx → RDs prog w ρ Mu h (strValues l) (ws.map .str)
  | [], [], _ => .nil
  | [], _ :: _, e => by cases e
  | _ :: _, [], e => by cases e
  | (x, t) :: l, a :: ws, e => by
    simp only [List.map_cons, List.cons.injEq] at e
    obtain ⟨rfl, e⟩ := e
    exact .cons (.str _ _) (rds_strValues l ws e)
theorem strValues_of {h : Heap} : ∀ {vs : List Value} {ds : List D} {xs : List (List Nat)}, RDs prog w ρ Mu h vs ds → strsOf ds = some xs → ∃ l : List (Str × Tok), vs = strValues l ∧ l.map (·.1) = xs.map tx
  | _, _, _, .nil, e => by cases e; exact ⟨[], rfl, rfl⟩
  | _, _, _, .cons a r, e => by
    cases a with
    | str x t =>
      simp only [strsOf, Option.map_eq_some_iff] at e
      obtain ⟨ys, e, rfl⟩ := e
      obtain ⟨l, rfl, hl⟩ := strValues_of r e
      exact ⟨(tx x, t) :: l, rfl, by rw [List.map_cons, List.map_cons, hl]⟩
    | _ => simp [strsOf] at e

theorem join_room {sep : List Nat} {xs : List (List Nat)} (h1 : (joinL sep xs).length ≤ 1000000) (h2 : xs.length ≤ 100000) (h3 : sep.length ≤ 10) : JoinOk (tx sep) (xs.map tx) = true := by
  unfold JoinOk
  have e : ∀ l : List (List Nat), ∀ n, ((l.map tx).toArray.foldl (fun a p => a + p.length + (tx sep).length) n) = n + (l.map List.length).sum + l.length * sep.length := by
    intro l
    induction l with
    | nil => intro n; simp
    | cons a l ih =>
      intro n
      have ih' := ih (n + a.length + sep.length)
      simp only [List.map_cons, List.foldl_toArray, List.foldl_cons, str_length, List.sum_cons, List.length_cons] at ih' ⊢
      rw [ih', Nat.add_mul]
      omega
  have hs : ∀ l : List (List Nat), (l.map List.length).sum ≤ (joinL sep l).length := by
    intro l
    induction l with
    | nil => simp [joinL]
    | cons a l ih =>
      cases l with
      | nil => simp [joinL]
      | cons b r =>
        show a.length + ((b :: r).map List.length).sum ≤ (a ++ sep ++ joinL sep (b :: r)).length
        simp only [List.length_append]
        omega
  have h4 := hs xs
  have h5 : xs.length * sep.length ≤ 100000 * 10 := Nat.mul_le_mul h2 h3
  rw [e]
  unfold Builtin.Str.tooLong
  rw [sizeLine_eq]
  have : ¬ (16777216 < 0 + (xs.map List.length).sum + xs.length * sep.length) := by omega
  simp only [Bool.not_eq_true', decide_eq_false_iff_not]
  exact this

theorem find4 {l : List Nat} {c : Nat} {i j : Int} {t u v v' : Tok} {Q : Value → Shared → Prop} (hi : 0 ≤ i) (hj : 0 ≤ j) (hl : j ≤ l.length)
    (hq : Q (.int (findC c l i.toNat j.toNat) s.toks) { s with toks := s.toks + 1 }) : wpAny (model prog w) A (call (.builtin "str.find") [.str (tx l) t, .str (tx [c]) u, .int i v, .int j v']) Q E s := by
  have g : Gives (Builtin.«str.find» ⟨[.str (tx l) t, .str (tx [c]) u, .int i v, .int j v'], []⟩) (.int (findC c l i.toNat j.toNat)) := by
    show Gives (match Builtin.Str.occurrences (tx l) (tx [c]) (max 0 (if i < 0 then i + (tx l).length else i)).toNat (min (max 0 (if j < 0 then j + (tx l).length else j)).toNat (tx l).length) 1 with | k :: _ => retInt k | [] => (do rule "str.find.not-found"; retInt (-1))) _
    have e1 : (max 0 (if i < 0 then i + ((tx l).length : Int) else i)).toNat = i.toNat := by rw [if_neg (by omega)]; omega
    have e2 : min (max 0 (if j < 0 then j + ((tx l).length : Int) else j)).toNat (tx l).length = j.toNat := by rw [if_neg (by omega), str_length]; omega
    rw [e1, e2]
    have h3 := occ_findC l c i.toNat j.toNat (by omega)
    cases ho : Builtin.Str.occurrences (tx l) (tx [c]) i.toNat j.toNat 1 with
    | nil =>
      rw [show (⟨#[c]⟩ : Str) = tx [c] from rfl, ho] at h3
      rw [← h3]; exact .rule (.of_eq rfl)
    | cons k r =>
      rw [show (⟨#[c]⟩ : Str) = tx [c] from rfl, ho] at h3
      rw [← h3]; exact .of_eq rfl
  exact call_gives F.slot_str_find (typeIs_str _ _ _) F.entry_str_find (by unfold argsOk; kernel_rfl) g hq

theorem meth_sound {m : Meth} {d : D} {ds : List D} {v : Value} {vs : List Value} {r : D × Tag} {Q : Value → Shared → Prop} (hm : m ≠ .replace)
    (hv : RW prog w ρ Mu s.heap v d) (ha : RWs prog w ρ Mu s.heap vs ds) (e : methOp m d ds = some r) (h : ∀ v s', Ext s s' → RV prog w ρ Mu α s s' v r → Q v s') :
    wpAny (model prog w) A (call (.builtin (midOf m)) (v :: vs)) Q E s := by
  unfold methOp at e
  split at e
  · exact absurd rfl hm
  · cases hv
    rcases ha with _ | ⟨a1, _ | _⟩
    cases a1
    cases e
    refine SC.find ?_
    rw [find_eq]
    exact h _ _ .toks (.int _ _)
  · cases hv
    rcases ha with _ | ⟨a1, _ | ⟨a2, _ | ⟨a3, _ | _⟩⟩⟩
    cases a1; cases a2; cases a3
    split at e
    · rename_i hl; cases e
      exact find4 hl.1 hl.2.1 hl.2.2 (h _ _ .toks (.int _ _))
    · cases e
  · cases hv
    rcases ha with _ | ⟨a1, _ | _⟩
    cases a1
    cases e
    refine SC.rfind ?_
    rw [rfind_eq]
    exact h _ _ .toks (.int _ _)
  · cases hv
    rcases ha with _ | ⟨a1, _ | _⟩
    cases a1
    split at e
    · cases e
      refine SC.rstripChars (fun t' k => ?_) ?_
      · rw [rstrip_eq]
        exact h _ _ .toks (.str _ _)
      · rename_i hl
        rw [str_length, sizeLine_eq]; exact Nat.le_trans hl (by decide)
    · cases e
  · cases hv
    rcases ha with _ | ⟨a1, _ | _⟩
    cases a1
    cases e
    refine SC.startswith ?_
    rw [startswith_eq]
    exact h _ _ (.refl _) (.bool _)
  · cases hv
    rcases ha with _ | ⟨a1, _ | _⟩
    cases a1
    cases e
    refine SC.endswith ?_
    rw [endswith_eq]
    exact h _ _ (.refl _) (.bool _)
  · cases hv
    rcases ha with _ | ⟨a1, _ | _⟩
    cases a1
    split at e
    · rename_i hl; cases e
      refine split_push rfl (by rw [str_length]; exact hl) fun l k hk => ?_
      rw [split_eq] at hk
      exact h _ _ (.kept fun _ _ e => Heap.get?_push_of_some _ e) (RV.newList (rds_strValues l _ hk))
    · cases e
  · cases hv
    rcases ha with _ | ⟨a1, _ | _⟩
    obtain ⟨xs, hx, e⟩ := Option.bind_eq_some_iff.mp e
    split at e
    · rename_i hl; cases e
      obtain ⟨a, us, rfl, ⟨k, ho⟩, r⟩ := a1
      obtain ⟨l, rfl, hl2⟩ := strValues_of r hx
      refine SC.join ⟨_, ho, rfl, k, rfl⟩ hl2 (join_room hl.1 hl.2.1 hl.2.2) fun t' k => ?_
      rw [txt_join_eq]
      exact h _ _ .toks (.str _ _)
    · cases e
  · cases e

theorem repl_sound {l y : List Nat} {c : Nat} {t u v : Tok} {r : D × Tag} {Q : Value → Shared → Prop} (hu : u ≠ 0) (hv : v ≠ 0) (huv : u ≠ v) (hn : NoneBooked s.heap)
    (e : methOp .replace (.str l) [.str [c], .str y] = some r) (h : ∀ v s', Ext s s' → RV prog w ρ Mu α s s' v r → Q v s') :
    wpAny (model prog w) A (call (.builtin "str.replace") [.str (tx l) t, .str (tx [c]) u, .str (tx y) v]) Q E s := by
  unfold methOp at e
  simp only at e
  split at e
  · rename_i hl; cases e
    refine SC.replaceA hu hv huv ?_ (fun t' k => ?_) hn
    · rw [str_length, str_length]
      have : (l.length + 1) * y.length ≤ 10001 * 1000 := Nat.mul_le_mul (by omega) hl.2.2
      omega
    · rw [show tx [c] = (⟨#[c]⟩ : Str) from rfl, replace_eq]
      exact h _ _ .toks (.str _ _)
  · cases e
end
end Mine
end
section
set_option autoImplicit false
namespace Mine
open PySem PySem.W

/-- the names in sight: their kinds, their slots, how many slots there are -/
structure Ctx where
  k : Str → Option NameKind
  v : List (Str × Nat)
  n : Nat
/-- the names in sight within a comprehension -/
def Ctx.inner (c : Ctx) (x : Str) (scope : Scope) : Ctx where
  k := fun y => match scope.names.lookup y with
    | some .free => some .cell
    | z => z
  v := (x, c.n) :: c.v.filter fun p => scope.names.lookup p.1 == some .free
  n := c.n + 1
def compOk (c : Ctx) (x : Str) (scope : Scope) : Bool :=
  scope.names.lookup ("_twin_re_1" : Str) == none && (scope.kind == .function && scope.names.lookup x == some .local && c.v.all (fun y => decide (y.2 < c.n)) && scope.names.all fun y => (y.2 != .local || scope.names.lookup y.1 == some .local) && y.2 != .cell && (y.2 != .free || c.k y.1 == some .cell))

/-- what is asked of an expression that is shown apart -/
structure Odd (e : Expr) : Prop where
  star : ∀ rest env, starEach (e :: rest) env = (false, eval e env) :: starEach rest env
  plain : Plain e
  mark : ∀ op, behindInMarks op e = false
  base : ∀ nm env, attributeBase e nm env (eval e env) = eval e env
  fold : ∀ env x, foldedSetIterable e env x = pure x
  test : ∀ env whole, isTrue e env whole = (do let v ← whole; standAt e.pos; holding [v] (truthy v))

section
variable (gname fname : Nat → Option Str) (X : Ctx → PE → Expr → Prop)

mutual
inductive Emb : Ctx → PE → Expr → Prop
  | none {c} {k : Nat} {p : Pos} : Emb c (.lit .none) (.Constant .none k p)
  | bool {c} {b : Bool} {k : Nat} {p : Pos} : Emb c (.lit (.bool b)) (.Constant (.bool b) k p)
  | int {c} {i : Int} {k : Nat} {p : Pos} : Emb c (.lit (.int i)) (.Constant (.int i) k p)
  | str {c} {x : List Nat} {y : Str} {k : Nat} {p : Pos} : y = tx x → Emb c (.lit (.str x)) (.Constant (.str y) k p)
  | var {c} {n : Nat} {x : Str} {p : Pos} : c.v.lookup x = some n → (x == ("__debug__" : Str)) = false → Emb c (.var n) (.Name x p)
  | glob {c} {n : Nat} {x : Str} {p : Pos} : gname n = some x → c.k x = some .globalImplicit → (x == ("__debug__" : Str)) = false → Emb c (.glob n) (.Name x p)
  | tup {c} {es : PEs} {xs : List Expr} {k : Nat} {p : Pos} : xs.length ≤ 1000 → Embs c es xs → Emb c (.tup es) (.Tuple xs k p)
  | lst {c} {es : PEs} {xs : List Expr} {p : Pos} : xs.length ≤ 1000 → Embs c es xs → Emb c (.lst es) (.List xs p)
  | neg {c} {a : PE} {x : Expr} {p : Pos} : Emb c a x → Emb c (.neg a) (.UnaryOp .USub x p)
  | bin {c} {op : BOp} {a b : PE} {o : Operator} {x y : Expr} {p : Pos} : o = opOf op → Emb c a x → Emb c b y → Emb c (.bin op a b) (.BinOp x o y p)
  | cmp {c} {op : COp} {a b : PE} {o : CmpOp} {x y : Expr} {p : Pos} : o = cOf op → Emb c a x → Emb c b y → Emb c (.cmp op a b) (.Compare x [o] [y] p)
  | chain {c} {o1 o2 : COp} {a b d : PE} {q1 q2 : CmpOp} {x y z : Expr} {p : Pos} : q1 = cOf o1 → q2 = cOf o2 → Emb c a x → Emb c b y → Emb c d z → Emb c (.chain o1 o2 a b d) (.Compare x [q1, q2] [y, z] p)
  | and {c} {a : PE} {r : PEs} {x : Expr} {xs : List Expr} {p : Pos} : Emb c a x → Embs c r xs → Emb c (.and a r) (.BoolOp .And (x :: xs) p)
  | or {c} {a : PE} {r : PEs} {x : Expr} {xs : List Expr} {p : Pos} : Emb c a x → Embs c r xs → Emb c (.or a r) (.BoolOp .Or (x :: xs) p)
  | not {c} {a : PE} {x : Expr} {p : Pos} : Emb c a x → Emb c (.not a) (.UnaryOp .Not x p)
  | ite {c} {q a b : PE} {t x y : Expr} {p : Pos} : Emb c q t → Emb c a x → Emb c b y → Emb c (.ite q a b) (.IfExp t x y p)
  | idx {c} {a i : PE} {x y : Expr} {p : Pos} : Emb c a x → Emb c i y → Emb c (.idx a i) (.Subscript x y p)
  | sl {c} {a lo hi : PE} {x y z : Expr} {p q : Pos} : Emb c a x → Emb c lo y → Emb c hi z → Emb c (.sl a lo hi) (.Subscript x (.Slice (some y) (some z) none q) p)
  | slFrom {c} {a lo : PE} {x y : Expr} {p q : Pos} : Emb c a x → Emb c lo y → Emb c (.slFrom a lo) (.Subscript x (.Slice (some y) none none q) p)
  | slTo {c} {a hi : PE} {x z : Expr} {p q : Pos} : Emb c a x → Emb c hi z → Emb c (.slTo a hi) (.Subscript x (.Slice none (some z) none q) p)
  | len {c} {a : PE} {x : Expr} {p q : Pos} : c.k "len" = some .globalImplicit → Emb c a x → Emb c (.len a) (.Call (.Name "len" q) [x] [] p)
  | meth {c} {m : Meth} {o : PE} {e : PE} {r : PEs} {ox x : Expr} {xs : List Expr} {nm : Str} {ap p : Pos} : m ≠ .replace → nm = mnameOf m → (ap.endLine == p.line) = true → xs.length < 20 → Emb c o ox → Emb c e x → Embs c r xs →
      Emb c (.meth m o (.cons e r)) (.Call (.Attribute ox nm ap) (x :: xs) [] p)
  | repl {c} {o : PE} {ox : Expr} {g : Nat} {y : List Nat} {s1 s2 nm : Str} {k1 k2 : Nat} {ap p p1 p2 : Pos} : nm = mnameOf .replace → (ap.endLine == p.line) = true → Emb c o ox → s1 = tx [g] → s2 = tx y →
      Emb c (.meth .replace o (.cons (.lit (.str [g])) (.cons (.lit (.str y)) .nil))) (.Call (.Attribute ox nm ap) [.Constant (.str s1) k1 p1, .Constant (.str s2) k2 p2] [] p)
  | call {c} {f : Nat} {e : PE} {r : PEs} {x : Str} {y : Expr} {xs : List Expr} {p q : Pos} : fname f = some x → c.k x = some .globalImplicit → (x == ("__debug__" : Str)) = false → Emb c e y → Embs c r xs → Emb c (.call f (.cons e r)) (.Call (.Name x q) (y :: xs) [] p)
  | ext {c} {a : PE} {x : Expr} : X c a x → Odd x → Emb c a x
  | compR {c} {elt n : PE} {el nx : Expr} {x : Str} {px q p2 pos : Pos} {scope : Scope} : compOk c x scope = true → c.k "range" = some .globalImplicit → Emb (c.inner x scope) elt el → Emb c n nx →
      Emb c (.compR elt n) (.ListComp el [⟨.Name x px, .Call (.Name "range" q) [nx] [] p2, [], 0⟩] scope pos)
  | compRI {c} {elt n t : PE} {el nx tx : Expr} {x : Str} {px q p2 pos : Pos} {scope : Scope} : compOk c x scope = true → c.k "range" = some .globalImplicit → Emb (c.inner x scope) elt el → Emb c n nx → Emb (c.inner x scope) t tx →
      Emb c (.compRI elt n t) (.ListComp el [⟨.Name x px, .Call (.Name "range" q) [nx] [] p2, [tx], 0⟩] scope pos)
  | compL {c} {elt xs : PE} {el lx : Expr} {x : Str} {px pos : Pos} {scope : Scope} : compOk c x scope = true → Emb (c.inner x scope) elt el → Emb c xs lx →
      Emb c (.compL elt xs) (.ListComp el [⟨.Name x px, lx, [], 0⟩] scope pos)
  | compLI {c} {elt xs t : PE} {el lx tx : Expr} {x : Str} {px pos : Pos} {scope : Scope} : compOk c x scope = true → Emb (c.inner x scope) elt el → Emb c xs lx → Emb (c.inner x scope) t tx →
      Emb c (.compLI elt xs t) (.ListComp el [⟨.Name x px, lx, [tx], 0⟩] scope pos)
  | sorted {c} {a : PE} {x : Expr} {p q : Pos} : c.k "sorted" = some .globalImplicit → Emb c a x → Emb c (.sorted a) (.Call (.Name "sorted" q) [x] [] p)
  | listRange {c} {lo hi : PE} {x y : Expr} {p q p2 q2 : Pos} : c.k "list" = some .globalImplicit → c.k "range" = some .globalImplicit → Emb c lo x → Emb c hi y →
      Emb c (.listRange lo hi) (.Call (.Name "list" q) [.Call (.Name "range" q2) [x, y] [] p2] [] p)
inductive Embs : Ctx → PEs → List Expr → Prop
  | nil {c} : Embs c .nil []
  | cons {c} {e : PE} {r : PEs} {x : Expr} {xs : List Expr} : Emb c e x → Embs c r xs → Embs c (.cons e r) (x :: xs)
end
end

section
variable {gname fname : Nat → Option Str} {X : Ctx → PE → Expr → Prop} {c : Ctx}

theorem Emb.star {pe : PE} {e : Expr} {rest : List Expr} {env : Env} (h : Emb gname fname X c pe e) : starEach (e :: rest) env = (false, eval e env) :: starEach rest env := by
  cases h <;> first | exact Odd.star (by assumption) _ _ | rfl
theorem Emb.plain {pe : PE} {e : Expr} (h : Emb gname fname X c pe e) : Plain e := by
  intro o i
  cases h <;> first | exact Odd.plain (by assumption) _ _ | rfl
theorem Emb.mark {pe : PE} {e : Expr} (op : CmpOp) (h : Emb gname fname X c pe e) : behindInMarks op e = false := by
  cases h <;> first | exact Odd.mark (by assumption) _ | rfl
theorem Emb.base {pe : PE} {e : Expr} {nm : Str} {env : Env} (h : Emb gname fname X c pe e) : attributeBase e nm env (eval e env) = eval e env := by
  cases h <;> first | exact Odd.base (by assumption) _ _ | rfl
theorem Emb.fold {pe : PE} {e : Expr} {env : Env} {x : Value} (h : Emb gname fname X c pe e) : foldedSetIterable e env x = pure x := by
  cases h <;> first | exact Odd.fold (by assumption) _ _ | rfl
theorem Embs.plainArgs {es : PEs} {xs : List Expr} {env : Env} {pos : Pos} (h : Embs gname fname X c es xs) : (backTo pos (starEach xs env)).any (·.1) = false := by
  induction xs generalizing es with
  | nil => rfl
  | cons x xs ih =>
    cases h with
    | cons h r =>
      rw [h.star]
      have := ih r
      simpa [backTo] using this
theorem Embs.few {es : PEs} {xs : List Expr} {env : Env} {pos : Pos} (h : Embs gname fname X c es xs) : (backTo pos (starEach xs env)).all (fun x => !x.1) = true := by
  have := h.plainArgs (env := env) (pos := pos)
  rw [List.all_eq_true]
  rw [List.any_eq_false] at this
  intro x hx
  simpa using this x hx
end

section
variable (prog : Program) (w : World) (ρ : Addr) (h₀ : Heap) (mg mb : Str → Option Value) (G : Nat → Option D) (Sg : Sig) (gname fname : Nat → Option Str) (fa : Nat → Addr)

structure Base : Prop where
  g : h₀.Ns PySem.mainGlobals mg
  b : h₀.Ns builtinsNs mb
  nolim : h₀.NoLimit
  nb : NoneBooked h₀
  ne : PySem.mainGlobals ≠ gT ∧ builtinsNs ≠ gT ∧ cStatics ≠ gT
  len : mg "len" = none ∧ mb "len" = some (.builtin "len")
  sorted : mg "sorted" = none ∧ mb "sorted" = some (.builtin "sorted")
  range : mg "range" = none ∧ mb "range" = some (.type "range")
  list : mg "list" = none ∧ mb "list" = some (.type "list")
  enum : mg "enumerate" = none ∧ mb "enumerate" = some (.type "enumerate")
  gl : ∀ n x d, gname n = some x → G n = some d → ∃ v, mg x = some v ∧ RD prog w ρ (· = gT) h₀ v d
  fn : ∀ f x, fname f = some x → mg x = some (.ref (fa f)) ∧ fa f ≠ gT ∧ ∃ o fd, h₀.get? (fa f) = some o ∧ o.data = .func fd

def FnOK (n : Nat) (a : Addr) (ds : List D) (d : D) : Prop :=
  ∀ (A : Around) (s : Shared) (Mu : Addr → Prop) (vs : List Value), Room n A → 1 ≤ s.toks → St h₀ Mu s → RDs prog w ρ Mu s.heap vs ds →
    ∀ Q : Value → Shared → Prop, (∀ v s', Ext s s' → RD prog w ρ Mu s'.heap v d → Q v s') → wpAny (model prog w) A (call (.ref a) vs) Q NoE s
def SigOK (n : Nat) : Prop := ∀ f ds d x, fname f = some x → Sg f ds = some d → FnOK prog w ρ h₀ n (fa f) ds d

structure EnvOK (env : Env) (κ : Str → Option NameKind) : Prop where
  cells : ∀ x, κ x = some .cell → ∃ a, env.cells.lookup x = some a
  kind : env.scope.kind = .function
  globals : env.globals = PySem.mainGlobals
  builtins : env.builtins = builtinsNs
  names : ∀ x, env.kindOf x = κ x
  code : κ ("_twin_re_1" : Str) ≠ none → env.code = .ref gC
end

section
variable {prog : Program} {w : World} {ρ : Addr} {h₀ : Heap} {mg mb : Str → Option Value} {G : Nat → Option D} {Sg : Sig} {gname fname : Nat → Option Str} {fa : Nat → Addr}
variable {A : Around} {s s' : Shared} {Mu : Addr → Prop} {α : Nat → Addr} {σ : List LV} {env : Env} {κ : Str → Option NameKind} {ν : List (Str × Nat)} {n : Nat}

theorem stepT {β : Type} {t : Sem β} {Q : β → Shared → Prop} (h : wpAny (model prog w) A t (fun a s' => s.toks ≤ s'.toks → Q a s') NoE s) : wpAny (model prog w) A t Q NoE s :=
  wpAny_with_toks (Nat.le_refl _) (wpAny_mono h (fun _ _ x => x) fun _ _ x => x.elim)

theorem ns_keep {a : Addr} {m : Str → Option Value} (R : St h₀ Mu s) (hn : h₀.Ns a m) (ha : a ≠ gT) : s.heap.Ns a m :=
  let ⟨o, es, ep, ho, r⟩ := hn; ⟨o, es, ep, R.keep _ _ ha ho, r⟩

theorem load_glob {x : Str} {v : Value} {Q : Value → Shared → Prop} (B : Base prog w ρ h₀ mg mb G gname fname fa) (O : EnvOK env κ) (R : St h₀ Mu s) (hk : κ x = some .globalImplicit) (hm : mg x = some v) (h : Q v s) :
    wpAny (model prog w) A (loadName env x) Q NoE s := by
  rw [PyProof.Rows.loadName_read O.kind ((O.names x).trans hk)]
  unfold loadGlobal
  rw [O.globals]
  refine wpAny_bind (wpAny_nsGet (ns_keep R B.g B.ne.1) ?_)
  rw [hm]
  exact wpAny_pure h
theorem load_built {x : Str} {v : Value} {Q : Value → Shared → Prop} (B : Base prog w ρ h₀ mg mb G gname fname fa) (O : EnvOK env κ) (R : St h₀ Mu s) (hk : κ x = some .globalImplicit) (hm : mg x = none ∧ mb x = some v) (h : Q v s) :
    wpAny (model prog w) A (loadName env x) Q NoE s := by
  rw [PyProof.Rows.loadName_read O.kind ((O.names x).trans hk)]
  unfold loadGlobal
  rw [O.globals, O.builtins]
  refine wpAny_bind (wpAny_nsGet (ns_keep R B.g B.ne.1) ?_)
  rw [hm.1]
  refine wpAny_bind (wpAny_nsGet (ns_keep R B.b B.ne.2.1) ?_)
  rw [hm.2]
  exact wpAny_pure h
theorem load_slot {x : Str} {v : Value} {Q : Value → Shared → Prop} (O : EnvOK env κ) (l : Loads env s.heap x v) (h : Q v s) : wpAny (model prog w) A (loadName env x) Q NoE s := by
  rcases l with ⟨hk, m, hn, hm⟩ | ⟨hk, c, hc, hv⟩
  · exact wpAny_loadName_local O.kind hk hn hm h
  · exact wpAny_loadName_cell O.kind hk hc hv h

end
end Mine
end
section
set_option autoImplicit false
namespace Mine
open PySem PySem.W

theorem binOp_tag {op : BOp} {a b : D} {r : D × Tag} {k : Nat} (e : binOp op a b = some r) : r.2 ≠ .own k := by
  unfold binOp at e
  split at e <;> (try split at e) <;> cases e <;> nofun
theorem sliceOp_tag {a : D} {x y : Option Int} {r : D × Tag} {k : Nat} (e : sliceOp a x y = some r) : r.2 ≠ .own k := by
  unfold sliceOp at e
  split at e <;> (try split at e) <;> cases e <;> nofun
theorem methOp_tag {m : Meth} {a : D} {ds : List D} {r : D × Tag} {k : Nat} (e : methOp m a ds = some r) : r.2 ≠ .own k := by
  have hj : ∀ (s : List Nat) (l : List D), ((strsOf l).bind fun xs => if (joinL s xs).length ≤ 1000000 ∧ xs.length ≤ 100000 ∧ s.length ≤ 10 then some (D.str (joinL s xs), Tag.fz) else none) = some r → r.2 ≠ .own k := by
    intro s l e
    obtain ⟨xs, hx, e⟩ := Option.bind_eq_some_iff.mp e
    split at e <;> cases e
    nofun
  unfold methOp at e
  split at e
  all_goals first
    | exact hj _ _ e
    | (cases e <;> nofun)
    | (split at e
       · cases e; nofun
       · cases e)

section
variable {G : Nat → Option D} {Sg : Sig}
mutual
theorem evE_own : ∀ (pe : PE) {σ : List LV} {d : D} {k : Nat}, evE G Sg pe σ = some (d, .own k) → σ[k]? = some (.ow d)
  | .lit _, _, _, _, e => by simp [evE] at e
  | .var j, σ, d, k, e => by
    simp only [evE, Option.bind_eq_some_iff, Option.map_eq_some_iff] at e
    obtain ⟨v, hv, d', hd, e⟩ := e
    cases v with
    | ow d'' => simp only [LV.tag, LV.get] at e hd; cases hd; cases e; exact hv
    | _ => simp [LV.tag] at e
  | .glob _, _, _, _, e => by simp [evE] at e
  | .tup _, _, _, _, e => by simp [evE] at e
  | .lst _, _, _, _, e => by simp [evE] at e
  | .neg a, _, _, _, e => by
    simp only [evE, Option.bind_eq_some_iff] at e
    obtain ⟨x, _, e⟩ := e
    split at e <;> cases e
  | .bin _ _ _, _, _, _, e => by
    simp only [evE, Option.bind_eq_some_iff] at e
    obtain ⟨x, _, y, _, e⟩ := e
    exact absurd rfl (binOp_tag e)
  | .cmp _ _ _, _, _, _, e => by simp [evE, Option.bind_eq_some_iff] at e
  | .chain _ _ _ _ _, _, _, _, e => by
    simp only [evE, Option.bind_eq_some_iff] at e
    obtain ⟨x, _, y, _, r, _, e⟩ := e
    split at e
    · simp [Option.bind_eq_some_iff] at e
    · cases e
  | .and a r, _, _, _, e => by
    simp only [evE, Option.bind_eq_some_iff] at e
    obtain ⟨x, hx, t, _, e⟩ := e
    split at e
    · rcases evAnd_own r e with q | q
      · subst q; exact evE_own a hx
      · exact q
    · cases e; exact evE_own a hx
  | .or a r, _, _, _, e => by
    simp only [evE, Option.bind_eq_some_iff] at e
    obtain ⟨x, hx, t, _, e⟩ := e
    split at e
    · cases e; exact evE_own a hx
    · rcases evOr_own r e with q | q
      · subst q; exact evE_own a hx
      · exact q
  | .not _, _, _, _, e => by simp [evE, Option.bind_eq_some_iff] at e
  | .ite c a b, _, _, _, e => by
    simp only [evE, Option.bind_eq_some_iff] at e
    obtain ⟨x, hx, t, _, e⟩ := e
    split at e
    · exact evE_own a e
    · exact evE_own b e
  | .idx _ _, _, _, _, e => by simp [evE, Option.bind_eq_some_iff] at e
  | .sl _ _ _, _, _, _, e => by
    simp only [evE, Option.bind_eq_some_iff] at e
    obtain ⟨x, _, y, _, z, _, e⟩ := e
    split at e
    · exact absurd rfl (sliceOp_tag e)
    · cases e
  | .slFrom _ _, _, _, _, e => by
    simp only [evE, Option.bind_eq_some_iff] at e
    obtain ⟨x, _, y, _, e⟩ := e
    split at e
    · exact absurd rfl (sliceOp_tag e)
    · cases e
  | .slTo _ _, _, _, _, e => by
    simp only [evE, Option.bind_eq_some_iff] at e
    obtain ⟨x, _, y, _, e⟩ := e
    split at e
    · exact absurd rfl (sliceOp_tag e)
    · cases e
  | .len _, _, _, _, e => by simp [evE, Option.bind_eq_some_iff] at e
  | .sorted _, _, _, _, e => by
    simp only [evE, Option.bind_eq_some_iff] at e
    obtain ⟨x, _, e⟩ := e
    split at e
    · simp at e
    · cases e
  | .listRange _ _, _, _, _, e => by
    simp only [evE, Option.bind_eq_some_iff] at e
    obtain ⟨x, _, y, _, e⟩ := e
    split at e
    · split at e <;> cases e
    · cases e
  | .meth _ _ _, _, _, _, e => by
    simp only [evE, Option.bind_eq_some_iff] at e
    obtain ⟨x, _, y, _, e⟩ := e
    exact absurd rfl (methOp_tag e)
  | .call _ _, _, _, _, e => by simp [evE, Option.bind_eq_some_iff] at e
  | .compR _ _, _, _, _, e => by
    simp only [evE, Option.bind_eq_some_iff] at e
    obtain ⟨x, _, e⟩ := e
    split at e
    · split at e
      · simp at e
      · cases e
    · cases e
  | .compRI _ _ _, _, _, _, e => by
    simp only [evE, Option.bind_eq_some_iff] at e
    obtain ⟨x, _, e⟩ := e
    split at e
    · split at e
      · simp [Option.bind_eq_some_iff] at e
      · cases e
    · cases e
  | .compL _ _, _, _, _, e => by
    simp only [evE, Option.bind_eq_some_iff] at e
    obtain ⟨x, _, e⟩ := e
    split at e
    · split at e
      · cases e
      · simp at e
    · cases e
  | .compLI _ _ _, _, _, _, e => by
    simp only [evE, Option.bind_eq_some_iff] at e
    obtain ⟨x, _, e⟩ := e
    split at e
    · split at e
      · cases e
      · simp [Option.bind_eq_some_iff] at e
    · cases e
  | .fstr _ _ _, _, _, _, e => by
    simp only [evE, Option.bind_eq_some_iff] at e
    obtain ⟨x, _, e⟩ := e
    split at e
    · split at e <;> cases e
    · cases e
  | .joinG _ _ _, _, _, _, e => by
    simp only [evE, Option.bind_eq_some_iff] at e
    obtain ⟨y, _, x, _, e⟩ := e
    split at e
    · split at e
      · obtain ⟨l, _, e⟩ := Option.bind_eq_some_iff.mp e
        exact absurd rfl (methOp_tag e)
      · cases e
    · cases e
  | .prim _ _, _, _, _, e => by simp [evE, Option.bind_eq_some_iff] at e
theorem evAnd_own : ∀ (r : PEs) {σ : List LV} {x : D × Tag} {d : D} {k : Nat}, evAnd G Sg r σ x = some (d, .own k) → x = (d, .own k) ∨ σ[k]? = some (.ow d)
  | .nil, _, _, _, _, e => by simp only [evAnd] at e; cases e; exact .inl rfl
  | .cons a r, _, _, _, _, e => by
    simp only [evAnd, Option.bind_eq_some_iff] at e
    obtain ⟨x, hx, t, _, e⟩ := e
    split at e
    · rcases evAnd_own r e with q | q
      · subst q; exact .inr (evE_own a hx)
      · exact .inr q
    · cases e; exact .inr (evE_own a hx)
theorem evOr_own : ∀ (r : PEs) {σ : List LV} {x : D × Tag} {d : D} {k : Nat}, evOr G Sg r σ x = some (d, .own k) → x = (d, .own k) ∨ σ[k]? = some (.ow d)
  | .nil, _, _, _, _, e => by simp only [evOr] at e; cases e; exact .inl rfl
  | .cons a r, _, _, _, _, e => by
    simp only [evOr, Option.bind_eq_some_iff] at e
    obtain ⟨x, hx, t, _, e⟩ := e
    split at e
    · cases e; exact .inr (evE_own a hx)
    · rcases evOr_own r e with q | q
      · subst q; exact .inr (evE_own a hx)
      · exact .inr q
end
end
end Mine
end
section
set_option autoImplicit false
namespace Mine
open PySem PySem.W

section
variable (prog : Program) (w : World) (ρ : Addr) (h₀ : Heap) (G : Nat → Option D) (Sg : Sig) (A : Around)

structure Now (c : Ctx) (env : Env) (Mu : Addr → Prop) (α : Nat → Addr) (σ : List LV) (s : Shared) : Prop where
  O : EnvOK env c.k
  R : Rep prog w ρ h₀ env c.v Mu α σ s
  L : σ.length = c.n
  K : 1 ≤ s.toks

def SE (c : Ctx) (pe : PE) (e : Expr) : Prop := ∀ {env : Env} {Mu : Addr → Prop} {α : Nat → Addr} {σ : List LV} {s : Shared} {r : D × Tag} {Q : Value → Shared → Prop}, Now prog w ρ h₀ c env Mu α σ s →
  evE G Sg pe σ = some r → (∀ v s', Ext s s' → s.toks ≤ s'.toks → RV prog w ρ Mu α s s' v r → Q v s') → wpAny (model prog w) A (eval e env) Q NoE s
def ST (c : Ctx) (pe : PE) (e : Expr) : Prop := ∀ {env : Env} {Mu : Addr → Prop} {α : Nat → Addr} {σ : List LV} {s : Shared} {r : D × Tag} {b : Bool} {Q : Bool → Shared → Prop}, Now prog w ρ h₀ c env Mu α σ s →
  evE G Sg pe σ = some r → truth r.1 = some b → (∀ s', Ext s s' → s.toks ≤ s'.toks → Q b s') → wpAny (model prog w) A (isTrue e env (eval e env)) Q NoE s
structure Snd (c : Ctx) (pe : PE) (e : Expr) : Prop where
  ev : SE prog w ρ h₀ G Sg A c pe e
  ts : ST prog w ρ h₀ G Sg A c pe e
/-- arguments, kept and borrowed -/
structure SEs (c : Ctx) (es : PEs) (xs : List Expr) : Prop where
  k : ∀ {env : Env} {Mu : Addr → Prop} {α : Nat → Addr} {σ : List LV} {s : Shared} {ds : List D} {pos : Pos} {Q : List Value → Shared → Prop}, Now prog w ρ h₀ c env Mu α σ s →
    evEs G Sg es σ = some ds → (∀ vs s', Ext s s' → s.toks ≤ s'.toks → vs.length = xs.length → RDs prog w ρ Mu s'.heap vs ds → Q vs s') → wpAny (model prog w) A (spliced (backTo pos (starEach xs env))) Q NoE s
  b : ∀ {env : Env} {Mu : Addr → Prop} {α : Nat → Addr} {σ : List LV} {s : Shared} {ds : List D} {pos : Pos} {Q : List Value → Shared → Prop}, Now prog w ρ h₀ c env Mu α σ s →
    evB G Sg es σ = some ds → (∀ vs s', Ext s s' → s.toks ≤ s'.toks → RWs prog w ρ Mu s'.heap vs ds → Q vs s') → wpAny (model prog w) A (spliced (backTo pos (starEach xs env))) Q NoE s
structure SBo (c : Ctx) (es : PEs) (xs : List Expr) : Prop where
  len : xs = [] → es = .nil
  ae : ∀ {env : Env} {Mu : Addr → Prop} {α : Nat → Addr} {σ : List LV} {s : Shared} {x₀ r : D × Tag} {pos : Pos} {Q : Value → Shared → Prop}, xs ≠ [] → Now prog w ρ h₀ c env Mu α σ s →
    evAnd G Sg es σ x₀ = some r → (∀ v s', Ext s s' → s.toks ≤ s'.toks → RV prog w ρ Mu α s s' v r → Q v s') → wpAny (model prog w) A (boolOp pos .And (evalEach xs env)) Q NoE s
  at_ : ∀ {env : Env} {Mu : Addr → Prop} {α : Nat → Addr} {σ : List LV} {s : Shared} {x₀ r : D × Tag} {b : Bool} {Q : Bool → Shared → Prop}, truth x₀.1 = some true → Now prog w ρ h₀ c env Mu α σ s →
    evAnd G Sg es σ x₀ = some r → truth r.1 = some b → (∀ s', Ext s s' → s.toks ≤ s'.toks → Q b s') → wpAny (model prog w) A (allTrue .And xs env) Q NoE s
  oe : ∀ {env : Env} {Mu : Addr → Prop} {α : Nat → Addr} {σ : List LV} {s : Shared} {x₀ r : D × Tag} {pos : Pos} {Q : Value → Shared → Prop}, xs ≠ [] → Now prog w ρ h₀ c env Mu α σ s →
    evOr G Sg es σ x₀ = some r → (∀ v s', Ext s s' → s.toks ≤ s'.toks → RV prog w ρ Mu α s s' v r → Q v s') → wpAny (model prog w) A (boolOp pos .Or (evalEach xs env)) Q NoE s
  ot : ∀ {env : Env} {Mu : Addr → Prop} {α : Nat → Addr} {σ : List LV} {s : Shared} {x₀ r : D × Tag} {b : Bool} {Q : Bool → Shared → Prop}, truth x₀.1 = some false → Now prog w ρ h₀ c env Mu α σ s →
    evOr G Sg es σ x₀ = some r → truth r.1 = some b → (∀ s', Ext s s' → s.toks ≤ s'.toks → Q b s') → wpAny (model prog w) A (allTrue .Or xs env) Q NoE s
end

section
variable {prog : Program} {w : World} {ρ : Addr} {h₀ : Heap} {mg mb : Str → Option Value} {G : Nat → Option D} {Sg : Sig} {gname fname : Nat → Option Str} {fa : Nat → Addr} {X : Ctx → PE → Expr → Prop}
variable {A : Around} {s s' : Shared} {Mu : Addr → Prop} {α : Nat → Addr} {σ : List LV} {env : Env} {c : Ctx} {n : Nat}

theorem Now.ext (N : Now prog w ρ h₀ c env Mu α σ s) (x : Ext s s') (t : s.toks ≤ s'.toks) : Now prog w ρ h₀ c env Mu α σ s' := ⟨N.O, N.R.ext x, N.L, Nat.le_trans N.K t⟩
theorem Now.own (N : Now prog w ρ h₀ c env Mu α σ s) (x : Ext s s') {pe : PE} {r : D × Tag} (e : evE G Sg pe σ = some r) : ∀ k, r.2 = .own k → OwnAt prog w ρ Mu (α k) r.1 s'.heap := by
  intro k hk
  obtain ⟨d, tg⟩ := r
  obtain rfl : tg = .own k := hk
  exact ((N.R.ext x).owns k d (evE_own pe e)).2
theorem Now.rw (N : Now prog w ρ h₀ c env Mu α σ s) (x : Ext s s') {pe : PE} {v : Value} {r : D × Tag} (e : evE G Sg pe σ = some r) (h : RV prog w ρ Mu α s s' v r) : RW prog w ρ Mu s'.heap v r.1 := h.rw (N.own x e)

theorem SE.snd {pe : PE} {e : Expr} (h : SE prog w ρ h₀ G Sg A c pe e) (ht : ∀ env whole, isTrue e env whole = (do let v ← whole; standAt e.pos; holding [v] (truthy v)) := by intro _ _; rfl) : Snd prog w ρ h₀ G Sg A c pe e where
  ev := h
  ts := by
    intro env Mu α σ s r b Q N e hb hq
    refine stepT (wpAny_isTrue_value ?_ (ht _ _))
    exact h N e fun v s' x t rv => truth_sound (N.rw x e rv) hb fun s'' x' t' => hq _ (x.trans x') t'

theorem Snd.none {k : Nat} {p : Pos} : Snd prog w ρ h₀ G Sg A c (.lit .none) (.Constant .none k p) := SE.snd (by
  intro env Mu α σ s r Q N e h
  cases e; exact wpAny_Constant_none (h _ _ (.refl _) (Nat.le_refl _) .none))
theorem Snd.bool {b : Bool} {k : Nat} {p : Pos} : Snd prog w ρ h₀ G Sg A c (.lit (.bool b)) (.Constant (.bool b) k p) := SE.snd (by
  intro env Mu α σ s r Q N e h
  cases e; exact wpAny_Constant_bool (h _ _ (.refl _) (Nat.le_refl _) (.bool _)))
theorem Snd.int {i : Int} {k : Nat} {p : Pos} : Snd prog w ρ h₀ G Sg A c (.lit (.int i)) (.Constant (.int i) k p) := SE.snd (by
  intro env Mu α σ s r Q N e h
  cases e; exact wpAny_Constant_int (h _ _ .toks (Nat.le_succ _) (.int _ _)))
theorem Snd.str {x : List Nat} {y : Str} {k : Nat} {p : Pos} (hy : y = tx x) : Snd prog w ρ h₀ G Sg A c (.lit (.str x)) (.Constant (.str y) k p) := SE.snd (by
  intro env Mu α σ s r Q N e h
  subst hy
  cases e; exact wpAny_Constant_str (h _ _ .toks (Nat.le_succ _) (.str _ _)))

theorem Snd.var {n : Nat} {x : Str} {p : Pos} (hx : c.v.lookup x = some n) (hd : (x == ("__debug__" : Str)) = false) : Snd prog w ρ h₀ G Sg A c (.var n) (.Name x p) := SE.snd (by
  intro env Mu α σ s r Q N e h
  simp only [evE, Option.bind_eq_some_iff, Option.map_eq_some_iff] at e
  obtain ⟨v, hv, d, hg, rfl⟩ := e
  have q := N.R.slots x n hx v hv
  cases v with
  | fz d' => obtain ⟨v', l, rd⟩ := q; cases hg; exact wpAny_Name (load_slot N.O l (h _ _ (.refl _) (Nat.le_refl _) rd)) hd
  | ow d' => cases hg; exact wpAny_Name (load_slot N.O q (h _ _ (.refl _) (Nat.le_refl _) rfl)) hd
  | _ => cases hg)
theorem Snd.glob (B : Base prog w ρ h₀ mg mb G gname fname fa) {n : Nat} {x : Str} {p : Pos} (hx : gname n = some x) (hk : c.k x = some .globalImplicit) (hd : (x == ("__debug__" : Str)) = false) :
    Snd prog w ρ h₀ G Sg A c (.glob n) (.Name x p) := SE.snd (by
  intro env Mu α σ s r Q N e h
  simp only [evE, Option.map_eq_some_iff] at e
  obtain ⟨d, hg, rfl⟩ := e
  obtain ⟨v, hm, rd⟩ := B.gl n x d hx hg
  exact wpAny_Name (load_glob B N.O N.R.toSt hk hm (h _ _ (.refl _) (Nat.le_refl _) (N.R.toSt.old rd))) hd)

theorem SEs.nil : SEs prog w ρ h₀ G Sg A c .nil [] where
  k := by
    intro env Mu α σ s ds pos Q N e h
    cases e; exact PyProof.Rows.args_nil (h _ _ (.refl _) (Nat.le_refl _) rfl .nil)
  b := by
    intro env Mu α σ s ds pos Q N e h
    cases e; exact PyProof.Rows.args_nil (h _ _ (.refl _) (Nat.le_refl _) .nil)
theorem SEs.cons {a : PE} {r : PEs} {x : Expr} {xs : List Expr} (ha : Snd prog w ρ h₀ G Sg A c a x) (hr : SEs prog w ρ h₀ G Sg A c r xs) (hs : ∀ env, starEach (x :: xs) env = (false, eval x env) :: starEach xs env) :
    SEs prog w ρ h₀ G Sg A c (.cons a r) (x :: xs) where
  k := by
    intro env Mu α σ s ds pos Q N e h
    simp only [evEs, Option.bind_eq_some_iff, Option.map_eq_some_iff] at e
    obtain ⟨y, ey, d, ed, es, ees, rfl⟩ := e
    exact PyProof.Rows.args_cons (ha.ev N ey fun v s₁ x₁ t₁ v₁ => hr.k (N.ext x₁ t₁) ees fun vs s₂ x₂ t₂ l₂ r₂ =>
      h _ _ (x₁.trans x₂) (Nat.le_trans t₁ t₂) (by simp [l₂]) (.cons (x₂.rd N.R.mug (v₁.frozen N.R.toSt ed)) r₂)) (hs env)
  b := by
    intro env Mu α σ s ds pos Q N e h
    simp only [evB, Option.bind_eq_some_iff, Option.map_eq_some_iff] at e
    obtain ⟨y, ey, es, ees, rfl⟩ := e
    exact PyProof.Rows.args_cons (ha.ev N ey fun v s₁ x₁ t₁ v₁ => hr.b (N.ext x₁ t₁) ees fun vs s₂ x₂ t₂ r₂ =>
      h _ _ (x₁.trans x₂) (Nat.le_trans t₁ t₂) (.cons ((N.rw x₁ ey v₁).ext x₂ (N.R.ext x₁).tab N.R.mug) r₂)) (hs env)

theorem Snd.tup {es : PEs} {xs : List Expr} {k : Nat} {p : Pos} (hes : SEs prog w ρ h₀ G Sg A c es xs) (hl : xs.length ≤ 1000) : Snd prog w ρ h₀ G Sg A c (.tup es) (.Tuple xs k p) := SE.snd (by
  intro env Mu α σ s r Q N e h
  simp only [evE, Option.map_eq_some_iff] at e
  obtain ⟨ds, e, rfl⟩ := e
  refine wpAny_Tuple (hes.k N e fun vs s₁ x₁ t₁ l₁ r₁ => ⟨?_, ?_⟩)
  · rw [l₁, sizeLine_eq]; exact Nat.le_trans hl (by decide)
  · refine h _ _ (x₁.trans .push) t₁ (.tup ((N.R.ext x₁).notMu (get_size _)) ⟨_, Heap.get?_push_size _ rfl, rfl, 0, rfl⟩ ?_)
    exact Ext.push.rds N.R.mug r₁)
theorem Snd.lst {es : PEs} {xs : List Expr} {p : Pos} (hes : SEs prog w ρ h₀ G Sg A c es xs) (hl : xs.length ≤ 1000) : Snd prog w ρ h₀ G Sg A c (.lst es) (.List xs p) := SE.snd (by
  intro env Mu α σ s r Q N e h
  simp only [evE, Option.map_eq_some_iff] at e
  obtain ⟨ds, e, rfl⟩ := e
  refine wpAny_List (hes.k N e fun vs s₁ x₁ t₁ l₁ r₁ => ⟨?_, ?_⟩)
  · rw [l₁, sizeLine_eq]; exact Nat.le_trans hl (by decide)
  · exact h _ _ (x₁.trans .push) t₁ ((RV.newList (α := α) (n := 0) (t := s₁.toks) r₁).from x₁ N.R.tab))
theorem Snd.neg {a : PE} {x : Expr} {p : Pos} (ha : Snd prog w ρ h₀ G Sg A c a x) : Snd prog w ρ h₀ G Sg A c (.neg a) (.UnaryOp .USub x p) := SE.snd (by
  intro env Mu α σ s r Q N e h
  simp only [evE, Option.bind_eq_some_iff] at e
  obtain ⟨y, ey, e⟩ := e
  obtain ⟨d, tg⟩ := y
  simp only at e
  split at e
  · cases e
    refine wpAny_UnaryOp (ha.ev N ey fun v s₁ x₁ t₁ v₁ => ?_)
    have := N.rw x₁ ey v₁
    rename_i i
    cases this
    exact PyProof.Rows.neg_int (h _ _ (x₁.trans .toks) (Nat.le_succ_of_le t₁) (.int _ _))
  · cases e)
theorem Snd.bin {op : BOp} {a b : PE} {o : Operator} {x y : Expr} {p : Pos} (ho : o = opOf op) (ha : Snd prog w ρ h₀ G Sg A c a x) (hb : Snd prog w ρ h₀ G Sg A c b y) : Snd prog w ρ h₀ G Sg A c (.bin op a b) (.BinOp x o y p) := SE.snd (by
  intro env Mu α σ s r Q N e h
  subst ho
  simp only [evE, Option.bind_eq_some_iff] at e
  obtain ⟨xa, ea, xb, eb, e⟩ := e
  refine stepT (wpAny_BinOp (ha.ev N ea fun va s₁ x₁ t₁ v₁ => hb.ev (N.ext x₁ t₁) eb fun vb s₂ x₂ t₂ v₂ => ?_))
  exact binOp_sound (N.R.ext (x₁.trans x₂)).toSt ((N.rw x₁ ea v₁).ext x₂ (N.R.ext x₁).tab N.R.mug) ((N.ext x₁ t₁).rw x₂ eb v₂) e
    fun v s' x₃ v₃ t => h _ _ (x₁.trans (x₂.trans x₃)) t (v₃.from (x₁.trans x₂) N.R.tab))
theorem Snd.cmp (Rm : Room n A) {op : COp} {a b : PE} {o : CmpOp} {x y : Expr} {p : Pos} (ho : o = cOf op) (ha : Snd prog w ρ h₀ G Sg A c a x) (hb : Snd prog w ρ h₀ G Sg A c b y) (hm : ∀ op, behindInMarks op y = false) :
    Snd prog w ρ h₀ G Sg A c (.cmp op a b) (.Compare x [o] [y] p) where
  ev := by
    intro env Mu α σ s r Q N e h
    subst ho
    simp only [evE, Option.bind_eq_some_iff, Option.map_eq_some_iff] at e
    obtain ⟨xa, ea, xb, eb, q, e, rfl⟩ := e
    refine stepT (wpAny_Compare1 (ha.ev N ea fun va s₁ x₁ t₁ v₁ => hb.ev (N.ext x₁ t₁) eb fun vb s₂ x₂ t₂ v₂ => ?_) (hm _))
    exact cmpOp_sound Rm ((N.rw x₁ ea v₁).ext x₂ (N.R.ext x₁).tab N.R.mug) ((N.ext x₁ t₁).rw x₂ eb v₂) e fun s' x₃ t => h _ _ (x₁.trans (x₂.trans x₃)) t (.bool _)
  ts := by
    intro env Mu α σ s r b Q N e hb' h
    subst ho
    simp only [evE, Option.bind_eq_some_iff, Option.map_eq_some_iff] at e
    obtain ⟨xa, ea, xb, eb, q, e, rfl⟩ := e
    cases hb'
    refine stepT (wpAny_isTrue_Compare1 (ha.ev N ea fun va s₁ x₁ t₁ v₁ => hb.ev (N.ext x₁ t₁) eb fun vb s₂ x₂ t₂ v₂ => ?_) (hm _))
    exact cmpOp_sound Rm ((N.rw x₁ ea v₁).ext x₂ (N.R.ext x₁).tab N.R.mug) ((N.ext x₁ t₁).rw x₂ eb v₂) e fun s' x₃ => wpAny_truthy_bool fun t => h _ (x₁.trans (x₂.trans x₃)) t
theorem Snd.chain (Rm : Room n A) {o1 o2 : COp} {a b d : PE} {q1 q2 : CmpOp} {x y z : Expr} {p : Pos} (h1 : q1 = cOf o1) (h2 : q2 = cOf o2) (ha : Snd prog w ρ h₀ G Sg A c a x) (hb : Snd prog w ρ h₀ G Sg A c b y) (hd : Snd prog w ρ h₀ G Sg A c d z)
    (hm : ∀ op, behindInMarks op z = false) : Snd prog w ρ h₀ G Sg A c (.chain o1 o2 a b d) (.Compare x [q1, q2] [y, z] p) where
  ev := by
    intro env Mu α σ s r Q N e h
    subst h1 h2
    simp only [evE, Option.bind_eq_some_iff] at e
    obtain ⟨xa, ea, xb, eb, q, e1, e⟩ := e
    refine stepT (PyProof.Rows.Compare_chain (ha.ev N ea fun va s₁ x₁ t₁ v₁ => PyProof.Rows.chain_link (hb.ev (N.ext x₁ t₁) eb fun vb s₂ x₂ t₂ v₂ => ?_)) (hm _))
    refine stepT (cmpOp_sound Rm ((N.rw x₁ ea v₁).ext x₂ (N.R.ext x₁).tab N.R.mug) ((N.ext x₁ t₁).rw x₂ eb v₂) e1 fun s₃ x₃ t₃ => wpAny_truthy_bool ?_)
    have x23 := x₂.trans x₃
    have x13 := x₁.trans x23
    cases q with
    | false => cases e; exact fun t => h _ _ x13 t (.bool _)
    | true =>
      obtain ⟨xz, ez, e⟩ := Option.bind_eq_some_iff.mp e
      obtain ⟨q, e2, rfl⟩ := Option.map_eq_some_iff.mp e
      have N3 := N.ext x13 (Nat.le_trans t₁ (Nat.le_trans t₂ t₃))
      refine PyProof.Rows.chain_last (hd.ev N3 ez fun vz s₄ x₄ t₄ v₄ => ?_)
      exact cmpOp_sound Rm (((N.ext x₁ t₁).rw x₂ eb v₂).ext (x₃.trans x₄) ((N.R.ext x₁).ext x₂).tab N.R.mug) (N3.rw x₄ ez v₄) e2 fun s₅ x₅ t => h _ _ (x13.trans (x₄.trans x₅)) t (.bool _)
  ts := by
    intro env Mu α σ s r b Q N e hb' h
    subst h1 h2
    simp only [evE, Option.bind_eq_some_iff] at e
    obtain ⟨xa, ea, xb, eb, q, e1, e⟩ := e
    refine stepT (PyProof.Rows.isTrue_chain (ha.ev N ea fun va s₁ x₁ t₁ v₁ => PyProof.Rows.test_link (hb.ev (N.ext x₁ t₁) eb fun vb s₂ x₂ t₂ v₂ => ?_)) (hm _))
    refine stepT (cmpOp_sound Rm ((N.rw x₁ ea v₁).ext x₂ (N.R.ext x₁).tab N.R.mug) ((N.ext x₁ t₁).rw x₂ eb v₂) e1 fun s₃ x₃ t₃ => wpAny_truthy_bool ?_)
    have x23 := x₂.trans x₃
    have x13 := x₁.trans x23
    cases q with
    | false => cases e; cases hb'; exact fun t => h _ x13 t
    | true =>
      obtain ⟨xz, ez, e⟩ := Option.bind_eq_some_iff.mp e
      obtain ⟨q, e2, rfl⟩ := Option.map_eq_some_iff.mp e
      cases hb'
      have N3 := N.ext x13 (Nat.le_trans t₁ (Nat.le_trans t₂ t₃))
      refine PyProof.Rows.test_last (hd.ev N3 ez fun vz s₄ x₄ t₄ v₄ => ?_)
      exact cmpOp_sound Rm (((N.ext x₁ t₁).rw x₂ eb v₂).ext (x₃.trans x₄) ((N.R.ext x₁).ext x₂).tab N.R.mug) (N3.rw x₄ ez v₄) e2 fun s₅ x₅ => wpAny_truthy_bool fun t => h _ (x13.trans (x₄.trans x₅)) t

theorem Snd.not {a : PE} {x : Expr} {p : Pos} (ha : Snd prog w ρ h₀ G Sg A c a x) : Snd prog w ρ h₀ G Sg A c (.not a) (.UnaryOp .Not x p) where
  ev := by
    intro env Mu α σ s r Q N e h
    simp only [evE, Option.bind_eq_some_iff, Option.map_eq_some_iff] at e
    obtain ⟨y, ey, t, e, rfl⟩ := e
    refine stepT (wpAny_UnaryOp (ha.ev N ey fun v s₁ x₁ t₁ v₁ => not_value (truth_sound (N.rw x₁ ey v₁) e fun s₂ x₂ t => ?_)))
    exact h _ _ (x₁.trans x₂) t (.bool _)
  ts := by
    intro env Mu α σ s r b Q N e hb h
    simp only [evE, Option.bind_eq_some_iff, Option.map_eq_some_iff] at e
    obtain ⟨y, ey, t, e, rfl⟩ := e
    cases hb
    exact wpAny_isTrue_Not (ha.ts N ey e fun s₁ x₁ t₁ => h _ x₁ t₁)
theorem Snd.ite {q a b : PE} {t x y : Expr} {p : Pos} (hq : Snd prog w ρ h₀ G Sg A c q t) (ha : Snd prog w ρ h₀ G Sg A c a x) (hb : Snd prog w ρ h₀ G Sg A c b y) : Snd prog w ρ h₀ G Sg A c (.ite q a b) (.IfExp t x y p) where
  ev := by
    intro env Mu α σ s r Q N e h
    simp only [evE, Option.bind_eq_some_iff] at e
    obtain ⟨z, ez, k, ek, e⟩ := e
    refine wpAny_IfExp (hq.ts N ez ek fun s₁ x₁ t₁ => ?_)
    cases k with
    | true => exact ha.ev (N.ext x₁ t₁) e fun v s₂ x₂ t₂ v₂ => h _ _ (x₁.trans x₂) (Nat.le_trans t₁ t₂) (v₂.from x₁ N.R.tab)
    | false => exact hb.ev (N.ext x₁ t₁) e fun v s₂ x₂ t₂ v₂ => h _ _ (x₁.trans x₂) (Nat.le_trans t₁ t₂) (v₂.from x₁ N.R.tab)
  ts := by
    intro env Mu α σ s r b' Q N e hb' h
    simp only [evE, Option.bind_eq_some_iff] at e
    obtain ⟨z, ez, k, ek, e⟩ := e
    rw [arm_isTrue_IfExp]
    refine wpAny_bind (hq.ts N ez ek fun s₁ x₁ t₁ => ?_)
    cases k with
    | true => exact ha.ts (N.ext x₁ t₁) e hb' fun s₂ x₂ t₂ => h _ (x₁.trans x₂) (Nat.le_trans t₁ t₂)
    | false => exact hb.ts (N.ext x₁ t₁) e hb' fun s₂ x₂ t₂ => h _ (x₁.trans x₂) (Nat.le_trans t₁ t₂)

theorem SBo.nil : SBo prog w ρ h₀ G Sg A c .nil [] where
  len := fun _ => rfl
  ae := by intro env Mu α σ s x₀ r pos Q hn; exact absurd rfl hn
  oe := by intro env Mu α σ s x₀ r pos Q hn; exact absurd rfl hn
  at_ := by
    intro env Mu α σ s x₀ r b Q hx N e hb h
    cases e; rw [hx] at hb; cases hb
    exact wpAny_allTrue_And_nil (h _ (.refl _) (Nat.le_refl _))
  ot := by
    intro env Mu α σ s x₀ r b Q hx N e hb h
    cases e; rw [hx] at hb; cases hb
    exact wpAny_allTrue_Or_nil (h _ (.refl _) (Nat.le_refl _))
theorem boolOp_cons {pos : Pos} {op : BoolOp} {x y : Sem Value} {r : List (Sem Value)} {Q : Value → Shared → Prop}
    (h : wpAny (model prog w) A x (fun v s₁ => wpAny (model prog w) A (truthy v) (fun t s₂ => if (op == .And) = t then wpAny (model prog w) A (boolOp pos op (y :: r)) Q NoE s₂ else Q v s₂) NoE s₁) NoE s) :
    wpAny (model prog w) A (boolOp pos op (x :: y :: r)) Q NoE s := by
  show wpAny _ A (do
    let v ← x
    standAt pos
    let t ← holding [v] (truthy v)
    match op, t with
    | .And, false | .Or, true => pure v
    | _, _ => boolOp pos op (y :: r)) Q NoE s
  refine wpAny_bind (wpAny_mono h (fun v s₁ h₁ => wpAny_bind (wpAny_standAt (wpAny_bind (wpAny_holding (wpAny_mono h₁ (fun t s₂ h₂ => ?_) fun _ _ x => x))))) fun _ _ x => x)
  cases op <;> cases t <;> first | exact h₂ | exact wpAny_pure h₂
theorem SBo.cons {a : PE} {r : PEs} {x : Expr} {xs : List Expr} (ha : Snd prog w ρ h₀ G Sg A c a x) (hr : SBo prog w ρ h₀ G Sg A c r xs) : SBo prog w ρ h₀ G Sg A c (.cons a r) (x :: xs) where
  len := nofun
  ae := by
    intro env Mu α σ s x₀ y pos Q _ N e h
    simp only [evAnd, Option.bind_eq_some_iff] at e
    obtain ⟨z, ez, t, et, e⟩ := e
    cases xs with
    | nil =>
      obtain rfl := hr.len rfl
      obtain rfl : z = y := by cases t <;> simpa [evAnd] using e
      exact ha.ev N ez h
    | cons x' xs =>
      refine boolOp_cons (ha.ev N ez fun v s₁ x₁ t₁ v₁ => stepT (truth_sound (N.rw x₁ ez v₁) et fun s₂ x₂ t₂ => ?_))
      have t12 := Nat.le_trans t₁ t₂
      have N2 := N.ext (x₁.trans x₂) t12
      cases t with
      | true => exact hr.ae nofun N2 e fun v s₃ x₃ t₃ v₃ => h _ _ ((x₁.trans x₂).trans x₃) (Nat.le_trans t12 t₃) (v₃.from (x₁.trans x₂) N.R.tab)
      | false => cases e; exact h _ _ (x₁.trans x₂) t12 (v₁.ext x₂ (N.R.ext x₁).tab N.R.mug)
  oe := by
    intro env Mu α σ s x₀ y pos Q _ N e h
    simp only [evOr, Option.bind_eq_some_iff] at e
    obtain ⟨z, ez, t, et, e⟩ := e
    cases xs with
    | nil =>
      obtain rfl := hr.len rfl
      obtain rfl : z = y := by cases t <;> simpa [evOr] using e
      exact ha.ev N ez h
    | cons x' xs =>
      refine boolOp_cons (ha.ev N ez fun v s₁ x₁ t₁ v₁ => stepT (truth_sound (N.rw x₁ ez v₁) et fun s₂ x₂ t₂ => ?_))
      have t12 := Nat.le_trans t₁ t₂
      have N2 := N.ext (x₁.trans x₂) t12
      cases t with
      | false => exact hr.oe nofun N2 e fun v s₃ x₃ t₃ v₃ => h _ _ ((x₁.trans x₂).trans x₃) (Nat.le_trans t12 t₃) (v₃.from (x₁.trans x₂) N.R.tab)
      | true => cases e; exact h _ _ (x₁.trans x₂) t12 (v₁.ext x₂ (N.R.ext x₁).tab N.R.mug)
  at_ := by
    intro env Mu α σ s x₀ y b Q hx N e hb h
    simp only [evAnd, Option.bind_eq_some_iff] at e
    obtain ⟨z, ez, t, et, e⟩ := e
    refine wpAny_allTrue_And_cons (ha.ts N ez et fun s₁ x₁ t₁ => ?_)
    cases t with
    | true => exact hr.at_ et (N.ext x₁ t₁) e hb fun s₂ x₂ t₂ => h _ (x₁.trans x₂) (Nat.le_trans t₁ t₂)
    | false => cases e; rw [et] at hb; cases hb; exact h _ x₁ t₁
  ot := by
    intro env Mu α σ s x₀ y b Q hx N e hb h
    simp only [evOr, Option.bind_eq_some_iff] at e
    obtain ⟨z, ez, t, et, e⟩ := e
    refine wpAny_allTrue_Or_cons (ha.ts N ez et fun s₁ x₁ t₁ => ?_)
    cases t with
    | false => exact hr.ot et (N.ext x₁ t₁) e hb fun s₂ x₂ t₂ => h _ (x₁.trans x₂) (Nat.le_trans t₁ t₂)
    | true => cases e; rw [et] at hb; cases hb; exact h _ x₁ t₁
theorem Snd.and {a : PE} {r : PEs} {x : Expr} {xs : List Expr} {p : Pos} (ha : Snd prog w ρ h₀ G Sg A c a x) (hr : SBo prog w ρ h₀ G Sg A c r xs) : Snd prog w ρ h₀ G Sg A c (.and a r) (.BoolOp .And (x :: xs) p) where
  ev := by
    intro env Mu α σ s y Q N e h
    rw [arm_eval_BoolOp]
    exact (SBo.cons ha hr).ae (x₀ := (.none, .fz)) nofun N (by simpa only [evE, evAnd] using e) h
  ts := by
    intro env Mu α σ s y b Q N e hb h
    exact wpAny_isTrue_BoolOp ((SBo.cons ha hr).at_ (x₀ := (.bool true, .fz)) rfl N (by simpa only [evE, evAnd] using e) hb h)
theorem Snd.or {a : PE} {r : PEs} {x : Expr} {xs : List Expr} {p : Pos} (ha : Snd prog w ρ h₀ G Sg A c a x) (hr : SBo prog w ρ h₀ G Sg A c r xs) : Snd prog w ρ h₀ G Sg A c (.or a r) (.BoolOp .Or (x :: xs) p) where
  ev := by
    intro env Mu α σ s y Q N e h
    rw [arm_eval_BoolOp]
    exact (SBo.cons ha hr).oe (x₀ := (.none, .fz)) nofun N (by simpa only [evE, evOr] using e) h
  ts := by
    intro env Mu α σ s y b Q N e hb h
    exact wpAny_isTrue_BoolOp ((SBo.cons ha hr).ot (x₀ := (.bool false, .fz)) rfl N (by simpa only [evE, evOr] using e) hb h)

theorem Snd.idx {a i : PE} {x y : Expr} {p : Pos} (ha : Snd prog w ρ h₀ G Sg A c a x) (hi : Snd prog w ρ h₀ G Sg A c i y) (hp : Plain y) : Snd prog w ρ h₀ G Sg A c (.idx a i) (.Subscript x y p) := SE.snd (by
  intro env Mu α σ s r Q N e h
  simp only [evE, Option.bind_eq_some_iff, Option.map_eq_some_iff] at e
  obtain ⟨xa, ea, xb, eb, d, e, rfl⟩ := e
  refine stepT (PyProof.Rows.Subscript_ (ha.ev N ea fun va s₁ x₁ t₁ v₁ => hi.ev (N.ext x₁ t₁) eb fun vb s₂ x₂ t₂ v₂ => ?_))
  exact idx_sound hp ((N.rw x₁ ea v₁).ext x₂ (N.R.ext x₁).tab N.R.mug) ((N.ext x₁ t₁).rw x₂ eb v₂) e fun v s' x₃ v₃ t => h _ _ (x₁.trans (x₂.trans x₃)) t v₃)
theorem Snd.sl {a lo hi : PE} {x y z : Expr} {p q : Pos} (ha : Snd prog w ρ h₀ G Sg A c a x) (hl : Snd prog w ρ h₀ G Sg A c lo y) (hh : Snd prog w ρ h₀ G Sg A c hi z) :
    Snd prog w ρ h₀ G Sg A c (.sl a lo hi) (.Subscript x (.Slice (some y) (some z) Option.none q) p) := SE.snd (by
  intro env Mu α σ s r Q N e h
  simp only [evE, Option.bind_eq_some_iff] at e
  obtain ⟨xa, ea, ⟨xb, gb⟩, eb, ⟨xc, gc⟩, ec, e⟩ := e
  dsimp only at e
  split at e
  · refine stepT (PyProof.Rows.Subscript_ (ha.ev N ea fun va s₁ x₁ t₁ v₁ => wpAny_Slice ?_))
    have N1 := N.ext x₁ t₁
    refine hl.ev N1 eb fun vb s₂ x₂ t₂ v₂ => hh.ev (N1.ext x₂ t₂) ec fun vc s₃ x₃ t₃ v₃ => wpAny_pure ?_
    have r2 := N1.rw x₂ eb v₂
    have r3 := (N1.ext x₂ t₂).rw x₃ ec v₃
    cases r2; cases r3
    exact sliceOp_sound (N1.R.ext (x₂.trans x₃)).tab N.R.mug ((N.rw x₁ ea v₁).ext (x₂.trans x₃) N1.R.tab N.R.mug) (.int _ _) (.int _ _) e
      fun v s' x₄ v₄ t => h _ _ (x₁.trans ((x₂.trans x₃).trans x₄)) t (v₄.from (x₁.trans (x₂.trans x₃)) N.R.tab)
  · cases e)
theorem Snd.slFrom {a lo : PE} {x y : Expr} {p q : Pos} (ha : Snd prog w ρ h₀ G Sg A c a x) (hl : Snd prog w ρ h₀ G Sg A c lo y) :
    Snd prog w ρ h₀ G Sg A c (.slFrom a lo) (.Subscript x (.Slice (some y) Option.none Option.none q) p) := SE.snd (by
  intro env Mu α σ s r Q N e h
  simp only [evE, Option.bind_eq_some_iff] at e
  obtain ⟨xa, ea, ⟨xb, gb⟩, eb, e⟩ := e
  dsimp only at e
  split at e
  · refine stepT (PyProof.Rows.Subscript_ (ha.ev N ea fun va s₁ x₁ t₁ v₁ => wpAny_Slice ?_))
    have N1 := N.ext x₁ t₁
    refine hl.ev N1 eb fun vb s₂ x₂ t₂ v₂ => wpAny_pure (wpAny_pure ?_)
    have r2 := N1.rw x₂ eb v₂
    cases r2
    exact sliceOp_sound (N1.R.ext x₂).tab N.R.mug ((N.rw x₁ ea v₁).ext x₂ N1.R.tab N.R.mug) (.int _ _) .none e
      fun v s' x₄ v₄ t => h _ _ (x₁.trans (x₂.trans x₄)) t (v₄.from (x₁.trans x₂) N.R.tab)
  · cases e)
theorem Snd.slTo {a hi : PE} {x z : Expr} {p q : Pos} (ha : Snd prog w ρ h₀ G Sg A c a x) (hh : Snd prog w ρ h₀ G Sg A c hi z) :
    Snd prog w ρ h₀ G Sg A c (.slTo a hi) (.Subscript x (.Slice Option.none (some z) Option.none q) p) := SE.snd (by
  intro env Mu α σ s r Q N e h
  simp only [evE, Option.bind_eq_some_iff] at e
  obtain ⟨xa, ea, ⟨xb, gb⟩, eb, e⟩ := e
  dsimp only at e
  split at e
  · refine stepT (PyProof.Rows.Subscript_ (ha.ev N ea fun va s₁ x₁ t₁ v₁ => wpAny_Slice (wpAny_pure ?_)))
    have N1 := N.ext x₁ t₁
    refine hh.ev N1 eb fun vb s₂ x₂ t₂ v₂ => wpAny_pure ?_
    have r2 := N1.rw x₂ eb v₂
    cases r2
    exact sliceOp_sound (N1.R.ext x₂).tab N.R.mug ((N.rw x₁ ea v₁).ext x₂ N1.R.tab N.R.mug) .none (.int _ _) e
      fun v s' x₄ v₄ t => h _ _ (x₁.trans (x₂.trans x₄)) t (v₄.from (x₁.trans x₂) N.R.tab)
  · cases e)

theorem Snd.len (B : Base prog w ρ h₀ mg mb G gname fname fa) {a : PE} {x : Expr} {p q : Pos} (hk : c.k "len" = some .globalImplicit) (ha : Snd prog w ρ h₀ G Sg A c a x) (hs : ∀ rest env, starEach (x :: rest) env = (false, eval x env) :: starEach rest env) :
    Snd prog w ρ h₀ G Sg A c (.len a) (.Call (.Name "len" q) [x] [] p) := SE.snd (by
  intro env Mu α σ s r Q N e h
  simp only [evE, Option.bind_eq_some_iff, Option.map_eq_some_iff] at e
  obtain ⟨xa, ea, m, e, rfl⟩ := e
  refine stepT (wpAny_Call_NameR (wpAny_Name (load_built B N.O N.R.toSt hk B.len ?_)))
  refine PyProof.Rows.callWith_builtin1 (PyProof.Rows.args_cons (ha.ev N ea fun va s₁ x₁ t₁ v₁ => PyProof.Rows.args_nil ?_) (hs _ _)) (hs _ _)
  exact len_sound (N.rw x₁ ea v₁) e fun v s' x₂ v₂ t => h _ _ (x₁.trans x₂) t v₂)

theorem slotM (m : Meth) : Slot "str" (mnameOf m) (midOf m) ∧ typeOf (.builtin (midOf m)) = pure (.type "method_descriptor") := by
  cases m with
  | replace => exact ⟨F.slot_str_replace, F.type_str_replace⟩
  | find => exact ⟨F.slot_str_find, F.type_str_find⟩
  | rfind => exact ⟨F.slot_str_rfind, F.type_str_rfind⟩
  | rstrip => exact ⟨F.slot_str_rstrip, F.type_str_rstrip⟩
  | startswith => exact ⟨F.slot_str_startswith, F.type_str_startswith⟩
  | endswith => exact ⟨F.slot_str_endswith, F.type_str_endswith⟩
  | split => exact ⟨F.slot_str_split, F.type_str_split⟩
  | join => exact ⟨F.slot_str_join, F.type_str_join⟩
theorem methOp_str {m : Meth} {d : D} {ds : List D} {r : D × Tag} (e : methOp m d ds = some r) : ∃ l, d = .str l := by
  unfold methOp at e
  split at e <;> first | exact ⟨_, rfl⟩ | cases e
theorem on_str {m : Meth} {nm : Str} {pos : Pos} {x : List Nat} {t : Tok} {trees : List (Bool × Sem Value)} {Q : Value → Shared → Prop} (hn : nm = mnameOf m)
    (h : wpAny (model prog w) A (callWith pos (.builtin (midOf m)) [.str (tx x) t] trees []) Q NoE s) : MethodOn prog w A nm pos (.str (tx x) t) trees Q NoE s :=
  ⟨"str", midOf m, F.plainAttrs_str, hn ▸ (slotM m).1, (slotM m).2, typeIs_str _ _ _, nofun, h⟩

theorem Snd.meth {m : Meth} {o e1 : PE} {r1 : PEs} {ox x : Expr} {xs : List Expr} {nm : Str} {ap p : Pos} (hm : m ≠ .replace) (hn : nm = mnameOf m) (hline : (ap.endLine == p.line) = true) (hlen : xs.length < 20)
    (ho : Snd prog w ρ h₀ G Sg A c o ox) (hes : SEs prog w ρ h₀ G Sg A c (.cons e1 r1) (x :: xs)) (hb : ∀ nm env, attributeBase ox nm env (eval ox env) = eval ox env)
    (hs : ∀ env, starEach (x :: xs) env = (false, eval x env) :: starEach xs env) (hp : ∀ env, (backTo p (starEach xs env)).any (·.1) = false) (hf : ∀ env, (backTo p (starEach (x :: xs) env)).all (fun x => !x.1) = true) :
    Snd prog w ρ h₀ G Sg A c (.meth m o (.cons e1 r1)) (.Call (.Attribute ox nm ap) (x :: xs) [] p) := SE.snd (by
  intro env Mu α σ s r Q N e h
  simp only [evE, Option.bind_eq_some_iff] at e
  obtain ⟨⟨xa, ga⟩, ea, ds, eb, e⟩ := e
  obtain ⟨l, rfl⟩ := methOp_str e
  refine stepT (wpAny_Call_method_late (hb _ _) ?_ hline rfl (ho.ev N ea fun va s₁ x₁ t₁ v₁ => ?_))
  · rw [hf]
    simp only [Bool.true_and]
    simp [keywordEach, backToKw]
    omega
  have r1 := N.rw x₁ ea v₁
  cases r1 with
  | str l t =>
  refine on_str hn (PyProof.Rows.callWith_method1 (hes.b (N.ext x₁ t₁) eb fun vs s₂ x₂ t₂ r₂ => ?_) (hs _) (hp _))
  exact meth_sound hm (d := .str l) (RD.str l t) r₂ e fun v s' x₃ v₃ t => h _ _ (x₁.trans (x₂.trans x₃)) t (v₃.from (x₁.trans x₂) N.R.tab))
theorem Snd.repl (B : Base prog w ρ h₀ mg mb G gname fname fa) {o : PE} {ox : Expr} {g : Nat} {y : List Nat} {s1 s2 nm : Str} {k1 k2 : Nat} {ap p p1 p2 : Pos} (hn : nm = mnameOf .replace) (hline : (ap.endLine == p.line) = true) (ho : Snd prog w ρ h₀ G Sg A c o ox)
    (hb : ∀ nm env, attributeBase ox nm env (eval ox env) = eval ox env) (h1 : s1 = tx [g]) (h2 : s2 = tx y) :
    Snd prog w ρ h₀ G Sg A c (.meth .replace o (.cons (.lit (.str [g])) (.cons (.lit (.str y)) .nil))) (.Call (.Attribute ox nm ap) [.Constant (.str s1) k1 p1, .Constant (.str s2) k2 p2] [] p) := SE.snd (by
  intro env Mu α σ s r Q N e h
  subst h1 h2
  simp only [evE, Option.bind_eq_some_iff] at e
  obtain ⟨⟨xa, ga⟩, ea, ds, ed, e⟩ := e
  obtain rfl : [D.str [g], D.str y] = ds := by simpa [evB, evE] using ed
  obtain ⟨l, rfl⟩ := methOp_str e
  refine stepT (wpAny_Call_method_late (hb _ _) rfl hline rfl (ho.ev N ea fun va s₁ x₁ t₁ v₁ => ?_))
  have r1 := N.rw x₁ ea v₁
  cases r1 with
  | str l t =>
  refine on_str hn (PyProof.Rows.callWith_method1 (PyProof.Rows.args_cons (wpAny_Constant_str (PyProof.Rows.args_cons (wpAny_Constant_str (PyProof.Rows.args_nil ?_))))))
  have N1 := N.ext x₁ t₁
  have hk := N1.K
  refine repl_sound (s := { s₁ with toks := s₁.toks + 1 + 1 }) (by show s₁.toks ≠ 0; omega) (by show s₁.toks + 1 ≠ 0; omega) (by show s₁.toks ≠ s₁.toks + 1; omega) ?_ e fun v s' x₃ v₃ t => h _ _ (x₁.trans (Ext.toks.trans x₃)) t (v₃.from (x₁.trans Ext.toks) N.R.tab)
  obtain ⟨mc, hc, hm⟩ := B.nb
  exact ⟨mc, ns_keep (s := { s₁ with toks := s₁.toks + 1 + 1 }) (N1.R.toSt.ext .toks) hc B.ne.2.2, hm⟩)
theorem Snd.call (B : Base prog w ρ h₀ mg mb G gname fname fa) (SG : SigOK prog w ρ h₀ Sg fname fa n) (Rm : Room n A) {f : Nat} {e1 : PE} {r1 : PEs} {x : Str} {y : Expr} {xs : List Expr} {p q : Pos} (hf : fname f = some x) (hk : c.k x = some .globalImplicit)
    (hd : (x == ("__debug__" : Str)) = false) (hes : SEs prog w ρ h₀ G Sg A c (.cons e1 r1) (y :: xs)) (hs : ∀ env, starEach (y :: xs) env = (false, eval y env) :: starEach xs env) :
    Snd prog w ρ h₀ G Sg A c (.call f (.cons e1 r1)) (.Call (.Name x q) (y :: xs) [] p) := SE.snd (by
  intro env Mu α σ s r Q N e h
  simp only [evE, Option.bind_eq_some_iff, Option.map_eq_some_iff] at e
  obtain ⟨ds, ed, d, e, rfl⟩ := e
  obtain ⟨hm, hg, o, fd, ho, hdat⟩ := B.fn f x hf
  refine stepT (wpAny_Call_NameR (wpAny_Name (load_glob B N.O N.R.toSt hk hm ?_) hd))
  refine PyProof.Rows.callWith_def hdat (hes.k N ed fun vs s₁ x₁ t₁ _ r₁ => ⟨(N.R.ext x₁).keep _ _ hg ho, ?_⟩) (hs _)
  exact SG f ds d x hf e A s₁ Mu vs Rm (Nat.le_trans N.K t₁) (N.R.ext x₁).toSt r₁ _ fun v s' x₂ v₂ t => h _ _ (x₁.trans x₂) t v₂)
end
end Mine
end
section
set_option autoImplicit false
namespace Mine
open PySem PySem.W

theorem lookup_mem {β : Type} {y : Str} {k : β} : ∀ {l : List (Str × β)}, l.lookup y = some k → (y, k) ∈ l
  | [], h => by simp at h
  | (a, b) :: l, h => by
    simp only [List.lookup_cons] at h
    split at h
    · rename_i e
      cases h
      have : y = a := by simpa using e
      subst this; exact .head _
    · exact .tail _ (lookup_mem h)
theorem lookup_map {β : Type} {y : Str} (g : Str → β → β) : ∀ (l : List (Str × β)), (l.map fun p => (p.1, g p.1 p.2)).lookup y = (l.lookup y).map (g y)
  | [] => rfl
  | (a, b) :: l => by
    simp only [List.map_cons, List.lookup_cons]
    cases e : y == a with
    | true => have : y = a := by simpa using e
              subst this; rfl
    | false => exact lookup_map g l
theorem lookup_filter {β : Type} {y : Str} {k : β} (p : Str → Bool) : ∀ {l : List (Str × β)}, (l.filter fun q => p q.1).lookup y = some k → l.lookup y = some k ∧ p y = true
  | [], h => by simp at h
  | (a, b) :: l, h => by
    simp only [List.filter_cons] at h
    split at h
    · rename_i hp
      simp only [List.lookup_cons] at h ⊢
      cases e : y == a with
      | true =>
        have : y = a := by simpa using e
        subst this
        rw [e] at h
        exact ⟨h, hp⟩
      | false => rw [e] at h; exact lookup_filter p h
    · rename_i hp
      obtain ⟨h1, h2⟩ := lookup_filter p h
      refine ⟨?_, h2⟩
      simp only [List.lookup_cons]
      cases e : y == a with
      | true =>
        have : y = a := by simpa using e
        subst this
        exact absurd h2 hp
      | false => exact h1

theorem compOk_parts {c : Ctx} {x : Str} {scope : Scope} (h : compOk c x scope = true) :
    scope.kind = .function ∧ scope.names.lookup x = some .local ∧ (∀ y ∈ scope.names, y.2 = .local → scope.names.lookup y.1 = some .local) ∧ (∀ y ∈ scope.names, y.2 ≠ .cell) ∧ (∀ y ∈ scope.names, y.2 = .free → c.k y.1 = some .cell) ∧ (∀ y ∈ c.v, y.2 < c.n) := by
  unfold compOk at h
  simp only [Bool.and_eq_true, List.all_eq_true] at h
  obtain ⟨_, ⟨⟨h1, h2⟩, h4⟩, h3⟩ := h
  refine ⟨by simpa using h1, by simpa using h2, fun y hy e => ?_, fun y hy e => ?_, fun y hy e => ?_, fun y hy => of_decide_eq_true (h4 y hy)⟩
  · have := h3 y hy
    simp [e] at this
    exact this
  · have := h3 y hy
    simp [e] at this
  · have := h3 y hy
    simp [e] at this
    exact this

theorem compOk_code {c : Ctx} {x : Str} {scope : Scope} (h : compOk c x scope = true) : (c.inner x scope).k ("_twin_re_1" : Str) = none := by
  unfold compOk at h
  rw [Bool.and_eq_true] at h
  have e : scope.names.lookup ("_twin_re_1" : Str) = none := by simpa using h.1
  unfold Ctx.inner
  dsimp only
  rw [e]
theorem closure_ok {scope : Scope} {env : Env} (h : ∀ y ∈ scope.names, y.2 = .free → ∃ a, env.cells.lookup y.1 = some a) :
    ∃ cl, closureFor scope env = pure cl ∧ ∀ y, scope.names.lookup y = some .free → ∃ a, cl.lookup y = some a ∧ env.cells.lookup y = some a := by
  have key : ∀ (l : List (Str × NameKind)) (cs : List (Str × Addr)), (∀ y ∈ l, y.2 = .free → ∃ a, env.cells.lookup y.1 = some a) → (∀ p ∈ cs, env.cells.lookup p.1 = some p.2) →
      ∃ cl, (forIn (m := Sem) l cs fun x r => (do
        let mut cs := r
        if x.2 == .free then cs := (x.1, ← cellOf env x.1) :: cs
        pure (ForInStep.yield cs))) = pure cl ∧ (∀ p ∈ cl, env.cells.lookup p.1 = some p.2) ∧ (∀ p ∈ cs, p ∈ cl) ∧ ∀ y ∈ l, y.2 = .free → ∃ a, (y.1, a) ∈ cl := by
    intro l
    induction l with
    | nil => intro cs _ hc; exact ⟨cs, rfl, hc, fun _ h => h, nofun⟩
    | cons y l ih =>
      intro cs hl hc
      obtain ⟨n, k⟩ := y
      simp only [List.forIn_cons]
      cases hk : (k == NameKind.free) with
      | true =>
        have hk' : k = .free := by simpa using hk
        obtain ⟨a, ha⟩ := hl (n, k) (.head _) hk'
        have e1 : cellOf env n = pure a := by unfold cellOf; rw [ha]
        obtain ⟨cl, h1, h2, h3, h4⟩ := ih ((n, a) :: cs) (fun y hy => hl y (.tail _ hy)) (fun p hp => by
          rcases List.mem_cons.mp hp with rfl | hp
          · exact ha
          · exact hc p hp)
        refine ⟨cl, ?_, h2, fun p hp => h3 p (.tail _ hp), fun y hy e => ?_⟩
        · simp only [if_true, e1]
          exact h1
        · rcases List.mem_cons.mp hy with rfl | hy
          · exact ⟨a, h3 _ (.head _)⟩
          · exact h4 y hy e
      | false =>
        obtain ⟨cl, h1, h2, h3, h4⟩ := ih cs (fun y hy => hl y (.tail _ hy)) hc
        refine ⟨cl, ?_, h2, h3, fun y hy e => ?_⟩
        · simp only [Bool.false_eq_true, if_false]
          exact h1
        · rcases List.mem_cons.mp hy with rfl | hy
          · simp at hk; exact absurd e hk
          · exact h4 y hy e
  obtain ⟨cl, h1, h2, _, h4⟩ := key scope.names [] h nofun
  refine ⟨cl, ?_, fun y hy => ?_⟩
  · unfold closureFor
    show (forIn (m := Sem) scope.names [] _ >>= fun r => pure r) = _
    have e2 : (forIn (m := Sem) scope.names [] fun (x : Str × NameKind) (r : List (Str × Addr)) => (do
        let mut cs := r
        if x.2 == .free then cs := (x.1, ← cellOf env x.1) :: cs
        pure (ForInStep.yield cs))) = pure cl := h1
    exact (congrArg (fun z : Sem (List (Str × Addr)) => z >>= fun r => pure r) e2).trans rfl
  · obtain ⟨a, ha⟩ := h4 _ (lookup_mem hy) rfl
    have : ∃ b, cl.lookup y = some b := by
      cases e : cl.lookup y with
      | some b => exact ⟨b, rfl⟩
      | none =>
        have := List.lookup_eq_none_iff.mp e (y, a) ha
        simp at this
    obtain ⟨b, hb⟩ := this
    exact ⟨b, hb, h2 _ (lookup_mem hb)⟩
end Mine
end
section
set_option autoImplicit false
namespace Mine
open PySem PySem.W

theorem TabInv.only {h h' : Heap} (x : TabInv h) (k : ∀ b o, b = gC ∨ b = gT → h.get? b = some o → h'.get? b = some o) : TabInv h' := by
  obtain ⟨⟨o, vs, file, tf, flags, tg, inF, text, tt, e, r⟩, ps, a, b⟩ := x
  exact ⟨⟨o, vs, file, tf, flags, tg, inF, text, tt, k _ _ (.inl rfl) e, r⟩, ps, k _ _ (.inr rfl) a, b⟩
theorem TabInv.has {h : Heap} (x : TabInv h) {b : Addr} (hb : b = gC ∨ b = gT) : (h.get? b).isSome = true := by
  obtain ⟨⟨o, vs, file, tf, flags, tg, inF, text, tt, e, r⟩, ps, a, _⟩ := x
  rcases hb with rfl | rfl
  · rw [e]; rfl
  · rw [a]; rfl
/-- a step that keeps all that the start bore -/
theorem Ext.then {s s' s'' : Shared} (x : Ext s s') (k : ∀ b o, (s.heap.get? b).isSome = true → s'.heap.get? b = Option.some o → s''.heap.get? b = Option.some o) (ho : s''.os = s'.os) (hg : s''.gens = s'.gens) : Ext s s'' where
  keep b o n e := k b o (by rw [e]; rfl) (x.keep b o n e)
  tab t := (x.tab t).only fun b o hb e => k b o (t.has hb) e
  os := ho.trans x.os
  gens g := hg ▸ x.gens g

def plainIter (T : String) : Bool := T == "list_iterator" || T == "tuple_iterator" || T == "dict_keyiterator" || T == "range_iterator"
section
variable (prog : Program) (w : World) (ρ : Addr) (A : Around)
/-- an iterator I, just made, that gives what ds tells -/
def Feed (Mu : Addr → Prop) (s₀ s : Shared) (I : Addr) (v : Value) (ds : List D) : Prop :=
  ∃ (fp : List Addr) (P : Nat → Value → Prop) (St : Nat → Heap → Prop), Walks prog w A I fp [I] ds.length P St ∧ St 0 s.heap ∧ (∀ i h, St i h → ∃ o T, h.get? I = some o ∧ o.cls = .type T ∧ plainIter T = true) ∧
    (∀ b ∈ fp, b = I ∨ (v = .ref b ∧ b ≠ gT ∧ (s₀.heap.get? b).isSome = true)) ∧ ∀ i x, P i x → ∃ d, ds[i]? = some d ∧ RD prog w ρ Mu s₀.heap x d
/-- what may be walked over -/
def Iter (Mu : Addr → Prop) (s : Shared) (v : Value) (ds : List D) : Prop := ∀ (Q : Value → Shared → Prop) (E : Value → Shared → Prop),
  (∀ o, Feed prog w ρ A Mu s { s with heap := s.heap.push o } s.heap.objs.size v ds → Q (.ref s.heap.objs.size) { s with heap := s.heap.push o }) → wpAny (model prog w) A (pyIter v) Q E s
end

section
variable {prog : Program} {w : World} {ρ : Addr} {h₀ : Heap} {mg mb : Str → Option Value} {G : Nat → Option D} {Sg : Sig} {gname fname : Nat → Option Str} {fa : Nat → Addr} {X : Ctx → PE → Expr → Prop}
variable {A : Around} {s s' : Shared} {Mu : Addr → Prop} {α : Nat → Addr} {σ : List LV} {env : Env} {c : Ctx} {n : Nat}

theorem RDs.gets {h : Heap} {vs : List Value} {ds : List D} (r : RDs prog w ρ Mu h vs ds) {i : Nat} {x : Value} (e : vs.toArray[i]? = some x) : ∃ d, ds[i]? = some d ∧ RD prog w ρ Mu h x d := r.get' (by simpa using e)
theorem iter_list (hh : A.handled = none) (T : TabInv s.heap) {v : Value} {ds : List D} (h : RW prog w ρ Mu s.heap v (.list ds)) : Iter prog w ρ A Mu s v ds := by
  intro Q E hq
  obtain ⟨a, vs, rfl, pl, r⟩ := h
  have hne : a ≠ s.heap.objs.size := by
    obtain ⟨n, ho⟩ := pl
    exact Nat.ne_of_lt (Heap.lt_size ho)
  refine wpAny_pyIter_list pl.isList (hq _ ?_)
  obtain ⟨n, ho⟩ := id pl
  have W := Walks.list (prog := prog) (w := w) hh s.heap.objs.size a hne vs.toArray
  have hl : vs.toArray.size = ds.length := by rw [List.size_toArray, r.length]
  rw [hl] at W
  refine ⟨_, _, _, W, ⟨⟨_, Heap.get?_push_size _ rfl, rfl, rfl⟩, ⟨_, Heap.get?_push_of_some _ ho, rfl, n, rfl⟩⟩, ?_, ?_, fun i x e => r.gets e⟩
  · rintro i h' ⟨⟨o, e, hc, _⟩, _⟩; exact ⟨o, _, e, hc, by decide⟩
  · intro b hb
    rcases List.mem_cons.mp hb with rfl | hb
    · exact .inl rfl
    · rcases List.mem_cons.mp hb with rfl | hb
      · exact .inr ⟨rfl, ne_gT' T ho nofun, by rw [ho]; rfl⟩
      · cases hb
theorem iter_tup (hh : A.handled = none) (T : TabInv s.heap) {v : Value} {ds : List D} (h : RD prog w ρ Mu s.heap v (.tup ds)) : Iter prog w ρ A Mu s v ds := by
  intro Q E hq
  cases h with
  | tup hn t r =>
  rename_i a vs
  obtain ⟨o, ho, hc, n, hd⟩ := id t
  have hne : a ≠ s.heap.objs.size := Nat.ne_of_lt (Heap.lt_size ho)
  refine wpAny_pyIter_tuple t (hq _ ?_)
  have W := Walks.tuple (prog := prog) (w := w) hh s.heap.objs.size a hne vs.toArray
  have hl : vs.toArray.size = ds.length := by rw [List.size_toArray, r.length]
  rw [hl] at W
  refine ⟨_, _, _, W, ⟨⟨_, Heap.get?_push_size _ rfl, rfl, rfl⟩, ⟨o, Heap.get?_push_of_some _ ho, hc, n, hd⟩⟩, ?_, ?_, fun i x e => r.gets e⟩
  · rintro i h' ⟨⟨o, e, hc, _⟩, _⟩; exact ⟨o, _, e, hc, by decide⟩
  · intro b hb
    rcases List.mem_cons.mp hb with rfl | hb
    · exact .inl rfl
    · rcases List.mem_cons.mp hb with rfl | hb
      · exact .inr ⟨rfl, ne_gT' T ho (by rw [hc]; nofun), by rw [ho]; rfl⟩
      · cases hb
theorem REs.keys {h : Heap} : ∀ {kvs : List (Str × Value)} {kds : List (List Nat × D)} (i : Nat) (k : Str) (x v : Value), REs prog w ρ Mu h kvs kds → kvs[i]? = some (k, x) → (sk prog w).is k v = true →
    ∃ d, (kds.map fun p => D.str p.1)[i]? = some d ∧ RD prog w ρ Mu h v d
  | _, _, 0, k, x, v, .cons (s := s) a r, e, hv => by
    simp only [List.getElem?_cons_zero, Option.some.injEq, Prod.mk.injEq] at e
    obtain ⟨rfl, rfl⟩ := e
    obtain ⟨t, rfl⟩ := Value.isStrOf_shape hv
    exact ⟨.str s, rfl, .str s t⟩
  | _, _, i + 1, k, x, v, .cons a r, e, hv => by
    simp only [List.getElem?_cons_succ] at e
    obtain ⟨d, h1, h2⟩ := REs.keys i k x v r e hv
    exact ⟨d, by simpa using h1, h2⟩
theorem iter_dict (hh : A.handled = none) (T : TabInv s.heap) {v : Value} {kds : List (List Nat × D)} (h : RW prog w ρ Mu s.heap v (.dict kds)) : Iter prog w ρ A Mu s v (kds.map fun p => .str p.1) := by
  intro Q E hq
  obtain ⟨a, kvs, rfl, hs, hd, r⟩ := h
  obtain ⟨o, es, ep, ho, hx, hdat, q⟩ := id hd
  have hat : s.heap.DictAt (sk prog w) a kvs ep := ⟨o, es, ho, hx, hdat, q⟩
  have hne : a ≠ s.heap.objs.size := Nat.ne_of_lt (Heap.lt_size ho)
  refine wpAny_pyIter_dict hs hat (hq _ ?_)
  have W := Walks.dictKeys (prog := prog) (w := w) (knd := sk prog w) hh s.heap.objs.size a hne kvs ep
  have hlen : kvs.length = (kds.map fun p => D.str p.1).length := by rw [List.length_map, r.length]
  rw [hlen] at W
  refine ⟨_, _, _, W, ⟨⟨_, Heap.get?_push_size _ rfl, rfl, by rw [hlen]; rfl⟩, hat.at' fun o e => Heap.get?_push_of_some _ e⟩, ?_, ?_, fun i x e => ?_⟩
  · rintro i h' ⟨⟨o, e, hc, _⟩, _⟩; exact ⟨o, _, e, hc, by decide⟩
  · intro b hb
    rcases List.mem_cons.mp hb with rfl | hb
    · exact .inl rfl
    · rcases List.mem_cons.mp hb with rfl | hb
      · exact .inr ⟨rfl, ne_gT T ho (by rw [hdat]; nofun), by rw [ho]; rfl⟩
      · cases hb
  · obtain ⟨k, y, h1, h2⟩ := e
    exact r.keys i k y x h1 h2
theorem rangeL_get {lo hi : Int} {i : Nat} (h : i < (hi - lo).toNat) : (rangeL lo hi)[i]? = some (.int (lo + i)) := by
  unfold rangeL
  rw [List.getElem?_map, List.getElem?_range h]; rfl
theorem iter_range (hh : A.handled = none) {r : Addr} {lo hi : Int} {t u v : Tok} (hr : IsRange s.heap r lo hi 1 t u v) (h1 : lo.natAbs ≤ 1000000) (h2 : hi.natAbs ≤ 1000000) : Iter prog w ρ A Mu s (.ref r) (rangeL lo hi) := by
  intro Q E hq
  have hsz : Builtin.Range.rangeSize lo hi 1 = ((hi - lo).toNat : Int) := by rw [rangeSize_one]; split <;> omega
  refine wpAny_pyIter_range hr (small_one (by omega) (by omega) (by omega) (by omega)) (hq _ ?_)
  have W := Walks.range (prog := prog) (w := w) hh s.heap.objs.size lo 1 (hi - lo).toNat
  have hlen : (hi - lo).toNat = (rangeL lo hi).length := by simp [rangeL]
  have W' : Walks prog w A s.heap.objs.size [s.heap.objs.size] [s.heap.objs.size] (hi - lo).toNat (fun i v => i < (hi - lo).toNat ∧ ∃ t, v = .int (lo + i * 1) t) (fun i h => IsRangeIter h s.heap.objs.size (lo + (i : Nat) * 1) (((hi - lo).toNat : Int) - (i : Nat)) 1) :=
    { W with item := fun i s Q E hi st hQ => W.item i s Q E hi st fun v h' tk hP => hQ v h' tk ⟨hi, hP⟩ }
  rw [hlen] at W'
  refine ⟨_, _, _, W', ?_, ?_, ?_, fun i x e => ?_⟩
  · have : IsRangeIter (s.heap.push { cls := .type "range_iterator", data := .fields #[rawInt lo, rawInt (Builtin.Range.rangeSize lo hi 1), rawInt 1] }) s.heap.objs.size lo (Builtin.Range.rangeSize lo hi 1) 1 := Heap.get?_push_size _ rfl
    rw [hsz, hlen] at this
    rw [hsz, hlen]
    simpa using this
  · intro i h' e
    have e' : h'.get? s.heap.objs.size = _ := e
    exact ⟨_, _, e', rfl, by decide⟩
  · intro b hb
    rcases List.mem_cons.mp hb with rfl | hb
    · exact .inl rfl
    · cases hb
  · obtain ⟨h3, t, rfl⟩ := e
    rw [← hlen] at h3
    exact ⟨_, rangeL_get h3, by rw [Int.mul_one]; exact .int _ _⟩
end
end Mine
end
section
set_option autoImplicit false
namespace Mine
open PySem PySem.W

abbrev M3 (Mu : Addr → Prop) (I D C : Addr) : Addr → Prop := fun b => ((Mu b ∨ b = I) ∨ b = D) ∨ b = C

section
variable {prog : Program} {w : World} {ρ : Addr} {h₀ : Heap} {mg mb : Str → Option Value} {G : Nat → Option D} {Sg : Sig} {gname fname : Nat → Option Str} {fa : Nat → Addr} {X : Ctx → PE → Expr → Prop}
variable {A : Around} {s s' : Shared} {Mu : Addr → Prop} {α : Nat → Addr} {σ : List LV} {env : Env} {c : Ctx} {n : Nat} {I D C : Addr}

theorem RD.three (hI : s.heap.get? I = Option.none) (hD : s.heap.get? D = Option.none) (hC : s.heap.get? C = Option.none) (x : Ext s s') (hg : Mu gT) {v : Value} {d : Mine.D} (r : RD prog w ρ Mu s.heap v d) : RD prog w ρ (M3 Mu I D C) s'.heap v d :=
  x.rd (.inl (.inl (.inl hg))) (((r.hide hI).hide hD).hide hC)
theorem OwnAt.hide {h : Heap} {a₀ a : Addr} (hn : h.get? a₀ = none) {d : Mine.D} (o : OwnAt prog w ρ Mu a d h) : OwnAt prog w ρ (fun b => Mu b ∨ b = a₀) a d h := by
  cases d with
  | list ds => obtain ⟨vs, n, ho, hr⟩ := o; exact ⟨vs, n, ho, hr.hide hn⟩
  | dict kds => obtain ⟨hs, kvs, ho, hr⟩ := o; exact ⟨hs, kvs, ho, hr.hide hn⟩
  | _ => exact o
theorem OwnAt.weak {h : Heap} {a : Addr} {Mu' : Addr → Prop} (hw : ∀ b, ¬ Mu b → ¬ Mu' b) {d : Mine.D} (o : OwnAt prog w ρ Mu a d h) : OwnAt prog w ρ Mu' a d h := by
  cases d with
  | list ds => obtain ⟨vs, n, ho, hr⟩ := o; exact ⟨vs, n, ho, hr.mono hw fun _ _ _ e => e⟩
  | dict kds => obtain ⟨hs, kvs, ho, hr⟩ := o; exact ⟨hs, kvs, ho, hr.mono hw fun _ _ _ e => e⟩
  | _ => exact o

theorem kind_inner {x : Str} {scope : Scope} {cl : List (Str × Addr)} (O : EnvOK env c.k) (hok : compOk c x scope = true) (y : Str) : (compEnvC scope cl C env).kindOf y = (c.inner x scope).k y := by
  obtain ⟨hkind, hx, hnames, hcell, hfree, hsl⟩ := compOk_parts hok
  obtain ⟨g, hg⟩ : ∃ g : Str → NameKind → NameKind, g = fun (n : Str) (k : NameKind) => if (k == NameKind.free && env.scope.kind == .function && env.kindOf n == some .cell) then NameKind.cell else k := ⟨_, rfl⟩
  have e : (scope.names.map fun (n, k) => if (k == NameKind.free && env.scope.kind == .function && env.kindOf n == some .cell) then (n, NameKind.cell) else (n, k)) = scope.names.map fun p => (p.1, g p.1 p.2) := by
    subst hg
    apply List.map_congr_left
    rintro ⟨n, k⟩ _
    dsimp only
    split <;> rfl
  show List.lookup y (scope.names.map fun (n, k) => if (k == NameKind.free && env.scope.kind == .function && env.kindOf n == some .cell) then (n, NameKind.cell) else (n, k)) = _
  rw [e, lookup_map g]
  subst hg
  unfold Ctx.inner
  dsimp only
  cases hl : scope.names.lookup y with
  | none => rfl
  | some k =>
    have hmem := lookup_mem hl
    simp only [Option.map_some]
    by_cases hk : k = .free
    · subst hk
      have : env.kindOf y = some .cell := (O.names y).trans (hfree _ hmem rfl)
      simp [O.kind, this]
    · have : (k == NameKind.free) = false := by simpa using hk
      simp only [this, Bool.false_and, Bool.false_eq_true, if_false]
      cases k <;> first | rfl | exact absurd rfl hk

theorem Now.inner {x : Str} {scope : Scope} {cl : List (Str × Addr)} {m : Str → Option Value} {v : Value} {d : Mine.D} (N : Now prog w ρ h₀ c env Mu α σ s) (hok : compOk c x scope = true)
    (hcl : ∀ y, scope.names.lookup y = some .free → ∃ a, cl.lookup y = some a ∧ env.cells.lookup y = some a)
    (hI : s.heap.get? I = none) (hD : s.heap.get? D = none) (hC : s.heap.get? C = none) (e : Ext s s') (t : s.toks ≤ s'.toks)
    (sI : (s'.heap.get? I).isSome = true) (sD : (s'.heap.get? D).isSome = true) (hn : s'.heap.Ns C m) (hm : m x = some v) (hv : RD prog w ρ (M3 Mu I D C) s'.heap v d) :
    Now prog w ρ h₀ (c.inner x scope) (compEnvC scope cl C env) (M3 Mu I D C) α (σ ++ [.fz d]) s' := by
  obtain ⟨hkind, hx, hnames, hcell, hfree, hsl⟩ := compOk_parts hok
  have sC : (s'.heap.get? C).isSome = true := by obtain ⟨o, _, _, ho, _⟩ := hn; rw [ho]; rfl
  have kin := fun y => kind_inner (cl := cl) (C := C) N.O hok y
  have hold : ∀ a, s.heap.get? a = none → a = gT ∨ h₀.get? a = none := by
    intro a ha
    by_cases h : a = gT
    · exact .inl h
    · refine .inr ?_
      cases q : h₀.get? a with
      | none => rfl
      | some o => have := N.R.keep a o h q; rw [ha] at this; cases this
  refine ⟨?_, ?_, by simp [N.L, Ctx.inner], Nat.le_trans N.K t⟩
  · refine ⟨fun y hy => ?_, ?_, ?_, ?_, kin, fun q => absurd (compOk_code hok) q⟩
    · have : scope.names.lookup y = some .free := by
        unfold Ctx.inner at hy
        dsimp only at hy
        cases hl : scope.names.lookup y with
        | none => rw [hl] at hy; cases hy
        | some k =>
          rw [hl] at hy
          cases k with
          | free => rfl
          | cell => exact absurd rfl (hcell _ (lookup_mem hl))
          | _ => cases hy
      obtain ⟨a, ha, _⟩ := hcl y this
      exact ⟨a, ha⟩
    · exact hkind
    · exact N.O.globals
    · exact N.O.builtins
  · refine { keep := fun b o n h => e.keep b o n (N.R.keep b o n h), tab := e.tab N.R.tab, mu := ?_, mug := .inl (.inl (.inl N.R.mug)), muh := ?_, slots := ?_, owns := ?_ }
    · rintro a (((h | rfl) | rfl) | rfl)
      · exact e.some N.R.tab (N.R.mu a h)
      · exact sI
      · exact sD
      · exact sC
    · rintro a (((h | rfl) | rfl) | rfl)
      · exact N.R.muh a h
      · exact hold _ hI
      · exact hold _ hD
      · exact hold _ hC
    · intro y k hy lv hlv
      unfold Ctx.inner at hy
      simp only [List.lookup_cons] at hy
      by_cases hyx : y = x
      · subst hyx
        simp only [beq_self_eq_true] at hy
        cases hy
        rw [← N.L, List.getElem?_concat_length] at hlv
        cases hlv
        refine ⟨v, .inl ⟨?_, m, hn, hm⟩, hv⟩
        rw [kin]; unfold Ctx.inner; dsimp only; rw [hx]
      · have : (y == x) = false := by simpa using hyx
        rw [this] at hy
        obtain ⟨hy1, hy2⟩ := lookup_filter (fun z => scope.names.lookup z == some .free) hy
        have hfr : scope.names.lookup y = some .free := by simpa using hy2
        have hcl' := hcl y hfr
        have kin' : (compEnvC scope cl C env).kindOf y = some .cell := by rw [kin]; unfold Ctx.inner; dsimp only; rw [hfr]
        have lift : ∀ {v}, Loads env s.heap y v → Loads (compEnvC scope cl C env) s'.heap y v := by
          intro v l
          rcases e.loads N.R.tab l with ⟨hk, _⟩ | ⟨_, a, ha, hcv⟩
          · have : env.kindOf y = some .cell := (N.O.names y).trans (hfree _ (lookup_mem hfr) rfl)
            rw [this] at hk; cases hk
          · obtain ⟨b, hb1, hb2⟩ := hcl'
            rw [ha] at hb2; cases hb2
            exact .inr ⟨kin', a, hb1, hcv⟩
        have hk' : k < σ.length ∨ σ[k]? = none := by
          by_cases h : k < σ.length
          · exact .inl h
          · exact .inr (List.getElem?_eq_none (by omega))
        have hlv' : σ[k]? = some lv ∨ k = σ.length := by
          by_cases h : k < σ.length
          · rw [List.getElem?_append_left h] at hlv; exact .inl hlv
          · by_cases h2 : k = σ.length
            · exact .inr h2
            · rw [List.getElem?_eq_none (by simp; omega)] at hlv; cases hlv
        rcases hlv' with hlv' | hlv'
        · have q := N.R.slots y k hy1 lv hlv'
          cases lv with
          | un => trivial
          | fz d' => obtain ⟨v', l, r⟩ := q; exact ⟨v', lift l, RD.three hI hD hC e N.R.mug r⟩
          | ow d' => exact lift q
          | app j => obtain ⟨a, o, l, ho, hc, hd⟩ := q; exact ⟨a, o, lift l, e.keep _ _ (ne_gT' N.R.tab ho (by rw [hc]; nofun)) ho, hc, hd⟩
        · have := hsl _ (lookup_mem hy1)
          have h3 := N.L
          omega
    · intro k d' hk
      have hk' : σ[k]? = some (.ow d') := by
        by_cases h : k < σ.length
        · rwa [List.getElem?_append_left h] at hk
        · by_cases h2 : k = σ.length
          · subst h2; simp at hk
          · rw [List.getElem?_eq_none (by simp; omega)] at hk; cases hk
      obtain ⟨h1, h2⟩ := N.R.owns k d' hk'
      exact ⟨.inl (.inl (.inl h1)), e.ownAt N.R.tab (.inl (.inl (.inl N.R.mug))) (((h2.hide hI).hide hD).hide hC)⟩
end
end Mine
end
section
set_option autoImplicit false
namespace Mine
open PySem PySem.W

section
variable {prog : Program} {w : World} {ρ : Addr} {h₀ : Heap} {mg mb : Str → Option Value} {G : Nat → Option D} {Sg : Sig} {gname fname : Nat → Option Str} {fa : Nat → Addr} {X : Ctx → PE → Expr → Prop}
variable {A : Around} {s s' : Shared} {Mu : Addr → Prop} {α : Nat → Addr} {σ : List LV} {env : Env} {c : Ctx} {n : Nat}

theorem newer {h : Heap} {a : Addr} (ha : h.objs.size ≤ a) : h.get? a = none := by
  cases e : h.get? a with
  | none => rfl
  | some o' => exact absurd (Heap.lt_size e) (Nat.not_lt.mpr ha)
theorem older {h : Heap} {a : Addr} (ha : (h.get? a).isSome = true) : a < h.objs.size := by
  obtain ⟨o, ho⟩ := Option.isSome_iff_exists.mp ha
  exact Heap.lt_size ho

theorem comp_run {elt iter : Expr} {x : Str} {px : Pos} {ifs : List Expr} {scope : Scope} {cl : List (Str × Addr)} {pos : Pos} {v : Value} {ds l1 out : List Mine.D} {tst : Mine.D → Option Bool} {f : Mine.D → Option Mine.D} {use : Option (Value → Sem Unit)} {Q : Value → Shared → Prop}
    (N : Now prog w ρ h₀ c env Mu α σ s) (hok : compOk c x scope = true)
    (hcl : ∀ y, scope.names.lookup y = some .free → ∃ a, cl.lookup y = some a ∧ env.cells.lookup y = some a)
    (hit : Iter prog w ρ A Mu s v ds) (hlen : ds.length ≤ 1000000) (hf : filterE tst ds = some l1) (hm : mapE f l1 = some out)
    (htest : ∀ {C : Addr} {Mu' : Addr → Prop} {s' : Shared} {d : Mine.D} {b : Bool} {Q : Bool → Shared → Prop}, Now prog w ρ h₀ (c.inner x scope) (compEnvC scope cl C env) Mu' α (σ ++ [.fz d]) s' → tst d = some b →
      (∀ s'', Ext s' s'' → s'.toks ≤ s''.toks → Q b s'') →
      wpAny (model prog w) A (forIn ifs true fun c r => if r = true then do let ok ← isTrue c (compEnvC scope cl C env) (eval c (compEnvC scope cl C env)); pure (ForInStep.yield ok) else pure (ForInStep.yield r)) Q NoE s')
    (helt : ∀ {C : Addr} {Mu' : Addr → Prop} {s' : Shared} {d y : Mine.D} {Q : Value → Shared → Prop}, Now prog w ρ h₀ (c.inner x scope) (compEnvC scope cl C env) Mu' α (σ ++ [.fz d]) s' → f d = some y →
      (∀ v s'', Ext s' s'' → s'.toks ≤ s''.toks → RD prog w ρ Mu' s''.heap v y → Q v s'') → wpAny (model prog w) A (eval elt (compEnvC scope cl C env)) Q NoE s')
    (hQ : ∀ s' C D m, Ext s s' → s.toks ≤ s'.toks → s.heap.get? D = none → s.heap.get? C = none → D ≠ C → s'.heap.Ns C m → OwnAt prog w ρ (fun b => (Mu b ∨ b = C) ∨ b = D) D (.list out) s'.heap →
      compPost (model prog w) A NoE use Q (.ref D) C (.ok .next) s') :
    wpAny (model prog w) A (pyIter v) (fun it s₂ => wpAny (model prog w) A (newList []) (fun acc s₃ => wpAny (model prog w) A (newFunctionEnv scope env.globals cl [] env.qual none .none (some env)) (fun cenv s₄ =>
      codeAny (model prog w) A (.compStart (.ListComp elt [⟨.Name x px, iter, ifs, 0⟩] scope pos) 0 it acc { cenv with scope := relabel scope env }) (compPost (model prog w) A NoE use Q acc cenv.locals) s₄) NoE s₃) NoE s₂) NoE s := by
  obtain ⟨hkind, hx, hnames, hcell, hfree, hsl⟩ := compOk_parts hok
  refine hit _ _ fun o F => wpAny_newObj_type (wpAny_newFunctionEnv hcell (by intro y hy; simp at hy) (fun h₁ hns₁ hsb₁ => ?_) hkind)
  obtain ⟨fp, P, St, W, hst, hsome, hfp, hitem⟩ := F
  dsimp only at hns₁ hsb₁ hst ⊢
  generalize hH1 : s.heap.push o = H1 at hns₁ hsb₁ hst ⊢
  generalize hH2 : H1.push { cls := .type "list", dict := none, data := .seq ([] : List Value).toArray } = H2 at hns₁ hsb₁ ⊢
  have zD : H1.objs.size = s.heap.objs.size + 1 := by rw [← hH1, Heap.size_push]
  have zC : H2.objs.size = s.heap.objs.size + 2 := by rw [← hH2, Heap.size_push, zD]
  have hI : s.heap.get? s.heap.objs.size = none := newer (Nat.le_refl _)
  have hD : s.heap.get? H1.objs.size = none := newer (by omega)
  have hC : s.heap.get? H2.objs.size = none := newer (by omega)
  have hDI : H1.objs.size ≠ s.heap.objs.size := by omega
  have hDC : H1.objs.size ≠ H2.objs.size := by omega
  have hIC : s.heap.objs.size ≠ H2.objs.size := by omega
  have old : ∀ b o, s.heap.get? b = some o → h₁.get? b = some o := fun b o' e =>
    hsb₁.extBut b o' (Nat.ne_of_lt (zC ▸ Nat.lt_succ_of_lt (Nat.lt_succ_of_lt (Heap.lt_size e)))) (Heap.get?_push_of_some _ (hH2 ▸ Heap.get?_push_of_some _ (hH1 ▸ Heap.get?_push_of_some _ e)))
  have hacc : h₁.PlainList H1.objs.size #[] := ⟨0, hsb₁.extBut _ _ hDC (Heap.get?_push_of_some _ (hH2 ▸ Heap.get?_push_size _ rfl))⟩
  generalize hIe : s.heap.objs.size = I at *
  generalize hDe : H1.objs.size = D at *
  generalize hCe : H2.objs.size = C at *
  have below : ∀ b, (s.heap.get? b).isSome = true → b ≠ I ∧ b ≠ D ∧ b ≠ C := fun b hb => by
    have h0 : b < I := hIe ▸ older hb
    have h1 : I < D := by omega
    have h2 : I < C := by omega
    exact ⟨Nat.ne_of_lt h0, Nat.ne_of_lt (Nat.lt_trans h0 h1), Nat.ne_of_lt (Nat.lt_trans h0 h2)⟩
  have hgI : gT ≠ I := (below _ (N.R.tab.has (.inr rfl))).1
  have hgD : gT ≠ D := (below _ (N.R.tab.has (.inr rfl))).2.1
  have hfpD : D ∉ fp := fun hm => by
    rcases hfp _ hm with h | ⟨_, _, h⟩
    · exact hDI h
    · exact (below _ h).2.1 rfl
  have hfpC : C ∉ fp := fun hm => by
    rcases hfp _ hm with h | ⟨_, _, h⟩
    · exact hIC h.symm
    · exact (below _ h).2.2 rfl
  have hfpg : ∀ b ∈ fp, b ≠ gT := fun b hm => by
    rcases hfp _ hm with h | ⟨_, h, _⟩
    · rw [h]; exact hgI.symm
    · exact h
  have hst₁ : St 0 h₁ := W.frame _ _ _ hst fun b hb o e => by
    have hb' : b < H1.objs.size := Heap.lt_size e
    refine hsb₁.extBut b o (fun q => hfpC (q ▸ hb)) (Heap.get?_push_of_some _ (hH2 ▸ Heap.get?_push_of_some _ e))
  have loop : ∀ s₃ : Shared, s₃ = { s with heap := h₁, toks := s.toks + ([] : List (Str × Value)).length } →
      codeAny (model prog w) A (.compLoop (.ListComp elt [⟨.Name x px, iter, ifs, 0⟩] scope pos) 0 (.ref I) (.ref D) (compEnvC scope cl C env)) (compPost (model prog w) A NoE use Q (.ref D) C) s₃ := by
    rintro s₃ rfl
    refine codeAny_compLoop_tests (fun k s' => ∃ i m ys done l' o', Ext s s' ∧ s.toks ≤ s'.toks ∧ St i s'.heap ∧ i ≤ ds.length ∧ k = ds.length + 1 - i ∧ s'.heap.Ns C m ∧ s'.heap.PlainList D (List.toArray ys) ∧ RDs prog w ρ (M3 Mu I D C) s'.heap ys done ∧
      filterE tst (ds.drop i) = some l' ∧ mapE f l' = some o' ∧ done ++ o' = out ∧ done.length ≤ i) ?_ (ds.length + 1)
      ⟨0, _, [], [], l1, out, .of old rfl rfl, Nat.le_refl _, hst₁, Nat.zero_le _, rfl, hns₁, hacc, .nil, by simpa using hf, hm, rfl, Nat.le_refl _⟩
    rintro k s' ⟨i, m, ys, done, l', o', e, t, st, hi, rfl, hn, hp, hr, e1, e2, e3, e4⟩
    by_cases hlt : i < ds.length
    · refine wpAny_with_toks (n := s.toks) t (W.item i _ _ _ hlt st fun v' h₂ tk₂ hP st₂ hk₂ t₂ => ?_)
      have hk₂' : ∀ b o, b ≠ I → s'.heap.get? b = some o → h₂.get? b = some o := fun b o hb => hk₂ b o (by simpa using hb)
      have x2 : Ext s { s' with heap := h₂, toks := tk₂ } := e.then (fun b o hb q => hk₂' b o (below b hb).1 q) rfl rfl
      refine wpAny_assign_Name (wpAny_storeName_local (by rw [kind_inner N.O hok]; unfold Ctx.inner; dsimp only; rw [hx]) (hn.at' fun o q => hk₂' _ o (Ne.symm hIC) q) (fun h₃ hn₃ hs₃ => ?_) (by simp [compEnvC, relabel, hkind]))
      have x3 : Ext s { s' with heap := h₃, toks := tk₂ + 1 } := x2.then (fun b o hb q => hs₃.extBut b o (below b hb).2.2 q) rfl rfl
      have up : ∀ b o, b ≠ I → b ≠ C → s'.heap.get? b = some o → h₃.get? b = some o := fun b o h1 h2 q => hs₃.extBut b o h2 (hk₂' b o h1 q)
      obtain ⟨d, hd, hrd⟩ := hitem i v' hP
      have hdrop : ds.drop i = d :: ds.drop (i + 1) := by
        obtain ⟨h1, h2⟩ := List.getElem?_eq_some_iff.mp hd
        rw [List.drop_eq_getElem_cons h1, h2]
      rw [hdrop] at e1
      simp only [filterE, Option.bind_eq_some_iff, Option.map_eq_some_iff] at e1
      obtain ⟨b, hb, l'', e1, rfl⟩ := e1
      have st3 : St (i + 1) h₃ := W.frame _ _ _ st₂ fun b hb o q => hs₃.extBut b o (fun r => hfpC ((show b = C from r) ▸ hb)) q
      have p3 : h₃.PlainList D ys.toArray := plainList_at hp fun o q => up _ o hDI hDC q
      have r3 : RDs prog w ρ (M3 Mu I D C) h₃ ys done := hr.mono (fun _ h => h) fun a o h q => up a o (fun r => h (.inl (.inl (.inr r)))) (fun r => h (.inr r)) q
      have N3 : Now prog w ρ h₀ (c.inner x scope) (compEnvC scope cl C env) (M3 Mu I D C) α (σ ++ [.fz d]) { s' with heap := h₃, toks := tk₂ + 1 } :=
        N.inner hok hcl hI hD hC x3 (Nat.le_succ_of_le t₂) (by obtain ⟨o, T, e, _⟩ := hsome _ _ st3; dsimp only; rw [e]; rfl) (by obtain ⟨n, ho⟩ := p3; dsimp only; rw [ho]; rfl) hn₃ (by simp) (hrd.three hI hD hC x3 N.R.mug)
      refine wpAny_mono (htest N3 hb fun s₄ x₄ t₄ => ?_) (fun _ _ h => h) fun _ _ h => h.elim
      have x4 := x3.trans x₄
      have t4 : s.toks ≤ s₄.toks := Nat.le_trans (Nat.le_succ_of_le t₂) t₄
      have st4 : St (i + 1) s₄.heap := W.frame _ _ _ st3 fun b hb o q => x₄.keep b o (hfpg b hb) q
      have p4 : s₄.heap.PlainList D ys.toArray := plainList_at p3 fun o q => x₄.keep D o hgD.symm q
      have r4 := x₄.rds (.inl (.inl (.inl N.R.mug))) r3
      have n4 : ∃ m, s₄.heap.Ns C m := by
        obtain ⟨o, es, ep, ho, hd, q⟩ := hn₃
        exact ⟨_, o, es, ep, x₄.keep _ _ (ne_gT N3.R.tab ho (by rw [hd]; nofun)) ho, hd, q⟩
      obtain ⟨m4, n4⟩ := n4
      cases b with
      | false =>
        simp only [Bool.false_eq_true, if_false]
        exact ⟨ds.length + 1 - (i + 1), by omega, i + 1, m4, ys, done, l'', o', x4, t4, st4, hlt, rfl, n4, p4, r4, e1, by simpa using e2, e3, by omega⟩
      | true =>
        simp only [if_true] at e2 ⊢
        simp only [mapE, Option.bind_eq_some_iff, Option.map_eq_some_iff] at e2
        obtain ⟨y, hy, o'', e2, rfl⟩ := e2
        refine wpAny_mono (helt (N3.ext x₄ t₄) hy fun v5 s₅ x₅ t₅ r₅ => ?_) (fun _ _ h => h) fun _ _ h => h.elim
        have p5 : s₅.heap.PlainList D ys.toArray := plainList_at p4 fun o q => x₅.keep D o hgD.symm q
        refine wpAny_list_append_plain (hsz := by rw [List.size_toArray, hr.length, sizeLine_eq]; omega) p5 fun h₆ p6 hs₆ => ?_
        have x6 : Ext s { s₅ with heap := h₆ } := (x4.trans x₅).then (fun b o hb q => hs₆.extBut b o (below b hb).2.1 q) rfl rfl
        refine ⟨ds.length + 1 - (i + 1), by omega, i + 1, m4, ys ++ [v5], done ++ [y], l'', o'', x6, Nat.le_trans t4 t₅, ?_, hlt, rfl, ?_, by simpa using p6, ?_, e1, e2, by simpa using e3, by simp; omega⟩
        · exact W.frame _ _ _ st4 fun b hb o q => hs₆.extBut b o (fun r => hfpD (r ▸ hb)) (x₅.keep b o (hfpg b hb) q)
        · have n5 : s₅.heap.Ns C m4 := by
            obtain ⟨o, es, ep, ho, hd, q⟩ := n4
            exact ⟨o, es, ep, x₅.keep _ _ (ne_gT (x₄.tab N3.R.tab) ho (by rw [hd]; nofun)) ho, hd, q⟩
          exact n5.sameBut hs₆ (Ne.symm hDC)
        · refine RDs.mono (fun _ h => h) (fun a o h q => hs₆.extBut a o (fun r => h (.inl (.inr r))) q) ((x₅.rds (.inl (.inl (.inl N.R.mug))) r4).append (.cons r₅ .nil))
    · have hin : i = ds.length := by omega
      subst hin
      refine wpAny_with_toks (n := s.toks) t (W.done _ _ _ st fun h₂ tk₂ hk₂ t₂ => ?_)
      have hk₂' : ∀ b o, b ≠ I → s'.heap.get? b = some o → h₂.get? b = some o := fun b o hb => hk₂ b o (by simpa using hb)
      rw [List.drop_length] at e1
      cases e1
      cases e2
      rw [List.append_nil] at e3
      subst e3
      have x2 : Ext s { s' with heap := h₂, toks := tk₂ } := e.then (fun b o hb q => hk₂' b o (below b hb).1 q) rfl rfl
      obtain ⟨np, hp⟩ := hp
      refine hQ { s' with heap := h₂, toks := tk₂ } C D m x2 t₂ hD hC hDC (hn.at' fun o q => hk₂' _ o (Ne.symm hIC) q) ⟨ys, np, hk₂' _ _ hDI hp, ?_⟩
      exact hr.mono (fun a h q => q.elim (fun q => q.elim (fun q => h (.inl (.inl (.inl q)))) fun q => h (.inr q)) fun q => h (.inl (.inr q))) fun a o h q => hk₂' a o (fun r => h (.inl (.inl (.inr r)))) q
  exact codeAny_compStart_list (loop _ rfl) (W.self 0 _ _ _ hst₁ (loop _ rfl))
end
end Mine
end
section
set_option autoImplicit false
namespace Mine
open PySem PySem.W

section
variable {prog : Program} {w : World} {ρ : Addr} {h₀ : Heap} {mg mb : Str → Option Value} {G : Nat → Option D} {Sg : Sig} {gname fname : Nat → Option Str} {fa : Nat → Addr} {X : Ctx → PE → Expr → Prop}
variable {A : Around} {s s' : Shared} {Mu : Addr → Prop} {α : Nat → Addr} {σ : List LV} {env : Env} {c : Ctx} {n : Nat}

theorem filterE_all (l : List Mine.D) : filterE (fun _ => some true) l = some l := by
  induction l with
  | nil => rfl
  | cons d l ih => simp [filterE, ih]

theorem comp_value {elt iter : Expr} {x : Str} {px : Pos} {ifs : List Expr} {scope : Scope} {pos : Pos} {ds l1 out : List Mine.D} {tst : Mine.D → Option Bool} {f : Mine.D → Option Mine.D} {Q : Value → Shared → Prop}
    (N : Now prog w ρ h₀ c env Mu α σ s) (hok : compOk c x scope = true) (hfold : ∀ x, foldedSetIterable iter env x = pure x)
    (hiter : wpAny (model prog w) A (eval iter env) (fun v s₁ => Ext s s₁ ∧ s.toks ≤ s₁.toks ∧ Iter prog w ρ A Mu s₁ v ds) NoE s)
    (hlen : ds.length ≤ 1000000) (hf : filterE tst ds = some l1) (hm : mapE f l1 = some out)
    (htest : ∀ {env' : Env} {Mu' : Addr → Prop} {s' : Shared} {d : Mine.D} {b : Bool} {Q : Bool → Shared → Prop}, Now prog w ρ h₀ (c.inner x scope) env' Mu' α (σ ++ [.fz d]) s' → tst d = some b →
      (∀ s'', Ext s' s'' → s'.toks ≤ s''.toks → Q b s'') →
      wpAny (model prog w) A (forIn ifs true fun c r => if r = true then do let ok ← isTrue c env' (eval c env'); pure (ForInStep.yield ok) else pure (ForInStep.yield r)) Q NoE s')
    (helt : ∀ {env' : Env} {Mu' : Addr → Prop} {s' : Shared} {d y : Mine.D} {Q : Value → Shared → Prop}, Now prog w ρ h₀ (c.inner x scope) env' Mu' α (σ ++ [.fz d]) s' → f d = some y →
      (∀ v s'', Ext s' s'' → s'.toks ≤ s''.toks → RD prog w ρ Mu' s''.heap v y → Q v s'') → wpAny (model prog w) A (eval elt env') Q NoE s')
    (h : ∀ v s', Ext s s' → s.toks ≤ s'.toks → RV prog w ρ Mu α s s' v (.list out, .fresh) → Q v s') :
    wpAny (model prog w) A (eval (.ListComp elt [⟨.Name x px, iter, ifs, 0⟩] scope pos) env) Q NoE s := by
  obtain ⟨hkind, hx, hnames, hcell, hfree, hsl⟩ := compOk_parts hok
  obtain ⟨cl, hclos, hcl⟩ := closure_ok (scope := scope) (env := env) fun y hy e => N.O.cells _ (hfree y hy e)
  rw [eval_ListComp]
  refine wpAny_comprehension_free (use := none) rfl hfold hclos hkind hnames (wpAny_mono hiter (fun v s₁ h₁ => ?_) fun _ _ e => e)
  obtain ⟨x₁, t₁, it₁⟩ := h₁
  refine comp_run (N.ext x₁ t₁) hok hcl it₁ hlen hf hm (fun N' => htest N') (fun N' => helt N') ?_
  intro s' C D m e t hD hC hDC hn ho
  refine ⟨m, hn, fun h' hs' => ?_⟩
  have x2 : Ext s₁ { s' with heap := h' } := e.then (fun b o hb q => hs'.extBut b o (fun r => by rw [r, hC] at hb; cases hb) q) rfl rfl
  refine h (.ref D) _ (x₁.trans x2) (Nat.le_trans t₁ t) ⟨D, rfl, x₁.none N.R.tab hD, ?_⟩
  obtain ⟨vs, n, ho, hr⟩ := ho
  exact ⟨vs, n, hs'.extBut _ _ hDC ho, hr.mono (fun a h q => q.elim (fun q => h (.inl (.inl q))) fun q => h (.inr q)) fun a o h q => hs'.extBut a o (fun r => h (.inl (.inr r))) q⟩

/-- `y = [..]` where the comprehension's value goes straight to y -/
theorem comp_use {elt iter : Expr} {x : Str} {px py : Pos} {y : Str} {ifs : List Expr} {scope : Scope} {pos spos : Pos} {ds l1 out : List Mine.D} {tst : Mine.D → Option Bool} {f : Mine.D → Option Mine.D} {Q : Flow → Shared → Prop}
    (N : Now prog w ρ h₀ c env Mu α σ s) (hok : compOk c x scope = true) (hfold : ∀ x, foldedSetIterable iter env x = pure x)
    (hsw : swapsWith (.ListComp elt [⟨.Name x px, iter, ifs, 0⟩] scope pos) (some (.Name y py)) spos.line env = pure true)
    (hiter : wpAny (model prog w) A (eval iter env) (fun v s₁ => Ext s s₁ ∧ s.toks ≤ s₁.toks ∧ Iter prog w ρ A Mu s₁ v ds) NoE s)
    (hlen : ds.length ≤ 1000000) (hf : filterE tst ds = some l1) (hm : mapE f l1 = some out)
    (htest : ∀ {env' : Env} {Mu' : Addr → Prop} {s' : Shared} {d : Mine.D} {b : Bool} {Q : Bool → Shared → Prop}, Now prog w ρ h₀ (c.inner x scope) env' Mu' α (σ ++ [.fz d]) s' → tst d = some b →
      (∀ s'', Ext s' s'' → s'.toks ≤ s''.toks → Q b s'') →
      wpAny (model prog w) A (forIn ifs true fun c r => if r = true then do let ok ← isTrue c env' (eval c env'); pure (ForInStep.yield ok) else pure (ForInStep.yield r)) Q NoE s')
    (helt : ∀ {env' : Env} {Mu' : Addr → Prop} {s' : Shared} {d y : Mine.D} {Q : Value → Shared → Prop}, Now prog w ρ h₀ (c.inner x scope) env' Mu' α (σ ++ [.fz d]) s' → f d = some y →
      (∀ v s'', Ext s' s'' → s'.toks ≤ s''.toks → RD prog w ρ Mu' s''.heap v y → Q v s'') → wpAny (model prog w) A (eval elt env') Q NoE s')
    (h : ∀ s' C D m, Ext s s' → s.toks ≤ s'.toks → s.heap.get? D = none → s.heap.get? C = none → D ≠ C → s'.heap.Ns C m → OwnAt prog w ρ (fun b => (Mu b ∨ b = C) ∨ b = D) D (.list out) s'.heap →
      wpAny (model prog w) A (assign (.Name y py) env (.ref D)) (fun _ s'' => ∃ m, s''.heap.Ns C m ∧ ∀ h', Heap.SameBut C s''.heap h' → Q .next { s'' with heap := h' }) NoE s') :
    wpAny (model prog w) A (exec (.Assign [.Name y py] (.ListComp elt [⟨.Name x px, iter, ifs, 0⟩] scope pos) spos) env) Q NoE s := by
  obtain ⟨hkind, hx, hnames, hcell, hfree, hsl⟩ := compOk_parts hok
  obtain ⟨cl, hclos, hcl⟩ := closure_ok (scope := scope) (env := env) fun y hy e => N.O.cells _ (hfree y hy e)
  rw [exec_Assign_Name_used _ _ _ _ hsw]
  refine wpAny_bind (wpAny_standAt (wpAny_bind ?_))
  show wpAny _ A (do let _ ← comprehension (.ListComp elt [⟨.Name x px, iter, ifs, 0⟩] scope pos) scope env _ (newList []) false (eval iter env) (some (assign (.Name y py) env))) _ _ s
  refine wpAny_bind (wpAny_mono (wpAny_comprehension_free (use := some (assign (.Name y py) env)) (Q := fun _ s' => Q .next s') rfl hfold hclos hkind hnames
    (wpAny_mono hiter (fun v s₁ h₁ => ?_) fun _ _ e => e)) (fun _ s' hq => wpAny_pure (wpAny_pure hq)) fun _ _ e => e)
  obtain ⟨x₁, t₁, it₁⟩ := h₁
  refine comp_run (N.ext x₁ t₁) hok hcl it₁ hlen hf hm (fun N' => htest N') (fun N' => helt N') ?_
  intro s' C D m e t hD hC hDC hn ho
  exact h s' C D m (x₁.trans e) (Nat.le_trans t₁ t) (x₁.none N.R.tab hD) (x₁.none N.R.tab hC) hDC hn ho

theorem range1_eval (B : Base prog w ρ h₀ mg mb G gname fname fa) {e : PE} {ne : Expr} {q p : Pos} {i : Int} {tg : Tag} (N : Now prog w ρ h₀ c env Mu α σ s) (hk : c.k "range" = some .globalImplicit) (he : Snd prog w ρ h₀ G Sg A c e ne)
    (hs : ∀ rest env, starEach (ne :: rest) env = (false, eval ne env) :: starEach rest env) (ev : evE G Sg e σ = some (.int i, tg)) :
    wpAny (model prog w) A (eval (.Call (.Name "range" q) [ne] [] p) env) (fun v s₁ => Ext s s₁ ∧ s.toks ≤ s₁.toks ∧ (∀ a, v = .ref a → s.heap.get? a = Option.none) ∧ ∃ r t u v', v = .ref r ∧ IsRange s₁.heap r 0 i 1 t u v') NoE s := by
  refine stepT (wpAny_Call_NameR (wpAny_Name (load_built B N.O N.R.toSt hk B.range ?_)))
  have hb : backTo p (starEach [ne] env) = [(false, eval ne env)] := by rw [hs]; rfl
  rw [hb]
  refine callWith_type rfl (Calls.evalArgs_plain (Calls.spliced_cons (he.ev N ev fun v s₁ x₁ t₁ v₁ => Calls.spliced_nil ?_)))
  have r1 := N.rw x₁ ev v₁
  cases r1
  exact call_range_1 fun t => ⟨x₁.trans (.kept fun _ _ e => Heap.get?_push_of_some _ e), t, (fun a q => by cases q; exact x₁.none N.R.tab (get_size _)), _, _, _, _, rfl, IsRange.new ..⟩
theorem range2_eval (B : Base prog w ρ h₀ mg mb G gname fname fa) {e1 e2 : PE} {n1 n2 : Expr} {q p : Pos} {i j : Int} {g1 g2 : Tag} (N : Now prog w ρ h₀ c env Mu α σ s) (hk : c.k "range" = some .globalImplicit) (h1 : Snd prog w ρ h₀ G Sg A c e1 n1)
    (h2 : Snd prog w ρ h₀ G Sg A c e2 n2) (hs1 : ∀ rest env, starEach (n1 :: rest) env = (false, eval n1 env) :: starEach rest env) (hs2 : ∀ rest env, starEach (n2 :: rest) env = (false, eval n2 env) :: starEach rest env)
    (ev1 : evE G Sg e1 σ = some (.int i, g1)) (ev2 : evE G Sg e2 σ = some (.int j, g2)) :
    wpAny (model prog w) A (eval (.Call (.Name "range" q) [n1, n2] [] p) env) (fun v s₁ => Ext s s₁ ∧ s.toks ≤ s₁.toks ∧ ∃ r t u v', v = .ref r ∧ IsRange s₁.heap r i j 1 t u v') NoE s := by
  refine stepT (wpAny_Call_NameR (wpAny_Name (load_built B N.O N.R.toSt hk B.range ?_)))
  have hb : backTo p (starEach [n1, n2] env) = [(false, eval n1 env), (false, eval n2 env)] := by rw [hs1, hs2]; rfl
  rw [hb]
  refine callWith_type rfl (Calls.evalArgs_plain (Calls.spliced_cons (h1.ev N ev1 fun v s₁ x₁ t₁ v₁ => Calls.spliced_cons (h2.ev (N.ext x₁ t₁) ev2 fun v' s₂ x₂ t₂ v₂ => Calls.spliced_nil ?_))))
  have r1 := N.rw x₁ ev1 v₁
  have r2 := (N.ext x₁ t₁).rw x₂ ev2 v₂
  cases r1; cases r2
  exact call_range_2 fun t => ⟨(x₁.trans x₂).trans (.kept fun _ _ e => Heap.get?_push_of_some _ e), t, _, _, _, _, rfl, IsRange.new ..⟩

theorem range_len (i : Int) : (rangeL 0 i).length ≤ i.natAbs := by simp [rangeL]; omega
theorem Snd.tests {t : PE} {te : Expr} (ht : Snd prog w ρ h₀ G Sg A c t te) {b : Bool} {Q : Bool → Shared → Prop} (N : Now prog w ρ h₀ c env Mu α σ s) (e : ((evE G Sg t σ).bind fun x => truth x.1) = some b) (h : ∀ s'', Ext s s'' → s.toks ≤ s''.toks → Q b s'') :
    wpAny (model prog w) A (forIn [te] true fun c r => if r = true then do let ok ← isTrue c env (eval c env); pure (ForInStep.yield ok) else pure (ForInStep.yield r)) Q NoE s := by
  obtain ⟨x, hx, hb⟩ := Option.bind_eq_some_iff.mp e
  exact wpAny_tests_one (ht.ts N hx hb h)
theorem Snd.elts {t : PE} {te : Expr} (ht : Snd prog w ρ h₀ G Sg A c t te) {y : Mine.D} {Q : Value → Shared → Prop} (N : Now prog w ρ h₀ c env Mu α σ s) (e : (evE G Sg t σ).bind kept = some y)
    (h : ∀ v s'', Ext s s'' → s.toks ≤ s''.toks → RD prog w ρ Mu s''.heap v y → Q v s'') : wpAny (model prog w) A (eval te env) Q NoE s := by
  obtain ⟨x, hx, hb⟩ := Option.bind_eq_some_iff.mp e
  exact ht.ev N hx fun v s' x' t' rv => h v s' x' t' (rv.frozen N.R.toSt hb)

theorem Snd.compR (B : Base prog w ρ h₀ mg mb G gname fname fa) (hh : A.handled = Option.none) {elt n : PE} {el nx : Expr} {x : Str} {px q p2 pos : Pos} {scope : Scope} (hok : compOk c x scope = true) (hk : c.k "range" = some .globalImplicit)
    (he : Snd prog w ρ h₀ G Sg A (c.inner x scope) elt el) (hn : Snd prog w ρ h₀ G Sg A c n nx) (hs : ∀ rest env, starEach (nx :: rest) env = (false, eval nx env) :: starEach rest env) :
    Snd prog w ρ h₀ G Sg A c (.compR elt n) (.ListComp el [⟨.Name x px, .Call (.Name "range" q) [nx] [] p2, [], 0⟩] scope pos) := SE.snd (by
  intro env Mu α σ s r Q N e h
  simp only [evE, Option.bind_eq_some_iff] at e
  obtain ⟨⟨d, tg⟩, en, e⟩ := e
  dsimp only at e
  split at e
  · split at e
    · rename_i i hi
      obtain ⟨out, hm, rfl⟩ := Option.map_eq_some_iff.mp e
      refine comp_value (tst := fun _ => some true) N hok (fun _ => rfl) (wpAny_mono (range1_eval B N hk hn hs en) (fun v s₁ ⟨x₁, t₁, _, r, t, u, v', hv, hr⟩ => ⟨x₁, t₁, ?_⟩) fun _ _ e => e) (Nat.le_trans (range_len i) hi) (filterE_all _) hm
        (fun N' hb hq => by cases hb; exact wpAny_tests_nil (hq _ (.refl _) (Nat.le_refl _))) (fun N' e hq => he.elts N' e hq) h
      subst hv
      exact iter_range hh hr (by decide) hi
    · cases e
  · cases e)
theorem Snd.compRI (B : Base prog w ρ h₀ mg mb G gname fname fa) (hh : A.handled = Option.none) {elt n t : PE} {el nx te : Expr} {x : Str} {px q p2 pos : Pos} {scope : Scope} (hok : compOk c x scope = true) (hk : c.k "range" = some .globalImplicit)
    (he : Snd prog w ρ h₀ G Sg A (c.inner x scope) elt el) (hn : Snd prog w ρ h₀ G Sg A c n nx) (ht : Snd prog w ρ h₀ G Sg A (c.inner x scope) t te) (hs : ∀ rest env, starEach (nx :: rest) env = (false, eval nx env) :: starEach rest env) :
    Snd prog w ρ h₀ G Sg A c (.compRI elt n t) (.ListComp el [⟨.Name x px, .Call (.Name "range" q) [nx] [] p2, [te], 0⟩] scope pos) := SE.snd (by
  intro env Mu α σ s r Q N e h
  simp only [evE, Option.bind_eq_some_iff] at e
  obtain ⟨⟨d, tg⟩, en, e⟩ := e
  dsimp only at e
  split at e
  · split at e
    · rename_i i hi
      obtain ⟨l1, hf, e⟩ := Option.bind_eq_some_iff.mp e
      obtain ⟨out, hm, rfl⟩ := Option.map_eq_some_iff.mp e
      refine comp_value N hok (fun _ => rfl) (wpAny_mono (range1_eval B N hk hn hs en) (fun v s₁ ⟨x₁, t₁, _, r, t, u, v', hv, hr⟩ => ⟨x₁, t₁, ?_⟩) fun _ _ e => e) (Nat.le_trans (range_len i) hi) hf hm
        (fun N' hb hq => ht.tests N' hb hq) (fun N' e hq => he.elts N' e hq) h
      subst hv
      exact iter_range hh hr (by decide) hi
    · cases e
  · cases e)
theorem iter_eval (hh : A.handled = Option.none) {e : PE} {ex : Expr} {l : List Mine.D} {tg : Tag} (N : Now prog w ρ h₀ c env Mu α σ s) (he : Snd prog w ρ h₀ G Sg A c e ex) (ev : evE G Sg e σ = some (.list l, tg)) :
    wpAny (model prog w) A (eval ex env) (fun v s₁ => Ext s s₁ ∧ s.toks ≤ s₁.toks ∧ Iter prog w ρ A Mu s₁ v l) NoE s :=
  he.ev N ev fun v s₁ x₁ t₁ v₁ => ⟨x₁, t₁, iter_list hh (N.R.ext x₁).tab (N.rw x₁ ev v₁)⟩
theorem Snd.compL (hh : A.handled = Option.none) {elt xs : PE} {el lx : Expr} {x : Str} {px pos : Pos} {scope : Scope} (hok : compOk c x scope = true) (he : Snd prog w ρ h₀ G Sg A (c.inner x scope) elt el) (hn : Snd prog w ρ h₀ G Sg A c xs lx)
    (hf : ∀ env x, foldedSetIterable lx env x = pure x) : Snd prog w ρ h₀ G Sg A c (.compL elt xs) (.ListComp el [⟨.Name x px, lx, [], 0⟩] scope pos) := SE.snd (by
  intro env Mu α σ s r Q N e h
  simp only [evE, Option.bind_eq_some_iff] at e
  obtain ⟨⟨d, tg⟩, en, e⟩ := e
  dsimp only at e
  split at e
  · split at e
    · cases e
    · rename_i l hi
      obtain ⟨out, hm, rfl⟩ := Option.map_eq_some_iff.mp e
      exact comp_value (tst := fun _ => some true) N hok (hf _) (iter_eval hh N hn en) (by omega) (filterE_all _) hm
        (fun N' hb hq => by cases hb; exact wpAny_tests_nil (hq _ (.refl _) (Nat.le_refl _))) (fun N' e hq => he.elts N' e hq) h
  · cases e)
theorem Snd.compLI (hh : A.handled = Option.none) {elt xs t : PE} {el lx te : Expr} {x : Str} {px pos : Pos} {scope : Scope} (hok : compOk c x scope = true) (he : Snd prog w ρ h₀ G Sg A (c.inner x scope) elt el) (hn : Snd prog w ρ h₀ G Sg A c xs lx)
    (ht : Snd prog w ρ h₀ G Sg A (c.inner x scope) t te) (hf : ∀ env x, foldedSetIterable lx env x = pure x) : Snd prog w ρ h₀ G Sg A c (.compLI elt xs t) (.ListComp el [⟨.Name x px, lx, [te], 0⟩] scope pos) := SE.snd (by
  intro env Mu α σ s r Q N e h
  simp only [evE, Option.bind_eq_some_iff] at e
  obtain ⟨⟨d, tg⟩, en, e⟩ := e
  dsimp only at e
  split at e
  · split at e
    · cases e
    · rename_i l hi
      obtain ⟨l1, hf1, e⟩ := Option.bind_eq_some_iff.mp e
      obtain ⟨out, hm, rfl⟩ := Option.map_eq_some_iff.mp e
      exact comp_value N hok (hf _) (iter_eval hh N hn en) (by omega) hf1 hm (fun N' hb hq => ht.tests N' hb hq) (fun N' e hq => he.elts N' e hq) h
  · cases e)
end
end Mine
end
section
set_option autoImplicit false
namespace Mine
open PySem PySem.W

section
variable {prog : Program} {w : World} {ρ : Addr} {h₀ : Heap} {mg mb : Str → Option Value} {G : Nat → Option D} {Sg : Sig} {gname fname : Nat → Option Str} {fa : Nat → Addr} {X : Ctx → PE → Expr → Prop}
variable {A : Around} {s s' : Shared} {Mu : Addr → Prop} {α : Nat → Addr} {σ : List LV} {env : Env} {c : Ctx} {n : Nat}

theorem RDs.of_get {h : Heap} : ∀ {vs : List Value} {ds : List Mine.D}, vs.length = ds.length → (∀ (i : Nat) (v : Value), vs[i]? = some v → ∃ d, ds[i]? = some d ∧ RD prog w ρ Mu h v d) → RDs prog w ρ Mu h vs ds
  | [], [], _, _ => .nil
  | [], _ :: _, e, _ => by simp at e
  | _ :: _, [], e, _ => by simp at e
  | v :: vs, d :: ds, e, hv => by
    obtain ⟨d', h1, h2⟩ := hv 0 v rfl
    simp only [List.getElem?_cons_zero, Option.some.injEq] at h1
    subst h1
    exact .cons h2 (RDs.of_get (by simpa using e) fun i v hi => by simpa using hv (i + 1) v (by simpa using hi))

theorem Snd.listRange (B : Base prog w ρ h₀ mg mb G gname fname fa) (hh : A.handled = Option.none) {lo hi : PE} {x y : Expr} {p q p2 q2 : Pos} (hk1 : c.k "list" = some .globalImplicit) (hk2 : c.k "range" = some .globalImplicit) (hl : Snd prog w ρ h₀ G Sg A c lo x) (hr : Snd prog w ρ h₀ G Sg A c hi y)
    (hs1 : ∀ rest env, starEach (x :: rest) env = (false, eval x env) :: starEach rest env) (hs2 : ∀ rest env, starEach (y :: rest) env = (false, eval y env) :: starEach rest env) :
    Snd prog w ρ h₀ G Sg A c (.listRange lo hi) (.Call (.Name "list" q) [.Call (.Name "range" q2) [x, y] [] p2] [] p) := SE.snd (by
  intro env Mu α σ s r Q N e h
  simp only [evE, Option.bind_eq_some_iff] at e
  obtain ⟨⟨d1, g1⟩, e1, ⟨d2, g2⟩, e2, e⟩ := e
  dsimp only at e
  split at e
  · split at e
    · rename_i i j hb
      cases e
      refine stepT (wpAny_Call_NameR (wpAny_Name (load_built B N.O N.R.toSt hk1 B.list ?_)))
      have hb' : backTo p (starEach [.Call (.Name "range" q2) [x, y] [] p2] env) = [(false, eval (.Call (.Name "range" q2) [x, y] [] p2) env)] := rfl
      rw [hb']
      refine callWith_type rfl (Calls.evalArgs_plain (Calls.spliced_cons (wpAny_mono (range2_eval B N hk2 hl hr hs1 hs2 e1 e2) (fun v s₁ ⟨x₁, t₁, r, t, u, v', hv, hr⟩ => Calls.spliced_nil ?_) fun _ _ e => e)))
      subst hv
      have hsz : Builtin.Range.rangeSize i j 1 = ((j - i).toNat : Int) := by rw [rangeSize_one]; split <;> omega
      refine call_list_range hh hr (small_one (by omega) (by omega) (by omega) (by omega)) hsz (by omega) fun h' tk acc' c' hk ho hit tt => ?_
      refine h _ _ (x₁.trans (.kept hk)) tt ⟨_, rfl, x₁.none N.R.tab (get_size _), acc'.toList, c', by simpa using ho, RDs.of_get ?_ ?_⟩
      · obtain ⟨h1, h2⟩ := hit
        simp [rangeL, h1]
      · intro k v hv
        obtain ⟨h1, h2⟩ := hit
        obtain ⟨t', rfl⟩ := h2 k v (by simpa using hv)
        have : k < (j - i).toNat := by
          have := (List.getElem?_eq_some_iff.mp hv).1
          simpa [h1] using this
        refine ⟨_, rangeL_get this, ?_⟩
        rw [Int.mul_one]
        exact .int _ _
    · cases e
  · cases e)

/-- what is asked of the expressions that are shown apart -/
structure Rest (prog : Program) (w : World) (ρ : Addr) (h₀ : Heap) (G : Nat → Option Mine.D) (Sg : Sig) (A : Around) (X : Ctx → PE → Expr → Prop) : Prop where
  x : ∀ {c a x}, X c a x → SE prog w ρ h₀ G Sg A c a x
  sorted : ∀ {c a x p q}, c.k "sorted" = some .globalImplicit → Snd prog w ρ h₀ G Sg A c a x → (∀ rest env, starEach (x :: rest) env = (false, eval x env) :: starEach rest env) → SE prog w ρ h₀ G Sg A c (.sorted a) (.Call (.Name "sorted" q) [x] [] p)

mutual
theorem Emb.sound (B : Base prog w ρ h₀ mg mb G gname fname fa) (SG : SigOK prog w ρ h₀ Sg fname fa n) (Rm : Room n A) (H : Rest prog w ρ h₀ G Sg A X) : ∀ {c : Ctx} {pe : PE} {e : Expr}, Emb gname fname X c pe e → Snd prog w ρ h₀ G Sg A c pe e
  | _, _, _, .none => Snd.none
  | _, _, _, .bool => Snd.bool
  | _, _, _, .int => Snd.int
  | _, _, _, .str h => Snd.str h
  | _, _, _, .var h d => Snd.var h d
  | _, _, _, .glob h k d => Snd.glob B h k d
  | _, _, _, .tup l h => Snd.tup (Embs.sound B SG Rm H h) l
  | _, _, _, .lst l h => Snd.lst (Embs.sound B SG Rm H h) l
  | _, _, _, .neg h => Snd.neg (Emb.sound B SG Rm H h)
  | _, _, _, .bin o a b => Snd.bin o (Emb.sound B SG Rm H a) (Emb.sound B SG Rm H b)
  | _, _, _, .cmp o a b => Snd.cmp Rm o (Emb.sound B SG Rm H a) (Emb.sound B SG Rm H b) fun op => b.mark op
  | _, _, _, .chain o1 o2 a b d => Snd.chain Rm o1 o2 (Emb.sound B SG Rm H a) (Emb.sound B SG Rm H b) (Emb.sound B SG Rm H d) fun op => d.mark op
  | _, _, _, .and a r => Snd.and (Emb.sound B SG Rm H a) (Embs.bools B SG Rm H r)
  | _, _, _, .or a r => Snd.or (Emb.sound B SG Rm H a) (Embs.bools B SG Rm H r)
  | _, _, _, .not a => Snd.not (Emb.sound B SG Rm H a)
  | _, _, _, .ite q a b => Snd.ite (Emb.sound B SG Rm H q) (Emb.sound B SG Rm H a) (Emb.sound B SG Rm H b)
  | _, _, _, .idx a i => Snd.idx (Emb.sound B SG Rm H a) (Emb.sound B SG Rm H i) i.plain
  | _, _, _, .sl a lo hi => Snd.sl (Emb.sound B SG Rm H a) (Emb.sound B SG Rm H lo) (Emb.sound B SG Rm H hi)
  | _, _, _, .slFrom a lo => Snd.slFrom (Emb.sound B SG Rm H a) (Emb.sound B SG Rm H lo)
  | _, _, _, .slTo a hi => Snd.slTo (Emb.sound B SG Rm H a) (Emb.sound B SG Rm H hi)
  | _, _, _, .len k a => Snd.len B k (Emb.sound B SG Rm H a) fun _ _ => a.star
  | _, _, _, .meth m nm l xl o a r => Snd.meth m nm l xl (Emb.sound B SG Rm H o) (SEs.cons (Emb.sound B SG Rm H a) (Embs.sound B SG Rm H r) fun _ => a.star) (fun _ _ => o.base) (fun _ => a.star) (fun _ => r.plainArgs) fun _ => (Embs.cons a r).few
  | _, _, _, .repl nm l o h1 h2 => Snd.repl B nm l (Emb.sound B SG Rm H o) (fun _ _ => o.base) h1 h2
  | _, _, _, .call f k d a r => Snd.call B SG Rm f k d (SEs.cons (Emb.sound B SG Rm H a) (Embs.sound B SG Rm H r) fun _ => a.star) fun _ => a.star
  | _, _, _, .ext h o => SE.snd (H.x h) o.test
  | _, _, _, .compR ok k e n => Snd.compR B Rm.handled ok k (Emb.sound B SG Rm H e) (Emb.sound B SG Rm H n) fun _ _ => n.star
  | _, _, _, .compRI ok k e n t => Snd.compRI B Rm.handled ok k (Emb.sound B SG Rm H e) (Emb.sound B SG Rm H n) (Emb.sound B SG Rm H t) fun _ _ => n.star
  | _, _, _, .compL ok e n => Snd.compL Rm.handled ok (Emb.sound B SG Rm H e) (Emb.sound B SG Rm H n) fun _ _ => n.fold
  | _, _, _, .compLI ok e n t => Snd.compLI Rm.handled ok (Emb.sound B SG Rm H e) (Emb.sound B SG Rm H n) (Emb.sound B SG Rm H t) fun _ _ => n.fold
  | _, _, _, .sorted k a => SE.snd (H.sorted k (Emb.sound B SG Rm H a) fun _ _ => a.star)
  | _, _, _, .listRange k1 k2 lo hi => Snd.listRange B Rm.handled k1 k2 (Emb.sound B SG Rm H lo) (Emb.sound B SG Rm H hi) (fun _ _ => lo.star) fun _ _ => hi.star
theorem Embs.sound (B : Base prog w ρ h₀ mg mb G gname fname fa) (SG : SigOK prog w ρ h₀ Sg fname fa n) (Rm : Room n A) (H : Rest prog w ρ h₀ G Sg A X) : ∀ {c : Ctx} {es : PEs} {xs : List Expr}, Embs gname fname X c es xs → SEs prog w ρ h₀ G Sg A c es xs
  | _, _, _, .nil => SEs.nil
  | _, _, _, .cons a r => SEs.cons (Emb.sound B SG Rm H a) (Embs.sound B SG Rm H r) fun _ => a.star
theorem Embs.bools (B : Base prog w ρ h₀ mg mb G gname fname fa) (SG : SigOK prog w ρ h₀ Sg fname fa n) (Rm : Room n A) (H : Rest prog w ρ h₀ G Sg A X) : ∀ {c : Ctx} {es : PEs} {xs : List Expr}, Embs gname fname X c es xs → SBo prog w ρ h₀ G Sg A c es xs
  | _, _, _, .nil => SBo.nil
  | _, _, _, .cons a r => SBo.cons (Emb.sound B SG Rm H a) (Embs.bools B SG Rm H r)
end
end
end Mine
end
section
set_option autoImplicit false
namespace Mine
open PySem PySem.W

/-- where a call's own variables stand -/
def FrA (env : Env) (b : Addr) : Prop := b = env.locals ∨ ∃ x, env.cells.lookup x = some b

/-- what holds of the names of a function -/
structure EnvS (c : Ctx) (env : Env) : Prop where
  cellinj : ∀ x y a, env.cells.lookup x = some a → env.cells.lookup y = some a → x = y
  vinj : ∀ x y k, c.v.lookup x = some k → c.v.lookup y = some k → x = y
  vlt : ∀ x k, c.v.lookup x = some k → k < c.n
  vkind : ∀ x k, c.v.lookup x = some k → c.k x = some .local ∨ c.k x = some .cell

section
variable (prog : Program) (w : World) (ρ : Addr) (h₀ : Heap)
structure NowS (Mu₀ : Addr → Prop) (c : Ctx) (env : Env) (Mu Wr : Addr → Prop) (α : Nat → Addr) (σ : List LV) (s : Shared) : Prop where
  N : Now prog w ρ h₀ c env Mu α σ s
  S : EnvS c env
  frw : ∀ b, FrA env b → Wr b
  oww : ∀ k d, σ[k]? = some (.ow d) → Wr (α k) ∧ ¬ FrA env (α k) ∧ ¬ Mu₀ (α k)
  wm : ∀ b, Wr b → Mu b
  m0 : ∀ b, Mu₀ b → Mu b
  inj : ∀ k k' d d', σ[k]? = some (.ow d) → σ[k']? = some (.ow d') → α k = α k' → k = k'
  ns : ∃ m, s.heap.Ns env.locals m
  cells : ∀ x a, env.cells.lookup x = some a → ∃ v, s.heap.IsCell a v
end

structure Grow (Mu Wr Mu' Wr' : Addr → Prop) (s s' : Shared) : Prop where
  mu : ∀ b, Mu b → Mu' b
  wr : ∀ b, Wr b → Wr' b
  mun : ∀ b, Mu' b → Mu b ∨ s.heap.get? b = none
  wrn : ∀ b, Wr' b → Wr b ∨ s.heap.get? b = none
  keep : ∀ b o, b ≠ gT → ¬ Wr b → s.heap.get? b = some o → s'.heap.get? b = some o
  has : ∀ b, (s.heap.get? b).isSome = true → (s'.heap.get? b).isSome = true
  tab : TabInv s.heap → TabInv s'.heap
  os : s'.os = s.os
  gens : PyProof.Rows.AllBare s.gens → PyProof.Rows.AllBare s'.gens
  toks : s.toks ≤ s'.toks

section
variable {prog : Program} {w : World} {ρ : Addr} {h₀ : Heap} {mg mb : Str → Option Value} {G : Nat → Option D} {Sg : Sig} {gname fname : Nat → Option Str} {fa : Nat → Addr} {X : Ctx → PE → Expr → Prop}
variable {A : Around} {s s' s'' : Shared} {Mu₀ Mu Wr Mu' Wr' Mu'' Wr'' : Addr → Prop} {α : Nat → Addr} {σ : List LV} {env : Env} {c : Ctx} {n : Nat}

theorem Grow.refl (s : Shared) : Grow Mu Wr Mu Wr s s := ⟨fun _ h => h, fun _ h => h, fun _ h => .inl h, fun _ h => .inl h, fun _ _ _ _ e => e, fun _ h => h, id, rfl, id, Nat.le_refl _⟩
theorem Grow.trans (x : Grow Mu Wr Mu' Wr' s s') (y : Grow Mu' Wr' Mu'' Wr'' s' s'') : Grow Mu Wr Mu'' Wr'' s s'' where
  mu b h := y.mu b (x.mu b h)
  wr b h := y.wr b (x.wr b h)
  mun b h := (y.mun b h).elim (x.mun b) fun e => .inr (by
    cases q : s.heap.get? b with
    | none => rfl
    | some o => have := x.has b (by rw [q]; rfl); rw [e] at this; cases this)
  wrn b h := (y.wrn b h).elim (x.wrn b) fun e => .inr (by
    cases q : s.heap.get? b with
    | none => rfl
    | some o => have := x.has b (by rw [q]; rfl); rw [e] at this; cases this)
  keep b o n h e := y.keep b o n (fun h' => (x.wrn b h').elim h fun q => by rw [q] at e; cases e) (x.keep b o n h e)
  has b h := y.has b (x.has b h)
  tab t := y.tab (x.tab t)
  os := y.os.trans x.os
  gens g := y.gens (x.gens g)
  toks := Nat.le_trans x.toks y.toks
theorem Grow.ext (x : Ext s s') (T : TabInv s.heap) (t : s.toks ≤ s'.toks) : Grow Mu Wr Mu Wr s s' :=
  ⟨fun _ h => h, fun _ h => h, fun _ h => .inl h, fun _ h => .inl h, fun b o n _ e => x.keep b o n e, fun _ h => x.some T h, x.tab, x.os, x.gens, t⟩

theorem NowS.ext (N : NowS prog w ρ h₀ Mu₀ c env Mu Wr α σ s) (x : Ext s s') (t : s.toks ≤ s'.toks) : NowS prog w ρ h₀ Mu₀ c env Mu Wr α σ s' where
  N := N.N.ext x t
  S := N.S
  frw := N.frw
  oww := N.oww
  wm := N.wm
  m0 := N.m0
  inj := N.inj
  ns := by
    obtain ⟨m, o, es, ep, ho, hd, q⟩ := N.ns
    exact ⟨m, o, es, ep, x.keep _ _ (ne_gT N.N.R.tab ho (by rw [hd]; nofun)) ho, hd, q⟩
  cells := fun y a ha => by
    obtain ⟨v, o, ho, hd⟩ := N.cells y a ha
    exact ⟨v, o, x.keep _ _ (ne_gT N.N.R.tab ho (by rw [hd]; nofun)) ho, hd⟩
theorem NowS.slot {k : Nat} {x : Str} (N : NowS prog w ρ h₀ Mu₀ c env Mu Wr α σ s) (hx : c.v.lookup x = some k) : k < σ.length := by rw [N.N.L]; exact N.S.vlt x k hx

/-- one write: at a place of the call's own -/
structure Wrote (a : Addr) (s s' : Shared) : Prop where
  same : Heap.SameBut a s.heap s'.heap
  some : (s'.heap.get? a).isSome = true
  os : s'.os = s.os
  gens : s'.gens = s.gens
  toks : s.toks ≤ s'.toks

theorem Wrote.rd {a : Addr} (W : Wrote a s s') (h : Mu a) {v : Value} {d : Mine.D} (r : RD prog w ρ Mu s.heap v d) : RD prog w ρ Mu s'.heap v d := r.mono (fun _ n => n) fun b o n e => W.same.extBut b o (fun q => n (q ▸ h)) e
theorem Wrote.rds {a : Addr} (W : Wrote a s s') (h : Mu a) {v : List Value} {d : List Mine.D} (r : RDs prog w ρ Mu s.heap v d) : RDs prog w ρ Mu s'.heap v d := r.mono (fun _ n => n) fun b o n e => W.same.extBut b o (fun q => n (q ▸ h)) e
theorem Wrote.res {a : Addr} (W : Wrote a s s') (h : Mu a) {v : List (Str × Value)} {d : List (List Nat × Mine.D)} (r : REs prog w ρ Mu s.heap v d) : REs prog w ρ Mu s'.heap v d := r.mono (fun _ n => n) fun b o n e => W.same.extBut b o (fun q => n (q ▸ h)) e
theorem Wrote.ownAt {a b : Addr} (W : Wrote a s s') (h : Mu a) (hb : b ≠ a) {d : Mine.D} (o : OwnAt prog w ρ Mu b d s.heap) : OwnAt prog w ρ Mu b d s'.heap := by
  cases d with
  | list ds => obtain ⟨vs, n, ho, hr⟩ := o; exact ⟨vs, n, W.same.extBut _ _ hb ho, W.rds h hr⟩
  | dict kds =>
    obtain ⟨hs, kvs, ho, hr⟩ := o
    refine ⟨hs, kvs, ?_, W.res h hr⟩
    obtain ⟨o, es, ep, ho, r⟩ := ho
    exact ⟨o, es, ep, W.same.extBut _ _ hb ho, r⟩
  | _ => exact o
theorem Wrote.grow {a : Addr} (W : Wrote a s s') (h : Wr a) (T : TabInv s.heap) (ha : a ≠ gT) (hc : a ≠ gC) : Grow Mu Wr Mu Wr s s' where
  mu _ h := h
  wr _ h := h
  mun _ h := .inl h
  wrn _ h := .inl h
  keep b o _ n e := W.same.extBut b o (fun q => n (q ▸ h)) e
  has b e := by
    by_cases hb : b = a
    · subst hb; exact W.some
    · obtain ⟨o, ho⟩ := Option.isSome_iff_exists.mp e
      rw [W.same.extBut b o hb ho]; rfl
  tab t := t.only fun b o hb e => W.same.extBut b o (by rcases hb with rfl | rfl; exact hc.symm; exact ha.symm) e
  os := W.os
  gens g := W.gens ▸ g
  toks := W.toks
theorem TabInv.code {h : Heap} (x : TabInv h) {a : Addr} {o : Obj} (e : h.get? a = some o) (hc : o.cls ≠ .type "code") : a ≠ gC := by
  obtain ⟨⟨o', vs, file, tf, flags, tg, inF, text, tt, e', hc', _⟩, _⟩ := x
  rintro rfl
  rw [e'] at e; cases e; exact hc hc'
/-- the state past the hidden things, whatever is written at one hidden place that was made after the base -/
theorem Wrote.st {a : Addr} (W : Wrote a s s') (R : St h₀ Mu s) (h : Mu a) (ha : a ≠ gT) (hc : a ≠ gC) : St h₀ Mu s' where
  keep b o n e := by
    by_cases hb : b = a
    · subst hb
      rcases R.muh b h with q | q
      · exact absurd q n
      · rw [q] at e; cases e
    · exact W.same.extBut b o hb (R.keep b o n e)
  tab := R.tab.only fun b o hb e => W.same.extBut b o (by rcases hb with rfl | rfl; exact hc.symm; exact ha.symm) e
  mu b hb := by
    by_cases q : b = a
    · subst q; exact W.some
    · obtain ⟨o, ho⟩ := Option.isSome_iff_exists.mp (R.mu b hb)
      rw [W.same.extBut b o q ho]; rfl
  mug := R.mug
  muh := R.muh

theorem FrA.data {N : NowS prog w ρ h₀ Mu₀ c env Mu Wr α σ s} {b : Addr} (h : FrA env b) : ∃ o, s.heap.get? b = some o ∧ ((∃ es ep, o.data = .dict es ep) ∨ ∃ v, o.data = .cell v) := by
  rcases h with rfl | ⟨x, hx⟩
  · obtain ⟨m, o, es, ep, ho, hd, _⟩ := N.ns
    exact ⟨o, ho, .inl ⟨es, ep, hd⟩⟩
  · obtain ⟨v, o, ho, hd⟩ := N.cells x b hx
    exact ⟨o, ho, .inr ⟨v, hd⟩⟩
theorem NowS.frT (N : NowS prog w ρ h₀ Mu₀ c env Mu Wr α σ s) {b : Addr} (h : FrA env b) : b ≠ gT := by
  obtain ⟨o, ho, q⟩ := FrA.data (N := N) h
  exact ne_gT N.N.R.tab ho (by rcases q with ⟨es, ep, q⟩ | ⟨v, q⟩ <;> rw [q] <;> nofun)
theorem TabInv.codeD {h : Heap} (x : TabInv h) {a : Addr} {o : Obj} (e : h.get? a = some o) (hc : ∀ vs, o.data ≠ .fields vs) : a ≠ gC := by
  obtain ⟨⟨o', vs, file, tf, flags, tg, inF, text, tt, e', _, hd, _⟩, _⟩ := x
  rintro rfl
  rw [e'] at e; cases e; exact hc _ hd
theorem NowS.frC (N : NowS prog w ρ h₀ Mu₀ c env Mu Wr α σ s) {b : Addr} (h : FrA env b) : b ≠ gC := by
  obtain ⟨o, ho, q⟩ := FrA.data (N := N) h
  exact N.N.R.tab.codeD ho (by rcases q with ⟨es, ep, q⟩ | ⟨v, q⟩ <;> rw [q] <;> nofun)

/-- a name is stored: the heap is written at the call's own place for it -/
theorem store_name {x : Str} {v : Value} {Q : Unit → Shared → Prop} (N : NowS prog w ρ h₀ Mu₀ c env Mu Wr α σ s) (hx : c.k x = some .local ∨ c.k x = some .cell)
    (h : ∀ a s', FrA env a → Wrote a s s' → Loads env s'.heap x v → (∀ y u, y ≠ x → Loads env s.heap y u → Loads env s'.heap y u) → (∃ m, s'.heap.Ns env.locals m) → (∀ x a, env.cells.lookup x = some a → ∃ v, s'.heap.IsCell a v) → Q () s') :
    wpAny (model prog w) A (storeName env x v) Q NoE s := by
  obtain ⟨m, hm⟩ := N.ns
  have hp : (env.scope.kind == .class || (env.scope.kind == .module && env.locals != env.globals)) = false := by rw [N.N.O.kind]; rfl
  have apart : ∀ y a, env.cells.lookup y = some a → a ≠ env.locals := by
    rintro y a ha rfl
    obtain ⟨v, o, ho, hd⟩ := N.cells y _ ha
    obtain ⟨o', es, ep, ho', hd', _⟩ := hm
    rw [ho] at ho'; cases ho'; rw [hd] at hd'; cases hd'
  rcases hx with hk | hk
  · have hk' : env.kindOf x = some .local := (N.N.O.names x).trans hk
    refine wpAny_storeName_local hk' hm (fun h' hn' hs' => ?_) hp
    refine h env.locals _ (.inl rfl) ⟨hs', by obtain ⟨o, _, _, ho, _⟩ := hn'; dsimp only; rw [ho]; rfl, rfl, rfl, Nat.le_succ _⟩ (.inl ⟨hk', _, hn', by simp⟩) ?_ ⟨_, hn'⟩ ?_
    · rintro y u hy (⟨hky, m', hm', hu⟩ | ⟨hky, a, ha, hcv⟩)
      · refine .inl ⟨hky, _, hn', ?_⟩
        simp only [if_neg hy]
        obtain ⟨o, es, ep, ho, hd, _, e1⟩ := hm
        obtain ⟨o', es', ep', ho', hd', _, e2⟩ := hm'
        rw [ho] at ho'; cases ho'
        rw [hd] at hd'; cases hd'
        rw [← e1, e2]; exact hu
      · refine .inr ⟨hky, a, ha, ?_⟩
        obtain ⟨o, ho, hd⟩ := hcv
        exact ⟨o, hs'.extBut _ _ (apart y a ha) ho, hd⟩
    · intro y a ha
      obtain ⟨v, o, ho, hd⟩ := N.cells y a ha
      exact ⟨v, o, hs'.extBut _ _ (apart y a ha) ho, hd⟩
  · have hk' : env.kindOf x = some .cell := (N.N.O.names x).trans hk
    obtain ⟨a, ha⟩ := N.N.O.cells x hk
    obtain ⟨v₀, hv₀⟩ := N.cells x a ha
    refine wpAny_storeName_cell N.N.O.kind hk' ha hv₀ fun h' hc' hs' => ?_
    have hns : h'.Ns env.locals m := hm.sameBut hs' (Ne.symm (apart x a ha))
    refine h a _ (.inr ⟨x, ha⟩) ⟨hs', by obtain ⟨o, ho, _⟩ := hc'; dsimp only; rw [ho]; rfl, rfl, rfl, Nat.le_refl _⟩ (.inr ⟨hk', a, ha, hc'⟩) ?_ ⟨m, hns⟩ ?_
    · rintro y u hy (⟨hky, m', hm', hu⟩ | ⟨hky, b, hb, hcv⟩)
      · exact .inl ⟨hky, m', hm'.sameBut hs' (Ne.symm (apart x a ha)), hu⟩
      · refine .inr ⟨hky, b, hb, ?_⟩
        obtain ⟨o, ho, hd⟩ := hcv
        exact ⟨o, hs'.extBut _ _ (fun q => hy (N.S.cellinj y x a (q ▸ hb) ha)) ho, hd⟩
    · intro y b hb
      by_cases q : b = a
      · subst q; exact ⟨_, hc'⟩
      · obtain ⟨v, o, ho, hd⟩ := N.cells y b hb
        exact ⟨v, o, hs'.extBut _ _ q ho, hd⟩
end
end Mine
end
section
set_option autoImplicit false
namespace Mine
open PySem PySem.W

section
variable {prog : Program} {w : World} {ρ : Addr} {h₀ : Heap} {mg mb : Str → Option Value} {G : Nat → Option D} {Sg : Sig} {gname fname : Nat → Option Str} {fa : Nat → Addr} {X : Ctx → PE → Expr → Prop}
variable {A : Around} {s s' s'' s₀ : Shared} {Mu₀ Mu Wr Mu' Wr' Mu'' Wr'' : Addr → Prop} {α : Nat → Addr} {σ : List LV} {env : Env} {c : Ctx} {n : Nat}

theorem set_get {β : Type} {l : List β} {k j : Nat} {a b : β} (h : (l.set k a)[j]? = some b) : (j = k ∧ b = a) ∨ (j ≠ k ∧ l[j]? = some b) := by
  by_cases q : j = k
  · subst q
    rw [List.getElem?_set] at h
    split at h
    · split at h
      · cases h; exact .inl ⟨rfl, rfl⟩
      · cases h
    · rename_i h2; exact absurd rfl h2
  · rw [List.getElem?_set] at h
    rw [if_neg (fun e => q e.symm)] at h
    exact .inr ⟨q, h⟩

theorem NowS.setFr {a : Addr} {x : Str} {k : Nat} {lv : LV} (N : NowS prog w ρ h₀ Mu₀ c env Mu Wr α σ s) (W : Wrote a s s') (ha : FrA env a) (hx : c.v.lookup x = some k) (hlv : SlotAt prog w ρ env Mu α x k lv s'.heap) (hno : ∀ d, lv ≠ .ow d)
    (hl : ∀ y u, y ≠ x → Loads env s.heap y u → Loads env s'.heap y u) (hns : ∃ m, s'.heap.Ns env.locals m) (hcl : ∀ x a, env.cells.lookup x = some a → ∃ v, s'.heap.IsCell a v) : NowS prog w ρ h₀ Mu₀ c env Mu Wr α (σ.set k lv) s' := by
  have hMa : Mu a := N.wm _ (N.frw _ ha)
  refine { N := ⟨N.N.O, { W.st N.N.R.toSt hMa (N.frT ha) (N.frC ha) with slots := ?_, owns := ?_ }, by rw [List.length_set]; exact N.N.L, Nat.le_trans N.N.K W.toks⟩, S := N.S, frw := N.frw, oww := ?_, wm := N.wm, m0 := N.m0, inj := ?_, ns := hns, cells := hcl }
  · intro y j hy lv' hlv'
    rcases set_get hlv' with ⟨rfl, rfl⟩ | ⟨hj, hlv'⟩
    · obtain rfl := N.S.vinj y x j hy hx
      exact hlv
    · have hyx : y ≠ x := by rintro rfl; rw [hx] at hy; cases hy; exact hj rfl
      have q := N.N.R.slots y j hy lv' hlv'
      cases lv' with
      | un => trivial
      | fz d => obtain ⟨v, l, r⟩ := q; exact ⟨v, hl y v hyx l, W.rd hMa r⟩
      | ow d => exact hl y _ hyx q
      | app i =>
        obtain ⟨p, o, l, ho, hc, hd⟩ := q
        refine ⟨p, o, hl y _ hyx l, W.same.extBut _ _ ?_ ho, hc, hd⟩
        rintro rfl
        obtain ⟨o', ho', q⟩ := FrA.data (N := N) ha
        rw [ho] at ho'; cases ho'
        rcases q with ⟨es, ep, q⟩ | ⟨v, q⟩ <;> rw [hd] at q <;> cases q
  · intro j d hj
    rcases set_get hj with ⟨rfl, e⟩ | ⟨hj', hj⟩
    · exact absurd e.symm (hno d)
    · obtain ⟨h1, h2⟩ := N.N.R.owns j d hj
      exact ⟨h1, W.ownAt hMa (fun q => (N.oww j d hj).2.1 ((show α j = a from q) ▸ ha)) h2⟩
  · intro j d hj
    rcases set_get hj with ⟨rfl, e⟩ | ⟨hj', hj⟩
    · exact absurd e.symm (hno d)
    · exact N.oww j d hj
  · intro i j d d' hi hj e
    rcases set_get hi with ⟨rfl, q⟩ | ⟨_, hi⟩
    · exact absurd q.symm (hno d)
    · rcases set_get hj with ⟨rfl, q⟩ | ⟨_, hj⟩
      · exact absurd q.symm (hno d')
      · exact N.inj i j d d' hi hj e

/-- a name is stored that no slot tells of -/
theorem NowS.other {a : Addr} {x : Str} (N : NowS prog w ρ h₀ Mu₀ c env Mu Wr α σ s) (W : Wrote a s s') (ha : FrA env a) (hx : c.v.lookup x = none)
    (hl : ∀ y u, y ≠ x → Loads env s.heap y u → Loads env s'.heap y u) (hns : ∃ m, s'.heap.Ns env.locals m) (hcl : ∀ x a, env.cells.lookup x = some a → ∃ v, s'.heap.IsCell a v) : NowS prog w ρ h₀ Mu₀ c env Mu Wr α σ s' := by
  have hMa : Mu a := N.wm _ (N.frw _ ha)
  refine ⟨⟨N.N.O, { W.st N.N.R.toSt hMa (N.frT ha) (N.frC ha) with slots := ?_, owns := ?_ }, N.N.L, Nat.le_trans N.N.K W.toks⟩, N.S, N.frw, N.oww, N.wm, N.m0, N.inj, hns, hcl⟩
  · intro y j hy lv hlv
    have hyx : y ≠ x := by rintro rfl; rw [hx] at hy; cases hy
    have q := N.N.R.slots y j hy lv hlv
    cases lv with
    | un => trivial
    | fz d => obtain ⟨v, l, r⟩ := q; exact ⟨v, hl y v hyx l, W.rd hMa r⟩
    | ow d => exact hl y _ hyx q
    | app i =>
      obtain ⟨p, o, l, ho, hc, hd⟩ := q
      refine ⟨p, o, hl y _ hyx l, W.same.extBut _ _ ?_ ho, hc, hd⟩
      rintro rfl
      obtain ⟨o', ho', q⟩ := FrA.data (N := N) ha
      rw [ho] at ho'; cases ho'
      rcases q with ⟨es, ep, q⟩ | ⟨v, q⟩ <;> rw [hd] at q <;> cases q
  · intro j d hj
    obtain ⟨h1, h2⟩ := N.N.R.owns j d hj
    exact ⟨h1, W.ownAt hMa (fun q => (N.oww j d hj).2.1 ((show α j = a from q) ▸ ha)) h2⟩
theorem store_other {x : Str} {v : Value} {Q : Unit → Shared → Prop} (N : NowS prog w ρ h₀ Mu₀ c env Mu Wr α σ s) (hk : c.k x = some .local ∨ c.k x = some .cell) (hx : c.v.lookup x = none)
    (h : ∀ s', Grow Mu Wr Mu Wr s s' → NowS prog w ρ h₀ Mu₀ c env Mu Wr α σ s' → Loads env s'.heap x v → Q () s') : wpAny (model prog w) A (storeName env x v) Q NoE s :=
  store_name N hk fun a s' ha W l hl hns hcl => h s' (W.grow (N.frw _ ha) N.N.R.tab (N.frT ha) (N.frC ha)) (N.other W ha hx hl hns hcl) l
theorem store_fz {x : Str} {k : Nat} {v : Value} {d : Mine.D} {Q : Unit → Shared → Prop} (N : NowS prog w ρ h₀ Mu₀ c env Mu Wr α σ s) (hx : c.v.lookup x = some k) (hv : RD prog w ρ Mu s.heap v d)
    (h : ∀ s', Grow Mu Wr Mu Wr s s' → NowS prog w ρ h₀ Mu₀ c env Mu Wr α (σ.set k (.fz d)) s' → Q () s') : wpAny (model prog w) A (storeName env x v) Q NoE s :=
  store_name N (N.S.vkind _ _ hx) fun a s' ha W l hl hns hcl => h s' (W.grow (N.frw _ ha) N.N.R.tab (N.frT ha) (N.frC ha)) (N.setFr W ha hx ⟨v, l, W.rd (N.wm _ (N.frw _ ha)) hv⟩ nofun hl hns hcl)
theorem store_app {x : Str} {k j : Nat} {q : Addr} {o : Obj} {Q : Unit → Shared → Prop} (N : NowS prog w ρ h₀ Mu₀ c env Mu Wr α σ s) (hx : c.v.lookup x = some k) (ho : s.heap.get? q = some o) (hc : o.cls = .type "builtin_function_or_method") (hd : o.data = .fields #[.builtin "list.append", .ref (α j)])
    (h : ∀ s', Grow Mu Wr Mu Wr s s' → NowS prog w ρ h₀ Mu₀ c env Mu Wr α (σ.set k (.app j)) s' → Q () s') : wpAny (model prog w) A (storeName env x (.ref q)) Q NoE s :=
  store_name N (N.S.vkind _ _ hx) fun a s' ha W l hl hns hcl => h s' (W.grow (N.frw _ ha) N.N.R.tab (N.frT ha) (N.frC ha)) (N.setFr W ha hx ⟨q, o, l, W.same.extBut _ _ (by
    rintro rfl
    obtain ⟨o', ho', q⟩ := FrA.data (N := N) ha
    rw [ho] at ho'; cases ho'
    rcases q with ⟨es, ep, q⟩ | ⟨v, q⟩ <;> rw [hd] at q <;> cases q) ho, hc, hd⟩ nofun hl hns hcl)

/-- a thing made since s₀ is taken up among the hidden and written ones -/
theorem NowS.adopt {a : Addr} (N : NowS prog w ρ h₀ Mu₀ c env Mu Wr α σ s₀) (x : Ext s₀ s) (t : s₀.toks ≤ s.toks) (hn : s₀.heap.get? a = none) (hs : (s.heap.get? a).isSome = true) :
    NowS prog w ρ h₀ Mu₀ c env (fun b => Mu b ∨ b = a) (fun b => Wr b ∨ b = a) α σ s := by
  have N' := N.ext x t
  have hold : a = gT ∨ h₀.get? a = none := by
    by_cases h : a = gT
    · exact .inl h
    · refine .inr ?_
      cases q : h₀.get? a with
      | none => rfl
      | some o => have := N.N.R.keep a o h q; rw [hn] at this; cases this
  refine ⟨⟨N.N.O, { keep := N'.N.R.keep, tab := N'.N.R.tab, mu := ?_, mug := .inl N.N.R.mug, muh := ?_, slots := ?_, owns := ?_ }, N.N.L, N'.N.K⟩, N.S, fun b h => .inl (N.frw b h), fun k d h => ⟨.inl (N.oww k d h).1, (N.oww k d h).2⟩, fun b h => ?_, fun b h => .inl (N.m0 b h), N.inj, N'.ns, N'.cells⟩
  · rintro b (h | rfl)
    · exact N'.N.R.mu b h
    · exact hs
  · rintro b (h | rfl)
    · exact N.N.R.muh b h
    · exact hold
  · intro y k hy lv hlv
    have q := N.N.R.slots y k hy lv hlv
    cases lv with
    | un => trivial
    | fz d => obtain ⟨v, l, r⟩ := q; exact ⟨v, x.loads N.N.R.tab l, x.rd (.inl N.N.R.mug) (r.hide hn)⟩
    | ow d => exact x.loads N.N.R.tab q
    | app j => obtain ⟨p, o, l, ho, hc, hd⟩ := q; exact ⟨p, o, x.loads N.N.R.tab l, x.keep _ _ (ne_gT' N.N.R.tab ho (by rw [hc]; nofun)) ho, hc, hd⟩
  · intro k d hk
    obtain ⟨h1, h2⟩ := N.N.R.owns k d hk
    exact ⟨.inl h1, x.ownAt N.N.R.tab (.inl N.N.R.mug) (h2.hide hn)⟩
  · rcases h with h | h
    · exact .inl (N.wm b h)
    · exact .inr h
theorem Grow.adopt {a : Addr} (x : Ext s₀ s) (T : TabInv s₀.heap) (t : s₀.toks ≤ s.toks) (hn : s₀.heap.get? a = none) : Grow Mu Wr (fun b => Mu b ∨ b = a) (fun b => Wr b ∨ b = a) s₀ s :=
  ⟨fun _ h => .inl h, fun _ h => .inl h, fun _ h => h.elim .inl fun e => .inr (e ▸ hn), fun _ h => h.elim .inl fun e => .inr (e ▸ hn), fun b o n _ e => x.keep b o n e, fun _ h => x.some T h, x.tab, x.os, x.gens, t⟩

theorem putO_get {k j : Nat} {d : Mine.D} {lv : LV} (h : (putO k d σ)[j]? = some lv) : (j = k ∧ lv = .ow d) ∨ (j ≠ k ∧ ∃ u, σ[j]? = some u ∧ lv = u.kill k) := by
  rcases set_get h with ⟨e, q⟩ | ⟨e, q⟩
  · exact .inl ⟨e, q⟩
  · rw [List.getElem?_map] at q
    obtain ⟨u, hu, rfl⟩ := Option.map_eq_some_iff.mp q
    exact .inr ⟨e, u, hu, rfl⟩
theorem kill_ow {k : Nat} {u : LV} {d : Mine.D} (h : LV.ow d = u.kill k) : u = .ow d := by
  cases u with
  | ow d' => simpa [LV.kill] using h.symm
  | app j => simp only [LV.kill] at h; split at h <;> cases h
  | _ => cases h

theorem NowS.fresh {a : Addr} (N₀ : NowS prog w ρ h₀ Mu₀ c env Mu Wr α σ s₀) (hn : s₀.heap.get? a = none) : ¬ FrA env a ∧ ¬ Mu₀ a ∧ ∀ j d', σ[j]? = some (.ow d') → α j ≠ a := by
  have hmu : ¬ Mu a := fun h => by have := N₀.N.R.mu a h; rw [hn] at this; cases this
  refine ⟨fun hf => ?_, fun q => hmu (N₀.m0 _ q), fun j d' hj q => hmu (q ▸ (N₀.N.R.owns j d' hj).1)⟩
  obtain ⟨o, ho, _⟩ := FrA.data (N := N₀) hf
  rw [hn] at ho; cases ho

theorem store_own' {x : Str} {k : Nat} {a : Addr} {d : Mine.D} {Q : Unit → Shared → Prop} (N : NowS prog w ρ h₀ Mu₀ c env Mu Wr α σ s) (hx : c.v.lookup x = some k) (hW : Wr a) (hF : ¬ FrA env a ∧ ¬ Mu₀ a ∧ ∀ j d', σ[j]? = some (.ow d') → α j ≠ a)
    (ho : OwnAt prog w ρ Mu a d s.heap)
    (h : ∀ s', Grow Mu Wr Mu Wr s s' → NowS prog w ρ h₀ Mu₀ c env Mu Wr (fun j => if j = k then a else α j) (putO k d σ) s' → (∃ b, FrA env b ∧ Wrote b s s') → Q () s') :
    wpAny (model prog w) A (storeName env x (.ref a)) Q NoE s := by
  obtain ⟨hfr, hm0, hαa⟩ := hF
  refine store_name N (N.S.vkind _ _ hx) fun f s' hf W l hl hns hcl => h s' (W.grow (N.frw _ hf) N.N.R.tab (N.frT hf) (N.frC hf)) ?_ ⟨f, hf, W⟩
  have hMf : Mu f := N.wm _ (N.frw _ hf)
  refine { N := ⟨N.N.O, { W.st N.N.R.toSt hMf (N.frT hf) (N.frC hf) with slots := ?_, owns := ?_ }, by unfold putO; rw [List.length_set, List.length_map]; exact N.N.L, Nat.le_trans N.N.K W.toks⟩, S := N.S, frw := N.frw, oww := ?_, wm := N.wm, m0 := N.m0, inj := ?_, ns := hns, cells := hcl }
  · intro y j hy lv' hlv'
    rcases putO_get hlv' with ⟨rfl, rfl⟩ | ⟨hj, u, hu, rfl⟩
    · obtain rfl := N.S.vinj y x j hy hx
      show Loads env s'.heap y (.ref (if j = j then a else α j))
      rw [if_pos rfl]; exact l
    · have hyx : y ≠ x := by rintro rfl; rw [hx] at hy; cases hy; exact hj rfl
      have q := N.N.R.slots y j hy u hu
      cases u with
      | un => trivial
      | fz d => obtain ⟨v, l, r⟩ := q; exact ⟨v, hl y v hyx l, W.rd hMf r⟩
      | ow d =>
        show Loads env s'.heap y (.ref (if j = k then a else α j))
        rw [if_neg hj]; exact hl y _ hyx q
      | app i =>
        simp only [LV.kill]
        split
        · trivial
        · rename_i hi
          obtain ⟨p, o, l, ho, hc, hd⟩ := q
          refine ⟨p, o, hl y _ hyx l, W.same.extBut _ _ ?_ ho, hc, by dsimp only; rw [if_neg hi]; exact hd⟩
          rintro rfl
          obtain ⟨o', ho', q⟩ := FrA.data (N := N) hf
          rw [ho] at ho'; cases ho'
          rcases q with ⟨es, ep, q⟩ | ⟨v, q⟩ <;> rw [hd] at q <;> cases q
  · intro j d' hj
    rcases putO_get hj with ⟨rfl, e⟩ | ⟨hj', u, hu, e⟩
    · cases e
      rw [if_pos rfl]
      exact ⟨N.wm _ hW, W.ownAt hMf (fun q => hfr ((show a = f from q) ▸ hf)) ho⟩
    · obtain rfl := kill_ow e
      rw [if_neg hj']
      obtain ⟨h1, h2⟩ := N.N.R.owns j d' hu
      exact ⟨h1, W.ownAt hMf (fun q => (N.oww j d' hu).2.1 ((show α j = f from q) ▸ hf)) h2⟩
  · intro j d' hj
    rcases putO_get hj with ⟨rfl, e⟩ | ⟨hj', u, hu, e⟩
    · rw [if_pos rfl]
      exact ⟨hW, hfr, hm0⟩
    · obtain rfl := kill_ow e
      rw [if_neg hj']
      exact N.oww j d' hu
  · intro i j d1 d2 hi hj q
    rcases putO_get hi with ⟨rfl, _⟩ | ⟨hi', u, hu, e1⟩
    · rcases putO_get hj with ⟨rfl, _⟩ | ⟨hj', u', hu', e2⟩
      · rfl
      · obtain rfl := kill_ow e2
        simp only [if_true, if_neg hj'] at q
        exact absurd q.symm (hαa j d2 hu')
    · obtain rfl := kill_ow e1
      rcases putO_get hj with ⟨rfl, _⟩ | ⟨hj', u', hu', e2⟩
      · simp only [if_true, if_neg hi'] at q
        exact absurd q (hαa i d1 hu)
      · obtain rfl := kill_ow e2
        simp only [if_neg hi', if_neg hj'] at q
        exact N.inj i j d1 d2 hu hu' q

theorem OwnAt.some {a : Addr} {d : Mine.D} {h : Heap} (ho : OwnAt prog w ρ Mu a d h) : (h.get? a).isSome = true := by
  cases d with
  | list ds => obtain ⟨vs, n, ho, _⟩ := ho; rw [ho]; rfl
  | dict kds => obtain ⟨_, kvs, ⟨o, es, ep, ho, _⟩, _⟩ := ho; rw [ho]; rfl
  | _ => exact ho.elim
theorem store_own {x : Str} {k : Nat} {a : Addr} {d : Mine.D} {Q : Unit → Shared → Prop} (N₀ : NowS prog w ρ h₀ Mu₀ c env Mu Wr α σ s₀) (hx : c.v.lookup x = some k) (e : Ext s₀ s) (t : s₀.toks ≤ s.toks) (hn : s₀.heap.get? a = none)
    (ho : OwnAt prog w ρ (fun b => Mu b ∨ b = a) a d s.heap)
    (h : ∀ s', Grow Mu Wr (fun b => Mu b ∨ b = a) (fun b => Wr b ∨ b = a) s₀ s' → NowS prog w ρ h₀ Mu₀ c env (fun b => Mu b ∨ b = a) (fun b => Wr b ∨ b = a) (fun j => if j = k then a else α j) (putO k d σ) s' → Q () s') :
    wpAny (model prog w) A (storeName env x (.ref a)) Q NoE s :=
  store_own' (N₀.adopt e t hn ho.some) hx (.inr rfl) (N₀.fresh hn) ho fun s' g N' _ => h s' ((Grow.adopt e N₀.N.R.tab t hn).trans g) N'

/-- an own thing is written over -/
theorem NowS.own {k : Nat} {d d' : Mine.D} (N : NowS prog w ρ h₀ Mu₀ c env Mu Wr α σ s) (hk : σ[k]? = some (.ow d)) (W : Wrote (α k) s s') (ho : OwnAt prog w ρ Mu (α k) d' s'.heap) (hT : α k ≠ gT) (hC : α k ≠ gC) (happ : ∀ o, s.heap.get? (α k) = some o → ∀ vs, o.data ≠ .fields vs) :
    NowS prog w ρ h₀ Mu₀ c env Mu Wr α (σ.set k (.ow d')) s' := by
  obtain ⟨hWr, hfr, hm0⟩ := N.oww k d hk
  have hMa : Mu (α k) := N.wm _ hWr
  have hne : ∀ b, FrA env b → b ≠ α k := fun b hb q => hfr (q ▸ hb)
  have hl : ∀ y u, Loads env s.heap y u → Loads env s'.heap y u := by
    rintro y u (⟨hky, m', hm', hu⟩ | ⟨hky, b, hb, o, ho, hd⟩)
    · exact .inl ⟨hky, m', hm'.sameBut W.same (hne _ (.inl rfl)), hu⟩
    · exact .inr ⟨hky, b, hb, o, W.same.extBut _ _ (hne _ (.inr ⟨y, hb⟩)) ho, hd⟩
  refine { N := ⟨N.N.O, { W.st N.N.R.toSt hMa hT hC with slots := ?_, owns := ?_ }, by rw [List.length_set]; exact N.N.L, Nat.le_trans N.N.K W.toks⟩, S := N.S, frw := N.frw, oww := ?_, wm := N.wm, m0 := N.m0, inj := ?_, ns := ?_, cells := ?_ }
  · intro y j hy lv' hlv'
    have hold : ∃ u, σ[j]? = some u ∧ (lv' = u ∨ (j = k ∧ lv' = .ow d' ∧ u = .ow d)) := by
      rcases set_get hlv' with ⟨rfl, rfl⟩ | ⟨hj, hlv'⟩
      · exact ⟨_, hk, .inr ⟨rfl, rfl, rfl⟩⟩
      · exact ⟨_, hlv', .inl rfl⟩
    obtain ⟨u, hu, hq⟩ := hold
    have q := N.N.R.slots y j hy u hu
    rcases hq with rfl | ⟨rfl, rfl, rfl⟩
    · cases lv' with
      | un => trivial
      | fz d => obtain ⟨v, l, r⟩ := q; exact ⟨v, hl y v l, W.rd hMa r⟩
      | ow d => exact hl y _ q
      | app i =>
        obtain ⟨p, o, l, ho, hc, hd⟩ := q
        exact ⟨p, o, hl y _ l, W.same.extBut _ _ (by rintro rfl; exact happ o ho _ hd) ho, hc, hd⟩
    · exact hl y _ q
  · intro j d'' hj
    rcases set_get hj with ⟨rfl, e⟩ | ⟨hj', hj⟩
    · cases e; exact ⟨hMa, ho⟩
    · obtain ⟨h1, h2⟩ := N.N.R.owns j d'' hj
      exact ⟨h1, W.ownAt hMa (fun q => hj' (N.inj j k d'' d hj hk q)) h2⟩
  · intro j d'' hj
    rcases set_get hj with ⟨rfl, e⟩ | ⟨hj', hj⟩
    · exact ⟨hWr, hfr, hm0⟩
    · exact N.oww j d'' hj
  · intro i j d1 d2 hi hj q
    have hi' : ∃ d, σ[i]? = some (.ow d) := by
      rcases set_get hi with ⟨rfl, _⟩ | ⟨_, hi⟩
      · exact ⟨d, hk⟩
      · exact ⟨_, hi⟩
    have hj' : ∃ d, σ[j]? = some (.ow d) := by
      rcases set_get hj with ⟨rfl, _⟩ | ⟨_, hj⟩
      · exact ⟨d, hk⟩
      · exact ⟨_, hj⟩
    obtain ⟨e1, hi'⟩ := hi'
    obtain ⟨e2, hj'⟩ := hj'
    exact N.inj i j e1 e2 hi' hj' q
  · obtain ⟨m, hm⟩ := N.ns
    exact ⟨m, hm.sameBut W.same (hne _ (.inl rfl))⟩
  · intro y a ha
    obtain ⟨v, o, ho, hd⟩ := N.cells y a ha
    exact ⟨v, o, W.same.extBut _ _ (hne _ (.inr ⟨y, ha⟩)) ho, hd⟩
end
end Mine
end
section
set_option autoImplicit false
namespace Mine
open PySem PySem.W

def FlowOK (prog : Program) (w : World) (ρ : Addr) (Mu₀ : Addr → Prop) (s : Shared) : Fl → Flow → Prop
  | .next, .next => True
  | .brk, .brk => True
  | .ret d, .ret v => RD prog w ρ Mu₀ s.heap v d
  | _, _ => False

section
variable (prog : Program) (w : World) (ρ : Addr) (h₀ : Heap) (G : Nat → Option D) (Sg : Sig) (A : Around)
def SS (c : Ctx) (ps : PS) (st : Stmt) : Prop := ∀ {env : Env} {Mu₀ Mu Wr : Addr → Prop} {α : Nat → Addr} {σ : List LV} {s : Shared} {fl : Fl} {σ' : List LV} {Q : Flow → Shared → Prop}, NowS prog w ρ h₀ Mu₀ c env Mu Wr α σ s →
  exS G Sg ps σ = some (fl, σ') → (∀ f s' Mu' Wr' α', Grow Mu Wr Mu' Wr' s s' → NowS prog w ρ h₀ Mu₀ c env Mu' Wr' α' σ' s' → FlowOK prog w ρ Mu₀ s' fl f → Q f s') → wpAny (model prog w) A (exec st env) Q NoE s
def SSs (c : Ctx) (ps : PSs) (sts : List Stmt) : Prop := ∀ {env : Env} {Mu₀ Mu Wr : Addr → Prop} {α : Nat → Addr} {σ : List LV} {s : Shared} {fl : Fl} {σ' : List LV} {Q : Flow → Shared → Prop}, NowS prog w ρ h₀ Mu₀ c env Mu Wr α σ s →
  exSs G Sg ps σ = some (fl, σ') → (∀ f s' Mu' Wr' α', Grow Mu Wr Mu' Wr' s s' → NowS prog w ρ h₀ Mu₀ c env Mu' Wr' α' σ' s' → FlowOK prog w ρ Mu₀ s' fl f → Q f s') → wpAny (model prog w) A (execs sts env) Q NoE s
end

def isComp : Expr → Bool
  | .ListComp .. => true
  | .SetComp .. => true
  | .DictComp .. => true
  | _ => false
theorem noSwap {e : Expr} (h : isComp e = false) (t : Option Expr) (n : Nat) (env : Env) : swapsWith e t n env = pure false := by
  cases e <;> first | rfl | (simp [isComp] at h)

section
variable {prog : Program} {w : World} {ρ : Addr} {h₀ : Heap} {mg mb : Str → Option Value} {G : Nat → Option D} {Sg : Sig} {gname fname : Nat → Option Str} {fa : Nat → Addr} {X : Ctx → PE → Expr → Prop}
variable {A : Around} {s s' s'' s₀ : Shared} {Mu₀ Mu Wr Mu' Wr' Mu'' Wr'' : Addr → Prop} {α : Nat → Addr} {σ : List LV} {env : Env} {c : Ctx} {n : Nat}

theorem NowS.none_ne (N : NowS prog w ρ h₀ Mu₀ c env Mu Wr α σ s) {a : Addr} (h : s.heap.get? a = none) : a ≠ gT ∧ a ≠ gC := by
  refine ⟨fun q => ?_, fun q => ?_⟩
  · have := N.N.R.tab.has (.inr rfl); rw [← q, h] at this; cases this
  · have := N.N.R.tab.has (.inl rfl); rw [← q, h] at this; cases this

theorem SS.assign {k : Nat} {e : PE} {x : Str} {ex : Expr} {p1 p2 : Pos} (hx : c.v.lookup x = some k) (hc : isComp ex = false) (he : Snd prog w ρ h₀ G Sg A c e ex) : SS prog w ρ h₀ G Sg A c (.assign k e) (.Assign [.Name x p1] ex p2) := by
  intro env Mu₀ Mu Wr α σ s fl σ' Q N e1 h
  simp only [exS, Option.bind_eq_some_iff, Option.map_eq_some_iff] at e1
  obtain ⟨⟨d, tg⟩, ee, σ₁, hp, e1⟩ := e1
  cases e1
  refine wpAny_Assign_Name (he.ev N.N ee fun v s₁ x₁ t₁ v₁ => ?_) (noSwap hc _ _ _)
  have g1 : Grow Mu Wr Mu Wr s s₁ := .ext x₁ N.N.R.tab t₁
  cases tg with
  | fz =>
    cases hp
    exact store_fz (N.ext x₁ t₁) hx v₁ fun s' g N' => h _ _ _ _ _ (g1.trans g) N' trivial
  | fresh =>
    cases hp
    obtain ⟨a, rfl, hn, ho⟩ := v₁
    exact store_own N hx x₁ t₁ hn ho fun s' g N' => h _ _ _ _ _ g N' trivial
  | own j => cases hp

theorem OwnAt.ret {M : Addr → Prop} {a : Addr} {d : Mine.D} {h : Heap} (hm : ∀ b, ¬ M b → ¬ Mu₀ b) (hn : ¬ Mu₀ a) (o : OwnAt prog w ρ M a d h) : RD prog w ρ Mu₀ h (.ref a) d := by
  cases d with
  | list ds => obtain ⟨vs, n, ho, hr⟩ := o; exact .list hn ⟨n, ho⟩ (hr.mono hm fun _ _ _ e => e)
  | dict kds => obtain ⟨hs, kvs, ho, hr⟩ := o; exact .dict hn hs ho (hr.mono hm fun _ _ _ e => e)
  | _ => exact o.elim
theorem SS.ret {e : PE} {ex : Expr} {p : Pos} (he : Snd prog w ρ h₀ G Sg A c e ex) : SS prog w ρ h₀ G Sg A c (.ret e) (.Return (some ex) p) := by
  intro env Mu₀ Mu Wr α σ s fl σ' Q N e1 h
  simp only [exS, Option.map_eq_some_iff] at e1
  obtain ⟨⟨d, tg⟩, ee, e1⟩ := e1
  cases e1
  refine wpAny_Return_some (he.ev N.N ee fun v s₁ x₁ t₁ v₁ => h _ _ _ _ _ (.ext x₁ N.N.R.tab t₁) (N.ext x₁ t₁) ?_)
  show RD prog w ρ Mu₀ s₁.heap v d
  have m0 : ∀ b, ¬ Mu b → ¬ Mu₀ b := fun b h q => h (N.m0 b q)
  cases tg with
  | fz => exact RD.mono m0 (fun _ _ _ e => e) v₁
  | fresh =>
    obtain ⟨a, rfl, hn, ho⟩ := v₁
    exact ho.ret (fun b h q => h (.inl (N.m0 b q))) (N.fresh hn).2.1
  | own j =>
    obtain rfl : v = .ref (α j) := v₁
    exact (N.N.own x₁ ee j rfl).ret m0 (N.oww j d (evE_own e ee)).2.2
theorem SS.brk {p : Pos} : SS prog w ρ h₀ G Sg A c .brk (.Break p) := by
  intro env Mu₀ Mu Wr α σ s fl σ' Q N e1 h
  cases e1
  exact wpAny_Break (h _ _ _ _ _ (.refl s) N trivial)
theorem SS.assert_ {e : PE} {ex : Expr} {msg : Option Expr} {p : Pos} (he : Snd prog w ρ h₀ G Sg A c e ex) : SS prog w ρ h₀ G Sg A c (.assert_ e) (.Assert ex msg p) := by
  intro env Mu₀ Mu Wr α σ s fl σ' Q N e1 h
  simp only [exS, Option.bind_eq_some_iff] at e1
  obtain ⟨x, ee, t, ht, e1⟩ := e1
  cases t with
  | false => cases e1
  | true =>
    cases e1
    exact wpAny_Assert_holds (he.ts N.N ee ht fun s₁ x₁ t₁ => ⟨rfl, h _ _ _ _ _ (.ext x₁ N.N.R.tab t₁) (N.ext x₁ t₁) trivial⟩)
theorem SSs.nil : SSs prog w ρ h₀ G Sg A c .nil [] := by
  intro env Mu₀ Mu Wr α σ s fl σ' Q N e1 h
  cases e1
  exact wpAny_execs_nil (h _ _ _ _ _ (.refl s) N trivial)
theorem SSs.cons {a : PS} {r : PSs} {st : Stmt} {sts : List Stmt} (ha : SS prog w ρ h₀ G Sg A c a st) (hr : SSs prog w ρ h₀ G Sg A c r sts) : SSs prog w ρ h₀ G Sg A c (.cons a r) (st :: sts) := by
  intro env Mu₀ Mu Wr α σ s fl σ' Q N e1 h
  simp only [exSs, Option.bind_eq_some_iff] at e1
  obtain ⟨⟨f1, σ₁⟩, e2, e1⟩ := e1
  refine wpAny_execs_cons (ha N e2 fun f s₁ Mu' Wr' α' g N' hf => ?_)
  cases f1 with
  | next =>
    cases f <;> first | exact hf.elim | skip
    exact hr N' e1 fun f s₂ Mu'' Wr'' α'' g' N'' hf => h f s₂ _ _ _ (g.trans g') N'' hf
  | brk => cases e1; cases f <;> first | exact hf.elim | exact h _ _ _ _ _ g N' hf
  | ret d => cases e1; cases f <;> first | exact hf.elim | exact h _ _ _ _ _ g N' hf
theorem SS.ite {q : PE} {a b : PSs} {t : Expr} {xs ys : List Stmt} {p : Pos} (hq : Snd prog w ρ h₀ G Sg A c q t) (ha : SSs prog w ρ h₀ G Sg A c a xs) (hb : SSs prog w ρ h₀ G Sg A c b ys) : SS prog w ρ h₀ G Sg A c (.ite q a b) (.If t xs ys p) := by
  intro env Mu₀ Mu Wr α σ s fl σ' Q N e1 h
  simp only [exS, Option.bind_eq_some_iff] at e1
  obtain ⟨x, ee, t, ht, e1⟩ := e1
  refine wpAny_If (hq.ts N.N ee ht fun s₁ x₁ t₁ => ?_)
  have g1 : Grow Mu Wr Mu Wr s s₁ := .ext x₁ N.N.R.tab t₁
  cases t with
  | true => exact ha (N.ext x₁ t₁) e1 fun f s₂ _ _ _ g' N'' hf => h f s₂ _ _ _ (g1.trans g') N'' hf
  | false => exact hb (N.ext x₁ t₁) e1 fun f s₂ _ _ _ g' N'' hf => h f s₂ _ _ _ (g1.trans g') N'' hf
theorem SS.try_ {a : PSs} {xs : List Stmt} {hd : ExceptHandler} {hs : List ExceptHandler} {p : Pos} (ha : SSs prog w ρ h₀ G Sg A c a xs) : SS prog w ρ h₀ G Sg A c (.try_ a) (.Try xs (hd :: hs) [] [] p) := by
  intro env Mu₀ Mu Wr α σ s fl σ' Q N e1 h
  refine wpAny_Try_except (wpAny_mono (ha N (by simpa only [exS] using e1) fun f s₁ _ _ _ g N' hf => ?_) (fun _ _ h => h) fun _ _ h => h.elim)
  cases f with
  | next => exact wpAny_execs_nil (h _ _ _ _ _ g N' hf)
  | _ => exact h _ _ _ _ _ g N' hf
end
end Mine
end
section
set_option autoImplicit false
namespace Mine
open PySem PySem.W

section
variable {prog : Program} {w : World} {ρ : Addr} {h₀ : Heap} {mg mb : Str → Option Value} {G : Nat → Option D} {Sg : Sig} {gname fname : Nat → Option Str} {fa : Nat → Addr} {X : Ctx → PE → Expr → Prop}
variable {A : Around} {s s' s'' s₀ : Shared} {Mu₀ Mu Wr Mu' Wr' Mu'' Wr'' : Addr → Prop} {α : Nat → Addr} {σ : List LV} {env : Env} {c : Ctx} {n : Nat}

theorem NowS.lst {k : Nat} {l : List Mine.D} (N : NowS prog w ρ h₀ Mu₀ c env Mu Wr α σ s) (hk : σ[k]? = some (.ow (.list l))) : ∃ vs n, s.heap.get? (α k) = some { cls := .type "list", data := .seq vs.toArray n } ∧ RDs prog w ρ Mu s.heap vs l := (N.N.R.owns k _ hk).2
theorem NowS.dct {k : Nat} {l : List (List Nat × Mine.D)} (N : NowS prog w ρ h₀ Mu₀ c env Mu Wr α σ s) (hk : σ[k]? = some (.ow (.dict l))) : (α k == sysModules) = false ∧ ∃ kvs, s.heap.DictOf (sk prog w) (α k) kvs ∧ REs prog w ρ Mu s.heap kvs l := (N.N.R.owns k _ hk).2
/-- the list of a slot is written over -/
theorem NowS.putL {k : Nat} {l l' : List Mine.D} {vs : List Value} {h' : Heap} (N : NowS prog w ρ h₀ Mu₀ c env Mu Wr α σ s) (hk : σ[k]? = some (.ow (.list l))) (hs : Heap.SameBut (α k) s.heap h') (hp : h'.PlainList (α k) vs.toArray) (hr : RDs prog w ρ Mu s.heap vs l') :
    Grow Mu Wr Mu Wr s { s with heap := h' } ∧ NowS prog w ρ h₀ Mu₀ c env Mu Wr α (σ.set k (.ow (.list l'))) { s with heap := h' } := by
  obtain ⟨us, n, ho, _⟩ := N.lst hk
  have hT := ne_gT' N.N.R.tab ho nofun
  have hC := N.N.R.tab.code ho (by dsimp only; nofun)
  obtain ⟨n', hp⟩ := hp
  have W : Wrote (α k) s { s with heap := h' } := ⟨hs, by dsimp only; rw [hp]; rfl, rfl, rfl, Nat.le_refl _⟩
  refine ⟨W.grow (N.oww k _ hk).1 N.N.R.tab hT hC, N.own hk W ⟨vs, n', hp, W.rds (N.N.R.owns k _ hk).1 hr⟩ hT hC fun o e vs q => ?_⟩
  rw [ho] at e; cases e; cases q
theorem NowS.putDct {k : Nat} {l l' : List (List Nat × Mine.D)} {kvs : List (Str × Value)} {h' : Heap} {tk : Nat} (N : NowS prog w ρ h₀ Mu₀ c env Mu Wr α σ s) (hk : σ[k]? = some (.ow (.dict l))) (hs : Heap.SameBut (α k) s.heap h') (hp : h'.DictOf (sk prog w) (α k) kvs) (hr : REs prog w ρ Mu s.heap kvs l')
    (ht : s.toks ≤ tk) : Grow Mu Wr Mu Wr s { s with heap := h', toks := tk } ∧ NowS prog w ρ h₀ Mu₀ c env Mu Wr α (σ.set k (.ow (.dict l'))) { s with heap := h', toks := tk } := by
  obtain ⟨hm, us, ⟨o, es, ep, ho, _, hd, _⟩, _⟩ := N.dct hk
  have hT := ne_gT N.N.R.tab ho (by rw [hd]; nofun)
  have hC := N.N.R.tab.codeD ho (by rw [hd]; nofun)
  have W : Wrote (α k) s { s with heap := h', toks := tk } := ⟨hs, by obtain ⟨o, _, _, ho, _⟩ := hp; dsimp only; rw [ho]; rfl, rfl, rfl, ht⟩
  refine ⟨W.grow (N.oww k _ hk).1 N.N.R.tab hT hC, N.own hk W ⟨hm, kvs, hp, W.res (N.N.R.owns k _ hk).1 hr⟩ hT hC fun o' e vs q => ?_⟩
  rw [ho] at e; cases e; rw [hd] at q; cases q

theorem own_load {x : Str} {k : Nat} {d : Mine.D} {q : Pos} {Q : Value → Shared → Prop} (N : NowS prog w ρ h₀ Mu₀ c env Mu Wr α σ s) (hx : c.v.lookup x = some k) (hk : σ[k]? = some (.ow d)) (hd : (x == ("__debug__" : Str)) = false) (h : Q (.ref (α k)) s) :
    wpAny (model prog w) A (eval (.Name x q) env) Q NoE s :=
  wpAny_Name (load_slot N.N.O (N.N.R.slots x k hx _ hk) h) hd

theorem SS.appnd {k : Nat} {e : PE} {x nm : Str} {ex : Expr} {q ap p p2 : Pos} (hn : nm = "append") (hx : c.v.lookup x = some k) (hd : (x == ("__debug__" : Str)) = false) (hline : (ap.endLine == p.line) = true) (he : Snd prog w ρ h₀ G Sg A c e ex)
    (hs : ∀ rest env, starEach (ex :: rest) env = (false, eval ex env) :: starEach rest env) : SS prog w ρ h₀ G Sg A c (.appnd k e) (.Expr (.Call (.Attribute (.Name x q) nm ap) [ex] [] p) p2) := by
  intro env Mu₀ Mu Wr α σ s fl σ' Q N e1 h
  subst hn
  simp only [exS, Option.bind_eq_some_iff] at e1
  obtain ⟨y, ee, d, hy, e1⟩ := e1
  split at e1
  · rename_i l hk
    split at e1
    · rename_i hl
      cases e1
      have hb : backTo p (starEach [ex] env) = [(false, eval ex env)] := by rw [hs]; rfl
      refine wpAny_Expr_any (wpAny_Call_append rfl (by rw [hb]; rfl) hline hb (own_load N hx hk hd ?_)) (by unfold interactive; rw [N.N.O.kind]; rfl)
      obtain ⟨vs, n, ho, hr⟩ := N.lst hk
      refine ⟨α k, vs.toArray, rfl, ⟨_, n, ho, rfl, rfl, rfl⟩, he.ev N.N ee fun v s₁ x₁ t₁ v₁ => ?_⟩
      have N1 := N.ext x₁ t₁
      obtain ⟨vs, n, ho, hr⟩ := N1.lst hk
      refine wpAny_list_append_plain (hsz := by rw [List.size_toArray, hr.length, sizeLine_eq]; omega) ⟨n, ho⟩ fun h' hp hs' => ?_
      obtain ⟨g, N2⟩ := N1.putL (l' := l ++ [d]) (vs := vs ++ [v]) hk hs' (by simpa using hp) (hr.append (.cons (v₁.frozen N.N.R.toSt hy) .nil))
      exact h _ _ _ _ _ ((Grow.ext x₁ N.N.R.tab t₁).trans g) N2 trivial
    · cases e1
  · cases e1

theorem REs.put {h : Heap} {key : List Nat} {v : Value} {d : Mine.D} (hv : RD prog w ρ Mu h v d) : ∀ {kvs : List (Str × Value)} {kds : List (List Nat × Mine.D)}, REs prog w ρ Mu h kvs kds →
    REs prog w ρ Mu h (kvs.map fun kv => if kv.1 = (⟨key.toArray⟩ : Str) then (kv.1, v) else kv) (kds.map fun p => if p.1 == key then (key, d) else p)
  | _, _, .nil => .nil
  | _, _, .cons (s := s) a r => by
    simp only [List.map_cons]
    by_cases e : s = key
    · subst e
      simp only [if_true, beq_self_eq_true]
      exact .cons hv (REs.put hv r)
    · have e1 : ¬ (⟨s.toArray⟩ : Str) = ⟨key.toArray⟩ := fun q => e (by simpa using q)
      have e2 : (s == key) = false := by simpa using e
      simp only [if_neg e1, e2, Bool.false_eq_true, if_false]
      exact .cons a (REs.put hv r)
theorem REs.append {h : Heap} : ∀ {kvs : List (Str × Value)} {kds : List (List Nat × Mine.D)} {kvs' : List (Str × Value)} {kds' : List (List Nat × Mine.D)}, REs prog w ρ Mu h kvs kds → REs prog w ρ Mu h kvs' kds' → REs prog w ρ Mu h (kvs ++ kvs') (kds ++ kds')
  | _, _, _, _, .nil, y => y
  | _, _, _, _, .cons a r, y => .cons a (REs.append r y)
theorem REs.any {h : Heap} {key : List Nat} : ∀ {kvs : List (Str × Value)} {kds : List (List Nat × Mine.D)}, REs prog w ρ Mu h kvs kds → (kvs.any fun kv => decide (kv.1 = (⟨key.toArray⟩ : Str))) = kds.any (·.1 == key)
  | _, _, .nil => rfl
  | _, _, .cons (s := s) a r => by
    simp only [List.any_cons, REs.any r]
    congr 1
    rw [Bool.eq_iff_iff]; simp
theorem REs.stored {h : Heap} {key : List Nat} {v : Value} {d : Mine.D} (hv : RD prog w ρ Mu h v d) {kvs : List (Str × Value)} {kds : List (List Nat × Mine.D)} (r : REs prog w ρ Mu h kvs kds) : REs prog w ρ Mu h (PySem.stored kvs ⟨key.toArray⟩ v) (putD kds key d) := by
  unfold PySem.stored putD
  rw [r.any]
  split
  · exact r.put hv
  · exact r.append (.cons hv .nil)

theorem SS.setD {k : Nat} {i v : PE} {x : Str} {ix vx : Expr} {q p1 p2 : Pos} (hx : c.v.lookup x = some k) (hd : (x == ("__debug__" : Str)) = false) (hc : isComp vx = false) (hi : Snd prog w ρ h₀ G Sg A c i ix) (hv : Snd prog w ρ h₀ G Sg A c v vx) :
    SS prog w ρ h₀ G Sg A c (.setD k i v) (.Assign [.Subscript (.Name x q) ix p1] vx p2) := by
  intro env Mu₀ Mu Wr α σ s fl σ' Q N e1 h
  simp only [exS, Option.bind_eq_some_iff] at e1
  obtain ⟨y, ev, d, hy, ⟨z, tz⟩, ei, e1⟩ := e1
  dsimp only at e1
  split at e1
  · rename_i l key hk
    split at e1
    · rename_i hl
      cases e1
      refine stepT (wpAny_Assign_Subscript (hv.ev N.N ev fun a s₁ x₁ t₁ v₁ => ?_) (noSwap hc _ _ _))
      have N1 := N.ext x₁ t₁
      refine own_load N1 hx hk hd (hi.ev N1.N ei fun b s₂ x₂ t₂ v₂ => ?_)
      have N2 := N1.ext x₂ t₂
      have r2 := N1.N.rw x₂ ei v₂
      cases r2 with
      | str _ t =>
      obtain ⟨hm, kvs, hdo, hr⟩ := N2.dct hk
      refine wpAny_setItem_pairs (knd := sk prog w) (k := ⟨key.toArray⟩) (by show ((⟨key.toArray⟩ : Str) == ⟨key.toArray⟩) = true; simp) hdo (fun h' hp hs' tt => ?_) (by rw [hr.length, sizeLine_eq]; omega)
      obtain ⟨g, N3⟩ := N2.putDct (l' := putD l key d) hk hs' hp (hr.stored (x₂.rd N.N.R.mug (v₁.frozen N.N.R.toSt hy))) (Nat.le_succ _)
      exact h _ _ _ _ _ ((Grow.ext (x₁.trans x₂) N.N.R.tab (Nat.le_trans t₁ t₂)).trans g) N3 trivial
    · cases e1
  · cases e1

theorem place_lt {n p : Nat} {i : Int} (h : place n i = some p) : p < n ∧ ((0 ≤ i ∧ i < n ∧ p = i.toNat) ∨ (i < 0 ∧ -(n : Int) ≤ i ∧ p = (i + n).toNat)) := by
  unfold place at h
  split at h
  · split at h
    · cases h; omega
    · cases h
  · split at h
    · cases h; omega
    · cases h
theorem set_item {k : Nat} {l : List Mine.D} {i : Int} {t : Tok} {p : Nat} {a : Value} {d : Mine.D} {Q : Unit → Shared → Prop} (N : NowS prog w ρ h₀ Mu₀ c env Mu Wr α σ s) (hk : σ[k]? = some (.ow (.list l))) (hl : l.length ≤ 1000000) (hp : place l.length i = some p) (ha : RD prog w ρ Mu s.heap a d)
    (h : ∀ s', Grow Mu Wr Mu Wr s s' → NowS prog w ρ h₀ Mu₀ c env Mu Wr α (σ.set k (.ow (.list (l.set p d)))) s' → Q () s') : wpAny (model prog w) A (setItem (.ref (α k)) (.int i t) a) Q NoE s := by
  obtain ⟨vs, n, ho, hr⟩ := N.lst hk
  obtain ⟨hlt, hp⟩ := place_lt hp
  have hz : vs.toArray.size = l.length := by rw [List.size_toArray, hr.length]
  have fin : ∀ j, j = p → Q () { s with heap := s.heap.update (α k) (Obj.mapSeq (·.setIfInBounds j a)) } := by
    rintro j rfl
    have hpl : (s.heap.update (α k) (Obj.mapSeq (·.setIfInBounds j a))).PlainList (α k) (vs.set j a).toArray := by
      have := PyProof.Rows.get?_update_seq ho (fun z => z.setIfInBounds j a)
      exact ⟨n, by simpa using this⟩
    obtain ⟨g, N2⟩ := N.putL (l' := l.set j d) (vs := vs.set j a) hk (Heap.SameBut.update ..) hpl (hr.set ha j)
    exact h _ g N2
  rcases hp with ⟨h0, h1, rfl⟩ | ⟨h0, h1, rfl⟩
  · exact ki_setAt ho h0 (by omega) (by rw [hz]; exact h1) (fin _ rfl)
  · exact ki_setBack ho h0 (by rw [hz]; exact h1) (by omega) (fin _ (by rw [hz]))
theorem SS.setL {k : Nat} {i v : PE} {x : Str} {ix vx : Expr} {q p1 p2 : Pos} (hx : c.v.lookup x = some k) (hd : (x == ("__debug__" : Str)) = false) (hc : isComp vx = false) (hi : Snd prog w ρ h₀ G Sg A c i ix) (hv : Snd prog w ρ h₀ G Sg A c v vx) :
    SS prog w ρ h₀ G Sg A c (.setL k i v) (.Assign [.Subscript (.Name x q) ix p1] vx p2) := by
  intro env Mu₀ Mu Wr α σ s fl σ' Q N e1 h
  simp only [exS, Option.bind_eq_some_iff] at e1
  obtain ⟨y, ev, d, hy, ⟨z, tz⟩, ei, e1⟩ := e1
  dsimp only at e1
  split at e1
  · rename_i l m hk
    split at e1
    · cases e1
    rename_i hl
    obtain ⟨p, hp, e1⟩ := Option.map_eq_some_iff.mp e1
    cases e1
    refine wpAny_Assign_Subscript (hv.ev N.N ev fun a s₁ x₁ t₁ v₁ => ?_) (noSwap hc _ _ _)
    have N1 := N.ext x₁ t₁
    refine own_load N1 hx hk hd (hi.ev N1.N ei fun b s₂ x₂ t₂ v₂ => ?_)
    have N2 := N1.ext x₂ t₂
    have r2 := N1.N.rw x₂ ei v₂
    cases r2
    exact set_item N2 hk (by omega) hp (x₂.rd N.N.R.mug (v₁.frozen N.N.R.toSt hy)) fun s' g N3 => h _ _ _ _ _ ((Grow.ext (x₁.trans x₂) N.N.R.tab (Nat.le_trans t₁ t₂)).trans g) N3 trivial
  · cases e1

theorem inplace_sound {op : BOp} {o : Operator} {a b : Mine.D} {va vb : Value} {d : Mine.D} {Q : Value → Shared → Prop} (ho : o = opOf op) (hop : op = .add ∨ op = .fdiv) (ha : RD prog w ρ Mu s.heap va a) (hb : RW prog w ρ Mu s.heap vb b) (e : binOp op a b = some (d, .fz))
    (h : ∀ v s', Ext s s' → RD prog w ρ Mu s'.heap v d → Q v s') : wpAny (model prog w) A (inplaceOp o va vb) Q NoE s := by
  subst ho
  rcases hop with rfl | rfl
  · have hc : (∃ i j, a = .int i ∧ b = .int j) ∨ (∃ x y, a = .str x ∧ b = .str y) ∨ ∃ x y, a = .list x ∧ b = .list y := by
      cases a <;> cases b <;> first | (simp [binOp] at e; done) | exact .inl ⟨_, _, rfl, rfl⟩ | exact .inr (.inl ⟨_, _, rfl, rfl⟩) | exact .inr (.inr ⟨_, _, rfl, rfl⟩)
    rcases hc with ⟨i, j, rfl, rfl⟩ | ⟨x, y, rfl, rfl⟩ | ⟨x, y, rfl, rfl⟩
    · cases ha; cases hb; cases e; exact PyProof.Rows.iadd_int (h _ _ .toks (.int _ _))
    · cases ha; cases hb
      simp only [binOp] at e
      split at e
      · rename_i hl; cases e
        refine PyProof.Rows.iadd_str (fun t' k => ?_) (by rw [str_length, str_length]; exact hl)
        rw [str_append]; exact h _ _ .toks (.str _ _)
      · cases e
    · simp only [binOp] at e
      split at e <;> cases e
  · have hc : ∃ i j, a = .int i ∧ b = .int j := by
      cases a <;> cases b <;> first | (simp [binOp] at e; done) | exact ⟨_, _, rfl, rfl⟩
    obtain ⟨i, j, rfl, rfl⟩ := hc
    cases ha; cases hb
    simp only [binOp] at e
    split at e
    · rename_i hl; cases e
      obtain ⟨h1, h2⟩ := Bool.and_eq_true_iff.mp hl
      exact PyProof.Rows.ifloordiv_int (by simpa using h2) (h _ _ .toks (.int _ _)) (.inl (PyProof.noPylong_small (of_decide_eq_true h1)))
    · cases e
end
end Mine
end
section
set_option autoImplicit false
namespace Mine
open PySem PySem.W

section
variable {prog : Program} {w : World} {ρ : Addr} {h₀ : Heap} {mg mb : Str → Option Value} {G : Nat → Option D} {Sg : Sig} {gname fname : Nat → Option Str} {fa : Nat → Addr} {X : Ctx → PE → Expr → Prop}
variable {A : Around} {s s' s'' s₀ : Shared} {Mu₀ Mu Wr Mu' Wr' Mu'' Wr'' : Addr → Prop} {α : Nat → Addr} {σ : List LV} {env : Env} {c : Ctx} {n : Nat}

theorem SS.aug {k : Nat} {op : BOp} {o : Operator} {e : PE} {x : Str} {ex : Expr} {q p : Pos} (hx : c.v.lookup x = some k) (ho : o = opOf op) (hop : op = .add ∨ op = .fdiv) (he : Snd prog w ρ h₀ G Sg A c e ex) :
    SS prog w ρ h₀ G Sg A c (.aug k op e) (.AugAssign (.Name x q) o ex p) := by
  intro env Mu₀ Mu Wr α σ s fl σ' Q N e1 h
  simp only [exS, Option.bind_eq_some_iff] at e1
  obtain ⟨lv, hk, e1⟩ := e1
  cases lv with
  | fz old =>
    simp only [Option.bind_eq_some_iff] at e1
    obtain ⟨y, ee, ⟨d, tg⟩, hb, e1⟩ := e1
    cases tg with
    | fz =>
      cases e1
      obtain ⟨v, l, hv⟩ := N.N.R.slots x k hx _ hk
      refine wpAny_AugAssign_Name (load_slot N.N.O l (he.ev N.N ee fun u s₁ x₁ t₁ v₁ => stepT (inplace_sound ho hop (x₁.rd N.N.R.mug hv) (N.N.rw x₁ ee v₁) hb fun r s₂ x₂ r₂ t₂ => ?_)))
      have x12 := x₁.trans x₂
      have t12 := Nat.le_trans t₁ t₂
      exact store_fz (N.ext x12 t12) hx r₂ fun s' g N' => h _ _ _ _ _ ((Grow.ext x12 N.N.R.tab t12).trans g) N' trivial
    | _ => cases e1
  | _ => cases e1

theorem SS.augIdx {k : Nat} {i : PE} {op : BOp} {o : Operator} {e : PE} {x : Str} {ix ex : Expr} {q p1 p : Pos} (hx : c.v.lookup x = some k) (hd : (x == ("__debug__" : Str)) = false) (ho : o = opOf op) (hop : op = .add ∨ op = .fdiv)
    (hi : Snd prog w ρ h₀ G Sg A c i ix) (he : Snd prog w ρ h₀ G Sg A c e ex) (hst : ∀ ov iv new, augStore ix ov iv new = (do holding [new, ov, iv] (setItem ov iv new); release [new, ov, iv] []; pure .next)) :
    SS prog w ρ h₀ G Sg A c (.augIdx k i op e) (.AugAssign (.Subscript (.Name x q) ix p1) o ex p) := by
  intro env Mu₀ Mu Wr α σ s fl σ' Q N e1 h
  simp only [exS, Option.bind_eq_some_iff] at e1
  obtain ⟨⟨z, tz⟩, ei, e1⟩ := e1
  dsimp only at e1
  split at e1
  · rename_i l m hk
    split at e1
    · cases e1
    rename_i hl
    simp only [Option.bind_eq_some_iff] at e1
    obtain ⟨j, hj, old, hold, y, ee, ⟨d, tg⟩, hb, e1⟩ := e1
    cases tg with
    | fz =>
      cases e1
      refine wpAny_AugAssign_SubscriptAny (own_load N hx hk hd (hi.ev N.N ei fun b s₁ x₁ t₁ v₁ => ?_)) hst
      have N1 := N.ext x₁ t₁
      have r1 := N.N.rw x₁ ei v₁
      cases r1 with
      | int _ t =>
      obtain ⟨vs, nn, hlo, hr⟩ := N1.lst hk
      obtain ⟨a, ha, hra⟩ := hr.get hold
      have hz : vs.toArray.size = l.length := by rw [List.size_toArray, hr.length]
      have go : wpAny (model prog w) A (eval ex env) (fun v s₄ => wpAny (model prog w) A (inplaceOp o a v) (fun new s₅ => wpAny (model prog w) A (setItem (.ref (α k)) (.int m t) new) (fun _ => Q .next) NoE s₅) NoE s₄) NoE s₁ := by
        refine he.ev N1.N ee fun u s₂ x₂ t₂ v₂ => stepT (inplace_sound ho hop (x₂.rd N.N.R.mug hra) (N1.N.rw x₂ ee v₂) hb fun r s₃ x₃ r₃ t₃ => ?_)
        have x13 := x₁.trans (x₂.trans x₃)
        have t13 := Nat.le_trans t₁ (Nat.le_trans t₂ t₃)
        exact set_item (N.ext x13 t13) hk (by omega) hj r₃ fun s' g N' => h _ _ _ _ _ ((Grow.ext x13 N.N.R.tab t13).trans g) N' trivial
      obtain ⟨hlt, hp⟩ := place_lt hj
      rcases hp with ⟨h0, h1, rfl⟩ | ⟨h0, h1, rfl⟩
      · exact wpAny_getItem_list ⟨_, hlo, rfl, nn, rfl⟩ h0 (by omega) (by simpa using ha) go
      · exact wpAny_getItem_list_neg ⟨_, hlo, rfl, nn, rfl⟩ h0 (by rw [hz]; exact h1) (by omega) (by rw [hz]; simpa using ha) go
    | _ => cases e1
  · cases e1

theorem SS.delL {k : Nat} {i : PE} {x : Str} {ix : Expr} {q p1 p : Pos} (hx : c.v.lookup x = some k) (hd : (x == ("__debug__" : Str)) = false) (hi : Snd prog w ρ h₀ G Sg A c i ix) :
    SS prog w ρ h₀ G Sg A c (.delL k i) (.Delete [.Subscript (.Name x q) ix p1] p) := by
  intro env Mu₀ Mu Wr α σ s fl σ' Q N e1 h
  simp only [exS, Option.bind_eq_some_iff] at e1
  obtain ⟨⟨z, tz⟩, ei, e1⟩ := e1
  dsimp only at e1
  split at e1
  · rename_i l m hk
    split at e1
    · cases e1
    rename_i hl
    obtain ⟨j, hj, e1⟩ := Option.map_eq_some_iff.mp e1
    cases e1
    refine wpAny_Delete (wpAny_deleteEach_cons (wpAny_delete_Subscript (own_load N hx hk hd (hi.ev N.N ei fun b s₁ x₁ t₁ v₁ => ?_))))
    have N1 := N.ext x₁ t₁
    have r1 := N.N.rw x₁ ei v₁
    cases r1 with
    | int _ t =>
    obtain ⟨vs, nn, hlo, hr⟩ := N1.lst hk
    have hz : vs.toArray.size = l.length := by rw [List.size_toArray, hr.length]
    obtain ⟨hlt, hp⟩ := place_lt hj
    have hk' : seqIndex? m vs.toArray.size = some j := by
      rw [hz]
      rcases hp with ⟨h0, h1, rfl⟩ | ⟨h0, h1, rfl⟩
      · exact StrLaws.seqIndex_nonneg h0 h1
      · exact StrLaws.seqIndex_neg h0 h1
    refine PyProof.Rows.delItem_at (hsz := by rw [hz, sizeLine_eq]; omega) hlo (by simp [Builtin.List.listFitsIndex]; omega) hk' fun h' hs' hp' => wpAny_deleteEach_nil ?_
    obtain ⟨g, N2⟩ := N1.putL (l' := l.eraseIdx j) (vs := vs.eraseIdx j) hk hs' ⟨_, by simpa using hp'⟩ (hr.eraseIdx j)
    exact h _ _ _ _ _ ((Grow.ext x₁ N.N.R.tab t₁).trans g) N2 trivial
  · cases e1

theorem NowS.change (N : NowS prog w ρ h₀ Mu₀ c env Mu Wr α σ s) (st : St h₀ Mu' s') (hm : ∀ b, ¬ Mu b → ¬ Mu' b) (hk : ∀ b o, ¬ Mu b → s.heap.get? b = some o → s'.heap.get? b = some o) (hfr : ∀ b o, FrA env b → s.heap.get? b = some o → s'.heap.get? b = some o)
    (hown : ∀ k d o, σ[k]? = some (.ow d) → s.heap.get? (α k) = some o → s'.heap.get? (α k) = some o) (happ : ∀ q o, s.heap.get? q = some o → o.cls = .type "builtin_function_or_method" → (∃ vs, o.data = .fields vs) → s'.heap.get? q = some o)
    (frw : ∀ b, FrA env b → Wr' b) (oww : ∀ k d, σ[k]? = some (.ow d) → Wr' (α k)) (wm : ∀ b, Wr' b → Mu' b) (m0 : ∀ b, Mu₀ b → Mu' b) (t : s.toks ≤ s'.toks) : NowS prog w ρ h₀ Mu₀ c env Mu' Wr' α σ s' := by
  have hl : ∀ y u, Loads env s.heap y u → Loads env s'.heap y u := by
    rintro y u (⟨hky, m', ⟨o, es, ep, ho, hd, q⟩, hu⟩ | ⟨hky, b, hb, o, ho, hd⟩)
    · exact .inl ⟨hky, m', ⟨o, es, ep, hfr _ _ (.inl rfl) ho, hd, q⟩, hu⟩
    · exact .inr ⟨hky, b, hb, o, hfr _ _ (.inr ⟨y, hb⟩) ho, hd⟩
  refine ⟨⟨N.N.O, { st with slots := ?_, owns := ?_ }, N.N.L, Nat.le_trans N.N.K t⟩, N.S, frw, fun k d h => ⟨oww k d h, (N.oww k d h).2⟩, wm, m0, N.inj, ?_, ?_⟩
  · intro y j hy lv hlv
    have q := N.N.R.slots y j hy lv hlv
    cases lv with
    | un => trivial
    | fz d => obtain ⟨v, l, r⟩ := q; exact ⟨v, hl y v l, r.mono hm hk⟩
    | ow d => exact hl y _ q
    | app i => obtain ⟨p, o, l, ho, hc, hd⟩ := q; exact ⟨p, o, hl y _ l, happ p o ho hc ⟨_, hd⟩, hc, hd⟩
  · intro j d hj
    refine ⟨wm _ (oww j d hj), ?_⟩
    obtain ⟨_, h2⟩ := N.N.R.owns j d hj
    cases d with
    | list ds => obtain ⟨vs, n, ho, hr⟩ := h2; exact ⟨vs, n, hown j _ _ hj ho, hr.mono hm hk⟩
    | dict kds => obtain ⟨hs, kvs, ⟨o, es, ep, ho, q⟩, hr⟩ := h2; exact ⟨hs, kvs, ⟨o, es, ep, hown j _ _ hj ho, q⟩, hr.mono hm hk⟩
    | _ => exact h2
  · obtain ⟨m, o, es, ep, ho, q⟩ := N.ns
    exact ⟨m, o, es, ep, hfr _ _ (.inl rfl) ho, q⟩
  · intro y a ha
    obtain ⟨v, o, ho, hd⟩ := N.cells y a ha
    exact ⟨v, o, hfr _ _ (.inr ⟨y, ha⟩) ho, hd⟩

theorem NowS.dict_new (N : NowS prog w ρ h₀ Mu₀ c env Mu Wr α σ s) : (s.heap.objs.size == sysModules) = false := by
  have h1 : gT < s.heap.objs.size := older (N.N.R.tab.has (.inr rfl))
  have h2 : sysModules < gT := by decide
  have h3 : s.heap.objs.size ≠ sysModules := Nat.ne_of_gt (Nat.lt_trans h2 h1)
  simpa using h3
theorem SS.assignD {k : Nat} {x : Str} {p p1 p2 : Pos} (hx : c.v.lookup x = some k) : SS prog w ρ h₀ G Sg A c (.assignD k) (.Assign [.Name x p1] (.Dict [] [] p) p2) := by
  intro env Mu₀ Mu Wr α σ s fl σ' Q N e1 h
  cases e1
  refine wpAny_Assign_Name (wpAny_Dict_empty ?_)
  refine store_own N hx .push (Nat.le_refl _) (get_size _) ?_ fun s' g N' => h _ _ _ _ _ g N' trivial
  exact ⟨N.dict_new, [], Heap.DictOf.new _, .nil⟩
theorem SS.assignD1 {k : Nat} {i v : PE} {x : Str} {ix vx : Expr} {p p1 p2 : Pos} (hx : c.v.lookup x = some k) (hi : Snd prog w ρ h₀ G Sg A c i ix) (hv : Snd prog w ρ h₀ G Sg A c v vx) : SS prog w ρ h₀ G Sg A c (.assignD1 k i v) (.Assign [.Name x p1] (.Dict [some ix] [vx] p) p2) := by
  intro env Mu₀ Mu Wr α σ s fl σ' Q N e1 h
  simp only [exS, Option.bind_eq_some_iff] at e1
  obtain ⟨⟨z, tz⟩, ei, y, ev, d, hy, e1⟩ := e1
  dsimp only at e1
  split at e1
  · rename_i key
    cases e1
    have N0 := N.adopt (.push (o := { cls := .type "dict", data := .dict #[] })) (Nat.le_refl _) (get_size _) (by dsimp only; rw [Heap.get?_push_size _ rfl]; rfl)
    refine wpAny_Assign_Name (wpAny_Dict_pairs (knd := sk prog w) (pairs := [(eval ix env, do let x ← eval vx env; standAt p; pure x)]) rfl (by simp) (by simp) ?_)
    refine wpAny_bind (hi.ev N0.N ei fun kv s₁ x₁ t₁ v₁ => wpAny_bind (wpAny_holding (wpAny_bind (hv.ev (N0.ext x₁ t₁).N ev fun vv s₂ x₂ t₂ v₂ => wpAny_bind (wpAny_standAt (wpAny_pure (wpAny_bind (wpAny_holding (wpAny_pure (wpAny_pure ?_))))))))))
    have r1 := N0.N.rw x₁ ei v₁
    obtain ⟨t, rfl⟩ : ∃ t, kv = .str ⟨key.toArray⟩ t := by cases r1; exact ⟨_, rfl⟩
    have N2 := (N0.ext x₁ t₁).ext x₂ t₂
    have hd0 : s₂.heap.DictOf (sk prog w) s.heap.objs.size [] := by
      obtain ⟨o, es, ep, ho, hx, hd, q⟩ := Heap.DictOf.new (knd := sk prog w) s.heap
      have hne := ne_gT N0.N.R.tab ho (by rw [hd]; nofun)
      exact ⟨o, es, ep, (x₁.trans x₂).keep _ _ hne ho, hx, hd, q⟩
    have hdo : ∃ o es ep, s₂.heap.get? s.heap.objs.size = some o ∧ o.data = .dict es ep ∧ o.cls = .type "dict" := by
      obtain ⟨o, es, ep, ho, hx, hd, q⟩ := hd0
      exact ⟨o, es, ep, ho, hd, hx.1⟩
    refine ⟨[(⟨key.toArray⟩, vv)], ⟨by show ((⟨key.toArray⟩ : Str) == ⟨key.toArray⟩) = true; simp, rfl, trivial⟩, hd0, fun h' hp hs' => ?_⟩
    have hT : s.heap.objs.size ≠ gT := (N.none_ne (get_size _)).1
    have hC : s.heap.objs.size ≠ gC := (N.none_ne (get_size _)).2
    obtain ⟨hF1, hF2, hF3⟩ := N.fresh (get_size s.heap)
    have W : Wrote s.heap.objs.size s₂ { s₂ with heap := h', toks := s₂.toks + 1 } := ⟨hs', by obtain ⟨o, _, _, ho, _⟩ := hp; dsimp only; rw [ho]; rfl, rfl, rfl, Nat.le_succ _⟩
    have hMa : (fun b => Mu b ∨ b = s.heap.objs.size) s.heap.objs.size := .inr rfl
    have hMD : Mu s.heap.objs.size ∨ s.heap.objs.size = s.heap.objs.size := .inr rfl
    have N3 : NowS prog w ρ h₀ Mu₀ c env (fun b => Mu b ∨ b = s.heap.objs.size) (fun b => Wr b ∨ b = s.heap.objs.size) α σ { s₂ with heap := h', toks := s₂.toks + 1 } := by
      refine N2.change (W.st N2.N.R.toSt hMa hT hC) (fun _ h => h) (fun b o h e => hs'.extBut b o (fun q => h (.inr q)) e) (fun b o h e => hs'.extBut b o (fun q => hF1 (q ▸ h)) e) (fun k d o h e => hs'.extBut _ o (hF3 k d h) e) (fun q o e hc _ => hs'.extBut q o ?_ e)
        N2.frw (fun k d h => (N2.oww k d h).1) N2.wm N2.m0 (Nat.le_succ _)
      rintro rfl
      obtain ⟨o', es, ep, ho', hd', hc'⟩ := hdo
      rw [ho'] at e; cases e; rw [hc'] at hc; injection hc with hc; exact absurd hc (by decide)
    have hvv : RD prog w ρ (fun b => Mu b ∨ b = s.heap.objs.size) s₂.heap vv d := v₂.frozen (N0.ext x₁ t₁).N.R.toSt hy
    refine store_own' N3 hx (.inr rfl) ⟨hF1, hF2, hF3⟩ (d := .dict [(key, d)]) ⟨N.dict_new, _, hp, ?_⟩ fun s' g N' _ => h _ _ _ _ _ ((Grow.adopt (.push (o := { cls := .type "dict", data := .dict #[] })) N.N.R.tab (Nat.le_refl _) (get_size _)).trans ((Grow.ext (x₁.trans x₂) N0.N.R.tab (Nat.le_trans t₁ t₂)).trans ((W.grow (.inr rfl) N2.N.R.tab hT hC).trans g))) N' trivial
    exact .cons (hvv.mono (fun _ h => h) fun b o h e => hs'.extBut b o (fun q => h (.inr q)) e) .nil
  · cases e1
end
end Mine
end
section
set_option autoImplicit false
namespace Mine
open PySem PySem.W

section
variable {prog : Program} {w : World} {ρ : Addr} {h₀ : Heap} {mg mb : Str → Option Value} {G : Nat → Option D} {Sg : Sig} {gname fname : Nat → Option Str} {fa : Nat → Addr} {X : Ctx → PE → Expr → Prop}
variable {A : Around} {s s' s'' s₀ s₁ : Shared} {Mu₀ Mu Wr Mu' Wr' Mu'' Wr'' : Addr → Prop} {α : Nat → Addr} {σ : List LV} {env : Env} {c : Ctx} {n : Nat}

theorem SS.while_ {m : Nat} {q : PE} {a : PSs} {t : Expr} {xs : List Stmt} {p : Pos} (hq : Snd prog w ρ h₀ G Sg A c q t) (ha : SSs prog w ρ h₀ G Sg A c a xs) : SS prog w ρ h₀ G Sg A c (.while_ m q a) (.While t xs [] p) := by
  intro env Mu₀ Mu Wr α σ s fl σ' Q N e1 h
  simp only [exS] at e1
  refine wpAny_While (codeAny_whileLoop (fun k s' => ∃ Mu' Wr' α' σ₁, Grow Mu Wr Mu' Wr' s s' ∧ NowS prog w ρ h₀ Mu₀ c env Mu' Wr' α' σ₁ s' ∧ whileGo (fun σ => (evE G Sg q σ).bind fun x => truth x.1) (fun σ => exSs G Sg a σ) k σ₁ = some (fl, σ')) ?_ m
    ⟨Mu, Wr, α, σ, .refl s, N, e1⟩)
  rintro k s' ⟨Mu', Wr', α', σ₁, g, N', e⟩
  cases k with
  | zero => cases e
  | succ k =>
    simp only [whileGo, Option.bind_eq_some_iff] at e
    obtain ⟨b, ⟨x, ex, hb⟩, e⟩ := e
    refine wpAny_mono (hq.ts N'.N ex hb fun s₂ x₂ t₂ => ?_) (fun _ _ h => h) fun _ _ h => h.elim
    have g2 := g.trans (Grow.ext x₂ N'.N.R.tab t₂)
    have N2 := N'.ext x₂ t₂
    cases b with
    | false =>
      cases e
      exact wpAny_execs_nil (h _ _ _ _ _ g2 N2 trivial)
    | true =>
      obtain ⟨⟨f1, σ₂⟩, e2, e⟩ := Option.bind_eq_some_iff.mp e
      refine wpAny_mono (ha N2 e2 fun f s₃ _ _ _ g3 N3 hf => ?_) (fun _ _ h => h) fun _ _ h => h.elim
      have g4 := g2.trans g3
      cases f1 with
      | next => cases f <;> first | exact hf.elim | exact ⟨k, Nat.lt_succ_self _, _, _, _, _, g4, N3, e⟩
      | brk => cases e; cases f <;> first | exact hf.elim | exact h _ _ _ _ _ g4 N3 trivial
      | ret d => cases e; cases f <;> first | exact hf.elim | exact h _ _ _ _ _ g4 N3 hf

theorem Grow.then (g : Grow Mu Wr Mu' Wr' s s') (k : ∀ b o, (s.heap.get? b).isSome = true → s'.heap.get? b = some o → s''.heap.get? b = some o) (ho : s''.os = s'.os) (hg : s''.gens = s'.gens) (t : s'.toks ≤ s''.toks) : Grow Mu Wr Mu' Wr' s s'' where
  mu := g.mu
  wr := g.wr
  mun := g.mun
  wrn := g.wrn
  keep b o n h e := k b o (by rw [e]; rfl) (g.keep b o n h e)
  has b h := by
    obtain ⟨o, ho⟩ := Option.isSome_iff_exists.mp (g.has b h)
    rw [k b o h ho]; rfl
  tab t := (g.tab t).only fun b o hb e => k b o (t.has hb) e
  os := ho.trans g.os
  gens x := hg ▸ g.gens x
  toks := Nat.le_trans g.toks t

/-- an iterator is stepped: nothing else is touched -/
theorem NowS.step {I : Addr} (N : NowS prog w ρ h₀ Mu₀ c env Mu Wr α σ s) (hI : Mu I) (hW : ¬ Wr I) (hT : I ≠ gT) (hC : I ≠ gC) {o : Obj} {T : String} (ho : s.heap.get? I = some o) (hc : o.cls = .type T) (hp : plainIter T = true) (hs : (s'.heap.get? I).isSome = true)
    (hk : ∀ b o, b ≠ I → s.heap.get? b = some o → s'.heap.get? b = some o) (t : s.toks ≤ s'.toks) : NowS prog w ρ h₀ Mu₀ c env Mu Wr α σ s' := by
  refine N.change ?_ (fun _ h => h) (fun b o h e => hk b o (fun q => h (q ▸ hI)) e) (fun b o h e => hk b o (fun q => hW (q ▸ N.frw b h)) e) (fun k d o h e => hk _ o (fun q => hW (q ▸ (N.oww k d h).1)) e) (fun q o' e hc' _ => hk q o' ?_ e) N.frw (fun k d h => (N.oww k d h).1) N.wm N.m0 t
  · refine ⟨fun b o n e => ?_, N.N.R.tab.only fun b o hb e => hk b o (by rcases hb with rfl | rfl; exact hC.symm; exact hT.symm) e, fun b hb => ?_, N.N.R.mug, N.N.R.muh⟩
    · by_cases q : b = I
      · subst q
        rcases N.N.R.muh b hI with q | q
        · exact absurd q n
        · rw [q] at e; cases e
      · exact hk b o q (N.N.R.keep b o n e)
    · by_cases q : b = I
      · subst q; exact hs
      · obtain ⟨o, ho⟩ := Option.isSome_iff_exists.mp (N.N.R.mu b hb)
        rw [hk b o q ho]; rfl
  · rintro rfl
    rw [ho] at e; cases e
    rw [hc] at hc'
    injection hc' with hc'
    subst hc'
    exact absurd hp (by decide)

/-- the store of a loop's item -/
def Binds (prog : Program) (w : World) (ρ : Addr) (h₀ : Heap) (A : Around) (c : Ctx) (target : Expr) (bind : Mine.D → List LV → Option (List LV)) : Prop :=
  ∀ {env : Env} {Mu₀ Mu Wr : Addr → Prop} {α : Nat → Addr} {σ σ' : List LV} {s : Shared} {v : Value} {d : Mine.D} {Q : Unit → Shared → Prop}, NowS prog w ρ h₀ Mu₀ c env Mu Wr α σ s → RD prog w ρ Mu s.heap v d → bind d σ = some σ' →
    (∀ s', Grow Mu Wr Mu Wr s s' → NowS prog w ρ h₀ Mu₀ c env Mu Wr α σ' s' → Q () s') → wpAny (model prog w) A (assign target env v) Q NoE s

theorem letGo {M : Model} {E : Value → Shared → Prop} {target : Expr} {I : Addr} {v : Value} {o : Obj} {T : String} {Q : Unit → Shared → Prop} (ho : s.heap.get? I = some o) (hc : o.cls = .type T) (hp : plainIter T = true) (h : Q () s) : wpAny M A (letOwnedTupleGo target (.ref I) v) Q E s := by
  have hn : (["enumerate", "zip", "dict_itemiterator", "dict_reverseitemiterator", "odict_iterator", "itertools.zip_longest", "itertools.pairwise"].contains T) = false := by
    unfold plainIter at hp
    simp only [Bool.or_eq_true, beq_iff_eq] at hp
    rcases hp with ((rfl | rfl) | rfl) | rfl <;> decide
  have go : wpAny M A (do
      let (.ref r, .ref a) := ((Value.ref I, v) : Value × Value) | return
      let o ← load r
      match o.cls, o.data with
      | .type n, .fields vs =>
        if ["enumerate", "zip", "dict_itemiterator", "dict_reverseitemiterator", "odict_iterator", "itertools.zip_longest", "itertools.pairwise"].contains n && vs[0]? == some (rawInt a) then
          rule "for.unpacks-the-owned-tuple"
          updateField r 0 .none
      | _, _ => pure ()) Q E s := by
    cases v with
    | ref a =>
      dsimp only
      refine wpAny_bind (wpAny_load ho ?_)
      rw [hc]
      cases o.data with
      | fields vs => simp only [hn, Bool.false_and, Bool.false_eq_true, if_false]; exact wpAny_pure h
      | _ => exact wpAny_pure h
    | _ => exact wpAny_pure h
  unfold letOwnedTupleGo
  cases target <;> first | exact wpAny_pure h | exact go
end
end Mine
end
section
set_option autoImplicit false
namespace Mine
open PySem PySem.W

section
variable {prog : Program} {w : World} {ρ : Addr} {h₀ : Heap} {mg mb : Str → Option Value} {G : Nat → Option D} {Sg : Sig} {gname fname : Nat → Option Str} {fa : Nat → Addr} {X : Ctx → PE → Expr → Prop}
variable {A : Around} {s s' s'' s₀ s₁ : Shared} {Mu₀ Mu Wr Mu' Wr' Mu'' Wr'' : Addr → Prop} {α : Nat → Addr} {σ : List LV} {env : Env} {c : Ctx} {n : Nat}

theorem for_run {target : Expr} {xs ys : List Stmt} {v : Value} {ds : List Mine.D} {bind : Mine.D → List LV → Option (List LV)} {bd : PSs} {fl₀ : Fl} {σ₀ : List LV} {R : Result → Shared → Prop} (N : NowS prog w ρ h₀ Mu₀ c env Mu Wr α σ s) (hit : Iter prog w ρ A Mu s v ds)
    (hv : ∀ a, v = .ref a → ¬ Mu a) (hbind : Binds prog w ρ h₀ A c target bind) (hbody : SSs prog w ρ h₀ G Sg A c bd xs) (hgo : forGo bind (fun σ => exSs G Sg bd σ) ds σ = some (fl₀, σ₀))
    (hnext : fl₀ = .next → ∀ s' Mu' Wr' α', Grow Mu Wr Mu' Wr' s s' → NowS prog w ρ h₀ Mu₀ c env Mu' Wr' α' σ₀ s' → wpAny (model prog w) A (execs ys env) (fun f s₃ => R (.ok f) s₃) NoE s')
    (hbrk : fl₀ = .brk → ∀ s' Mu' Wr' α', Grow Mu Wr Mu' Wr' s s' → NowS prog w ρ h₀ Mu₀ c env Mu' Wr' α' σ₀ s' → R (.ok .next) s')
    (hret : ∀ d, fl₀ = .ret d → ∀ s' Mu' Wr' α' v, Grow Mu Wr Mu' Wr' s s' → NowS prog w ρ h₀ Mu₀ c env Mu' Wr' α' σ₀ s' → RD prog w ρ Mu₀ s'.heap v d → R (.ok (.ret v)) s') :
    wpAny (model prog w) A (pyIter v) (fun it s₂ => codeAny (model prog w) A (.forLoop target it xs ys env) R s₂) NoE s := by
  refine hit _ _ fun o F => ?_
  obtain ⟨fp, P, St, W, hst, hsome, hfp, hitem⟩ := F
  have hIn : s.heap.get? s.heap.objs.size = none := newer (Nat.le_refl _)
  generalize hIe : s.heap.objs.size = I at *
  obtain ⟨hIT, hIC⟩ := N.none_ne hIn
  have hsz : ∀ b, (s.heap.get? b).isSome = true → b ≠ I := fun b hb q => by rw [q, hIn] at hb; cases hb
  have ad := N.adopt (.push (o := o)) (Nat.le_refl _) hIn (by obtain ⟨o', T, e, _⟩ := hsome _ _ hst; dsimp only at e ⊢; rw [e]; rfl)
  have N1 : NowS prog w ρ h₀ Mu₀ c env (fun b => Mu b ∨ b = I) Wr α σ { s with heap := s.heap.push o } :=
    ad.change ad.N.R.toSt (fun _ h => h) (fun _ _ _ e => e) (fun _ _ _ e => e) (fun _ _ _ _ e => e) (fun _ _ e _ _ => e) N.frw (fun k d h => (N.oww k d h).1) (fun b h => .inl (N.wm b h)) ad.m0 (Nat.le_refl _)
  have hfpW : ∀ b ∈ fp, ¬ Wr b ∧ b ≠ gT ∧ (b = I ∨ (s.heap.get? b).isSome = true) := fun b hb => by
    rcases hfp b hb with rfl | ⟨e1, e2, e3⟩
    · refine ⟨fun h => ?_, hIT, .inl rfl⟩
      have := N.N.R.mu _ (N.wm _ h)
      rw [hIn] at this; cases this
    · exact ⟨fun h => hv b e1 (N.wm b h), e2, .inr e3⟩
  have hWI : ¬ Wr I := fun h => by
    have := N.N.R.mu _ (N.wm _ h)
    rw [hIn] at this; cases this
  refine codeAny_forLoop_any (fun k s' => ∃ i Mu' Wr' α' σ₁, Grow Mu Wr Mu' Wr' s s' ∧ (∀ b, Mu b ∨ b = I → Mu' b) ∧ NowS prog w ρ h₀ Mu₀ c env Mu' Wr' α' σ₁ s' ∧ ¬ Wr' I ∧ (∀ b ∈ fp, ¬ Wr' b) ∧ St i s'.heap ∧ i ≤ ds.length ∧ k = ds.length + 1 - i ∧
      forGo bind (fun σ => exSs G Sg bd σ) (ds.drop i) σ₁ = some (fl₀, σ₀)) ?_ (ds.length + 1)
    ⟨0, _, Wr, α, σ, ?_, fun _ h => h, N1, hWI, fun b hb => (hfpW b hb).1, hst, Nat.zero_le _, rfl, by simpa using hgo⟩
  · rintro k s' ⟨i, Mu', Wr', α', σ₁, g, hmi, N', hW', hfW, st, hi, rfl, e⟩
    obtain ⟨oI, T, eI, hcI, hpI⟩ := hsome _ _ st
    have hMI : Mu' I := hmi I (.inr rfl)
    have fpe : ∀ b ∈ fp, b ≠ I → (s'.heap.get? b).isSome = true := fun b hb hn => by
      rcases (hfpW b hb).2.2 with q | q
      · exact absurd q hn
      · exact g.has b q
    by_cases hlt : i < ds.length
    · refine wpAny_with_toks (n := s'.toks) (Nat.le_refl _) (W.item i _ _ _ hlt st fun u h₂ tk₂ hP st₂ hk₂ t₂ => ?_)
      have hk₂' : ∀ b o, b ≠ I → s'.heap.get? b = some o → h₂.get? b = some o := fun b o hb => hk₂ b o (by simpa using hb)
      obtain ⟨o2, T2, e2, hc2, hp2⟩ := hsome _ _ st₂
      have N2 : NowS prog w ρ h₀ Mu₀ c env Mu' Wr' α' σ₁ { s' with heap := h₂, toks := tk₂ } := N'.step hMI hW' hIT hIC eI hcI hpI (by dsimp only; rw [e2]; rfl) hk₂' t₂
      have g2 : Grow Mu Wr Mu' Wr' s { s' with heap := h₂, toks := tk₂ } := g.then (fun b o hb q => hk₂' b o (hsz b hb) q) rfl rfl t₂
      obtain ⟨d, hd, hrd⟩ := hitem i u hP
      have hdrop : ds.drop i = d :: ds.drop (i + 1) := by
        obtain ⟨h1, h2⟩ := List.getElem?_eq_some_iff.mp hd
        rw [List.drop_eq_getElem_cons h1, h2]
      rw [hdrop] at e
      simp only [forGo, Option.bind_eq_some_iff] at e
      obtain ⟨σ₂, hb, ⟨f1, σ₃⟩, hx, e⟩ := e
      have hu : RD prog w ρ Mu' h₂ u d := by
        have r1 : RD prog w ρ (fun b => Mu b ∨ Mu' b) s.heap u d := by
          have : ∀ (v : Value) (d : Mine.D), RD prog w ρ Mu s.heap v d → RD prog w ρ (fun b => Mu b ∨ s.heap.get? b = none) s.heap v d := by
            intro v d r
            refine RD.rec (motive_1 := fun v d _ => RD prog w ρ (fun b => Mu b ∨ s.heap.get? b = none) s.heap v d) (motive_2 := fun vs ds _ => RDs prog w ρ (fun b => Mu b ∨ s.heap.get? b = none) s.heap vs ds)
              (motive_3 := fun vs ds _ => REs prog w ρ (fun b => Mu b ∨ s.heap.get? b = none) s.heap vs ds) .none .bool .int .str ?_ ?_ ?_ .adr .nil (fun _ _ a b => .cons a b) .nil (fun _ _ a b => .cons a b) r
            · intro a vs ds n t _ ih
              exact .tup (fun q => q.elim n fun e => by obtain ⟨o, ho, _⟩ := t; rw [e] at ho; cases ho) t ih
            · intro a vs ds n t _ ih
              exact .list (fun q => q.elim n fun e => by obtain ⟨k, ho⟩ := t; rw [e] at ho; cases ho) t ih
            · intro a vs ds n e t _ ih
              exact .dict (fun q => q.elim n fun e => by obtain ⟨o, _, _, ho, _⟩ := t; rw [e] at ho; cases ho) e t ih
          exact (this u d hrd).mono (fun b h q => h (q.elim .inl fun q => g.mun b q)) fun _ _ _ e => e
        refine r1.mono (fun b h q => h (.inr q)) fun b o h q => hk₂' b o (fun r => h (.inr (r ▸ hMI))) (g.keep b o (fun r => h (.inl (r ▸ N.N.R.mug))) (fun r => h (.inl (N.wm b r))) q)
      refine letGo e2 hc2 hp2 (wpAny_mono (hbind N2 hu hb fun s₃ g3 N3 => ?_) (fun _ _ h => h) fun _ _ h => h.elim)
      refine wpAny_mono (hbody N3 hx fun f s₄ Mu4 Wr4 α4 g4 N4 hf => ?_) (fun _ _ h => h) fun _ _ h => h.elim
      have gg := (g2.trans g3).trans g4
      have hm4 : ∀ b, Mu b ∨ b = I → Mu4 b := fun b h => g4.mu b (hmi b h)
      have gI3 := g3.trans g4
      have hsI : ∀ b ∈ fp, (h₂.get? b).isSome = true := fun b hb => by
        by_cases q : b = I
        · rw [q, e2]; rfl
        · obtain ⟨o, ho⟩ := Option.isSome_iff_exists.mp (fpe b hb q)
          rw [hk₂' b o q ho]; rfl
      have nW4 : ∀ b, ¬ Wr' b → (h₂.get? b).isSome = true → ¬ Wr4 b := fun b h hs q => (gI3.wrn b q).elim h fun z => by dsimp only at z; rw [z] at hs; cases hs
      have st4 : St (i + 1) s₄.heap := W.frame _ _ _ st₂ fun b hb o q => gI3.keep b o (hfpW b hb).2.1 (hfW b hb) q
      cases f1 with
      | next =>
        cases f <;> first | exact hf.elim | skip
        exact ⟨ds.length + 1 - (i + 1), by omega, i + 1, Mu4, Wr4, α4, _, gg, hm4, N4, nW4 I hW' (by rw [e2]; rfl), fun b hb => nW4 b (hfW b hb) (hsI b hb), st4, hlt, rfl, e⟩
      | brk => cases e; cases f <;> first | exact hf.elim | exact hbrk rfl _ _ _ _ gg N4
      | ret d => cases e; cases f <;> first | exact hf.elim | exact hret d rfl _ _ _ _ _ gg N4 hf
    · have hin : i = ds.length := by omega
      subst hin
      refine wpAny_with_toks (n := s'.toks) (Nat.le_refl _) (W.done _ _ _ st fun h₂ tk₂ hk₂ t₂ => ?_)
      have hk₂' : ∀ b o, b ≠ I → s'.heap.get? b = some o → h₂.get? b = some o := fun b o hb => hk₂ b o (by simpa using hb)
      rw [List.drop_length] at e
      cases e
      have m0' : ∀ b, Mu₀ b → Mu' b ∧ b ≠ I := fun b h => ⟨N'.m0 b h, hsz b (N.N.R.mu b (N.m0 b h))⟩
      have wm' : ∀ b, Wr' b → Mu' b ∧ b ≠ I := fun b h => ⟨N'.wm b h, fun q => hW' (q ▸ h)⟩
      have tab2 : TabInv h₂ := N'.N.R.tab.only fun b o hb q => hk₂' b o (by rcases hb with rfl | rfl; exact hIC.symm; exact hIT.symm) q
      have N2 : NowS prog w ρ h₀ Mu₀ c env (fun b => Mu' b ∧ b ≠ I) Wr' α' σ₀ { s' with heap := h₂, toks := tk₂ } := by
        refine N'.change ⟨fun b o n q => ?_, tab2, fun b hb => ?_, ⟨N'.N.R.mug, hIT.symm⟩, fun b hb => N'.N.R.muh b hb.1⟩ (fun b h q => h q.1) (fun b o h q => hk₂' b o (fun r => h (r ▸ hMI)) q) (fun b o h q => hk₂' b o (fun r => hW' (r ▸ N'.frw b h)) q)
          (fun k d o h q => hk₂' _ o (fun r => hW' (r ▸ (N'.oww k d h).1)) q) (fun q o' e hc' _ => hk₂' q o' ?_ e) N'.frw (fun k d h => (N'.oww k d h).1) wm' m0' t₂
        · refine hk₂' b o (hsz b ?_) (N'.N.R.keep b o n q)
          rw [N.N.R.keep b o n q]; rfl
        · obtain ⟨o, ho⟩ := Option.isSome_iff_exists.mp (N'.N.R.mu b hb.1)
          dsimp only
          rw [hk₂' b o hb.2 ho]; rfl
        · rintro rfl
          rw [eI] at e; cases e
          rw [hcI] at hc'
          injection hc' with hc'
          subst hc'
          exact absurd hpI (by decide)
      have g2 : Grow Mu Wr Mu' Wr' s { s' with heap := h₂, toks := tk₂ } := g.then (fun b o hb q => hk₂' b o (hsz b hb) q) rfl rfl t₂
      have g3 : Grow Mu Wr (fun b => Mu' b ∧ b ≠ I) Wr' s { s' with heap := h₂, toks := tk₂ } :=
        { g2 with mu := fun b h => ⟨g.mu b h, hsz b (N.N.R.mu b h)⟩, mun := fun b h => g.mun b h.1 }
      exact wpAny_mono (hnext rfl _ _ _ _ g3 N2) (fun _ _ h => h) fun _ _ h => h.elim
  · exact ⟨fun _ h => .inl h, fun _ h => h, fun _ h => h.elim .inl fun e => .inr (e ▸ hIn), fun _ h => .inl h, fun b o _ _ q => Heap.get?_push_of_some _ q, fun b h => by
      obtain ⟨o, ho⟩ := Option.isSome_iff_exists.mp h
      dsimp only
      rw [Heap.get?_push_of_some _ ho]; rfl, fun t => t.keeps fun b o q => Heap.get?_push_of_some _ q, rfl, id, Nat.le_refl _⟩

theorem binds_name {x : Str} {k : Nat} {p : Pos} (hx : c.v.lookup x = some k) : Binds prog w ρ h₀ A c (.Name x p) (fun d σ => some (σ.set k (.fz d))) := by
  intro env Mu₀ Mu Wr α σ σ' s v d Q N hv hb h
  cases hb
  exact wpAny_assign_Name (store_fz N hx hv h)

inductive Tgts (c : Ctx) : List Nat → List Expr → Prop
  | nil : Tgts c [] []
  | cons {k : Nat} {ks : List Nat} {x : Str} {p : Pos} {es : List Expr} : c.v.lookup x = some k → Tgts c ks es → Tgts c (k :: ks) (.Name x p :: es)
theorem Tgts.len {ks : List Nat} {es : List Expr} (t : Tgts c ks es) : (assignEach es env).length = ks.length ∧ (assignEach es env).findIdx? (·.1) = none := by
  induction t with
  | nil => exact ⟨rfl, rfl⟩
  | cons h t ih =>
    refine ⟨?_, ?_⟩
    · show (_ :: assignEach _ env).length = _
      rw [List.length_cons, List.length_cons, ih.1]
    · show List.findIdx? _ ((false, _) :: assignEach _ env) = none
      rw [List.findIdx?_cons]
      simp [ih.2]
theorem Grow.rds (g : Grow Mu Wr Mu Wr s s') (wm : ∀ b, Wr b → Mu b) (hg : Mu gT) {vs : List Value} {ds : List Mine.D} (r : RDs prog w ρ Mu s.heap vs ds) : RDs prog w ρ Mu s'.heap vs ds := r.mono (fun _ h => h) fun b o h e => g.keep b o (fun q => h (q ▸ hg)) (fun q => h (wm b q)) e
theorem Tgts.run {ks : List Nat} {es : List Expr} (t : Tgts c ks es) : ∀ {Mu₀ Mu Wr : Addr → Prop} {α : Nat → Addr} {σ σ' : List LV} {s : Shared} {vs : List Value} {ds : List Mine.D} {Q : Unit → Shared → Prop}, NowS prog w ρ h₀ Mu₀ c env Mu Wr α σ s → RDs prog w ρ Mu s.heap vs ds → setAll ks ds σ = some σ' →
    (∀ s', Grow Mu Wr Mu Wr s s' → NowS prog w ρ h₀ Mu₀ c env Mu Wr α σ' s' → Q () s') → wpAny (model prog w) A (assignInOrder ((assignEach es env).map (·.2)) vs) Q NoE s := by
  induction t with
  | nil =>
    intro Mu₀ Mu Wr α σ σ' s vs ds Q N r e h
    cases r with
    | nil => cases e; exact wpAny_pure (h _ (.refl s) N)
    | cons a r => cases e
  | cons hx t ih =>
    intro Mu₀ Mu Wr α σ σ' s vs ds Q N r e h
    cases r with
    | nil => cases e
    | cons a r =>
      simp only [setAll] at e
      refine wpAny_bind (wpAny_holding (wpAny_assign_Name (store_fz N hx a fun s₁ g N1 => ?_)))
      exact ih N1 (g.rds N.wm N.N.R.mug r) e fun s' g' N' => h s' (g.trans g') N'
theorem setAll_len : ∀ {ks : List Nat} {ds : List Mine.D} {σ σ' : List LV}, setAll ks ds σ = some σ' → ks.length = ds.length
  | [], [], _, _, _ => rfl
  | [], _ :: _, _, _, e => by cases e
  | _ :: _, [], _, _, e => by cases e
  | _ :: ks, _ :: ds, _, _, e => by rw [List.length_cons, List.length_cons, setAll_len (ks := ks) (ds := ds) e]
theorem binds_tup (hh : A.handled = none) {ks : List Nat} {es : List Expr} {kk : Nat} {p : Pos} (t : Tgts c ks es) : Binds prog w ρ h₀ A c (.Tuple es kk p) (bindT ks) := by
  intro env Mu₀ Mu Wr α σ σ' s v d Q N hv hb h
  unfold bindT at hb
  split at hb
  · rename_i ds
    cases hv with
    | tup hn ht hr =>
    rename_i a vs
    refine wpAny_assign_Tuple hh ht (by rw [t.len.1, setAll_len hb, List.size_toArray, hr.length]) t.len.2 fun h' hx => ?_
    have e : Ext s { s with heap := h' } := .kept' fun b o q => hx b o (Nat.ne_of_lt (Heap.lt_size q)) q
    exact t.run (N.ext e (Nat.le_refl _)) (e.rds N.N.R.mug (by simpa using hr)) hb fun s' g N' => h s' ((Grow.ext e N.N.R.tab (Nat.le_refl _)).trans g) N'
  · cases hb

theorem kept_of_walk {x : Mine.D × Tag} {l : List Mine.D} (h : walkable x = some l) : (∃ t, x = (.list l, t) ∧ ∀ k, t ≠ .own k) ∨ (∃ t, x = (.tup l, t) ∧ ∀ k, t ≠ .own k) ∨ ∃ m t, x = (.dict m, t) ∧ (∀ k, t ≠ .own k) ∧ l = m.map fun p => .str p.1 := by
  obtain ⟨d, t⟩ := x
  have ht : ∀ k, t ≠ .own k := by rintro k rfl; cases h
  have h' : itemsOf d = some l := by cases t <;> first | exact h | exact absurd rfl (ht _)
  cases d with
  | list m => cases h'; exact .inl ⟨t, rfl, ht⟩
  | tup m => cases h'; exact .inr (.inl ⟨t, rfl, ht⟩)
  | dict m => cases h'; exact .inr (.inr ⟨m, t, rfl, ht, rfl⟩)
  | _ => cases h'
/-- what a for walks over -/
theorem walk_eval (hh : A.handled = none) {e : PE} {ex : Expr} {x : Mine.D × Tag} {l : List Mine.D} (N : NowS prog w ρ h₀ Mu₀ c env Mu Wr α σ s) (he : Snd prog w ρ h₀ G Sg A c e ex) (ev : evE G Sg e σ = some x) (hw : walkable x = some l) {Q : Value → Shared → Prop}
    (h : ∀ v s₁, Ext s s₁ → s.toks ≤ s₁.toks → Iter prog w ρ A Mu s₁ v l → (∀ a, v = .ref a → ¬ Mu a) → Q v s₁) : wpAny (model prog w) A (eval ex env) Q NoE s := by
  refine he.ev N.N ev fun v s₁ x₁ t₁ v₁ => ?_
  have N1 := N.ext x₁ t₁
  have hn : ∀ a, v = .ref a → (∀ k, x.2 ≠ .own k) → (∀ b, x.1 ≠ .adr b) → ¬ Mu a := by
    rintro a rfl ho hadr
    obtain ⟨d, t⟩ := x
    cases t with
    | fz =>
      have r : RD prog w ρ Mu s₁.heap (.ref a) d := v₁
      cases r with
      | tup n _ _ => exact n
      | list n _ _ => exact n
      | dict n _ _ _ => exact n
      | adr => exact absurd rfl (hadr _)
    | fresh =>
      obtain ⟨b, e, n, _⟩ := v₁
      cases e
      exact fun q => by have := N.N.R.mu _ q; rw [n] at this; cases this
    | own k => exact absurd rfl (ho k)
  rcases kept_of_walk hw with ⟨t, rfl, ht⟩ | ⟨t, rfl, ht⟩ | ⟨m, t, rfl, ht, rfl⟩
  · exact h v s₁ x₁ t₁ (iter_list hh N1.N.R.tab (N.N.rw x₁ ev v₁)) fun a q => hn a q ht nofun
  · exact h v s₁ x₁ t₁ (iter_tup hh N1.N.R.tab (N.N.rw x₁ ev v₁)) fun a q => hn a q ht nofun
  · exact h v s₁ x₁ t₁ (iter_dict hh N1.N.R.tab (N.N.rw x₁ ev v₁)) fun a q => hn a q ht nofun

theorem behind_some {orelse : List LV → Option (Fl × List LV)} {x : Fl × List LV} {fl : Fl} {σ' : List LV} (h : behind orelse x = some (fl, σ')) : (x.1 = .next ∧ orelse x.2 = some (fl, σ')) ∨ (x.1 = .brk ∧ fl = .next ∧ σ' = x.2) ∨ ∃ d, x.1 = .ret d ∧ fl = .ret d ∧ σ' = x.2 := by
  obtain ⟨f, σ⟩ := x
  cases f with
  | next => exact .inl ⟨rfl, h⟩
  | brk => cases h; exact .inr (.inl ⟨rfl, rfl, rfl⟩)
  | ret d => cases h; exact .inr (.inr ⟨d, rfl, rfl, rfl⟩)
theorem for_stmt {target iter : Expr} {xs ys : List Stmt} {p : Pos} {ds : List Mine.D} {bind : Mine.D → List LV → Option (List LV)} {bd od : PSs} {fl : Fl} {σ' : List LV} {Q : Flow → Shared → Prop} (N : NowS prog w ρ h₀ Mu₀ c env Mu Wr α σ s)
    (hiter : wpAny (model prog w) A (eval iter env) (fun v s₁ => Ext s s₁ ∧ s.toks ≤ s₁.toks ∧ Iter prog w ρ A Mu s₁ v ds ∧ ∀ a, v = .ref a → ¬ Mu a) NoE s) (hfold : ∀ x, foldedSetIterable iter env x = pure x)
    (hbind : Binds prog w ρ h₀ A c target bind) (hbody : SSs prog w ρ h₀ G Sg A c bd xs) (helse : SSs prog w ρ h₀ G Sg A c od ys) (hgo : ((forGo bind (fun σ => exSs G Sg bd σ) ds σ).bind (behind fun σ => exSs G Sg od σ)) = some (fl, σ'))
    (h : ∀ f s' Mu' Wr' α', Grow Mu Wr Mu' Wr' s s' → NowS prog w ρ h₀ Mu₀ c env Mu' Wr' α' σ' s' → FlowOK prog w ρ Mu₀ s' fl f → Q f s') : wpAny (model prog w) A (exec (.For target iter xs ys p) env) Q NoE s := by
  obtain ⟨⟨fl₀, σ₀⟩, hgo, hbh⟩ := Option.bind_eq_some_iff.mp hgo
  refine wpAny_For (wpAny_mono hiter (fun v s₁ h₁ => ?_) fun _ _ h => h) hfold
  obtain ⟨x₁, t₁, it, hv⟩ := h₁
  have g1 : Grow Mu Wr Mu Wr s s₁ := .ext x₁ N.N.R.tab t₁
  refine for_run (N.ext x₁ t₁) it hv hbind hbody hgo ?_ ?_ ?_
  · rintro rfl s' Mu' Wr' α' g N'
    rcases behind_some hbh with ⟨_, e⟩ | ⟨e, _⟩ | ⟨d, e, _⟩
    · exact helse N' e fun f s₃ _ _ _ g' N'' hf => h _ _ _ _ _ ((g1.trans g).trans g') N'' hf
    · cases e
    · cases e
  · rintro rfl s' Mu' Wr' α' g N'
    rcases behind_some hbh with ⟨e, _⟩ | ⟨_, rfl, rfl⟩ | ⟨d, e, _⟩
    · cases e
    · exact h _ _ _ _ _ (g1.trans g) N' trivial
    · cases e
  · rintro d rfl s' Mu' Wr' α' v g N' hr
    rcases behind_some hbh with ⟨e, _⟩ | ⟨e, _⟩ | ⟨d', e, rfl, rfl⟩
    · cases e
    · cases e
    · cases e; exact h _ _ _ _ _ (g1.trans g) N' hr

theorem SS.forE (hh : A.handled = none) {k : Nat} {e : PE} {bd od : PSs} {x : Str} {ex : Expr} {xs ys : List Stmt} {px p : Pos} (hx : c.v.lookup x = some k) (he : Snd prog w ρ h₀ G Sg A c e ex) (hf : ∀ env x, foldedSetIterable ex env x = pure x)
    (hb : SSs prog w ρ h₀ G Sg A c bd xs) (ho : SSs prog w ρ h₀ G Sg A c od ys) : SS prog w ρ h₀ G Sg A c (.forE k e bd od) (.For (.Name x px) ex xs ys p) := by
  intro env Mu₀ Mu Wr α σ s fl σ' Q N e1 h
  simp only [exS, Option.bind_eq_some_iff] at e1
  obtain ⟨x, ev, l, hw, e1⟩ := e1
  exact for_stmt N (walk_eval hh N he ev hw fun v s₁ a b c d => ⟨a, b, c, d⟩) (hf _) (binds_name hx) hb ho (Option.bind_eq_some_iff.mpr e1) h
theorem SS.forT (hh : A.handled = none) {ks : List Nat} {e : PE} {bd od : PSs} {es : List Expr} {ex : Expr} {xs ys : List Stmt} {kk : Nat} {px p : Pos} (ht : Tgts c ks es) (he : Snd prog w ρ h₀ G Sg A c e ex) (hf : ∀ env x, foldedSetIterable ex env x = pure x)
    (hb : SSs prog w ρ h₀ G Sg A c bd xs) (ho : SSs prog w ρ h₀ G Sg A c od ys) : SS prog w ρ h₀ G Sg A c (.forT ks e bd od) (.For (.Tuple es kk px) ex xs ys p) := by
  intro env Mu₀ Mu Wr α σ s fl σ' Q N e1 h
  simp only [exS, Option.bind_eq_some_iff] at e1
  obtain ⟨x, ev, l, hw, e1⟩ := e1
  exact for_stmt N (walk_eval hh N he ev hw fun v s₁ a b c d => ⟨a, b, c, d⟩) (hf _) (binds_tup hh ht) hb ho (Option.bind_eq_some_iff.mpr e1) h
theorem SS.forR (B : Base prog w ρ h₀ mg mb G gname fname fa) (hh : A.handled = none) {k : Nat} {hi : PE} {bd : PSs} {x : Str} {ex : Expr} {xs : List Stmt} {px p p2 q : Pos} (hx : c.v.lookup x = some k) (hk : c.k "range" = some .globalImplicit) (he : Snd prog w ρ h₀ G Sg A c hi ex)
    (hs : ∀ rest env, starEach (ex :: rest) env = (false, eval ex env) :: starEach rest env) (hb : SSs prog w ρ h₀ G Sg A c bd xs) : SS prog w ρ h₀ G Sg A c (.forR k (.lit (.int 0)) hi bd) (.For (.Name x px) (.Call (.Name "range" q) [ex] [] p2) xs [] p) := by
  intro env Mu₀ Mu Wr α σ s fl σ' Q N e1 h
  simp only [exS, evE, Option.bind_some, Option.bind_eq_some_iff] at e1
  obtain ⟨⟨d, tg⟩, ev, e1⟩ := e1
  dsimp only at e1
  cases d with
  | int i =>
    dsimp only at e1
    split at e1
    · rename_i hi'
      refine for_stmt (od := .nil) N (wpAny_mono (range1_eval B N.N hk he hs ev) (fun v s₁ ⟨x₁, t₁, hn, r, t, u, v', hv, hr⟩ => ⟨x₁, t₁, ?_, ?_⟩) fun _ _ e => e) (fun _ => rfl) (binds_name hx) hb SSs.nil (by simpa only [exSs] using e1) h
      · subst hv; exact iter_range hh hr hi'.1 hi'.2
      · exact fun a q h => by have := N.N.R.mu a h; rw [hn a q] at this; cases this
    · cases e1
  | _ => cases e1
end
end Mine
end
section
set_option autoImplicit false
namespace Mine
open PySem PySem.W

section
variable {prog : Program} {w : World} {ρ : Addr} {h₀ : Heap} {mg mb : Str → Option Value} {G : Nat → Option D} {Sg : Sig} {gname fname : Nat → Option Str} {fa : Nat → Addr} {X : Ctx → PE → Expr → Prop}
variable {A : Around} {s s' s'' s₀ s₁ : Shared} {Mu₀ Mu Wr Mu' Wr' Mu'' Wr'' : Addr → Prop} {α : Nat → Addr} {σ : List LV} {env : Env} {c : Ctx} {n : Nat}

theorem NowS.adopt2 {C a : Addr} (N : NowS prog w ρ h₀ Mu₀ c env Mu Wr α σ s₀) (x : Ext s₀ s) (t : s₀.toks ≤ s.toks) (hC : s₀.heap.get? C = none) (sC : (s.heap.get? C).isSome = true) (hn : s₀.heap.get? a = none) (hs : (s.heap.get? a).isSome = true) :
    NowS prog w ρ h₀ Mu₀ c env (fun b => (Mu b ∨ b = C) ∨ b = a) (fun b => Wr b ∨ b = a) α σ s := by
  have N' := N.ext x t
  have hold : ∀ a, s₀.heap.get? a = none → a = gT ∨ h₀.get? a = none := by
    intro a hn
    by_cases h : a = gT
    · exact .inl h
    · refine .inr ?_
      cases q : h₀.get? a with
      | none => rfl
      | some o => have := N.N.R.keep a o h q; rw [hn] at this; cases this
  refine ⟨⟨N.N.O, { keep := N'.N.R.keep, tab := N'.N.R.tab, mu := ?_, mug := .inl (.inl N.N.R.mug), muh := ?_, slots := ?_, owns := ?_ }, N.N.L, N'.N.K⟩, N.S, fun b h => .inl (N.frw b h), fun k d h => ⟨.inl (N.oww k d h).1, (N.oww k d h).2⟩, fun b h => ?_, fun b h => .inl (.inl (N.m0 b h)), N.inj, N'.ns, N'.cells⟩
  · rintro b ((h | rfl) | rfl)
    · exact N'.N.R.mu b h
    · exact sC
    · exact hs
  · rintro b ((h | rfl) | rfl)
    · exact N.N.R.muh b h
    · exact hold _ hC
    · exact hold _ hn
  · intro y k hy lv hlv
    have q := N.N.R.slots y k hy lv hlv
    cases lv with
    | un => trivial
    | fz d => obtain ⟨v, l, r⟩ := q; exact ⟨v, x.loads N.N.R.tab l, x.rd (.inl (.inl N.N.R.mug)) ((r.hide hC).hide hn)⟩
    | ow d => exact x.loads N.N.R.tab q
    | app j => obtain ⟨p, o, l, ho, hc, hd⟩ := q; exact ⟨p, o, x.loads N.N.R.tab l, x.keep _ _ (ne_gT' N.N.R.tab ho (by rw [hc]; nofun)) ho, hc, hd⟩
  · intro k d hk
    obtain ⟨h1, h2⟩ := N.N.R.owns k d hk
    exact ⟨.inl (.inl h1), x.ownAt N.N.R.tab (.inl (.inl N.N.R.mug)) ((h2.hide hC).hide hn)⟩
  · rcases h with h | h
    · exact .inl (.inl (N.wm b h))
    · exact .inr h

mutual
theorem RD.hideN {h : Heap} : ∀ {v : Value} {d : Mine.D}, RD prog w ρ Mu h v d → RD prog w ρ (fun b => Mu b ∨ h.get? b = Option.none) h v d
  | _, _, .none => .none
  | _, _, .bool b => .bool b
  | _, _, .int i t => .int i t
  | _, _, .str s t => .str s t
  | _, _, .tup n t r => .tup (fun q => q.elim n fun e => by obtain ⟨o, ho, _⟩ := t; rw [e] at ho; cases ho) t (RDs.hideN r)
  | _, _, .list n t r => .list (fun q => q.elim n fun e => by obtain ⟨k, ho⟩ := t; rw [e] at ho; cases ho) t (RDs.hideN r)
  | _, _, .dict n e t r => .dict (fun q => q.elim n fun e => by obtain ⟨o, _, _, ho, _⟩ := t; rw [e] at ho; cases ho) e t (REs.hideN r)
  | _, _, .adr a => .adr a
theorem RDs.hideN {h : Heap} : ∀ {v : List Value} {d : List Mine.D}, RDs prog w ρ Mu h v d → RDs prog w ρ (fun b => Mu b ∨ h.get? b = Option.none) h v d
  | _, _, .nil => .nil
  | _, _, .cons a r => .cons (RD.hideN a) (RDs.hideN r)
theorem REs.hideN {h : Heap} : ∀ {v : List (Str × Value)} {d : List (List Nat × Mine.D)}, REs prog w ρ Mu h v d → REs prog w ρ (fun b => Mu b ∨ h.get? b = Option.none) h v d
  | _, _, .nil => .nil
  | _, _, .cons a r => .cons (RD.hideN a) (REs.hideN r)
end

end
end Mine
end
section
set_option autoImplicit false
set_option maxRecDepth 100000
namespace Mine
open PySem PySem.W
open AutoSeq1 (wpAny_loadPart')

theorem meets_enum_tuple (l : Addr) (items : Array Value) (n : Nat) (dct : Option Addr) (sl : Array (Option Value)) :
    Meets (Builtin.«enumerate.__new__» ⟨[.type "enumerate", .ref l], []⟩) (fun _ R s => s.heap.get? l = some { cls := .type "tuple", dict := dct, data := .seq items n, slots := sl } ∧
      R (.ok (.ret (.ref (s.heap.push { cls := .type "tuple_iterator", data := .fields #[.ref l, .int 0 0] }).objs.size)))
        { s with heap := (s.heap.push { cls := .type "tuple_iterator", data := .fields #[.ref l, .int 0 0] }).push { cls := .type "enumerate", data := .fields #[.none, .bool false, .ref s.heap.objs.size, rawInt 0, .none, .none] } }) :=
  .of_wp fun prog w A R s h => by
    obtain ⟨hp, g, d, tk, os⟩ := s; obtain ⟨hl, h⟩ := h
    have hsub := sub_enumerate
    have hL : Heap.IsTuple (Shared.heap ⟨hp, g, d, tk, os⟩) l items := ⟨_, hl, rfl, n, rfl⟩
    wp_walk using wpAny_loadPart' hl
    refine wpAny_stack_any fun st => wpAny_pure ?_
    split
    · rename_i c _ _ _ _ _
      cases (c == Value.type "enumerate")
      · wp_walk using wpAny_loadPart' hl, wpAny_pyIter_tuple hL
        exact ⟨_, rfl, h⟩
      · wp_walk using wpAny_loadPart' hl, wpAny_pyIter_tuple hL
        exact ⟨_, rfl, h⟩
    · wp_walk using wpAny_loadPart' hl, wpAny_pyIter_tuple hL
      exact ⟨_, rfl, h⟩

section
variable {prog : Program} {w : World} {ρ : Addr} {A : Around} {E : Value → Shared → Prop} {s : Shared}
theorem enum_tuple {l : Addr} {items : Array Value} {Q : Value → Shared → Prop} (hL : s.heap.IsTuple l items)
    (h : ∀ h', IsEnum h' (s.heap.objs.size + 1) s.heap.objs.size 0 .none → h'.IsTupleIter s.heap.objs.size l 0 → h'.objs.size = s.heap.objs.size + 2 →
      (∀ b o, s.heap.get? b = some o → h'.get? b = some o) → Q (.ref (s.heap.objs.size + 1)) { s with heap := h' }) :
    wpAny (model prog w) A (call (.type "enumerate") [.ref l]) Q E s := by
  obtain ⟨⟨c, dct, dt, sl⟩, hl, hc, n, hd⟩ := hL
  replace hc : c = .type "tuple" := hc
  replace hd : dt = .seq items n := hd
  subst hc hd
  refine callType_new F.called_enumerate (by decide) (F.typeCall_enumerate_1 _) (F.newCall_enumerate_1 _) (fun obj => F.args_object_init_2 obj _) F.entry_enumerate_new
    (meets_enum_tuple l items n dct sl) ⟨hl, ?_⟩
  have hz : (s.heap.push { cls := .type "tuple_iterator", data := .fields #[.ref l, .int 0 0] }).objs.size = s.heap.objs.size + 1 := Heap.size_push ..
  show _ ∧ _
  rw [hz]
  have he : IsEnum ((s.heap.push { cls := .type "tuple_iterator", data := .fields #[.ref l, .int 0 0] }).push
      { cls := .type "enumerate", data := .fields #[.none, .bool false, .ref s.heap.objs.size, rawInt 0, .none, .none] }) (s.heap.objs.size + 1) s.heap.objs.size 0 .none := by
    have := Heap.get?_push_size (s.heap.push { cls := .type "tuple_iterator", data := .fields #[.ref l, .int 0 0] })
      (o := { cls := .type "enumerate", data := .fields #[.none, .bool false, .ref s.heap.objs.size, rawInt 0, .none, .none] }) rfl
    rw [hz] at this; exact this
  refine ⟨⟨_, he, rfl⟩, h _ he ⟨_, Heap.get?_push_of_some _ (Heap.get?_push_size _ rfl), rfl, rfl⟩ (by rw [Heap.size_push, hz]) fun b o x => Heap.get?_push_of_some _ (Heap.get?_push_of_some _ x)⟩
end
end Mine
end
section
set_option autoImplicit false
set_option maxRecDepth 100000
namespace Mine
open PySem PySem.W
open Builtin Builtin.Str

section
variable {prog : Program} {w : World} {ρ : Addr} {A : Around} {E : Value → Shared → Prop} {s : Shared}
theorem nextOf_tuple_item {it l : Addr} {i : Nat} {items : Array Value} {x : Value} {Q : Value → Shared → Prop} (hit : s.heap.IsTupleIter it l i) (hl : s.heap.IsTuple l items) (hx : items[i]? = some x)
    (hQ : ∀ h', h'.IsTupleIter it l (i + 1) → Heap.SameBut it s.heap h' → Q x { s with heap := h' }) : wpAny (model prog w) A (Builtin.SmallTypes.nextOf (.ref it)) Q E s := by
  obtain ⟨o, ho, hc, hd⟩ := id hit
  obtain ⟨ol, hol, _, nl, hdl⟩ := hl
  unfold Builtin.SmallTypes.nextOf
  refine wpAny_bind (wpAny_callSpecial?_slot (name := Str.ofString "__next__") hit.typeIs F.slot_tuple_iterator_next (wpAny_call_entry F.slot_tuple_iterator_next hit.typeIs F.entry_tuple_iterator_next ?_ (F.args_tuple_iterator_next_1 _)))
  show wpAny _ _ (field (.ref it) 0 >>= _) _ _ s
  refine wpAny_bind (wpAny_field ho hd (x := .ref l) rfl ?_)
  show wpAny _ _ (if (Value.ref l == Value.none) = true then _ else _) _ _ s
  rw [if_neg (show ¬ ((Value.ref l == Value.none) = true) from Bool.false_ne_true)]
  show wpAny _ _ (field (.ref it) 1 >>= _) _ _ s
  refine wpAny_bind (wpAny_field ho hd (x := .int i 0) rfl ?_)
  show wpAny _ _ (seqItems? (.ref l) >>= _) _ _ s
  refine wpAny_bind (wpAny_seqItems hol hdl ?_)
  simp only [Int.toNat_natCast, hx]
  refine wpAny_bind (wpAny_setField ho hd (by simp) (wpAny_pure ⟨x, rfl, wpAny_pure (hQ _ ?_ (Heap.SameBut.update ..))⟩))
  exact ⟨_, Heap.get?_update_self _ ho (Obj.isFreed_of_fields (Obj.data_mapFields hd _)), (Obj.cls_mapFields ..).trans hc, by rw [Obj.data_mapFields hd]; simp [rawInt]⟩
theorem nextOf_tuple_end {it l : Addr} {i : Nat} {items : Array Value} {Q : Value → Shared → Prop} (hh : A.handled = none) (hit : s.heap.IsTupleIter it l i) (hl : s.heap.IsTuple l items) (hx : items[i]? = none)
    (hE : ∀ h' e, Heap.ExtBut it s.heap h' → (∃ o, h'.get? e = some o ∧ o.cls = .type "StopIteration") → E (.ref e) { s with heap := h' }) : wpAny (model prog w) A (Builtin.SmallTypes.nextOf (.ref it)) Q E s := by
  obtain ⟨o, ho, hc, hd⟩ := id hit
  obtain ⟨ol, hol, _, nl, hdl⟩ := hl
  unfold Builtin.SmallTypes.nextOf
  refine wpAny_bind (wpAny_callSpecial?_slot (name := Str.ofString "__next__") hit.typeIs F.slot_tuple_iterator_next (wpAny_call_entry F.slot_tuple_iterator_next hit.typeIs F.entry_tuple_iterator_next ?_ (F.args_tuple_iterator_next_1 _)))
  show wpAny _ _ (field (.ref it) 0 >>= _) _ _ s
  refine wpAny_bind (wpAny_field ho hd (x := .ref l) rfl ?_)
  show wpAny _ _ (if (Value.ref l == Value.none) = true then _ else _) _ _ s
  rw [if_neg (show ¬ ((Value.ref l == Value.none) = true) from Bool.false_ne_true)]
  show wpAny _ _ (field (.ref it) 1 >>= _) _ _ s
  refine wpAny_bind (wpAny_field ho hd (x := .int i 0) rfl ?_)
  show wpAny _ _ (seqItems? (.ref l) >>= _) _ _ s
  refine wpAny_bind (wpAny_seqItems hol hdl ?_)
  simp only [Int.toNat_natCast, hx]
  refine wpAny_bind (wpAny_rule (wpAny_bind (wpAny_setField ho hd (by simp) ?_)))
  show wpAny _ _ (newExc (.type "StopIteration") [] >>= _) _ _ _
  refine wpAny_bind ?_
  simp only [newExc, newTuple]
  refine wpAny_bind (wpAny_newObj_type ?_ (by size_fits))
  refine wpAny_bind (m := firstArgMember _ _) (wpAny_of_eq (a := Value.none) (by first | rfl | (simp only [firstArgMember]; rfl)) ?_)
  refine wpAny_newObj_type ?_ (by size_fits)
  simp only [raiseNew]
  refine wpAny_bind (wpAny_handled ?_)
  first | rw [show A.in1.handled = none from hh] | rw [hh]
  refine wpAny_bind (wpAny_pure (wpAny_throw ?_))
  exact hE _ _ (((Heap.SameBut.update ..).extBut.push _).push _) ⟨_, Heap.get?_push_size _ rfl, rfl⟩
end
theorem draws_tuple {prog : Program} {w : World} {A : Around} (hh : A.handled = none) (it l : Addr) (hne : l ≠ it) (items : Array Value) :
    Draws prog w A it [it, l] items.size (fun i v => items[i]? = some v) (fun i h => h.IsTupleIter it l i ∧ h.IsTuple l items) where
  live := fun _ _ st => let ⟨o, ho, _⟩ := st.1; ⟨o, ho⟩
  frame := fun _ _ _ st hk => ⟨let ⟨o, ho, r⟩ := st.1; ⟨o, hk it (by simp) o ho, r⟩, let ⟨o, ho, r⟩ := st.2; ⟨o, hk l (by simp) o ho, r⟩⟩
  item := fun i s Q E hi st hQ => by
    refine nextOf_tuple_item st.1 st.2 (x := items[i]) (by simp [hi]) fun h' hit' hs' => ?_
    exact hQ _ h' s.toks (by simp [hi]) ⟨hit', let ⟨o, ho, r⟩ := st.2; ⟨o, hs'.extBut _ o hne ho, r⟩⟩ hs'
  done := fun s Q E st hE => nextOf_tuple_end hh st.1 st.2 (by simp) hE
end Mine
end
section
set_option autoImplicit false
namespace Mine
open PySem PySem.W

section
variable {prog : Program} {w : World} {ρ : Addr} {h₀ : Heap} {mg mb : Str → Option Value} {G : Nat → Option D} {Sg : Sig} {gname fname : Nat → Option Str} {fa : Nat → Addr} {X : Ctx → PE → Expr → Prop}
variable {A : Around} {s s' s'' s₀ s₁ : Shared} {Mu₀ Mu Wr Mu' Wr' Mu'' Wr'' : Addr → Prop} {α : Nat → Addr} {σ : List LV} {env : Env} {c : Ctx} {n : Nat}

/-- a few hidden things are turned: nothing else is touched; those that stay hidden still stand -/
theorem NowS.turn {Z : Addr → Prop} (N : NowS prog w ρ h₀ Mu₀ c env Mu Wr α σ s) (hm : ∀ b, Mu' b → Mu b) (hMZ : ∀ b, Mu b → Z b ∨ Mu' b) (hZM : ∀ b, Z b → Mu b) (hZW : ∀ b, Z b → ¬ Wr b) (hZ0 : ∀ b, Z b → ¬ Mu₀ b) (hZT : ∀ b, Z b → b ≠ gT ∧ b ≠ gC ∧ h₀.get? b = none) (hZs : ∀ b, Z b → Mu' b → (s'.heap.get? b).isSome = true)
    (hZa : ∀ b o, Z b → s.heap.get? b = some o → o.cls ≠ .type "builtin_function_or_method") (hk : ∀ b o, ¬ Z b → s.heap.get? b = some o → s'.heap.get? b = some o) (t : s.toks ≤ s'.toks) : NowS prog w ρ h₀ Mu₀ c env Mu' Wr α σ s' := by
  have hnz : ∀ b, Mu b → ¬ Z b → Mu' b := fun b h q => (hMZ b h).elim (fun z => absurd z q) id
  refine N.change ?_ (fun b h q => h (hm b q)) (fun b o h e => hk b o (fun z => h (hZM b z)) e) (fun b o h e => hk b o (fun z => hZW b z (N.frw b h)) e) (fun k d o h e => hk _ o (fun z => hZW _ z (N.oww k d h).1) e)
    (fun q o e hc _ => hk q o (fun z => hZa q o z e hc) e) N.frw (fun k d h => (N.oww k d h).1) (fun b h => hnz b (N.wm b h) fun z => hZW b z h) (fun b h => hnz b (N.m0 b h) fun z => hZ0 b z h) t
  refine ⟨fun b o n e => ?_, N.N.R.tab.only fun b o hb e => hk b o (fun z => by rcases hb with rfl | rfl; exact (hZT _ z).2.1 rfl; exact (hZT _ z).1 rfl) e, fun b hb => ?_, hnz _ N.N.R.mug fun z => (hZT _ z).1 rfl, fun b hb => N.N.R.muh b (hm b hb)⟩
  · by_cases q : Z b
    · have := (hZT b q).2.2; rw [this] at e; cases e
    · exact hk b o q (N.N.R.keep b o n e)
  · by_cases q : Z b
    · exact hZs b q hb
    · obtain ⟨o, ho⟩ := Option.isSome_iff_exists.mp (N.N.R.mu b (hm b hb))
      rw [hk b o q ho]; rfl

theorem enum_run {elts : List Expr} {kk : Nat} {tp : Pos} {xs ys : List Stmt} {l : Addr} {vs : List Value} {ds : List Mine.D} {bind : Mine.D → List LV → Option (List LV)} {bd : PSs} {fl₀ : Fl} {σ₀ : List LV} {R : Result → Shared → Prop} (hh : A.handled = none) (N : NowS prog w ρ h₀ Mu₀ c env Mu Wr α σ s)
    (hl : ¬ Mu l) (ht : s.heap.IsTuple l vs.toArray) (hr : RDs prog w ρ Mu s.heap vs ds) (hbind : Binds prog w ρ h₀ A c (.Tuple elts kk tp) bind) (hbody : SSs prog w ρ h₀ G Sg A c bd xs)
    (hgo : forGo bind (fun σ => exSs G Sg bd σ) (ds.mapIdx fun i d => Mine.D.tup [.int i, d]) σ = some (fl₀, σ₀))
    (hnext : fl₀ = .next → ∀ s' Mu' Wr' α', Grow Mu Wr Mu' Wr' s s' → NowS prog w ρ h₀ Mu₀ c env Mu' Wr' α' σ₀ s' → wpAny (model prog w) A (execs ys env) (fun f s₃ => R (.ok f) s₃) NoE s')
    (hbrk : fl₀ = .brk → ∀ s' Mu' Wr' α', Grow Mu Wr Mu' Wr' s s' → NowS prog w ρ h₀ Mu₀ c env Mu' Wr' α' σ₀ s' → R (.ok .next) s')
    (hret : ∀ d, fl₀ = .ret d → ∀ s' Mu' Wr' α' v, Grow Mu Wr Mu' Wr' s s' → NowS prog w ρ h₀ Mu₀ c env Mu' Wr' α' σ₀ s' → RD prog w ρ Mu₀ s'.heap v d → R (.ok (.ret v)) s') :
    wpAny (model prog w) A (call (.type "enumerate") [.ref l]) (fun v s₁ => wpAny (model prog w) A (pyIter v) (fun it s₂ => codeAny (model prog w) A (.forLoop (.Tuple elts kk tp) it xs ys env) R s₂) NoE s₁) NoE s := by
  refine enum_tuple ht fun h₁ he0 hi0 hz hk1 => ?_
  have e1n : s.heap.get? s.heap.objs.size = none := newer (Nat.le_refl _)
  have e2n : s.heap.get? (s.heap.objs.size + 1) = none := newer (Nat.le_succ _)
  generalize hie : s.heap.objs.size = it at *
  generalize hee : it + 1 = e at *
  have hei : e ≠ it := by omega
  have ltn : ∀ b, (s.heap.get? b).isSome = true → b ≠ it ∧ b ≠ e := fun b hb => ⟨fun q => (by rw [q, e1n] at hb; cases hb), fun q => (by rw [q, e2n] at hb; cases hb)⟩
  have hls : (s.heap.get? l).isSome = true := by obtain ⟨o, ho, _⟩ := ht; rw [ho]; rfl
  obtain ⟨hli, hle⟩ := ltn l hls
  obtain ⟨hitT, hitC⟩ := N.none_ne e1n
  obtain ⟨heT, heC⟩ := N.none_ne e2n
  have hlT : l ≠ gT := by obtain ⟨o, ho, hc, _⟩ := ht; exact ne_gT' N.N.R.tab ho (by rw [hc]; nofun)
  have hx1 : Ext s { s with heap := h₁ } := .kept' hk1
  have N1a := N.adopt2 hx1 (Nat.le_refl _) e1n (by obtain ⟨o, ho, _⟩ := hi0; dsimp only; rw [ho]; rfl) e2n (by dsimp only; rw [he0]; rfl)
  have none0 : ∀ b, s.heap.get? b = none → b ≠ gT → h₀.get? b = none := fun b hb n => by
    cases q : h₀.get? b with
    | none => rfl
    | some o => have := N.N.R.keep b o n q; rw [hb] at this; cases this
  have N1 : NowS prog w ρ h₀ Mu₀ c env (fun b => (Mu b ∨ b = it) ∨ b = e) Wr α σ { s with heap := h₁ } :=
    N1a.change N1a.N.R.toSt (fun _ h => h) (fun _ _ _ e => e) (fun _ _ _ e => e) (fun _ _ _ _ e => e) (fun _ _ e _ _ => e) N.frw (fun k d h => (N.oww k d h).1) (fun b h => .inl (.inl (N.wm b h))) N1a.m0 (Nat.le_refl _)
  have W := WalksT.enumerateD (prog := prog) (w := w) (A := A) (draws_tuple (A := A.in1) hh it l hli vs.toArray) e hei (by
    intro hm
    rcases List.mem_cons.mp hm with q | hm
    · exact hei q
    · rcases List.mem_cons.mp hm with q | hm
      · exact hle q.symm
      · cases hm) (.head _)
  have hlen : vs.toArray.size = ds.length := by rw [List.size_toArray, hr.length]
  rw [hlen] at W
  have hWz : ∀ b, b = it ∨ b = e → ¬ Wr b := by
    rintro b hb h
    have := N.N.R.mu _ (N.wm _ h)
    rcases hb with rfl | rfl
    · rw [e1n] at this; cases this
    · rw [e2n] at this; cases this
  have hWl : ¬ Wr l := fun h => hl (N.wm l h)
  have hZ0 : ∀ b, b = it ∨ b = e → ¬ Mu₀ b := by
    rintro b hb h
    have := N.N.R.mu _ (N.m0 _ h)
    rcases hb with rfl | rfl
    · rw [e1n] at this; cases this
    · rw [e2n] at this; cases this
  have hZT : ∀ b, b = it ∨ b = e → b ≠ gT ∧ b ≠ gC ∧ h₀.get? b = none := by
    rintro b (rfl | rfl)
    · exact ⟨hitT, hitC, none0 _ e1n hitT⟩
    · exact ⟨heT, heC, none0 _ e2n heT⟩
  have hst0 : (∃ old, IsEnum h₁ e it ((0 : Nat) : Int) old) ∧ h₁.IsTupleIter it l 0 ∧ h₁.IsTuple l vs.toArray := ⟨⟨_, he0⟩, hi0, let ⟨o, ho, r⟩ := ht; ⟨o, hk1 _ _ ho, r⟩⟩
  refine wpAny_mono (W.self 0 _ _ NoE hst0 ?_) (fun _ _ h => h) fun _ _ h => h
  refine codeAny_forLoop_any (fun k s' => ∃ i Mu' Wr' α' σ₁, Grow Mu Wr Mu' Wr' s s' ∧ (∀ b, Mu b ∨ b = it ∨ b = e → Mu' b) ∧ NowS prog w ρ h₀ Mu₀ c env Mu' Wr' α' σ₁ s' ∧ (∀ b, b = it ∨ b = e ∨ b = l → ¬ Wr' b) ∧
      ((∃ old, IsEnum s'.heap e it ((i : Nat) : Int) old) ∧ s'.heap.IsTupleIter it l i ∧ s'.heap.IsTuple l vs.toArray) ∧ i ≤ ds.length ∧ k = ds.length + 1 - i ∧
      forGo bind (fun σ => exSs G Sg bd σ) ((ds.mapIdx fun i d => Mine.D.tup [.int i, d]).drop i) σ₁ = some (fl₀, σ₀)) ?_ (ds.length + 1)
    ⟨0, _, Wr, α, σ, ?_, ?_, N1, ?_, hst0, Nat.zero_le _, rfl, by simpa using hgo⟩
  · rintro k s' ⟨i, Mu', Wr', α', σ₁, g, hmi, N', hW', st, hi, rfl, ego⟩
    have hMz : ∀ b, b = it ∨ b = e → Mu' b := fun b h => hmi b (.inr h)
    have cz : ∀ b o, b = it ∨ b = e → s'.heap.get? b = some o → o.cls ≠ .type "builtin_function_or_method" := by
      rintro b o (rfl | rfl) q
      · obtain ⟨o', ho', hc, _⟩ := st.2.1
        rw [ho'] at q; cases q
        rw [hc]; intro z; injection z with z; exact absurd z (by decide)
      · obtain ⟨old, ho'⟩ := st.1
        rw [ho'] at q; cases q
        intro z; injection z with z; exact absurd z (by decide)
    by_cases hlt : i < ds.length
    · refine wpAny_with_toks (n := s'.toks) (Nat.le_refl _) (W.item i _ _ _ hlt st fun T vals h₂ tk₂ hP hT hTt mid hk₂ t₂ => ?_)
      have hk2 : ∀ b o, ¬ (b = it ∨ b = e) → s'.heap.get? b = some o → h₂.get? b = some o := fun b o hb => hk₂ b o (by
        intro hm
        rcases List.mem_cons.mp hm with q | hm
        · exact hb (.inr q)
        · rcases List.mem_cons.mp hm with q | hm
          · exact hb (.inl q)
          · cases hm)
      refine W.go elts kk tp i T _ _ _ mid fun h₃ st₃ hk₃ => ?_
      have hk3 : ∀ b o, ¬ (b = it ∨ b = e) → h₂.get? b = some o → h₃.get? b = some o := fun b o hb => hk₃ b o (by
        intro hm
        rcases List.mem_cons.mp hm with q | hm
        · exact hb (.inr q)
        · rcases List.mem_cons.mp hm with q | hm
          · exact hb (.inl q)
          · cases hm)
      have hk23 : ∀ b o, ¬ (b = it ∨ b = e) → s'.heap.get? b = some o → h₃.get? b = some o := fun b o hb q => hk3 b o hb (hk2 b o hb q)
      have N3 : NowS prog w ρ h₀ Mu₀ c env Mu' Wr' α' σ₁ { s' with heap := h₃, toks := tk₂ } := N'.turn (Z := fun b => b = it ∨ b = e) (fun _ h => h) (fun _ h => .inr h) hMz (fun b h => hW' b (h.elim .inl fun q => .inr (.inl q))) hZ0 hZT (by
        rintro b (rfl | rfl) _
        · obtain ⟨o, ho, _⟩ := st₃.2.1; dsimp only; rw [ho]; rfl
        · obtain ⟨old, ho⟩ := st₃.1; dsimp only; rw [ho]; rfl) cz hk23 t₂
      have g3 : Grow Mu Wr Mu' Wr' s { s' with heap := h₃, toks := tk₂ } := g.then (fun b o hb q => hk23 b o (fun z => z.elim (ltn b hb).1 (ltn b hb).2) q) rfl rfl t₂
      obtain ⟨t, x, hx, rfl⟩ := hP
      obtain ⟨d, hd, hrd⟩ := hr.gets hx
      have hTn : s'.heap.get? T = none := newer hT
      have hTM : ¬ Mu' T := fun h => by have := N'.N.R.mu T h; rw [hTn] at this; cases this
      have hTz : ¬ (T = it ∨ T = e) := fun h => hTM (hMz T h)
      have hu : RD prog w ρ Mu' h₃ (.ref T) (.tup [.int i, d]) := by
        refine .tup hTM (let ⟨o, ho, r⟩ := hTt; ⟨o, hk3 _ _ hTz ho, by simpa using r⟩) (.cons (.int _ _) (.cons ?_ .nil))
        exact hrd.hideN.mono (fun b h q => h (q.elim .inl fun q => .inr q)) (fun _ _ _ e => e) |>.mono (fun b h q => h (g.mun b q)) (fun b o h q => hk23 b o (fun z => h (by rcases z with rfl | rfl; exact .inr e1n; exact .inr e2n)) (g.keep b o (fun z => h (.inl (z ▸ N.N.R.mug))) (fun z => h (.inl (N.wm b z))) q))
      have hdrop : (ds.mapIdx fun i d => Mine.D.tup [.int i, d]).drop i = .tup [.int i, d] :: (ds.mapIdx fun i d => Mine.D.tup [.int i, d]).drop (i + 1) := by
        obtain ⟨f1, f2⟩ := List.getElem?_eq_some_iff.mp hd
        rw [List.drop_eq_getElem_cons (by simpa using f1)]
        simp [f2]
      rw [hdrop] at ego
      simp only [forGo, Option.bind_eq_some_iff] at ego
      obtain ⟨σ₂, hb, ⟨f1, σ₃⟩, hx', ego⟩ := ego
      refine wpAny_mono (hbind N3 hu hb fun s₄ g4 N4 => ?_) (fun _ _ h => h) fun _ _ h => h.elim
      refine wpAny_mono (hbody N4 hx' fun f s₅ Mu5 Wr5 α5 g5 N5 hf => ?_) (fun _ _ h => h) fun _ _ h => h.elim
      have gg := (g3.trans g4).trans g5
      have g45 := g4.trans g5
      have nW : ∀ b, b = it ∨ b = e ∨ b = l → ¬ Wr5 b := fun b hb q => (g45.wrn b q).elim (hW' b hb) fun z => by
        dsimp only at z
        rcases hb with rfl | rfl | rfl
        · obtain ⟨o, ho, _⟩ := st₃.2.1; rw [ho] at z; cases z
        · obtain ⟨old, ho⟩ := st₃.1; rw [ho] at z; cases z
        · obtain ⟨o, ho, _⟩ := st₃.2.2; rw [ho] at z; cases z
      have kp : ∀ b o, b = it ∨ b = e ∨ b = l → h₃.get? b = some o → s₅.heap.get? b = some o := fun b o hb q => g45.keep b o (by rcases hb with rfl | rfl | rfl; exact hitT; exact heT; exact hlT) (hW' b hb) q
      have st5 : (∃ old, IsEnum s₅.heap e it (((i + 1 : Nat)) : Int) old) ∧ s₅.heap.IsTupleIter it l (i + 1) ∧ s₅.heap.IsTuple l vs.toArray :=
        ⟨let ⟨old, ho⟩ := st₃.1; ⟨old, kp _ _ (.inr (.inl rfl)) ho⟩, let ⟨o, ho, r⟩ := st₃.2.1; ⟨o, kp _ _ (.inl rfl) ho, r⟩, let ⟨o, ho, r⟩ := st₃.2.2; ⟨o, kp _ _ (.inr (.inr rfl)) ho, r⟩⟩
      cases f1 with
      | next =>
        cases f <;> first | exact hf.elim | skip
        exact ⟨ds.length + 1 - (i + 1), by omega, i + 1, Mu5, Wr5, α5, _, gg, fun b h => g5.mu b (hmi b h), N5, nW, st5, hlt, rfl, ego⟩
      | brk => cases ego; cases f <;> first | exact hf.elim | exact hbrk rfl _ _ _ _ gg N5
      | ret d => cases ego; cases f <;> first | exact hf.elim | exact hret d rfl _ _ _ _ _ gg N5 hf
    · have hin : i = ds.length := by omega
      subst hin
      refine wpAny_with_toks (n := s'.toks) (Nat.le_refl _) (W.done _ _ _ st fun h₂ tk₂ hk₂ t₂ => ?_)
      have hk2 : ∀ b o, ¬ (b = it ∨ b = e) → s'.heap.get? b = some o → h₂.get? b = some o := fun b o hb => hk₂ b o (by
        intro hm
        rcases List.mem_cons.mp hm with q | hm
        · exact hb (.inr q)
        · rcases List.mem_cons.mp hm with q | hm
          · exact hb (.inl q)
          · cases hm)
      rw [List.drop_eq_nil_of_le (by simp)] at ego
      cases ego
      have N2 : NowS prog w ρ h₀ Mu₀ c env (fun b => Mu' b ∧ ¬ (b = it ∨ b = e)) Wr' α' σ₀ { s' with heap := h₂, toks := tk₂ } := N'.turn (Z := fun b => b = it ∨ b = e) (fun _ h => h.1) (fun b h => (Classical.em (b = it ∨ b = e)).elim .inl fun z => .inr ⟨h, z⟩) hMz (fun b h => hW' b (h.elim .inl fun q => .inr (.inl q))) hZ0 hZT
        (fun b h q => absurd h q.2) cz hk2 t₂
      have g2 : Grow Mu Wr Mu' Wr' s { s' with heap := h₂, toks := tk₂ } := g.then (fun b o hb q => hk2 b o (fun z => z.elim (ltn b hb).1 (ltn b hb).2) q) rfl rfl t₂
      have g3 : Grow Mu Wr (fun b => Mu' b ∧ ¬ (b = it ∨ b = e)) Wr' s { s' with heap := h₂, toks := tk₂ } :=
        { g2 with mu := fun b h => ⟨g.mu b h, fun z => z.elim (ltn b (N.N.R.mu b h)).1 (ltn b (N.N.R.mu b h)).2⟩, mun := fun b h => g.mun b h.1 }
      exact wpAny_mono (hnext rfl _ _ _ _ g3 N2) (fun _ _ h => h) fun _ _ h => h.elim
  · exact ⟨fun _ h => .inl (.inl h), fun _ h => h, fun b h => by
      rcases h with (h | rfl) | rfl
      · exact .inl h
      · exact .inr e1n
      · exact .inr e2n, fun _ h => .inl h, fun b o _ _ q => hk1 b o q, fun b h => by
      obtain ⟨o, ho⟩ := Option.isSome_iff_exists.mp h
      dsimp only
      rw [hk1 b o ho]; rfl, fun t => t.keeps hk1, rfl, id, Nat.le_refl _⟩
  · rintro b (h | rfl | rfl)
    · exact .inl (.inl h)
    · exact .inl (.inr rfl)
    · exact .inr rfl
  · rintro b (rfl | rfl | rfl)
    · exact hWz _ (.inl rfl)
    · exact hWz _ (.inr rfl)
    · exact hWl

theorem SS.forEnum (B : Base prog w ρ h₀ mg mb G gname fname fa) (hh : A.handled = Option.none) {ki kx : Nat} {e : PE} {bd : PSs} {es : List Expr} {ex : Expr} {xs : List Stmt} {kk : Nat} {px p p2 q : Pos} (ht : Tgts c [ki, kx] es) (hk : c.k "enumerate" = some .globalImplicit) (he : Snd prog w ρ h₀ G Sg A c e ex)
    (hs : ∀ rest env, starEach (ex :: rest) env = (false, eval ex env) :: starEach rest env) (hb : SSs prog w ρ h₀ G Sg A c bd xs) : SS prog w ρ h₀ G Sg A c (.forEnum ki kx e bd) (.For (.Tuple es kk px) (.Call (.Name "enumerate" q) [ex] [] p2) xs [] p) := by
  intro env Mu₀ Mu Wr α σ s fl σ' Q N e1 h
  simp only [exS, Option.bind_eq_some_iff] at e1
  obtain ⟨⟨d, tg⟩, ev, e1⟩ := e1
  dsimp only at e1
  split at e1
  · rename_i l
    obtain ⟨⟨fl₀, σ₀⟩, hgo, hbh⟩ := Option.bind_eq_some_iff.mp e1
    refine wpAny_For (wpAny_Call_NameR (wpAny_Name (load_built B N.N.O N.N.R.toSt hk B.enum ?_)))
    have hb' : backTo p2 (starEach [ex] env) = [(false, eval ex env)] := by rw [hs]; rfl
    rw [hb']
    refine callWith_type rfl (Calls.evalArgs_plain (Calls.spliced_cons (he.ev N.N ev fun v s₁ x₁ t₁ v₁ => Calls.spliced_nil ?_)))
    have r1 := N.N.rw x₁ ev v₁
    obtain ⟨a, vs, rfl, hna, hit, hr⟩ : ∃ a vs, v = .ref a ∧ ¬ Mu a ∧ PyProof.Rows.IsTup s₁.heap a (List.toArray vs) ∧ RDs prog w ρ Mu s₁.heap vs l := by
      cases r1 with
      | tup n t r => exact ⟨_, _, rfl, n, t, r⟩
    have g1 : Grow Mu Wr Mu Wr s s₁ := .ext x₁ N.N.R.tab t₁
    refine enum_run (R := fun r s' => match r with | .ok f => Q f s' | .error e => cameBackBy (model prog w) A env NoE e s') hh (N.ext x₁ t₁) hna hit hr (binds_tup hh ht) hb hgo ?_ ?_ ?_
    · rintro rfl s' Mu' Wr' α' g N'
      rcases behind_some hbh with ⟨_, e⟩ | ⟨e, _⟩ | ⟨d, e, _⟩
      · cases e; exact wpAny_execs_nil (h _ _ _ _ _ (g1.trans g) N' trivial)
      · cases e
      · cases e
    · rintro rfl s' Mu' Wr' α' g N'
      rcases behind_some hbh with ⟨e, _⟩ | ⟨_, rfl, rfl⟩ | ⟨d, e, _⟩
      · cases e
      · exact h _ _ _ _ _ (g1.trans g) N' trivial
      · cases e
    · rintro d rfl s' Mu' Wr' α' v g N' hr
      rcases behind_some hbh with ⟨e, _⟩ | ⟨e, _⟩ | ⟨d', e, rfl, rfl⟩
      · cases e
      · cases e
      · cases e; exact h _ _ _ _ _ (g1.trans g) N' hr
  · cases e1
end
end Mine
end
section
set_option autoImplicit false
namespace Mine
open PySem PySem.W

section
variable {prog : Program} {w : World} {ρ : Addr} {h₀ : Heap} {mg mb : Str → Option Value} {G : Nat → Option D} {Sg : Sig} {gname fname : Nat → Option Str} {fa : Nat → Addr} {X : Ctx → PE → Expr → Prop}
variable {A : Around} {s s' s'' s₀ s₁ : Shared} {Mu₀ Mu Wr Mu' Wr' Mu'' Wr'' : Addr → Prop} {α : Nat → Addr} {σ : List LV} {env : Env} {c : Ctx} {n : Nat}

theorem comp_store {y : Str} {k : Nat} {py : Pos} {out : List Mine.D} {Q : Flow → Shared → Prop} {C D : Addr} {m : Str → Option Value} (N : NowS prog w ρ h₀ Mu₀ c env Mu Wr α σ s) (hx : c.v.lookup y = some k) (e : Ext s s') (t : s.toks ≤ s'.toks) (hD : s.heap.get? D = none) (hC : s.heap.get? C = none)
    (hDC : D ≠ C) (hn : s'.heap.Ns C m) (ho : OwnAt prog w ρ (fun b => (Mu b ∨ b = C) ∨ b = D) D (.list out) s'.heap)
    (h : ∀ f s' Mu' Wr' α', Grow Mu Wr Mu' Wr' s s' → NowS prog w ρ h₀ Mu₀ c env Mu' Wr' α' (putO k (.list out) σ) s' → FlowOK prog w ρ Mu₀ s' .next f → Q f s') :
    wpAny (model prog w) A (assign (.Name y py) env (.ref D)) (fun _ s'' => ∃ m, s''.heap.Ns C m ∧ ∀ h', Heap.SameBut C s''.heap h' → Q .next { s'' with heap := h' }) NoE s' := by
  have sC : (s'.heap.get? C).isSome = true := by obtain ⟨o, _, _, ho, _⟩ := hn; rw [ho]; rfl
  have N2 := N.adopt2 e t hC sC hD ho.some
  have hex : ∀ b, (s.heap.get? b).isSome = true → b ≠ C := fun b hb q => by rw [q, hC] at hb; cases hb
  have hmC : ∀ b, Mu b → b ≠ C := fun b hb => hex b (N.N.R.mu b hb)
  obtain ⟨hCT, hCC⟩ := N.none_ne hC
  refine wpAny_assign_Name (store_own' N2 hx (.inr rfl) (N.fresh hD) ho fun s'' g N3 hw => ?_)
  obtain ⟨f, hf, W⟩ := hw
  have hfC : f ≠ C := hmC f (N.wm f (N.frw f hf))
  have hn'' : s''.heap.Ns C m := hn.sameBut W.same (Ne.symm hfC)
  refine ⟨m, hn'', fun h' hs' => h .next { s'' with heap := h' } (fun b => Mu b ∨ b = D) (fun b => Wr b ∨ b = D) (fun j => if j = k then D else α j) ?_ ?_ trivial⟩
  · refine ((Grow.adopt e N.N.R.tab t hD).trans (W.grow (.inl (N.frw f hf)) N2.N.R.tab (N2.frT hf) (N2.frC hf))).then (fun b o hb q => hs'.extBut b o (hex b hb) q) rfl rfl (Nat.le_refl _)
  · have neC : ∀ b, Mu b ∨ b = D → b ≠ C := fun b h => h.elim (hmC b) fun q => q ▸ hDC
    refine N3.change ⟨fun b o n q => ?_, N3.N.R.tab.only fun b o hb q => hs'.extBut b o (by rcases hb with rfl | rfl; exact hCC.symm; exact hCT.symm) q, fun b hb => ?_, .inl N.N.R.mug, fun b hb => ?_⟩ (fun b h q => h (q.elim (fun q => .inl (.inl q)) .inr)) (fun b o h q => hs'.extBut b o (fun r => h (.inl (.inr r))) q)
      (fun b o h q => hs'.extBut b o (neC b (.inl (N.wm b (N.frw b h)))) q) (fun k d o h q => hs'.extBut _ o (neC _ ((N3.oww k d h).1.elim (fun h => .inl (N.wm _ h)) .inr)) q) (fun q o e hc hd => hs'.extBut q o ?_ e)
      (fun b h => .inl (N.frw b h)) (fun k d h => (N3.oww k d h).1) (fun b h => h.elim (fun h => .inl (N.wm b h)) .inr) (fun b h => .inl (N.m0 b h)) (Nat.le_refl _)
    · refine hs'.extBut b o (hex b ?_) (N3.N.R.keep b o n q)
      rw [N.N.R.keep b o n q]; rfl
    · obtain ⟨o, ho⟩ := Option.isSome_iff_exists.mp (N3.N.R.mu b (hb.elim (fun q => .inl (.inl q)) .inr))
      dsimp only
      rw [hs'.extBut b o (neC b hb) ho]; rfl
    · exact N3.N.R.muh b (hb.elim (fun q => .inl (.inl q)) .inr)
    · rintro rfl
      obtain ⟨o', es, ep, ho', hd', _⟩ := hn''
      obtain ⟨vs, hd⟩ := hd
      rw [ho'] at e; cases e; rw [hd] at hd'; cases hd'

/-- a comprehension's value that goes straight to a variable on its own line -/
def swapOK (c : Ctx) (y : Str) (py pos : Pos) (scope : Scope) : Bool := c.k y == some .local && py.line == pos.line && !(scope.names.any fun p => p.1 == y && (p.2 == .local || p.2 == .cell))
theorem swap_true {elt : Expr} {gs : List Comprehension} {scope : Scope} {pos py : Pos} {y : Str} {n : Nat} (O : EnvOK env c.k) (h : swapOK c y py pos scope = true) : swapsWith (.ListComp elt gs scope pos) (some (.Name y py)) n env = pure true := by
  unfold swapOK at h
  simp only [Bool.and_eq_true] at h
  obtain ⟨⟨h1, h2⟩, h3⟩ := h
  have e1 : (env.blockKind == .function) = true := by unfold Env.blockKind; rw [O.kind]; rfl
  have e2 : (env.kindOf y == some .local) = true := by rw [O.names]; exact h1
  show (do return env.blockKind == .function && env.kindOf y == some .local && py.line == pos.line && !(scope.names.any fun (n, k) => n == y && (k == .local || k == .cell)) : Sem Bool) = pure true
  rw [e1, e2, h2]
  have e3 : (!(scope.names.any fun (n, k) => n == y && (k == .local || k == .cell))) = true := h3
  rw [e3]; rfl

theorem SS.assignLI (hh : A.handled = none) {k : Nat} {elt xs t : PE} {el lx te : Expr} {x y : Str} {px py pos spos : Pos} {scope : Scope} (hx : c.v.lookup y = some k) (hsw : swapOK c y py pos scope = true) (hok : compOk c x scope = true)
    (he : Snd prog w ρ h₀ G Sg A (c.inner x scope) elt el) (hn : Snd prog w ρ h₀ G Sg A c xs lx) (ht : Snd prog w ρ h₀ G Sg A (c.inner x scope) t te) (hf : ∀ env x, foldedSetIterable lx env x = pure x) :
    SS prog w ρ h₀ G Sg A c (.assign k (.compLI elt xs t)) (.Assign [.Name y py] (.ListComp el [⟨.Name x px, lx, [te], 0⟩] scope pos) spos) := by
  intro env Mu₀ Mu Wr α σ s fl σ' Q N e1 h
  simp only [exS, Option.bind_eq_some_iff, Option.map_eq_some_iff] at e1
  obtain ⟨z, e, σ₁, hp, e1⟩ := e1
  cases e1
  simp only [evE, Option.bind_eq_some_iff] at e
  obtain ⟨⟨d, tg⟩, en, e⟩ := e
  dsimp only at e
  split at e
  · split at e
    · cases e
    · rename_i l hi
      obtain ⟨l1, hf1, e⟩ := Option.bind_eq_some_iff.mp e
      obtain ⟨out, hm, rfl⟩ := Option.map_eq_some_iff.mp e
      cases hp
      exact comp_use N.N hok (hf _) (swap_true N.N.O hsw) (iter_eval hh N.N hn en) (by omega) hf1 hm (fun N' hb hq => ht.tests N' hb hq) (fun N' e hq => he.elts N' e hq)
        fun s' C D m e t hD hC hDC hn ho => comp_store N hx e t hD hC hDC hn ho h
  · cases e
theorem SS.assignRI (B : Base prog w ρ h₀ mg mb G gname fname fa) (hh : A.handled = none) {k : Nat} {elt n t : PE} {el nx te : Expr} {x y : Str} {px py q p2 pos spos : Pos} {scope : Scope} (hx : c.v.lookup y = some k) (hsw : swapOK c y py pos scope = true) (hok : compOk c x scope = true)
    (hk : c.k "range" = some .globalImplicit) (he : Snd prog w ρ h₀ G Sg A (c.inner x scope) elt el) (hn : Snd prog w ρ h₀ G Sg A c n nx) (ht : Snd prog w ρ h₀ G Sg A (c.inner x scope) t te) (hs : ∀ rest env, starEach (nx :: rest) env = (false, eval nx env) :: starEach rest env) :
    SS prog w ρ h₀ G Sg A c (.assign k (.compRI elt n t)) (.Assign [.Name y py] (.ListComp el [⟨.Name x px, .Call (.Name "range" q) [nx] [] p2, [te], 0⟩] scope pos) spos) := by
  intro env Mu₀ Mu Wr α σ s fl σ' Q N e1 h
  simp only [exS, Option.bind_eq_some_iff, Option.map_eq_some_iff] at e1
  obtain ⟨z, e, σ₁, hp, e1⟩ := e1
  cases e1
  simp only [evE, Option.bind_eq_some_iff] at e
  obtain ⟨⟨d, tg⟩, en, e⟩ := e
  dsimp only at e
  split at e
  · split at e
    · rename_i i hi
      obtain ⟨l1, hf1, e⟩ := Option.bind_eq_some_iff.mp e
      obtain ⟨out, hm, rfl⟩ := Option.map_eq_some_iff.mp e
      cases hp
      refine comp_use N.N hok (fun _ => rfl) (swap_true N.N.O hsw) (wpAny_mono (range1_eval B N.N hk hn hs en) (fun v s₁ ⟨x₁, t₁, _, r, t, u, v', hv, hr⟩ => ⟨x₁, t₁, ?_⟩) fun _ _ e => e) (Nat.le_trans (range_len i) hi) hf1 hm (fun N' hb hq => ht.tests N' hb hq) (fun N' e hq => he.elts N' e hq)
        fun s' C D m e t hD hC hDC hn ho => comp_store N hx e t hD hC hDC hn ho h
      subst hv
      exact iter_range hh hr (by decide) hi
    · cases e
  · cases e

/-- what is shown apart -/
structure RestS (prog : Program) (w : World) (ρ : Addr) (h₀ : Heap) (G : Nat → Option Mine.D) (Sg : Sig) (A : Around) (XS : Ctx → PS → Stmt → Prop) : Prop where
  x : ∀ {c a x}, XS c a x → SS prog w ρ h₀ G Sg A c a x
end

section
variable (gname fname : Nat → Option Str) (X : Ctx → PE → Expr → Prop) (XS : Ctx → PS → Stmt → Prop) (c : Ctx)
mutual
inductive EmbS : PS → Stmt → Prop
  | assign {k : Nat} {e : PE} {x : Str} {ex : Expr} {p1 p2 : Pos} : c.v.lookup x = some k → isComp ex = false → Emb gname fname X c e ex → EmbS (.assign k e) (.Assign [.Name x p1] ex p2)
  | assignLI {k : Nat} {elt xs t : PE} {el lx te : Expr} {x y : Str} {px py pos spos : Pos} {scope : Scope} : c.v.lookup y = some k → swapOK c y py pos scope = true → compOk c x scope = true → Emb gname fname X (c.inner x scope) elt el → Emb gname fname X c xs lx →
      Emb gname fname X (c.inner x scope) t te → EmbS (.assign k (.compLI elt xs t)) (.Assign [.Name y py] (.ListComp el [⟨.Name x px, lx, [te], 0⟩] scope pos) spos)
  | assignRI {k : Nat} {elt n t : PE} {el nx te : Expr} {x y : Str} {px py q p2 pos spos : Pos} {scope : Scope} : c.v.lookup y = some k → swapOK c y py pos scope = true → compOk c x scope = true → c.k "range" = some .globalImplicit → Emb gname fname X (c.inner x scope) elt el →
      Emb gname fname X c n nx → Emb gname fname X (c.inner x scope) t te → EmbS (.assign k (.compRI elt n t)) (.Assign [.Name y py] (.ListComp el [⟨.Name x px, .Call (.Name "range" q) [nx] [] p2, [te], 0⟩] scope pos) spos)
  | assignD {k : Nat} {x : Str} {p p1 p2 : Pos} : c.v.lookup x = some k → EmbS (.assignD k) (.Assign [.Name x p1] (.Dict [] [] p) p2)
  | assignD1 {k : Nat} {i v : PE} {x : Str} {ix vx : Expr} {p p1 p2 : Pos} : c.v.lookup x = some k → Emb gname fname X c i ix → Emb gname fname X c v vx → EmbS (.assignD1 k i v) (.Assign [.Name x p1] (.Dict [some ix] [vx] p) p2)
  | appnd {k : Nat} {e : PE} {x nm : Str} {ex : Expr} {q ap p p2 : Pos} : nm = "append" → c.v.lookup x = some k → (x == ("__debug__" : Str)) = false → (ap.endLine == p.line) = true → Emb gname fname X c e ex → EmbS (.appnd k e) (.Expr (.Call (.Attribute (.Name x q) nm ap) [ex] [] p) p2)
  | setD {k : Nat} {i v : PE} {x : Str} {ix vx : Expr} {q p1 p2 : Pos} : c.v.lookup x = some k → (x == ("__debug__" : Str)) = false → isComp vx = false → Emb gname fname X c i ix → Emb gname fname X c v vx → EmbS (.setD k i v) (.Assign [.Subscript (.Name x q) ix p1] vx p2)
  | setL {k : Nat} {i v : PE} {x : Str} {ix vx : Expr} {q p1 p2 : Pos} : c.v.lookup x = some k → (x == ("__debug__" : Str)) = false → isComp vx = false → Emb gname fname X c i ix → Emb gname fname X c v vx → EmbS (.setL k i v) (.Assign [.Subscript (.Name x q) ix p1] vx p2)
  | aug {k : Nat} {op : BOp} {o : Operator} {e : PE} {x : Str} {ex : Expr} {q p : Pos} : c.v.lookup x = some k → o = opOf op → op = .add ∨ op = .fdiv → Emb gname fname X c e ex → EmbS (.aug k op e) (.AugAssign (.Name x q) o ex p)
  | augIdx {k : Nat} {i : PE} {op : BOp} {o : Operator} {e : PE} {x : Str} {ix ex : Expr} {q p1 p : Pos} : c.v.lookup x = some k → (x == ("__debug__" : Str)) = false → o = opOf op → op = .add ∨ op = .fdiv → Emb gname fname X c i ix → Emb gname fname X c e ex →
      (∀ ov iv new, augStore ix ov iv new = (do holding [new, ov, iv] (setItem ov iv new); release [new, ov, iv] []; pure .next)) → EmbS (.augIdx k i op e) (.AugAssign (.Subscript (.Name x q) ix p1) o ex p)
  | delL {k : Nat} {i : PE} {x : Str} {ix : Expr} {q p1 p : Pos} : c.v.lookup x = some k → (x == ("__debug__" : Str)) = false → Emb gname fname X c i ix → EmbS (.delL k i) (.Delete [.Subscript (.Name x q) ix p1] p)
  | ite {q : PE} {a b : PSs} {t : Expr} {xs ys : List Stmt} {p : Pos} : Emb gname fname X c q t → EmbSs a xs → EmbSs b ys → EmbS (.ite q a b) (.If t xs ys p)
  | while_ {m : Nat} {q : PE} {a : PSs} {t : Expr} {xs : List Stmt} {p : Pos} : Emb gname fname X c q t → EmbSs a xs → EmbS (.while_ m q a) (.While t xs [] p)
  | forE {k : Nat} {e : PE} {bd od : PSs} {x : Str} {ex : Expr} {xs ys : List Stmt} {px p : Pos} : c.v.lookup x = some k → Emb gname fname X c e ex → EmbSs bd xs → EmbSs od ys → EmbS (.forE k e bd od) (.For (.Name x px) ex xs ys p)
  | forT {ks : List Nat} {e : PE} {bd od : PSs} {es : List Expr} {ex : Expr} {xs ys : List Stmt} {kk : Nat} {px p : Pos} : Tgts c ks es → Emb gname fname X c e ex → EmbSs bd xs → EmbSs od ys → EmbS (.forT ks e bd od) (.For (.Tuple es kk px) ex xs ys p)
  | forR {k : Nat} {hi : PE} {bd : PSs} {x : Str} {ex : Expr} {xs : List Stmt} {px p p2 q : Pos} : c.v.lookup x = some k → c.k "range" = some .globalImplicit → Emb gname fname X c hi ex → EmbSs bd xs → EmbS (.forR k (.lit (.int 0)) hi bd) (.For (.Name x px) (.Call (.Name "range" q) [ex] [] p2) xs [] p)
  | forEnum {ki kx : Nat} {e : PE} {bd : PSs} {es : List Expr} {ex : Expr} {xs : List Stmt} {kk : Nat} {px p p2 q : Pos} : Tgts c [ki, kx] es → c.k "enumerate" = some .globalImplicit → Emb gname fname X c e ex → EmbSs bd xs → EmbS (.forEnum ki kx e bd) (.For (.Tuple es kk px) (.Call (.Name "enumerate" q) [ex] [] p2) xs [] p)
  | ret {e : PE} {ex : Expr} {p : Pos} : Emb gname fname X c e ex → EmbS (.ret e) (.Return (some ex) p)
  | brk {p : Pos} : EmbS .brk (.Break p)
  | assert_ {e : PE} {ex : Expr} {msg : Option Expr} {p : Pos} : Emb gname fname X c e ex → EmbS (.assert_ e) (.Assert ex msg p)
  | try_ {a : PSs} {xs : List Stmt} {hd : ExceptHandler} {hs : List ExceptHandler} {p : Pos} : EmbSs a xs → EmbS (.try_ a) (.Try xs (hd :: hs) [] [] p)
  | ext {a : PS} {x : Stmt} : XS c a x → EmbS a x
inductive EmbSs : PSs → List Stmt → Prop
  | nil : EmbSs .nil []
  | cons {a : PS} {r : PSs} {x : Stmt} {xs : List Stmt} : EmbS a x → EmbSs r xs → EmbSs (.cons a r) (x :: xs)
end
end

section
variable {prog : Program} {w : World} {ρ : Addr} {h₀ : Heap} {mg mb : Str → Option Value} {G : Nat → Option D} {Sg : Sig} {gname fname : Nat → Option Str} {fa : Nat → Addr} {X : Ctx → PE → Expr → Prop} {XS : Ctx → PS → Stmt → Prop} {A : Around} {c : Ctx} {n : Nat}
mutual
theorem EmbS.sound (B : Base prog w ρ h₀ mg mb G gname fname fa) (SG : SigOK prog w ρ h₀ Sg fname fa n) (Rm : Room n A) (H : Rest prog w ρ h₀ G Sg A X) (HS : RestS prog w ρ h₀ G Sg A XS) : ∀ {ps : PS} {st : Stmt}, EmbS gname fname X XS c ps st → SS prog w ρ h₀ G Sg A c ps st
  | _, _, .assign hx hc e => SS.assign hx hc (e.sound B SG Rm H)
  | _, _, .assignLI hx hs hok e l t => SS.assignLI Rm.handled hx hs hok (e.sound B SG Rm H) (l.sound B SG Rm H) (t.sound B SG Rm H) fun _ _ => l.fold
  | _, _, .assignRI hx hs hok hk e l t => SS.assignRI B Rm.handled hx hs hok hk (e.sound B SG Rm H) (l.sound B SG Rm H) (t.sound B SG Rm H) fun _ _ => l.star
  | _, _, .assignD hx => SS.assignD hx
  | _, _, .assignD1 hx i v => SS.assignD1 hx (i.sound B SG Rm H) (v.sound B SG Rm H)
  | _, _, .appnd hn hx hd hl e => SS.appnd hn hx hd hl (e.sound B SG Rm H) fun _ _ => e.star
  | _, _, .setD hx hd hc i v => SS.setD hx hd hc (i.sound B SG Rm H) (v.sound B SG Rm H)
  | _, _, .setL hx hd hc i v => SS.setL hx hd hc (i.sound B SG Rm H) (v.sound B SG Rm H)
  | _, _, .aug hx ho hop e => SS.aug hx ho hop (e.sound B SG Rm H)
  | _, _, .augIdx hx hd ho hop i e hst => SS.augIdx hx hd ho hop (i.sound B SG Rm H) (e.sound B SG Rm H) hst
  | _, _, .delL hx hd i => SS.delL hx hd (i.sound B SG Rm H)
  | _, _, .ite q a b => SS.ite (q.sound B SG Rm H) (EmbSs.sound B SG Rm H HS a) (EmbSs.sound B SG Rm H HS b)
  | _, _, .while_ q a => SS.while_ (q.sound B SG Rm H) (EmbSs.sound B SG Rm H HS a)
  | _, _, .forE hx e a b => SS.forE Rm.handled hx (e.sound B SG Rm H) (fun _ _ => e.fold) (EmbSs.sound B SG Rm H HS a) (EmbSs.sound B SG Rm H HS b)
  | _, _, .forT ht e a b => SS.forT Rm.handled ht (e.sound B SG Rm H) (fun _ _ => e.fold) (EmbSs.sound B SG Rm H HS a) (EmbSs.sound B SG Rm H HS b)
  | _, _, .forR hx hk e a => SS.forR B Rm.handled hx hk (e.sound B SG Rm H) (fun _ _ => e.star) (EmbSs.sound B SG Rm H HS a)
  | _, _, .forEnum ht hk e a => SS.forEnum B Rm.handled ht hk (e.sound B SG Rm H) (fun _ _ => e.star) (EmbSs.sound B SG Rm H HS a)
  | _, _, .ret e => SS.ret (e.sound B SG Rm H)
  | _, _, .brk => SS.brk
  | _, _, .assert_ e => SS.assert_ (e.sound B SG Rm H)
  | _, _, .try_ a => SS.try_ (EmbSs.sound B SG Rm H HS a)
  | _, _, .ext h => HS.x h
theorem EmbSs.sound (B : Base prog w ρ h₀ mg mb G gname fname fa) (SG : SigOK prog w ρ h₀ Sg fname fa n) (Rm : Room n A) (H : Rest prog w ρ h₀ G Sg A X) (HS : RestS prog w ρ h₀ G Sg A XS) : ∀ {ps : PSs} {st : List Stmt}, EmbSs gname fname X XS c ps st → SSs prog w ρ h₀ G Sg A c ps st
  | _, _, .nil => SSs.nil
  | _, _, .cons a r => SSs.cons (EmbS.sound B SG Rm H HS a) (EmbSs.sound B SG Rm H HS r)
end
end
end Mine
end
section
set_option autoImplicit false
namespace Mine
open PySem PySem.W

section
variable {prog : Program} {w : World} {ρ : Addr} {h₀ : Heap} {mg mb : Str → Option Value} {G : Nat → Option D} {Sg : Sig} {gname fname : Nat → Option Str} {fa : Nat → Addr}
variable {A : Around} {s s' s'' s₀ s₁ : Shared} {Mu₀ Mu Wr Mu' Wr' Mu'' Wr'' : Addr → Prop} {α : Nat → Addr} {σ : List LV} {env : Env} {c : Ctx} {n : Nat}

structure FnAt (h₀ : Heap) (a : Addr) (fd : FuncData) : Prop where
  at_ : ∃ o, h₀.get? a = some o ∧ o.data = .func fd
  code : ∃ c o vs t, fd.code = .ref c ∧ c ≠ gT ∧ h₀.get? c = some o ∧ o.data = .fields vs ∧ vs[1]? = some (.str fd.qualname t)
  clo : fd.closure = []
  glob : fd.globals = PySem.mainGlobals
  blt : fd.builtins = builtinsNs
  kind : fd.scope.kind = .function
  gen : fd.scope.isGenerator = false
  co : fd.scope.isCoroutine = false

theorem bindL_out {ko : Str → Option NameKind} {x : Str} : ∀ {ps : List Str} {vs : List Value} {m : Str → Option Value}, x ∉ ps → bindL ko (ps.zip vs) m x = m x
  | [], _, _, _ => by simp [bindL]
  | _ :: _, [], _, _ => by simp [bindL]
  | p :: ps, v :: vs, m, h => by
    simp only [List.zip_cons_cons, bindL]
    rw [bindL_out (fun q => h (.tail _ q))]
    split
    · dsimp only; rw [if_neg (fun q => h (by rw [q]; exact .head _))]
    · rfl
theorem bindL_get {ko : Str → Option NameKind} {x : Str} {v : Value} (hk : ko x = some .local) : ∀ {ps : List Str} {vs : List Value} {m : Str → Option Value} {i : Nat}, ps.Nodup → ps[i]? = some x → vs[i]? = some v → bindL ko (ps.zip vs) m x = some v
  | [], _, _, _, _, h, _ => by simp at h
  | _ :: _, [], _, _, _, _, h => by simp at h
  | p :: ps, u :: vs, m, 0, hn, h1, h2 => by
    simp at h1 h2
    subst h1 h2
    simp only [List.zip_cons_cons, bindL]
    rw [bindL_out (List.nodup_cons.mp hn).1, if_pos hk, if_pos rfl]
  | p :: ps, u :: vs, m, i + 1, hn, h1, h2 => by
    simp only [List.zip_cons_cons, bindL]
    exact bindL_get hk (List.nodup_cons.mp hn).2 (by simpa using h1) (by simpa using h2)
theorem bindC_out {ko : Str → Option NameKind} {x : Str} : ∀ {ps : List Str} {vs : List Value} {m : Str → Option Value}, x ∉ ps → bindC ko (ps.zip vs) m x = m x
  | [], _, _, _ => by simp [bindC]
  | _ :: _, [], _, _ => by simp [bindC]
  | p :: ps, v :: vs, m, h => by
    simp only [List.zip_cons_cons, bindC]
    rw [bindC_out (fun q => h (.tail _ q))]
    split
    · rfl
    · dsimp only; rw [if_neg (fun q => h (by rw [q]; exact .head _))]
theorem bindC_get {ko : Str → Option NameKind} {x : Str} {v : Value} (hk : ko x ≠ some .local) : ∀ {ps : List Str} {vs : List Value} {m : Str → Option Value} {i : Nat}, ps.Nodup → ps[i]? = some x → vs[i]? = some v → bindC ko (ps.zip vs) m x = some v
  | [], _, _, _, _, h, _ => by simp at h
  | _ :: _, [], _, _, _, _, h => by simp at h
  | p :: ps, u :: vs, m, 0, hn, h1, h2 => by
    simp at h1 h2
    subst h1 h2
    simp only [List.zip_cons_cons, bindC]
    rw [bindC_out (List.nodup_cons.mp hn).1, if_neg hk, if_pos rfl]
  | p :: ps, u :: vs, m, i + 1, hn, h1, h2 => by
    simp only [List.zip_cons_cons, bindC]
    exact bindC_get hk (List.nodup_cons.mp hn).2 (by simpa using h1) (by simpa using h2)

theorem cellsFrom_some {x : Str} : ∀ {names : List (Str × NameKind)} {k : Nat} {acc : List (Str × Addr)}, ((x, NameKind.cell) ∈ names ∨ (acc.lookup x).isSome = true) → ((cellsFrom k names acc).lookup x).isSome = true
  | [], _, _, h => by
    rcases h with h | h
    · cases h
    · exact h
  | (y, kd) :: r, k, acc, h => by
    unfold cellsFrom
    split
    · refine cellsFrom_some (names := r) ?_
      rcases h with h | h
      · rcases List.mem_cons.mp h with e | h
        · cases e
          refine .inr ?_
          simp [List.lookup_cons]
        · exact .inl h
      · refine .inr ?_
        rw [List.lookup_cons]
        split
        · rfl
        · exact h
    · rename_i hk
      refine cellsFrom_some (names := r) ?_
      rcases h with h | h
      · rcases List.mem_cons.mp h with e | h
        · cases e; exact absurd rfl hk
        · exact .inl h
      · exact .inr h

/-- what is asked of a function's names, by counting -/
def fnCheck (scope : Scope) (ps : List Str) (v : List (Str × Nat)) (F : Fun) : Bool :=
  ps.length == F.nargs && decide (F.nargs ≤ F.nslots) && v.all (fun p => decide (p.2 < F.nslots) && (scope.names.lookup p.1 == some .local || scope.names.lookup p.1 == some .cell)) && decide ((v.map (·.2)).Nodup) &&
    (List.range ps.length).all fun i => match ps[i]? with | some x => v.lookup x == some i | none => false

theorem nodup_snd {v : List (Str × Nat)} (h : (v.map (·.2)).Nodup) {x y : Str} {k : Nat} (h1 : (x, k) ∈ v) (h2 : (y, k) ∈ v) : x = y := by
  induction v with
  | nil => cases h1
  | cons p v ih =>
    simp only [List.map_cons, List.nodup_cons] at h
    rcases List.mem_cons.mp h1 with e1 | g1
    · rcases List.mem_cons.mp h2 with e2 | g2
      · rw [← e1] at e2; exact (Prod.mk.inj e2).1.symm
      · subst e1; exact absurd (show k ∈ v.map (·.2) from List.mem_map.mpr ⟨(y, k), g2, rfl⟩) h.1
    · rcases List.mem_cons.mp h2 with e2 | g2
      · subst e2; exact absurd (show k ∈ v.map (·.2) from List.mem_map.mpr ⟨(x, k), g1, rfl⟩) h.1
      · exact ih h.2 g1 g2

/-- a call, with the numbers that are given out told -/
theorem call_enter {R : Result → Shared → Prop} {a : Addr} {o : Obj} {fd : FuncData} {body : List Stmt} {vals : List Value} {Bd : List (Str × Value) → Shared → Prop} (hroom : A.depth < recursionLimit) (ho : s.heap.get? a = some o) (hdata : o.data = .func fd)
    (hcd : s.heap.CodeRec fd.code fd.qualname) (hbody : fd.body = .stmts body) (hbind : wpAny (model prog w) A.in1 (bindArgs fd ⟨vals, []⟩) Bd NoE s) (hclo : fd.closure = [])
    (hco : fd.scope.isCoroutine = false) (hgen : fd.scope.isGenerator = false) (hk : fd.scope.kind = .function)
    (h : ∀ binds s₀, Bd binds s₀ → s₀.heap.NoLimit ∧ (∀ x ∈ binds, fd.scope.names.lookup x.1 = some .local ∨ (fd.scope.names.lookup x.1 = some .cell ∧ ((cellsFrom (s₀.heap.objs.size + 1) fd.scope.names []).lookup x.1).isSome = true)) ∧
      ∀ s₁, s₀.toks ≤ s₁.toks → InCallC s₀ (callEnvC fd s₀.heap.objs.size a).locals (bindL (callEnvC fd s₀.heap.objs.size a).kindOf binds fun _ => none) (callEnvC fd s₀.heap.objs.size a).cells (bindC (callEnvC fd s₀.heap.objs.size a).kindOf binds fun _ => none) s₁ →
        wpAny (model prog w) (A.deeper (callEnvC fd s₀.heap.objs.size a)) (execs body (callEnvC fd s₀.heap.objs.size a)) (fun f s' => R (.ok (.ret (match f with | .ret v => v | _ => .none))) s') NoE s₁) :
    codeAny (model prog w) A (.call (.ref a) ⟨vals, []⟩) R s := by
  refine codeAny_call_function hroom ho hdata hco hgen hbody hcd ?_
  rw [hclo]
  refine wpAny_mono hbind (fun binds s₀ hb => ?_) fun _ _ z => z.elim
  obtain ⟨hlim, hkind, h⟩ := h binds s₀ hb
  refine wpAny_mono (wpAny_with_toks (E := NoE) (Nat.le_refl _) (wpAny_newFunctionEnv_cells hk hkind fun env he s' x t => ?_)) (fun _ _ z => z) fun _ _ z => z.elim
  subst he
  exact ⟨hlim.keeps x.toInCall.keep, codeAny_func (wpAny_mono (h s' t x) (fun _ _ z => z) fun _ _ z => z.elim)⟩

theorem fn_gen {a : Addr} {fd : FuncData} {body : List Stmt} {ps : List Str} {v : List (Str × Nat)} {F : Fun} {ds : List Mine.D} {d : Mine.D} (B : Base prog w ρ h₀ mg mb G gname fname fa) (Fa : FnAt h₀ a fd) (haT : a ≠ gT) (hcode : fd.scope.names.lookup ("_twin_re_1" : Str) ≠ none → fd.code = .ref gC) (hbody : fd.body = .stmts body)
    (hck : fnCheck fd.scope ps v F = true) (snd : ∀ A, Room n A → SSs prog w ρ h₀ G Sg A ⟨fun x => fd.scope.names.lookup x, v, F.nslots⟩ F.body body) (run : runFun G Sg F ds = some d)
    {s : Shared} {vals : List Value} {Q : Value → Shared → Prop} (Rm : Room (n + 1) A) (hK : 1 ≤ s.toks) (R₀ : St h₀ Mu s)
    (hbind : wpAny (model prog w) A.in1 (bindArgs fd ⟨vals, []⟩) (fun b s' => ∃ vs, b = ps.zip vs ∧ Ext s s' ∧ s.toks ≤ s'.toks ∧ RDs prog w ρ Mu s'.heap vs ds) NoE s)
    (hQ : ∀ v s', Ext s s' → RD prog w ρ Mu s'.heap v d → Q v s') : wpAny (model prog w) A (call (.ref a) vals) Q NoE s := by
  unfold fnCheck at hck
  simp only [Bool.and_eq_true, List.all_eq_true] at hck
  obtain ⟨⟨⟨⟨k1, k2⟩, k3⟩, k4⟩, k5⟩ := hck
  have k1 : ps.length = F.nargs := by simpa using k1
  have k2 : F.nargs ≤ F.nslots := of_decide_eq_true k2
  have k4 : (v.map (·.2)).Nodup := of_decide_eq_true k4
  have hv3 : ∀ x k, v.lookup x = some k → k < F.nslots ∧ (fd.scope.names.lookup x = some .local ∨ fd.scope.names.lookup x = some .cell) := fun x k h => by
    have := k3 _ (lookup_mem h)
    simp only [Bool.and_eq_true, Bool.or_eq_true, beq_iff_eq, decide_eq_true_eq] at this
    exact this
  have hps : ∀ i x, ps[i]? = some x → v.lookup x = some i := fun i x h => by
    have hi : i < ps.length := (List.getElem?_eq_some_iff.mp h).1
    have := k5 i (List.mem_range.mpr hi)
    rw [h] at this
    simpa using this
  have hnd : ps.Nodup := by
    refine List.pairwise_iff_getElem.mpr fun i j hi hj hij e => ?_
    have h2 := hps j _ (List.getElem?_eq_getElem hj)
    have h3 := hps i _ (List.getElem?_eq_getElem hi)
    rw [e, h2] at h3; cases h3; exact Nat.lt_irrefl _ hij
  unfold runFun at run
  split at run
  · rename_i hdl
    obtain ⟨⟨fl, σ'⟩, hex, run⟩ := Option.bind_eq_some_iff.mp run
    obtain ⟨o, ho, hdat⟩ := Fa.at_
    obtain ⟨cc, oc, cvs, ct, hc1, hc2, hc3, hc4, hc5⟩ := Fa.code
    refine wpAny_call (call_enter (by have := Rm.depth; omega) (R₀.keep _ _ haT ho) hdat ⟨cc, oc, cvs, ct, hc1, R₀.keep _ _ hc2 hc3, hc4, hc5⟩ hbody hbind Fa.clo Fa.co Fa.gen Fa.kind ?_)
    rintro _ s1 ⟨vs, rfl, x0, t0, hvs⟩
    have R := R₀.ext x0
    have hvl : vs.length = ps.length := by rw [hvs.length, hdl, k1]
    have hK := Nat.le_trans hK t0
    have hQ : ∀ v s', Ext s1 s' → RD prog w ρ Mu s'.heap v d → Q v s' := fun v s' x r => hQ v s' (x0.trans x) r
    clear x0 t0 hbind R₀
    revert s1
    intro s hvs R hK hQ
    refine ⟨?_, ?_, ?_⟩
    · obtain ⟨mc, hmc, hm⟩ := B.nolim
      exact ⟨mc, ns_keep R hmc B.ne.2.2, hm⟩
    · rintro ⟨x, u⟩ hx
      have hxp : x ∈ ps := List.of_mem_zip hx |>.1
      obtain ⟨i, hi, rfl⟩ := List.getElem_of_mem hxp
      have h1 := hps i _ (List.getElem?_eq_getElem hi)
      rcases (hv3 _ _ h1).2 with h | h
      · exact .inl h
      · exact .inr ⟨h, cellsFrom_some (.inl (lookup_mem h))⟩
    · intro s₁ htk x
      generalize hE : callEnvC fd s.heap.objs.size a = env at x ⊢
      have eL : env.locals = s.heap.objs.size := by rw [← hE]; rfl
      have eS : env.scope = fd.scope := by rw [← hE]; rfl
      have eK : ∀ y, env.kindOf y = fd.scope.names.lookup y := fun y => by rw [← hE]; rfl
      have eC : env.cells = cellsFrom (s.heap.objs.size + 1) fd.scope.names [] := by rw [← hE]; rfl
      have hFr : ∀ b, FrA env b → s.heap.get? b = none := by
        rintro b (rfl | ⟨y, hy⟩)
        · exact newer (Nat.le_of_eq eL.symm)
        · refine newer (Nat.le_of_lt ?_)
          rw [← eL]; exact x.above y b (mem_of_lookup hy)
      have hFs : ∀ b, FrA env b → (s₁.heap.get? b).isSome = true := by
        rintro b (rfl | ⟨y, hy⟩)
        · obtain ⟨o, _, _, ho, _⟩ := x.toInCall.ns; rw [ho]; rfl
        · obtain ⟨o, ho, _⟩ := x.cell y b hy; rw [ho]; rfl
      have hold : ∀ b, s.heap.get? b = none → b = gT ∨ h₀.get? b = none := by
        intro b hb
        by_cases h : b = gT
        · exact .inl h
        · refine .inr ?_
          cases q : h₀.get? b with
          | none => rfl
          | some o => have := R.keep b o h q; rw [hb] at this; cases this
      obtain ⟨h1, tk, hs1⟩ := x.toInCall.same
      have e1 : Ext s s₁ := .of x.toInCall.keep (by rw [hs1]) (by rw [hs1])
      have N : NowS prog w ρ h₀ Mu ⟨fun x => fd.scope.names.lookup x, v, F.nslots⟩ env (fun b => Mu b ∨ FrA env b) (FrA env) (fun _ => 0) (ds.map .fz ++ List.replicate (F.nslots - F.nargs) .un) s₁ := by
        refine ⟨⟨⟨fun y hy => ?_, by rw [eS]; exact Fa.kind, by rw [← hE]; exact Fa.glob, by rw [← hE]; exact Fa.blt, eK, fun q => by rw [← hE]; exact hcode q⟩, { keep := fun b o n h => e1.keep b o n (R.keep b o n h), tab := e1.tab R.tab, mu := ?_, mug := .inl R.mug, muh := ?_, slots := ?_, owns := ?_ }, ?_, ?_⟩,
          ⟨fun y z b h1 h2 => ?_, fun y z k h1 h2 => nodup_snd k4 (lookup_mem h1) (lookup_mem h2), fun y k h => (hv3 y k h).1, fun y k h => (hv3 y k h).2⟩, fun _ h => h, ?_, fun _ h => .inr h, fun _ h => .inl h, ?_, ⟨_, x.toInCall.ns⟩, fun y b h => ⟨_, x.cell y b h⟩⟩
        · have := cellsFrom_some (k := s.heap.objs.size + 1) (acc := []) (.inl (lookup_mem hy))
          rw [eC]
          exact Option.isSome_iff_exists.mp this
        · rintro b (h | h)
          · exact e1.some R.tab (R.mu b h)
          · exact hFs b h
        · rintro b (h | h)
          · exact R.muh b h
          · exact hold b (hFr b h)
        · intro y k hy lv hlv
          by_cases hk : k < ds.length
          · rw [List.getElem?_append_left (by simpa using hk), List.getElem?_map, List.getElem?_eq_getElem hk] at hlv
            cases hlv
            have hkp : k < ps.length := by omega
            have hpk : ps[k]? = some ps[k] := List.getElem?_eq_getElem hkp
            obtain rfl : y = ps[k] := nodup_snd k4 (lookup_mem hy) (lookup_mem (hps k _ hpk))
            obtain ⟨u, hu, hr⟩ := hvs.get (List.getElem?_eq_getElem hk)
            refine ⟨u, ?_, (hr.hideN.mono (fun b h q => h (q.elim .inl fun q => .inr (hFr b q))) fun b o h q => x.toInCall.keep b o q)⟩
            rcases (hv3 _ _ hy).2 with h | h
            · exact .inl ⟨(eK _).trans h, _, x.toInCall.ns, bindL_get ((eK _).trans h) hnd hpk hu⟩
            · have hc := cellsFrom_some (k := s.heap.objs.size + 1) (acc := []) (.inl (lookup_mem h))
              rw [← eC] at hc
              obtain ⟨b, hb⟩ := Option.isSome_iff_exists.mp hc
              have hcv := x.cell _ b hb
              rw [bindC_get (by rw [eK, h]; nofun) hnd hpk hu] at hcv
              exact .inr ⟨(eK _).trans h, b, hb, hcv⟩
          · rw [List.getElem?_append_right (by simpa using hk)] at hlv
            have : lv = .un := by
              rw [List.getElem?_replicate] at hlv
              split at hlv <;> cases hlv
              rfl
            subst this; trivial
        · intro k d hk
          exfalso
          by_cases h : k < ds.length
          · rw [List.getElem?_append_left (by simpa using h), List.getElem?_map] at hk
            obtain ⟨_, _, q⟩ := Option.map_eq_some_iff.mp hk; cases q
          · rw [List.getElem?_append_right (by simpa using h), List.getElem?_replicate] at hk
            split at hk <;> cases hk
        · simp; omega
        · exact Nat.le_trans hK htk
        · exact name_of_addr x.apart (mem_of_lookup h1) (mem_of_lookup h2)
        · intro k d hk
          exfalso
          by_cases h : k < ds.length
          · rw [List.getElem?_append_left (by simpa using h), List.getElem?_map] at hk
            obtain ⟨_, _, q⟩ := Option.map_eq_some_iff.mp hk; cases q
          · rw [List.getElem?_append_right (by simpa using h), List.getElem?_replicate] at hk
            split at hk <;> cases hk
        · intro k k' d d' hk
          exfalso
          by_cases h : k < ds.length
          · rw [List.getElem?_append_left (by simpa using h), List.getElem?_map] at hk
            obtain ⟨_, _, q⟩ := Option.map_eq_some_iff.mp hk; cases q
          · rw [List.getElem?_append_right (by simpa using h), List.getElem?_replicate] at hk
            split at hk <;> cases hk
      refine wpAny_mono (snd _ (Rm.deeper env) N hex fun f s' Mu' Wr' α' g N' hf => ?_) (fun _ _ h => h) fun _ _ h => h
      have eX : Ext s s' := ⟨fun b o n h => g.keep b o n (fun q => by have := hFr b q; rw [this] at h; cases h) (e1.keep b o n h), fun t => g.tab (e1.tab t), g.os.trans e1.os, fun q => g.gens (e1.gens q)⟩
      cases fl with
      | next => cases run; cases f <;> first | exact hf.elim | exact hQ _ _ eX .none
      | brk => cases run; cases f <;> first | exact hf.elim | exact hQ _ _ eX .none
      | ret d' => cases run; cases f <;> first | exact hf.elim | exact hQ _ _ eX hf
  · cases run

theorem fn_ok {a : Addr} {fd : FuncData} {body : List Stmt} {ps : List Str} {v : List (Str × Nat)} {F : Fun} {ds : List Mine.D} {d : Mine.D} (B : Base prog w ρ h₀ mg mb G gname fname fa) (Fa : FnAt h₀ a fd) (haT : a ≠ gT) (hcode : fd.scope.names.lookup ("_twin_re_1" : Str) ≠ none → fd.code = .ref gC) (hbody : fd.body = .stmts body)
    (hbind : ∀ vals : List Value, vals.length = ps.length → bindArgs fd ⟨vals, []⟩ = pure (ps.zip vals)) (hck : fnCheck fd.scope ps v F = true)
    (snd : ∀ A, Room n A → SSs prog w ρ h₀ G Sg A ⟨fun x => fd.scope.names.lookup x, v, F.nslots⟩ F.body body) (run : runFun G Sg F ds = some d) : FnOK prog w ρ h₀ (n + 1) a ds d := by
  intro A s Mu vs Rm hK R hvs Q hQ
  refine fn_gen B Fa haT hcode hbody hck snd run Rm hK R ?_ hQ
  have hl : vs.length = ps.length := by
    unfold fnCheck at hck
    simp only [Bool.and_eq_true, beq_iff_eq] at hck
    unfold runFun at run
    split at run
    · rename_i h; rw [hvs.length, h, hck.1.1.1.1]
    · cases run
  rw [hbind vs hl]
  exact wpAny_pure ⟨vs, rfl, .refl _, Nat.le_refl _, hvs⟩
end
end Mine
end
section
set_option autoImplicit false
set_option maxRecDepth 100000
namespace Mine
open PySem PySem.W
noncomputable def sCst : (e : Expr) → Option { v : Const × Nat × Pos // e = .Constant v.1 v.2.1 v.2.2 }
  | .Constant k n p => some ⟨(k, n, p), rfl⟩
  | _ => none
noncomputable def sName : (e : Expr) → Option { v : Str × Pos // e = .Name v.1 v.2 }
  | .Name x p => some ⟨(x, p), rfl⟩
  | _ => none
noncomputable def sTup : (e : Expr) → Option { v : (List Expr) × Nat × Pos // e = .Tuple v.1 v.2.1 v.2.2 }
  | .Tuple xs k p => some ⟨(xs, k, p), rfl⟩
  | _ => none
noncomputable def sLst : (e : Expr) → Option { v : (List Expr) × Pos // e = .List v.1 v.2 }
  | .List xs p => some ⟨(xs, p), rfl⟩
  | _ => none
noncomputable def sUn : (e : Expr) → Option { v : UnaryOp × Expr × Pos // e = .UnaryOp v.1 v.2.1 v.2.2 }
  | .UnaryOp o x p => some ⟨(o, x, p), rfl⟩
  | _ => none
noncomputable def sBin : (e : Expr) → Option { v : Expr × Operator × Expr × Pos // e = .BinOp v.1 v.2.1 v.2.2.1 v.2.2.2 }
  | .BinOp x o y p => some ⟨(x, o, y, p), rfl⟩
  | _ => none
noncomputable def sCmp : (e : Expr) → Option { v : Expr × CmpOp × Expr × Pos // e = .Compare v.1 [v.2.1] [v.2.2.1] v.2.2.2 }
  | .Compare x [o] [y] p => some ⟨(x, o, y, p), rfl⟩
  | _ => none
noncomputable def sCmp2 : (e : Expr) → Option { v : Expr × CmpOp × CmpOp × Expr × Expr × Pos // e = .Compare v.1 [v.2.1, v.2.2.1] [v.2.2.2.1, v.2.2.2.2.1] v.2.2.2.2.2 }
  | .Compare x [o, q] [y, z] p => some ⟨(x, o, q, y, z, p), rfl⟩
  | _ => none
noncomputable def sBool : (e : Expr) → Option { v : BoolOp × Expr × (List Expr) × Pos // e = .BoolOp v.1 (v.2.1 :: v.2.2.1) v.2.2.2 }
  | .BoolOp o (x :: xs) p => some ⟨(o, x, xs, p), rfl⟩
  | _ => none
noncomputable def sIf : (e : Expr) → Option { v : Expr × Expr × Expr × Pos // e = .IfExp v.1 v.2.1 v.2.2.1 v.2.2.2 }
  | .IfExp t x y p => some ⟨(t, x, y, p), rfl⟩
  | _ => none
noncomputable def sSub : (e : Expr) → Option { v : Expr × Expr × Pos // e = .Subscript v.1 v.2.1 v.2.2 }
  | .Subscript x y p => some ⟨(x, y, p), rfl⟩
  | _ => none
noncomputable def sSl : (e : Expr) → Option { v : Expr × Expr × Expr × Pos × Pos // e = .Subscript v.1 (.Slice (some v.2.1) (some v.2.2.1) none v.2.2.2.1) v.2.2.2.2 }
  | .Subscript x (.Slice (some y) (some z) none q) p => some ⟨(x, y, z, q, p), rfl⟩
  | _ => none
noncomputable def sSlF : (e : Expr) → Option { v : Expr × Expr × Pos × Pos // e = .Subscript v.1 (.Slice (some v.2.1) none none v.2.2.1) v.2.2.2 }
  | .Subscript x (.Slice (some y) none none q) p => some ⟨(x, y, q, p), rfl⟩
  | _ => none
noncomputable def sSlT : (e : Expr) → Option { v : Expr × Expr × Pos × Pos // e = .Subscript v.1 (.Slice none (some v.2.1) none v.2.2.1) v.2.2.2 }
  | .Subscript x (.Slice none (some z) none q) p => some ⟨(x, z, q, p), rfl⟩
  | _ => none
noncomputable def sCall1 : (e : Expr) → Option { v : Str × Pos × Expr × Pos // e = .Call (.Name v.1 v.2.1) [v.2.2.1] [] v.2.2.2 }
  | .Call (.Name f q) [x] [] p => some ⟨(f, q, x, p), rfl⟩
  | _ => none
noncomputable def sLR : (e : Expr) → Option { v : Str × Pos × Str × Pos × Expr × Expr × Pos × Pos // e = .Call (.Name v.1 v.2.1) [.Call (.Name v.2.2.1 v.2.2.2.1) [v.2.2.2.2.1, v.2.2.2.2.2.1] [] v.2.2.2.2.2.2.1] [] v.2.2.2.2.2.2.2 }
  | .Call (.Name f q) [.Call (.Name g q2) [x, y] [] p2] [] p => some ⟨(f, q, g, q2, x, y, p2, p), rfl⟩
  | _ => none
noncomputable def sMeth : (e : Expr) → Option { v : Expr × Str × Pos × Expr × (List Expr) × Pos // e = .Call (.Attribute v.1 v.2.1 v.2.2.1) (v.2.2.2.1 :: v.2.2.2.2.1) [] v.2.2.2.2.2 }
  | .Call (.Attribute ox nm ap) (x :: xs) [] p => some ⟨(ox, nm, ap, x, xs, p), rfl⟩
  | _ => none
noncomputable def sCall : (e : Expr) → Option { v : Str × Pos × Expr × (List Expr) × Pos // e = .Call (.Name v.1 v.2.1) (v.2.2.1 :: v.2.2.2.1) [] v.2.2.2.2 }
  | .Call (.Name f q) (y :: ys) [] p => some ⟨(f, q, y, ys, p), rfl⟩
  | _ => none
noncomputable def sLC : (e : Expr) → Option { v : Expr × Str × Pos × Expr × Scope × Pos // e = .ListComp v.1 [⟨.Name v.2.1 v.2.2.1, v.2.2.2.1, [], 0⟩] v.2.2.2.2.1 v.2.2.2.2.2 }
  | .ListComp el [⟨.Name x px, lx, [], 0⟩] sc p => some ⟨(el, x, px, lx, sc, p), rfl⟩
  | _ => none
noncomputable def sLCI : (e : Expr) → Option { v : Expr × Str × Pos × Expr × Expr × Scope × Pos // e = .ListComp v.1 [⟨.Name v.2.1 v.2.2.1, v.2.2.2.1, [v.2.2.2.2.1], 0⟩] v.2.2.2.2.2.1 v.2.2.2.2.2.2 }
  | .ListComp el [⟨.Name x px, lx, [te], 0⟩] sc p => some ⟨(el, x, px, lx, te, sc, p), rfl⟩
  | _ => none
end Mine
end
section
set_option autoImplicit false
set_option maxRecDepth 100000
namespace Mine
open PySem PySem.W

theorem any_some {α : Type} {o : Option α} {f : α → Bool} (h : o.any f = true) : ∃ a, f a = true := by
  cases o with
  | none => cases h
  | some a => exact ⟨a, h⟩
noncomputable def cStr : (c : Const) → Option { s : Str // c = .str s }
  | .str s => some ⟨s, rfl⟩
  | _ => none
theorem band {a b : Bool} (h : (a && b) = true) : a = true ∧ b = true := by
  cases a with
  | false => cases h
  | true => exact ⟨rfl, h⟩
theorem beqs {α : Type} [BEq α] [LawfulBEq α] {a b : α} (h : (a == b) = true) : a = b := eq_of_beq h
theorem debug_ne {x : Str} (h : (!(x == ("__debug__" : Str))) = true) : (x == ("__debug__" : Str)) = false := by
  cases e : x == ("__debug__" : Str) with
  | false => rfl
  | true => rw [e] at h; cases h
noncomputable def dStr : (d : D) → Option { l : List Nat // d = .str l }
  | .str l => some ⟨l, rfl⟩
  | _ => none
noncomputable def litB (d : D) (k : Const) : Bool := (dStr d).elim (match d, k with
  | .none, .none => true
  | .bool a, .bool b => a == b
  | .int i, .int j => i == j
  | _, _ => false) fun x => (cStr k).any fun y => y.1 == tx x.1
noncomputable def sRep : (a : PEs) → (x : Expr) → (xs : List Expr) → Option { v : (Nat × List Nat) × (Str × Nat × Pos) × Str × Nat × Pos // a = .cons (.lit (.str [v.1.1])) (.cons (.lit (.str v.1.2)) .nil) ∧ x = .Constant (.str v.2.1.1) v.2.1.2.1 v.2.1.2.2 ∧ xs = [.Constant (.str v.2.2.1) v.2.2.2.1 v.2.2.2.2] }
  | .cons (.lit (.str [g])) (.cons (.lit (.str y)) .nil), .Constant (.str s1) k1 p1, [.Constant (.str s2) k2 p2] => some ⟨((g, y), (s1, k1, p1), s2, k2, p2), rfl, rfl, rfl⟩
  | _, _, _ => none
noncomputable def sCons : (e : PEs) → Option { v : PE × PEs // e = .cons v.1 v.2 }
  | .cons a r => some ⟨(a, r), rfl⟩
  | _ => none
noncomputable def isRep (m : Meth) : Bool := match m with
  | .replace => true
  | _ => false
theorem isRep_t {m : Meth} (h : isRep m = true) : m = .replace := by
  cases m <;> first | rfl | cases h
theorem isRep_f {m : Meth} (h : isRep m = false) : m ≠ .replace := by
  rintro rfl; cases h
theorem lit_emb {gname fname : Nat → Option Str} {X : Ctx → PE → Expr → Prop} {c : Ctx} {d : D} {k : Const} {n : Nat} {p : Pos} (h : litB d k = true) : Emb gname fname X c (.lit d) (.Constant k n p) := by
  cases d with
  | str x =>
    obtain ⟨y, h⟩ := any_some (o := cStr k) h
    rw [y.2]
    exact .str (beqs h)
  | none =>
    cases k with
    | none => exact .none
    | _ => cases h
  | bool b =>
    cases k with
    | bool b' => obtain rfl := beqs (a := b) (b := b') h; exact .bool
    | _ => cases h
  | int i =>
    cases k with
    | int j => obtain rfl := beqs (a := i) (b := j) h; exact .int
    | _ => cases h
  | _ => cases h
section
variable (gname fname : Nat → Option Str) (xb : Ctx → PE → Expr → Bool)
mutual
noncomputable def embB : Ctx → PE → Expr → Bool
  | _, .lit d, e => (sCst e).any fun v => litB d v.1.1
  | c, .var n, e => (sName e).any fun v => c.v.lookup v.1.1 == some n && !(v.1.1 == ("__debug__" : Str))
  | c, .glob n, e => (sName e).any fun v => gname n == some v.1.1 && (c.k v.1.1 == some .globalImplicit && !(v.1.1 == ("__debug__" : Str)))
  | c, .tup es, e => (sTup e).any fun v => decide (v.1.1.length ≤ 1000) && embBs c es v.1.1
  | c, .lst es, e => (sLst e).any fun v => decide (v.1.1.length ≤ 1000) && embBs c es v.1.1
  | c, .neg a, e => (sUn e).any fun v => v.1.1 == .USub && embB c a v.1.2.1
  | c, .bin op a b, e => (sBin e).any fun v => v.1.2.1 == opOf op && (embB c a v.1.1 && embB c b v.1.2.2.1)
  | c, .cmp op a b, e => (sCmp e).any fun v => v.1.2.1 == cOf op && (embB c a v.1.1 && embB c b v.1.2.2.1)
  | c, .chain o1 o2 a b d, e => (sCmp2 e).any fun v => v.1.2.1 == cOf o1 && (v.1.2.2.1 == cOf o2 && (embB c a v.1.1 && (embB c b v.1.2.2.2.1 && embB c d v.1.2.2.2.2.1)))
  | c, .and a r, e => (sBool e).any fun v => v.1.1 == .And && (embB c a v.1.2.1 && embBs c r v.1.2.2.1)
  | c, .or a r, e => (sBool e).any fun v => v.1.1 == .Or && (embB c a v.1.2.1 && embBs c r v.1.2.2.1)
  | c, .not a, e => (sUn e).any fun v => v.1.1 == .Not && embB c a v.1.2.1
  | c, .ite q a b, e => (sIf e).any fun v => embB c q v.1.1 && (embB c a v.1.2.1 && embB c b v.1.2.2.1)
  | c, .idx a i, e => (sSub e).any fun v => embB c a v.1.1 && embB c i v.1.2.1
  | c, .sl a lo hi, e => (sSl e).any fun v => embB c a v.1.1 && (embB c lo v.1.2.1 && embB c hi v.1.2.2.1)
  | c, .slFrom a lo, e => (sSlF e).any fun v => embB c a v.1.1 && embB c lo v.1.2.1
  | c, .slTo a hi, e => (sSlT e).any fun v => embB c a v.1.1 && embB c hi v.1.2.1
  | c, .len a, e => (sCall1 e).any fun v => v.1.1 == ("len" : Str) && (c.k "len" == some .globalImplicit && embB c a v.1.2.2.1)
  | c, .sorted a, e => (sCall1 e).any fun v => v.1.1 == ("sorted" : Str) && (c.k "sorted" == some .globalImplicit && embB c a v.1.2.2.1)
  | c, .listRange lo hi, e => (sLR e).any fun v => v.1.1 == ("list" : Str) && (v.1.2.2.1 == ("range" : Str) && (c.k "list" == some .globalImplicit && (c.k "range" == some .globalImplicit && (embB c lo v.1.2.2.2.2.1 && embB c hi v.1.2.2.2.2.2.1))))
  | c, .meth m o args, e => (sMeth e).any fun v => v.1.2.1 == mnameOf m && (v.1.2.2.1.endLine == v.1.2.2.2.2.2.line && (decide (v.1.2.2.2.2.1.length < 20) && (embB c o v.1.1 && bif isRep m then (sRep args v.1.2.2.2.1 v.1.2.2.2.2.1).any fun u => u.1.2.1.1 == tx [u.1.1.1] && u.1.2.2.1 == tx u.1.1.2 else (sCons args).isSome && embBs c args (v.1.2.2.2.1 :: v.1.2.2.2.2.1))))
  | c, .call f args, e => (sCall e).any fun v => fname f == some v.1.1 && (c.k v.1.1 == some .globalImplicit && (!(v.1.1 == ("__debug__" : Str)) && ((sCons args).isSome && embBs c args (v.1.2.2.1 :: v.1.2.2.2.1))))
  | c, .compR elt n, e => (sLC e).any fun v => (sCall1 v.1.2.2.2.1).any fun u => u.1.1 == ("range" : Str) && (compOk c v.1.2.1 v.1.2.2.2.2.1 && (c.k "range" == some .globalImplicit && (embB (c.inner v.1.2.1 v.1.2.2.2.2.1) elt v.1.1 && embB c n u.1.2.2.1)))
  | c, .compRI elt n t, e => (sLCI e).any fun v => (sCall1 v.1.2.2.2.1).any fun u => u.1.1 == ("range" : Str) && (compOk c v.1.2.1 v.1.2.2.2.2.2.1 && (c.k "range" == some .globalImplicit && (embB (c.inner v.1.2.1 v.1.2.2.2.2.2.1) elt v.1.1 && (embB c n u.1.2.2.1 && embB (c.inner v.1.2.1 v.1.2.2.2.2.2.1) t v.1.2.2.2.2.1))))
  | c, .compL elt xs, e => (sLC e).any fun v => compOk c v.1.2.1 v.1.2.2.2.2.1 && (embB (c.inner v.1.2.1 v.1.2.2.2.2.1) elt v.1.1 && embB c xs v.1.2.2.2.1)
  | c, .compLI elt xs t, e => (sLCI e).any fun v => compOk c v.1.2.1 v.1.2.2.2.2.2.1 && (embB (c.inner v.1.2.1 v.1.2.2.2.2.2.1) elt v.1.1 && (embB c xs v.1.2.2.2.1 && embB (c.inner v.1.2.1 v.1.2.2.2.2.2.1) t v.1.2.2.2.2.1))
  | c, .fstr a b d, e => xb c (.fstr a b d) e
  | c, .joinG a b d, e => xb c (.joinG a b d) e
  | c, .prim a b, e => xb c (.prim a b) e
noncomputable def embBs : Ctx → PEs → List Expr → Bool
  | _, .nil, xs => xs.isEmpty
  | _, .cons _ _, [] => false
  | c, .cons e r, x :: xs => embB c e x && embBs c r xs
end
end

section
variable {gname fname : Nat → Option Str} {X : Ctx → PE → Expr → Prop} {xb : Ctx → PE → Expr → Bool} {c : Ctx}
theorem emb_of {pe : PE} {e e' : Expr} (he : e = e') (h : Emb gname fname X c pe e') : Emb gname fname X c pe e := he ▸ h
theorem un_of {o : UnaryOp} {o' : UnaryOp} {x : Expr} {p : Pos} {pe : PE} (h : (o == o') = true) (k : Emb gname fname X c pe (.UnaryOp o' x p)) : Emb gname fname X c pe (.UnaryOp o x p) := beqs h ▸ k
theorem bool_of {o o' : BoolOp} {xs : List Expr} {p : Pos} {pe : PE} (h : (o == o') = true) (k : Emb gname fname X c pe (.BoolOp o' xs p)) : Emb gname fname X c pe (.BoolOp o xs p) := beqs h ▸ k
theorem call_of {f g : Str} {xs : List Expr} {q p : Pos} {pe : PE} (h : (f == g) = true) (k : Emb gname fname X c pe (.Call (.Name g q) xs [] p)) : Emb gname fname X c pe (.Call (.Name f q) xs [] p) := beqs h ▸ k
theorem call_of2 {f g f2 g2 : Str} {xs : List Expr} {q p q2 p2 : Pos} {pe : PE} (h : (f == g) = true) (h2 : (f2 == g2) = true) (k : Emb gname fname X c pe (.Call (.Name g q) [.Call (.Name g2 q2) xs [] p2] [] p)) : Emb gname fname X c pe (.Call (.Name f q) [.Call (.Name f2 q2) xs [] p2] [] p) := by
  rw [beqs h, beqs h2]; exact k
theorem sCons_of {e : PEs} (h : (sCons e).isSome = true) : ∃ a r, e = .cons a r := by
  cases e with
  | nil => cases h
  | cons a r => exact ⟨a, r, rfl⟩
theorem call_emb {f : Nat} {args : PEs} {x : Str} {y : Expr} {xs : List Expr} {p q : Pos} (h1 : (fname f == some x) = true) (h2 : (c.k x == some .globalImplicit) = true) (h3 : (!(x == ("__debug__" : Str))) = true) (h4 : (sCons args).isSome = true) (h5 : Embs gname fname X c args (y :: xs)) : Emb gname fname X c (.call f args) (.Call (.Name x q) (y :: xs) [] p) := by
  obtain ⟨a, r, rfl⟩ := sCons_of h4
  cases h5 with
  | cons a b => exact .call (beqs h1) (beqs h2) (debug_ne h3) a b
theorem meth_emb {m : Meth} {o : PE} {args : PEs} {ox x : Expr} {xs : List Expr} {nm : Str} {ap p : Pos} (hm : isRep m = false) (h1 : (nm == mnameOf m) = true) (h2 : (ap.endLine == p.line) = true) (h3 : decide (xs.length < 20) = true) (ho : Emb gname fname X c o ox) (h4 : (sCons args).isSome = true) (h5 : Embs gname fname X c args (x :: xs)) : Emb gname fname X c (.meth m o args) (.Call (.Attribute ox nm ap) (x :: xs) [] p) := by
  obtain ⟨a, r, rfl⟩ := sCons_of h4
  cases h5 with
  | cons a b => exact .meth (isRep_f hm) (beqs h1) h2 (of_decide_eq_true h3) ho a b
theorem repl_emb {m : Meth} {o : PE} {args : PEs} {ox x : Expr} {xs : List Expr} {nm : Str} {ap p : Pos} (hm : isRep m = true) (h1 : (nm == mnameOf m) = true) (h2 : (ap.endLine == p.line) = true) (ho : Emb gname fname X c o ox) (h4 : ((sRep args x xs).any fun u => u.1.2.1.1 == tx [u.1.1.1] && u.1.2.2.1 == tx u.1.1.2) = true) : Emb gname fname X c (.meth m o args) (.Call (.Attribute ox nm ap) (x :: xs) [] p) := by
  obtain ⟨⟨u, e1, e2, e3⟩, h⟩ := any_some h4
  obtain ⟨g1, g2⟩ := band h
  obtain rfl := isRep_t hm
  rw [e1, e2, e3]
  exact .repl (beqs h1) h2 ho (beqs g1) (beqs g2)
theorem comp_of {el lx : Expr} {x f : Str} {px p : Pos} {sc : Scope} {ifs : List Expr} {pe : PE} {nx : Expr} {q p2 : Pos} (he : lx = .Call (.Name f q) [nx] [] p2) (h : (f == ("range" : Str)) = true) (k : Emb gname fname X c pe (.ListComp el [⟨.Name x px, .Call (.Name "range" q) [nx] [] p2, ifs, 0⟩] sc p)) : Emb gname fname X c pe (.ListComp el [⟨.Name x px, lx, ifs, 0⟩] sc p) := by
  rw [he, beqs h]; exact k
end

section
variable {gname fname : Nat → Option Str} {X : Ctx → PE → Expr → Prop} {xb : Ctx → PE → Expr → Bool}
variable (hx : ∀ c a x, xb c a x = true → X c a x ∧ Odd x)
include hx in
mutual
theorem embB_sound : ∀ (pe : PE) {c : Ctx} {e : Expr}, embB gname fname xb c pe e = true → Emb gname fname X c pe e
  | .lit _, _, _, h => let ⟨v, h⟩ := any_some h; emb_of v.2 (lit_emb h)
  | .var _, _, _, h => let ⟨v, h⟩ := any_some h; let ⟨h1, h2⟩ := band h; emb_of v.2 (.var (beqs h1) (debug_ne h2))
  | .glob _, _, _, h => let ⟨v, h⟩ := any_some h; let ⟨h1, h⟩ := band h; let ⟨h2, h3⟩ := band h; emb_of v.2 (.glob (beqs h1) (beqs h2) (debug_ne h3))
  | .tup es, _, _, h => let ⟨v, h⟩ := any_some h; let ⟨h1, h2⟩ := band h; emb_of v.2 (.tup (of_decide_eq_true h1) (embBs_sound es h2))
  | .lst es, _, _, h => let ⟨v, h⟩ := any_some h; let ⟨h1, h2⟩ := band h; emb_of v.2 (.lst (of_decide_eq_true h1) (embBs_sound es h2))
  | .neg a, _, _, h => let ⟨v, h⟩ := any_some h; let ⟨h1, h2⟩ := band h; emb_of v.2 (un_of h1 (.neg (embB_sound a h2)))
  | .bin _ a b, _, _, h => let ⟨v, h⟩ := any_some h; let ⟨h1, h⟩ := band h; let ⟨h2, h3⟩ := band h; emb_of v.2 (.bin (beqs h1) (embB_sound a h2) (embB_sound b h3))
  | .cmp _ a b, _, _, h => let ⟨v, h⟩ := any_some h; let ⟨h1, h⟩ := band h; let ⟨h2, h3⟩ := band h; emb_of v.2 (.cmp (beqs h1) (embB_sound a h2) (embB_sound b h3))
  | .chain _ _ a b d, _, _, h => let ⟨v, h⟩ := any_some h; let ⟨h1, h⟩ := band h; let ⟨h2, h⟩ := band h; let ⟨h3, h⟩ := band h; let ⟨h4, h5⟩ := band h; emb_of v.2 (.chain (beqs h1) (beqs h2) (embB_sound a h3) (embB_sound b h4) (embB_sound d h5))
  | .and a r, _, _, h => let ⟨v, h⟩ := any_some h; let ⟨h1, h⟩ := band h; let ⟨h2, h3⟩ := band h; emb_of v.2 (bool_of h1 (.and (embB_sound a h2) (embBs_sound r h3)))
  | .or a r, _, _, h => let ⟨v, h⟩ := any_some h; let ⟨h1, h⟩ := band h; let ⟨h2, h3⟩ := band h; emb_of v.2 (bool_of h1 (.or (embB_sound a h2) (embBs_sound r h3)))
  | .not a, _, _, h => let ⟨v, h⟩ := any_some h; let ⟨h1, h2⟩ := band h; emb_of v.2 (un_of h1 (.not (embB_sound a h2)))
  | .ite q a b, _, _, h => let ⟨v, h⟩ := any_some h; let ⟨h1, h⟩ := band h; let ⟨h2, h3⟩ := band h; emb_of v.2 (.ite (embB_sound q h1) (embB_sound a h2) (embB_sound b h3))
  | .idx a i, _, _, h => let ⟨v, h⟩ := any_some h; let ⟨h1, h2⟩ := band h; emb_of v.2 (.idx (embB_sound a h1) (embB_sound i h2))
  | .sl a lo hi, _, _, h => let ⟨v, h⟩ := any_some h; let ⟨h1, h⟩ := band h; let ⟨h2, h3⟩ := band h; emb_of v.2 (.sl (embB_sound a h1) (embB_sound lo h2) (embB_sound hi h3))
  | .slFrom a lo, _, _, h => let ⟨v, h⟩ := any_some h; let ⟨h1, h2⟩ := band h; emb_of v.2 (.slFrom (embB_sound a h1) (embB_sound lo h2))
  | .slTo a hi, _, _, h => let ⟨v, h⟩ := any_some h; let ⟨h1, h2⟩ := band h; emb_of v.2 (.slTo (embB_sound a h1) (embB_sound hi h2))
  | .len a, _, _, h => let ⟨v, h⟩ := any_some h; let ⟨h1, h⟩ := band h; let ⟨h2, h3⟩ := band h; emb_of v.2 (call_of h1 (.len (beqs h2) (embB_sound a h3)))
  | .sorted a, _, _, h => let ⟨v, h⟩ := any_some h; let ⟨h1, h⟩ := band h; let ⟨h2, h3⟩ := band h; emb_of v.2 (call_of h1 (.sorted (beqs h2) (embB_sound a h3)))
  | .listRange lo hi, _, _, h => let ⟨v, h⟩ := any_some h; let ⟨h1, h⟩ := band h; let ⟨h2, h⟩ := band h; let ⟨h3, h⟩ := band h; let ⟨h4, h⟩ := band h; let ⟨h5, h6⟩ := band h; emb_of v.2 (call_of2 h1 h2 (.listRange (beqs h3) (beqs h4) (embB_sound lo h5) (embB_sound hi h6)))
  | .meth m o args, _, _, h => let ⟨v, h⟩ := any_some h; let ⟨h1, h⟩ := band h; let ⟨h2, h⟩ := band h; let ⟨h3, h⟩ := band h; let ⟨h4, h⟩ := band h; emb_of v.2 (match hm : isRep m with
      | true => repl_emb hm h1 h2 (embB_sound o h4) (by rw [hm] at h; exact h)
      | false => let ⟨h5, h6⟩ := band (show ((sCons args).isSome && embBs gname fname xb _ args _) = true by rw [hm] at h; exact h); meth_emb hm h1 h2 h3 (embB_sound o h4) h5 (embBs_sound args h6))
  | .call _ args, _, _, h => let ⟨v, h⟩ := any_some h; let ⟨h1, h⟩ := band h; let ⟨h2, h⟩ := band h; let ⟨h3, h⟩ := band h; let ⟨h4, h5⟩ := band h; emb_of v.2 (call_emb h1 h2 h3 h4 (embBs_sound args h5))
  | .compR elt n, _, _, h => let ⟨v, h⟩ := any_some h; let ⟨u, h⟩ := any_some h; let ⟨h1, h⟩ := band h; let ⟨h2, h⟩ := band h; let ⟨h3, h⟩ := band h; let ⟨h4, h5⟩ := band h; emb_of v.2 (comp_of u.2 h1 (.compR h2 (beqs h3) (embB_sound elt h4) (embB_sound n h5)))
  | .compRI elt n t, _, _, h => let ⟨v, h⟩ := any_some h; let ⟨u, h⟩ := any_some h; let ⟨h1, h⟩ := band h; let ⟨h2, h⟩ := band h; let ⟨h3, h⟩ := band h; let ⟨h4, h⟩ := band h; let ⟨h5, h6⟩ := band h; emb_of v.2 (comp_of u.2 h1 (.compRI h2 (beqs h3) (embB_sound elt h4) (embB_sound n h5) (embB_sound t h6)))
  | .compL elt xs, _, _, h => let ⟨v, h⟩ := any_some h; let ⟨h1, h⟩ := band h; let ⟨h2, h3⟩ := band h; emb_of v.2 (.compL h1 (embB_sound elt h2) (embB_sound xs h3))
  | .compLI elt xs t, _, _, h => let ⟨v, h⟩ := any_some h; let ⟨h1, h⟩ := band h; let ⟨h2, h⟩ := band h; let ⟨h3, h4⟩ := band h; emb_of v.2 (.compLI h1 (embB_sound elt h2) (embB_sound xs h3) (embB_sound t h4))
  | .fstr _ _ _, _, _, h => .ext (hx _ _ _ h).1 (hx _ _ _ h).2
  | .joinG _ _ _, _, _, h => .ext (hx _ _ _ h).1 (hx _ _ _ h).2
  | .prim _ _, _, _, h => .ext (hx _ _ _ h).1 (hx _ _ _ h).2
theorem embBs_sound : ∀ (es : PEs) {c : Ctx} {xs : List Expr}, embBs gname fname xb c es xs = true → Embs gname fname X c es xs
  | .nil, _, [], _ => .nil
  | .nil, _, _ :: _, h => nomatch h
  | .cons _ _, _, [], h => nomatch h
  | .cons e r, _, _ :: _, h => let ⟨h1, h2⟩ := band h; .cons (embB_sound e h1) (embBs_sound r h2)
end
end
end Mine
end
section
set_option autoImplicit false
namespace Mine
open PySem PySem.W

noncomputable def tgtsB (c : Ctx) : List Nat → List Expr → Bool
  | [], [] => true
  | k :: ks, .Name x _ :: es => c.v.lookup x == some k && tgtsB c ks es
  | _, _ => false
theorem tgtsB_sound {c : Ctx} : ∀ {ks : List Nat} {es : List Expr}, tgtsB c ks es = true → Tgts c ks es
  | [], [], _ => .nil
  | [], _ :: _, h => by simp [tgtsB] at h
  | _ :: _, [], h => by simp [tgtsB] at h
  | k :: ks, e :: es, h => by
    cases e <;> simp only [tgtsB, Bool.false_eq_true] at h
    simp only [Bool.and_eq_true, beq_iff_eq] at h
    exact .cons h.1 (tgtsB_sound h.2)
/-- an index whose store is the plain one -/
noncomputable def plainIdx : Expr → Bool
  | .Name .. => true
  | .UnaryOp .. => true
  | .BinOp .. => true
  | .Constant .. => true
  | _ => false
theorem augPlain {ix : Expr} (h : plainIdx ix = true) : ∀ ov iv new, augStore ix ov iv new = (do holding [new, ov, iv] (setItem ov iv new); release [new, ov, iv] []; pure .next) := by
  intro ov iv new
  cases ix <;> first | rfl | (simp [plainIdx] at h)
noncomputable def isAddDiv : BOp → Bool
  | .add => true
  | .fdiv => true
  | _ => false
theorem addDiv {o : BOp} (h : isAddDiv o = true) : o = .add ∨ o = .fdiv := by cases o <;> simp [isAddDiv] at h <;> simp

section
variable (gname fname : Nat → Option Str) (xb : Ctx → PE → Expr → Bool) (xs : Ctx → PS → Stmt → Bool) (c : Ctx)
mutual
noncomputable def embSB : PS → Stmt → Bool
  | .assign k e, st => match st with
    | .Assign [.Name x px] ex _ => c.v.lookup x == some k && ((!isComp ex && embB gname fname xb c e ex) || (match e, ex with
        | .compLI elt l t, .ListComp el [⟨.Name y _, lx, [te], 0⟩] scope pos => swapOK c x px pos scope && compOk c y scope && embB gname fname xb (c.inner y scope) elt el && embB gname fname xb c l lx && embB gname fname xb (c.inner y scope) t te
        | .compRI elt l t, .ListComp el [⟨.Name y _, .Call (.Name f _) [nx] [] _, [te], 0⟩] scope pos => swapOK c x px pos scope && compOk c y scope && f == "range" && c.k "range" == some .globalImplicit && embB gname fname xb (c.inner y scope) elt el && embB gname fname xb c l nx && embB gname fname xb (c.inner y scope) t te
        | _, _ => false))
    | _ => false
  | .assignD k, st => match st with
    | .Assign [.Name x _] (.Dict [] [] _) _ => c.v.lookup x == some k
    | _ => false
  | .assignD1 k i v, st => match st with
    | .Assign [.Name x _] (.Dict [some ix] [vx] _) _ => c.v.lookup x == some k && embB gname fname xb c i ix && embB gname fname xb c v vx
    | _ => false
  | .appnd k e, st => match st with
    | .Expr (.Call (.Attribute (.Name x _) nm ap) [ex] [] p) _ => nm == "append" && c.v.lookup x == some k && !(x == ("__debug__" : Str)) && ap.endLine == p.line && embB gname fname xb c e ex
    | _ => false
  | .setD k i v, st => match st with
    | .Assign [.Subscript (.Name x _) ix _] vx _ => c.v.lookup x == some k && !(x == ("__debug__" : Str)) && !isComp vx && embB gname fname xb c i ix && embB gname fname xb c v vx
    | _ => false
  | .setL k i v, st => match st with
    | .Assign [.Subscript (.Name x _) ix _] vx _ => c.v.lookup x == some k && !(x == ("__debug__" : Str)) && !isComp vx && embB gname fname xb c i ix && embB gname fname xb c v vx
    | _ => false
  | .aug k op e, st => match st with
    | .AugAssign (.Name x _) o ex _ => c.v.lookup x == some k && o == opOf op && isAddDiv op && embB gname fname xb c e ex
    | _ => false
  | .augIdx k i op e, st => match st with
    | .AugAssign (.Subscript (.Name x _) ix _) o ex _ => c.v.lookup x == some k && !(x == ("__debug__" : Str)) && o == opOf op && isAddDiv op && plainIdx ix && embB gname fname xb c i ix && embB gname fname xb c e ex
    | _ => false
  | .delL k i, st => match st with
    | .Delete [.Subscript (.Name x _) ix _] _ => c.v.lookup x == some k && !(x == ("__debug__" : Str)) && embB gname fname xb c i ix
    | _ => false
  | .ite q a b, st => match st with
    | .If t x y _ => embB gname fname xb c q t && embSsB a x && embSsB b y
    | _ => false
  | .while_ _ q a, st => match st with
    | .While t x [] _ => embB gname fname xb c q t && embSsB a x
    | _ => false
  | .forE k e bd od, st => match st with
    | .For (.Name x _) ex b o _ => c.v.lookup x == some k && embB gname fname xb c e ex && embSsB bd b && embSsB od o
    | _ => false
  | .forT ks e bd od, st => match st with
    | .For (.Tuple es _ _) ex b o _ => tgtsB c ks es && embB gname fname xb c e ex && embSsB bd b && embSsB od o
    | _ => false
  | .forR k lo hi bd, st => match lo, st with
    | .lit (.int 0), .For (.Name x _) (.Call (.Name f _) [ex] [] _) b [] _ => c.v.lookup x == some k && f == "range" && c.k "range" == some .globalImplicit && embB gname fname xb c hi ex && embSsB bd b
    | _, _ => false
  | .ret e, st => match st with
    | .Return (some ex) _ => embB gname fname xb c e ex
    | _ => false
  | .brk, st => match st with
    | .Break _ => true
    | _ => false
  | .assert_ e, st => match st with
    | .Assert ex _ _ => embB gname fname xb c e ex
    | _ => false
  | .try_ a, st => match st with
    | .Try x (_ :: _) [] [] _ => embSsB a x
    | _ => false
  | .unpack ks e, st => xs c (.unpack ks e) st
  | .bindApp a b, st => xs c (.bindApp a b) st
  | .appndB a b, st => xs c (.appndB a b) st
  | .forDown k a b bd, st => xs c (.forDown k a b bd) st || (match st with
    | .For (.Name x _) (.Call (.Name f _) [hx, lx, .UnaryOp .USub (.Constant (.int 1) _ _) _] [] _) y [] _ => c.v.lookup x == some k && f == "range" && c.k "range" == some .globalImplicit && embB gname fname xb c a hx && embB gname fname xb c b lx && embSsB bd y && false
    | _ => false)
  | .forEnum a b e bd, st => match st with
    | .For (.Tuple es _ _) (.Call (.Name f _) [ex] [] _) y [] _ => tgtsB c [a, b] es && f == "enumerate" && c.k "enumerate" == some .globalImplicit && embB gname fname xb c e ex && embSsB bd y
    | _ => false
noncomputable def embSsB : PSs → List Stmt → Bool
  | .nil, st => st.isEmpty
  | .cons a r, st => match st with
    | x :: st => embSB a x && embSsB r st
    | [] => false
end
end

section
variable {gname fname : Nat → Option Str} {X : Ctx → PE → Expr → Prop} {xb : Ctx → PE → Expr → Bool} {XS : Ctx → PS → Stmt → Prop} {xs : Ctx → PS → Stmt → Bool} {c : Ctx}
variable (hx : ∀ c a x, xb c a x = true → X c a x ∧ Odd x) (hxs : ∀ c a x, xs c a x = true → XS c a x)
include hx hxs
mutual
theorem embSB_sound : ∀ (ps : PS) {st : Stmt}, embSB gname fname xb xs c ps st = true → EmbS gname fname X XS c ps st
  | .assign k e, st, h => by
    simp only [embSB] at h
    split at h
    · simp only [Bool.and_eq_true, Bool.or_eq_true, beq_iff_eq] at h
      obtain ⟨h1, h2 | h2⟩ := h
      · exact .assign h1 (by simpa using h2.1) (embB_sound hx _ h2.2)
      · split at h2
        · simp only [Bool.and_eq_true] at h2
          obtain ⟨⟨⟨⟨g1, g2⟩, g3⟩, g4⟩, g5⟩ := h2
          exact .assignLI h1 g1 g2 (embB_sound hx _ g3) (embB_sound hx _ g4) (embB_sound hx _ g5)
        · simp only [Bool.and_eq_true, beq_iff_eq] at h2
          obtain ⟨⟨⟨⟨⟨⟨g1, g2⟩, rfl⟩, g0⟩, g3⟩, g4⟩, g5⟩ := h2
          exact .assignRI h1 g1 g2 g0 (embB_sound hx _ g3) (embB_sound hx _ g4) (embB_sound hx _ g5)
        · cases h2
    · cases h
  | .assignD k, st, h => by
    simp only [embSB] at h
    split at h
    · exact .assignD (by simpa using h)
    · cases h
  | .assignD1 k i v, st, h => by
    simp only [embSB] at h
    split at h
    · simp only [Bool.and_eq_true, beq_iff_eq] at h
      exact .assignD1 h.1.1 (embB_sound hx _ h.1.2) (embB_sound hx _ h.2)
    · cases h
  | .appnd k e, st, h => by
    simp only [embSB] at h
    split at h
    · simp only [Bool.and_eq_true, beq_iff_eq] at h
      obtain ⟨⟨⟨⟨h1, h2⟩, h3⟩, h4⟩, h5⟩ := h
      exact .appnd h1 h2 (debug_ne h3) (by simpa using h4) (embB_sound hx _ h5)
    · cases h
  | .setD k i v, st, h => by
    simp only [embSB] at h
    split at h
    · simp only [Bool.and_eq_true, beq_iff_eq] at h
      obtain ⟨⟨⟨⟨h1, h2⟩, h3⟩, h4⟩, h5⟩ := h
      exact .setD h1 (debug_ne h2) (by simpa using h3) (embB_sound hx _ h4) (embB_sound hx _ h5)
    · cases h
  | .setL k i v, st, h => by
    simp only [embSB] at h
    split at h
    · simp only [Bool.and_eq_true, beq_iff_eq] at h
      obtain ⟨⟨⟨⟨h1, h2⟩, h3⟩, h4⟩, h5⟩ := h
      exact .setL h1 (debug_ne h2) (by simpa using h3) (embB_sound hx _ h4) (embB_sound hx _ h5)
    · cases h
  | .aug k op e, st, h => by
    simp only [embSB] at h
    split at h
    · simp only [Bool.and_eq_true, beq_iff_eq] at h
      obtain ⟨⟨⟨h1, h2⟩, h3⟩, h4⟩ := h
      exact .aug h1 h2 (addDiv h3) (embB_sound hx _ h4)
    · cases h
  | .augIdx k i op e, st, h => by
    simp only [embSB] at h
    split at h
    · simp only [Bool.and_eq_true, beq_iff_eq] at h
      obtain ⟨⟨⟨⟨⟨⟨h1, h2⟩, h3⟩, h4⟩, h5⟩, h6⟩, h7⟩ := h
      exact .augIdx h1 (debug_ne h2) h3 (addDiv h4) (embB_sound hx _ h6) (embB_sound hx _ h7) (augPlain h5)
    · cases h
  | .delL k i, st, h => by
    simp only [embSB] at h
    split at h
    · simp only [Bool.and_eq_true, beq_iff_eq] at h
      exact .delL h.1.1 (debug_ne h.1.2) (embB_sound hx _ h.2)
    · cases h
  | .ite q a b, st, h => by
    simp only [embSB] at h
    split at h
    · simp only [Bool.and_eq_true] at h
      exact .ite (embB_sound hx _ h.1.1) (embSsB_sound a h.1.2) (embSsB_sound b h.2)
    · cases h
  | .while_ n q a, st, h => by
    simp only [embSB] at h
    split at h
    · simp only [Bool.and_eq_true] at h
      exact .while_ (embB_sound hx _ h.1) (embSsB_sound a h.2)
    · cases h
  | .forE k e bd od, st, h => by
    simp only [embSB] at h
    split at h
    · simp only [Bool.and_eq_true, beq_iff_eq] at h
      obtain ⟨⟨⟨h1, h2⟩, h3⟩, h4⟩ := h
      exact .forE h1 (embB_sound hx _ h2) (embSsB_sound bd h3) (embSsB_sound od h4)
    · cases h
  | .forT ks e bd od, st, h => by
    simp only [embSB] at h
    split at h
    · simp only [Bool.and_eq_true] at h
      obtain ⟨⟨⟨h1, h2⟩, h3⟩, h4⟩ := h
      exact .forT (tgtsB_sound h1) (embB_sound hx _ h2) (embSsB_sound bd h3) (embSsB_sound od h4)
    · cases h
  | .forR k lo hi bd, st, h => by
    simp only [embSB] at h
    split at h
    · simp only [Bool.and_eq_true, beq_iff_eq] at h
      obtain ⟨⟨⟨⟨h1, rfl⟩, h3⟩, h4⟩, h5⟩ := h
      exact .forR h1 h3 (embB_sound hx _ h4) (embSsB_sound bd h5)
    · cases h
  | .ret e, st, h => by
    simp only [embSB] at h
    split at h
    · exact .ret (embB_sound hx _ h)
    · cases h
  | .brk, st, h => by
    simp only [embSB] at h
    split at h
    · exact .brk
    · cases h
  | .assert_ e, st, h => by
    simp only [embSB] at h
    split at h
    · exact .assert_ (embB_sound hx _ h)
    · cases h
  | .try_ a, st, h => by
    simp only [embSB] at h
    split at h
    · exact .try_ (embSsB_sound a h)
    · cases h
  | .unpack ks e, st, h => .ext (hxs _ _ _ (by simpa only [embSB] using h))
  | .bindApp a b, st, h => .ext (hxs _ _ _ (by simpa only [embSB] using h))
  | .appndB a b, st, h => .ext (hxs _ _ _ (by simpa only [embSB] using h))
  | .forDown k a b bd, st, h => by
    simp only [embSB, Bool.or_eq_true] at h
    rcases h with h | h
    · exact .ext (hxs _ _ _ h)
    · split at h
      · simp at h
      · cases h
  | .forEnum a b e bd, st, h => by
    simp only [embSB] at h
    split at h
    · simp only [Bool.and_eq_true, beq_iff_eq] at h
      obtain ⟨⟨⟨⟨h1, rfl⟩, h3⟩, h4⟩, h5⟩ := h
      exact .forEnum (tgtsB_sound h1) h3 (embB_sound hx _ h4) (embSsB_sound bd h5)
    · cases h
theorem embSsB_sound : ∀ (ps : PSs) {st : List Stmt}, embSsB gname fname xb xs c ps st = true → EmbSs gname fname X XS c ps st
  | .nil, st, h => by
    simp only [embSsB, List.isEmpty_iff] at h
    subst h; exact .nil
  | .cons a r, st, h => by
    simp only [embSsB] at h
    split at h
    · simp only [Bool.and_eq_true] at h
      exact .cons (embSB_sound a h.1) (embSsB_sound r h.2)
    · cases h
end
end
end Mine
end
section
set_option autoImplicit false
namespace Mine
open PySem PySem.W

def defsOf : List (Str × (List Stmt × Scope)) := PySem.Challenge.pw_in0236_01.main.body.filterMap fun
  | .FunctionDef n _ b _ _ _ sc _ _ _ => some (n, b, sc)
  | _ => none
def bodyOf (n : Str) : List Stmt := ((defsOf.lookup n).map (·.1)).getD []
def namesOf (n : Str) : List (Str × NameKind) := ((defsOf.lookup n).map (·.2.names)).getD []
def gnm : Nat → Option Str
  | 0 => some "S_IFDIR"
  | 1 => some "_filemode_table"
  | _ => none
def fnmL : List Str := ["S_IFMT", "S_ISDIR", "filemode", "escape", "_translate", "fspath", "_get_sep", "join", "basename", "dirname", "_law_numbers", "_law_items", "_law_tree", "_law_world", "_law_fits", "_law_takes", "_law_listing", "_law_rights", "_law_read", "_law_plain", "_law_due", "law"]
def fnm (n : Nat) : Option Str := fnmL[n]?
def vS_IFMT : List (Str × Nat) := [("mode", 0)]
def cS_IFMT : Ctx := ⟨fun x => (namesOf "S_IFMT").lookup x, vS_IFMT, 1⟩
def vS_ISDIR : List (Str × Nat) := [("mode", 0)]
def cS_ISDIR : Ctx := ⟨fun x => (namesOf "S_ISDIR").lookup x, vS_ISDIR, 1⟩
def vfilemode : List (Str × Nat) := [("mode", 0), ("perm", 1), ("index", 2), ("table", 3), ("bit", 4), ("char", 5)]
def cfilemode : Ctx := ⟨fun x => (namesOf "filemode").lookup x, vfilemode, 6⟩
def v_translate : List (Str × Nat) := [("pat", 0), ("STAR", 1), ("QUESTION_MARK", 2), ("res", 3), ("add", 4), ("i", 5), ("n", 6), ("c", 7), ("j", 8), ("stuff", 9), ("chunks", 10), ("k", 11), ("chunk", 12)]
def c_translate : Ctx := ⟨fun x => (namesOf "_translate").lookup x, v_translate, 13⟩
def vjoin : List (Str × Nat) := [("a", 0), ("p", 1), ("sep", 2), ("path", 3), ("b", 4)]
def cjoin : Ctx := ⟨fun x => (namesOf "join").lookup x, vjoin, 5⟩
def vbasename : List (Str × Nat) := [("p", 0), ("sep", 1), ("i", 2)]
def cbasename : Ctx := ⟨fun x => (namesOf "basename").lookup x, vbasename, 3⟩
def vdirname : List (Str × Nat) := [("p", 0), ("sep", 1), ("i", 2), ("head", 3)]
def cdirname : Ctx := ⟨fun x => (namesOf "dirname").lookup x, vdirname, 4⟩
def v_law_numbers : List (Str × Nat) := [("script", 0), ("given", 1), ("fixed", 2)]
def c_law_numbers : Ctx := ⟨fun x => (namesOf "_law_numbers").lookup x, v_law_numbers, 3⟩
def v_law_items : List (Str × Nat) := [("number", 0), ("table", 1), ("left", 2), ("items", 3), ("k", 4)]
def c_law_items : Ctx := ⟨fun x => (namesOf "_law_items").lookup x, v_law_items, 5⟩
def v_law_tree : List (Str × Nat) := [("numbers", 0), ("nodes", 1), ("folders", 2), ("number", 3), ("kind", 4), ("left", 5), ("above", 6), ("name", 7), ("k", 8)]
def c_law_tree : Ctx := ⟨fun x => (namesOf "_law_tree").lookup x, v_law_tree, 9⟩
def v_law_world : List (Str × Nat) := [("base", 0), ("nodes", 1), ("paths", 2), ("world", 3), ("above", 4), ("name", 5), ("kind", 6), ("rights", 7)]
def c_law_world : Ctx := ⟨fun x => (namesOf "_law_world").lookup x, v_law_world, 8⟩
def v_law_fits : List (Str × Nat) := [("part", 0), ("sign", 1), ("barred", 2), ("k", 3), ("met", 4), ("low", 5), ("high", 6)]
def c_law_fits : Ctx := ⟨fun x => (namesOf "_law_fits").lookup x, v_law_fits, 7⟩
def v_law_takes : List (Str × Nat) := [("parts", 0), ("text", 1), ("at", 2), ("part", 3)]
def c_law_takes : Ctx := ⟨fun x => (namesOf "_law_takes").lookup x, v_law_takes, 4⟩
def v_law_listing : List (Str × Nat) := [("base", 0), ("world", 1), ("pattern", 2), ("parts", 3), ("rows", 4), ("waiting", 5), ("folder", 6), ("deeper", 7), ("path", 8), ("name", 9)]
def c_law_listing : Ctx := ⟨fun x => (namesOf "_law_listing").lookup x, v_law_listing, 10⟩
def v_law_rights : List (Str × Nat) := [("signs", 0), ("special", 1), ("rights", 2), ("k", 3), ("run", 4)]
def c_law_rights : Ctx := ⟨fun x => (namesOf "_law_rights").lookup x, v_law_rights, 5⟩
def v_law_read : List (Str × Nat) := [("base", 0), ("text", 1), ("known", 2), ("headings", 3), ("files", 4), ("folder", 5), ("opening", 6), ("row", 7), ("key", 8)]
def c_law_read : Ctx := ⟨fun x => (namesOf "_law_read").lookup x, v_law_read, 9⟩
def v_law_plain : List (Str × Nat) := [("items", 0), ("name", 1)]
def c_law_plain : Ctx := ⟨fun x => (namesOf "_law_plain").lookup x, v_law_plain, 2⟩
def v_law_due : List (Str × Nat) := [("nodes", 0), ("items", 1), ("keys", 2), ("kept", 3), ("files", 4), ("above", 5), ("name", 6), ("kind", 7), ("rights", 8), ("headings", 9)]
def c_law_due : Ctx := ⟨fun x => (namesOf "_law_due").lookup x, v_law_due, 10⟩
def vlaw : List (Str × Nat) := [("script", 0), ("numbers", 1), ("base", 2), ("items", 3), ("nodes", 4), ("pattern", 5), ("told", 6)]
def claw : Ctx := ⟨fun x => (namesOf "law").lookup x, vlaw, 7⟩
def xb0 : Ctx → PE → Expr → Bool := fun _ _ _ => false
def xs0 : Ctx → PS → Stmt → Bool := fun _ _ _ => false
theorem embS_IFMT : embSsB gnm fnm xb0 xs0 cS_IFMT FS_IFMT.body (bodyOf "S_IFMT") = true := by decide +kernel
theorem embS_ISDIR : embSsB gnm fnm xb0 xs0 cS_ISDIR FS_ISDIR.body (bodyOf "S_ISDIR") = true := by decide +kernel
theorem embfilemode : embSsB gnm fnm xb0 xs0 cfilemode Ffilemode.body (bodyOf "filemode") = true := by decide +kernel
theorem embjoin : embSsB gnm fnm xb0 xs0 cjoin Fjoin.body (bodyOf "join") = true := by decide +kernel
theorem embbasename : embSsB gnm fnm xb0 xs0 cbasename Fbasename.body (bodyOf "basename") = true := by decide +kernel
theorem embdirname : embSsB gnm fnm xb0 xs0 cdirname Fdirname.body (bodyOf "dirname") = true := by decide +kernel
theorem emb_law_numbers : embSsB gnm fnm xb0 xs0 c_law_numbers F_law_numbers.body (bodyOf "_law_numbers") = true := by decide +kernel
theorem emb_law_items : embSsB gnm fnm xb0 xs0 c_law_items F_law_items.body (bodyOf "_law_items") = true := by decide +kernel
theorem emb_law_tree : embSsB gnm fnm xb0 xs0 c_law_tree F_law_tree.body (bodyOf "_law_tree") = true := by decide +kernel
theorem emb_law_world : embSsB gnm fnm xb0 xs0 c_law_world F_law_world.body (bodyOf "_law_world") = true := by decide +kernel
theorem emb_law_fits : embSsB gnm fnm xb0 xs0 c_law_fits F_law_fits.body (bodyOf "_law_fits") = true := by decide +kernel
theorem emb_law_takes : embSsB gnm fnm xb0 xs0 c_law_takes F_law_takes.body (bodyOf "_law_takes") = true := by decide +kernel
theorem emb_law_listing : embSsB gnm fnm xb0 xs0 c_law_listing F_law_listing.body (bodyOf "_law_listing") = true := by decide +kernel
theorem emb_law_rights : embSsB gnm fnm xb0 xs0 c_law_rights F_law_rights.body (bodyOf "_law_rights") = true := by decide +kernel
theorem emb_law_read : embSsB gnm fnm xb0 xs0 c_law_read F_law_read.body (bodyOf "_law_read") = true := by decide +kernel
theorem emb_law_plain : embSsB gnm fnm xb0 xs0 c_law_plain F_law_plain.body (bodyOf "_law_plain") = true := by decide +kernel
theorem emb_law_due : embSsB gnm fnm xb0 xs0 c_law_due F_law_due.body (bodyOf "_law_due") = true := by decide +kernel
theorem emblaw : embSsB gnm fnm xb0 xs0 claw Flaw.body (bodyOf "law") = true := by decide +kernel
end Mine
end
section
set_option autoImplicit false
namespace Mine
open PySem PySem.W PyProof.Rows

/-- a sort's questions, answered by lt, each about places below n -/
def pw (n : Nat) (lt : Nat → Nat → Bool) {α : Type} : KasT α → (α → Prop) → Prop
  | .ret a, Q => Q a
  | .ask i j k, Q => i < n ∧ j < n ∧ i ≠ j ∧ pw n lt (k (lt i j)) Q
theorem pw_bind {n : Nat} {lt : Nat → Nat → Bool} {α β : Type} {f : α → KasT β} {Q : β → Prop} : ∀ (t : KasT α), pw n lt t (fun a => pw n lt (f a) Q) → pw n lt (t.bind f) Q
  | .ret _, h => h
  | .ask _ _ k, h => ⟨h.1, h.2.1, h.2.2.1, pw_bind (k _) h.2.2.2⟩
theorem pw_mono {n : Nat} {lt : Nat → Nat → Bool} {α : Type} {Q Q' : α → Prop} (hq : ∀ a, Q a → Q' a) : ∀ (t : KasT α), pw n lt t Q → pw n lt t Q'
  | .ret _, h => hq _ h
  | .ask _ _ k, h => ⟨h.1, h.2.1, h.2.2.1, pw_mono hq (k _) h.2.2.2⟩
/-- the same over states -/
theorem pw_wp {n : Nat} {lt : Nat → Nat → Bool} {cmp : Nat → Nat → (Bool → Shared → Prop) → Shared → Prop} {P : Shared → Prop} (hc : ∀ i j C s, P s → i < n → j < n → i ≠ j → (∀ s', P s' → C (lt i j) s') → cmp i j C s) {α : Type} {Q : α → Prop} :
    ∀ (t : KasT α) (s : Shared), P s → pw n lt t Q → t.kasWp cmp (fun a s' => P s' ∧ Q a) s
  | .ret _, _, p, h => ⟨p, h⟩
  | .ask i j k, s, p, h => hc i j _ s p h.1 h.2.1 h.2.2.1 fun s' p' => pw_wp hc (k _) s' p' h.2.2.2

structure SLt (n : Nat) (lt : Nat → Nat → Bool) : Prop where
  irr : ∀ i, lt i i = false
  tr : ∀ i j k, lt i j = true → lt j k = true → lt i k = true
  tot : ∀ i j, i < n → j < n → i ≠ j → lt i j = false → lt j i = true

def ok (n : Nat) (p : Array Nat) : Prop := p.toList.Perm (List.range n)
theorem ok_size {n : Nat} {p : Array Nat} (h : ok n p) : p.size = n := by have := h.length_eq; simpa using this
theorem ok_lt {n : Nat} {p : Array Nat} (h : ok n p) (hn : 0 < n) (i : Nat) : p.getD i 0 < n := by
  by_cases hi : i < p.size
  · have e : p.getD i 0 = p[i] := by simp [Array.getD, hi]
    have : p[i] ∈ p.toList := by simp
    rw [e]
    exact List.mem_range.mp (h.mem_iff.mp this)
  · have e : p.getD i 0 = 0 := by simp [Array.getD, hi]
    rw [e]; exact hn
theorem ok_inj {n : Nat} {p : Array Nat} (h : ok n p) {i j : Nat} (hi : i < n) (hj : j < n) (e : p.getD i 0 = p.getD j 0) : i = j := by
  have hz := ok_size h
  have hi' : i < p.size := by omega
  have hj' : j < p.size := by omega
  have e1 : p.getD i 0 = p[i] := by simp [Array.getD, hi']
  have e2 : p.getD j 0 = p[j] := by simp [Array.getD, hj']
  rw [e1, e2] at e
  have nd : p.toList.Nodup := h.nodup_iff.mpr List.nodup_range
  exact (List.getElem_inj (xs := p.toList) (h₀ := by simpa using hi') (h₁ := by simpa using hj') nd).mp (by simpa using e)
theorem getD_of {p q : Array Nat} {i j : Nat} (h : p[i]? = q[j]?) : p.getD i 0 = q.getD j 0 := by
  rw [Array.getD_eq_getD_getElem?, Array.getD_eq_getD_getElem?, h]

section
variable {n : Nat} {lt : Nat → Nat → Bool} (S : SLt n lt)
def inc (lt : Nat → Nat → Bool) (p : Array Nat) (b : Nat) : Prop := ∀ i j, i < j → j < b → lt (p.getD i 0) (p.getD j 0) = true
def dec (lt : Nat → Nat → Bool) (p : Array Nat) (b : Nat) : Prop := ∀ i j, i < j → j < b → lt (p.getD j 0) (p.getD i 0) = true
theorem inc_one (p : Array Nat) : inc lt p 1 := fun i j h1 h2 => by omega
include S in
theorem SLt.asym {i j : Nat} (h : lt i j = true) : lt j i = false := by
  cases e : lt j i with
  | false => rfl
  | true => have := S.tr _ _ _ h e; rw [S.irr] at this; cases this
include S in
theorem inc_succ {p : Array Nat} {b : Nat} (hb : 1 ≤ b) (h : inc lt p b) (h2 : lt (p.getD (b - 1) 0) (p.getD b 0) = true) : inc lt p (b + 1) := fun i j hij hj => by
  by_cases e : j = b
  · subst e
    by_cases e2 : i = j - 1
    · subst e2; exact h2
    · exact S.tr _ _ _ (h i (j - 1) (by omega) (by omega)) h2
  · exact h i j hij (by omega)
include S in
theorem dec_succ {p : Array Nat} {b : Nat} (hb : 1 ≤ b) (h : dec lt p b) (h2 : lt (p.getD b 0) (p.getD (b - 1) 0) = true) : dec lt p (b + 1) := fun i j hij hj => by
  by_cases e : j = b
  · subst e
    by_cases e2 : i = j - 1
    · subst e2; exact h2
    · exact S.tr _ _ _ h2 (h i (j - 1) (by omega) (by omega))
  · exact h i j hij (by omega)
include S in
theorem asc_pw {p : Array Nat} (hp : ok n p) : ∀ (f m : Nat), 1 ≤ m → m + f ≤ n → inc lt p m → pw n lt (kas_asc p f m) (fun m' => m ≤ m' ∧ m' ≤ m + f ∧ inc lt p m' ∧ (m' = m + f ∨ lt (p.getD m' 0) (p.getD (m' - 1) 0) = true))
  | 0, m, _, _, h => ⟨Nat.le_refl _, Nat.le_refl _, h, .inl rfl⟩
  | f + 1, m, h1, h2, h => by
    have hn : 0 < n := by omega
    refine ⟨ok_lt hp hn _, ok_lt hp hn _, fun q => by have := ok_inj hp (by omega) (by omega) q; omega, ?_⟩
    cases e : lt (p.getD m 0) (p.getD (m - 1) 0) with
    | true => exact ⟨Nat.le_refl _, by omega, h, .inr e⟩
    | false =>
      have hl := S.tot _ _ (ok_lt hp hn m) (ok_lt hp hn (m - 1)) (fun q => by have := ok_inj hp (by omega) (by omega) q; omega) e
      simp only [Bool.false_eq_true, if_false]
      exact pw_mono (fun m' h => ⟨by omega, by omega, h.2.2.1, h.2.2.2.elim (fun q => .inl (by omega)) .inr⟩) _ (asc_pw hp f (m + 1) (by omega) (by omega) (inc_succ S h1 h hl))
include S in
theorem desc_pw {p : Array Nat} (hp : ok n p) : ∀ (f m : Nat), 1 ≤ m → m + f ≤ n → dec lt p m → pw n lt (kas_desc f p m 0) (fun r => r.1 = p ∧ r.2.2 = 0 ∧ m ≤ r.2.1 ∧ r.2.1 ≤ m + f ∧ dec lt p r.2.1)
  | 0, m, _, _, h => ⟨rfl, rfl, Nat.le_refl _, Nat.le_refl _, h⟩
  | f + 1, m, h1, h2, h => by
    have hn : 0 < n := by omega
    refine ⟨ok_lt hp hn _, ok_lt hp hn _, fun q => by have := ok_inj hp (by omega) (by omega) q; omega, ?_⟩
    cases e : lt (p.getD m 0) (p.getD (m - 1) 0) with
    | true =>
      dsimp only
      rw [if_pos rfl, if_neg (by omega)]
      exact pw_mono (fun r h => ⟨h.1, h.2.1, by omega, by omega, h.2.2.2.2⟩) _ (desc_pw hp f (m + 1) (by omega) (by omega) (dec_succ S h1 h e))
    | false =>
      have hl := S.tot _ _ (ok_lt hp hn m) (ok_lt hp hn (m - 1)) (fun q => by have := ok_inj hp (by omega) (by omega) q; omega) e
      dsimp only
      rw [if_neg (by simp)]
      refine ⟨ok_lt hp hn _, ok_lt hp hn _, fun q => by have := ok_inj hp (by omega) (by omega) q; omega, ?_⟩
      rw [hl]
      dsimp only
      rw [if_pos rfl]
      exact ⟨rfl, rfl, Nat.le_refl _, by show m ≤ m + (f + 1); omega, h⟩
theorem rev_ok {p : Array Nat} (hp : ok n p) (i j : Nat) : ok n (kas_rev p i j) := (mirror_perm p i j ((j - i) / 2)).toList.trans hp
theorem rev_getD {p : Array Nat} {m : Nat} (hm : m ≤ p.size) (k : Nat) : (kas_rev p 0 m).getD k 0 = if k < m then p.getD (m - 1 - k) 0 else p.getD k 0 := by
  have := getElem?_mirror_all (xs := p) (i := 0) hm k
  unfold kas_rev
  simp only [Nat.zero_le, true_and, Nat.zero_add] at this
  by_cases h : k < m
  · rw [if_pos h] at this ⊢; exact getD_of this
  · rw [if_neg h] at this ⊢; exact getD_of this
theorem rev_inc {p : Array Nat} {m : Nat} (hm : m ≤ p.size) (h : dec lt p m) : inc lt (kas_rev p 0 m) m := fun i j hij hj => by
  rw [rev_getD hm, rev_getD hm, if_pos (by omega), if_pos hj]
  exact h (m - 1 - j) (m - 1 - i) (by omega) (by omega)
include S in
theorem tail3_pw {p : Array Nat} {m : Nat} (hp : ok n p) (h1 : 1 ≤ m) (hm : m ≤ n) (h : dec lt p m) : pw n lt (kas_tail3 m n p) (fun r => ok n r.2 ∧ inc lt r.2 r.1 ∧ 1 ≤ r.1 ∧ r.1 ≤ n) := by
  unfold kas_tail3
  refine pw_bind _ (pw_mono (fun m' h' => ?_) _ (asc_pw S (rev_ok hp 0 m) (n - m) m h1 (by omega) (rev_inc (by rw [ok_size hp]; exact hm) h)))
  exact ⟨rev_ok hp 0 m, h'.2.2.1, by omega, by show m' ≤ n; omega⟩
include S in
theorem count_pw {p : Array Nat} (hp : ok n p) (h2 : 2 ≤ n) : pw n lt (kas_count n p) (fun r => ok n r.2 ∧ inc lt r.2 r.1 ∧ 1 ≤ r.1 ∧ r.1 ≤ n) := by
  unfold kas_count
  have hn : 0 < n := by omega
  refine pw_bind _ (pw_mono (fun m h => ?_) _ (asc_pw S hp (n - 1) 1 (Nat.le_refl _) (by omega) (inc_one p)))
  obtain ⟨g1, g2, g3, g4⟩ := h
  by_cases e : m = n
  · subst e
    rw [if_pos (by simp)]
    exact ⟨hp, g3, g1, Nat.le_refl _⟩
  · rw [if_neg (by simpa using e)]
    by_cases e1 : m > 1
    · rw [if_pos e1]
      refine ⟨ok_lt hp hn _, ok_lt hp hn _, fun q => by have := ok_inj hp (by omega) (by omega) q; omega, ?_⟩
      rw [g3 0 (m - 1) (by omega) (by omega)]
      dsimp only
      rw [if_pos rfl]
      exact ⟨hp, g3, g1, by show m ≤ n; omega⟩
    · rw [if_neg e1]
      have em : m = 1 := by omega
      subst em
      have hd : lt (p.getD 1 0) (p.getD 0 0) = true := by
        rcases g4 with q | q
        · omega
        · exact q
      unfold kas_descPart
      refine pw_bind _ (pw_mono (fun r h => ?_) _ (desc_pw S hp (n - (1 + 1)) (1 + 1) (by omega) (by omega) (fun i j hij hj => by
        obtain rfl : i = 0 := by omega
        obtain rfl : j = 1 := by omega
        exact hd)))
      obtain ⟨f1, f2, f3, f4, f5⟩ := h
      rw [if_neg (by omega), f1]
      exact tail3_pw S hp (by omega) (by omega) f5
include S in
theorem place_pw {p : Array Nat} {k : Nat} (hp : ok n p) (hk : k < n) (hi : inc lt p k) : ∀ (f l r : Nat), l ≤ r → r ≤ k → r ≤ l + f → (∀ i, i < l → lt (p.getD i 0) (p.getD k 0) = true) → (∀ i, r ≤ i → i < k → lt (p.getD k 0) (p.getD i 0) = true) →
    pw n lt (kas_place p k f l r) (fun m => m ≤ k ∧ (∀ i, i < m → lt (p.getD i 0) (p.getD k 0) = true) ∧ ∀ i, m ≤ i → i < k → lt (p.getD k 0) (p.getD i 0) = true)
  | 0, l, r, h1, h2, h3, h4, h5 => by
    obtain rfl : l = r := by omega
    exact ⟨h2, h4, h5⟩
  | f + 1, l, r, h1, h2, h3, h4, h5 => by
    have hn : 0 < n := by omega
    unfold kas_place
    by_cases e : l ≥ r
    · rw [if_pos e]
      obtain rfl : l = r := by omega
      exact ⟨h2, h4, h5⟩
    · rw [if_neg e]
      refine ⟨ok_lt hp hn _, ok_lt hp hn _, fun q => by have := ok_inj hp (by omega) (by omega) q; omega, ?_⟩
      cases q : lt (p.getD k 0) (p.getD ((l + r) / 2) 0) with
      | true =>
        dsimp only
        rw [if_pos rfl]
        refine place_pw hp hk hi f l ((l + r) / 2) (by omega) (by omega) (by omega) h4 fun i hi1 hi2 => ?_
        by_cases z : i = (l + r) / 2
        · subst z; exact q
        · exact S.tr _ _ _ q (hi _ i (by omega) hi2)
      | false =>
        dsimp only
        rw [if_neg (by simp)]
        have hl := S.tot _ _ (ok_lt hp hn k) (ok_lt hp hn ((l + r) / 2)) (fun z => by have := ok_inj hp (by omega) (by omega) z; omega) q
        refine place_pw hp hk hi f ((l + r) / 2 + 1) r (by omega) h2 (by omega) (fun i hi1 => ?_) h5
        by_cases z : i = (l + r) / 2
        · subst z; exact hl
        · exact S.tr _ _ _ (hi i _ (by omega) (by omega)) hl
theorem bubble_getD {p : Array Nat} {k d : Nat} (hk : k < p.size) (hd : d ≤ k) (i : Nat) : (bubble p k d).getD i 0 = if i = k - d then p.getD k 0 else if k - d < i ∧ i ≤ k then p.getD (i - 1) 0 else p.getD i 0 := by
  have := getElem?_bubble hk d hd i
  by_cases h1 : i = k - d
  · rw [if_pos h1] at this ⊢; exact getD_of this
  · rw [if_neg h1] at this ⊢
    by_cases h2 : k - d < i ∧ i ≤ k
    · rw [if_pos h2] at this ⊢; exact getD_of this
    · rw [if_neg h2] at this ⊢; exact getD_of this
include S in
theorem bin_pw : ∀ (f : Nat) (p : Array Nat) (k : Nat), ok n p → 1 ≤ k → k + f = n → inc lt p k → pw n lt (kas_bin f p k) (fun q => ok n q ∧ inc lt q n)
  | 0, p, k, hp, _, e, h => by
    obtain rfl : k = n := by omega
    exact ⟨hp, h⟩
  | f + 1, p, k, hp, h1, e, h => by
    unfold kas_bin
    have hz := ok_size hp
    refine pw_bind _ (pw_mono (fun l hl => ?_) _ (place_pw S hp (by omega) h k 0 k (by omega) (Nat.le_refl _) (by omega) (fun i hi => by omega) fun i h1 h2 => by omega))
    obtain ⟨g1, g2, g3⟩ := hl
    refine bin_pw f _ (k + 1) ((bubble_perm p k (k - l)).toList.trans hp) (by omega) (by omega) fun i j hij hj => ?_
    rw [bubble_getD (by omega) (by omega), bubble_getD (by omega) (by omega)]
    have ek : k - (k - l) = l := by omega
    rw [ek]
    by_cases i1 : i = l
    · rw [if_pos i1, if_neg (by omega), if_pos (by omega)]
      exact g3 (j - 1) (by omega) (by omega)
    · rw [if_neg i1]
      by_cases i2 : l < i ∧ i ≤ k
      · rw [if_pos i2, if_neg (by omega), if_pos (by omega)]
        exact h (i - 1) (j - 1) (by omega) (by omega)
      · rw [if_neg i2]
        by_cases j1 : j = l
        · rw [if_pos j1]; exact g2 i (by omega)
        · rw [if_neg j1]
          by_cases j2 : l < j ∧ j ≤ k
          · rw [if_pos j2]
            exact h i (j - 1) (by omega) (by omega)
          · rw [if_neg j2]
            exact h i j hij (by omega)
include S in
theorem sort_pw (h2 : 2 ≤ n) : pw n lt (kas_sort n) (fun q => ok n q ∧ inc lt q n) := by
  unfold kas_sort
  have h0 : ok n (List.toArray (List.range n)) := by unfold ok; simp
  refine pw_bind _ (pw_mono (fun r h => ?_) _ (count_pw S h0 h2))
  obtain ⟨g1, g2, g3, g4⟩ := h
  by_cases e : r.1 < n
  · rw [if_pos e]
    have em : max r.1 1 = r.1 := by omega
    rw [em]
    exact bin_pw S (n - r.1) r.2 r.1 g1 g3 (by omega) g2
  · rw [if_neg e]
    have : r.1 = n := by omega
    rw [this] at g2
    exact ⟨g1, g2⟩
end
end Mine
end
section
set_option autoImplicit false
namespace Mine
open PySem PySem.W PyProof.Rows

/-- a row as it lies: a tuple whose first item is a text -/
def RowAt (h : Heap) (v : Value) (k : Str) : Prop := ∃ a o xs n t, v = .ref a ∧ h.get? a = some o ∧ o.cls = .type "tuple" ∧ o.data = .seq xs n ∧ xs[0]? = some (.str k t)
theorem RowAt.at {h h' : Heap} {v : Value} {k : Str} (r : RowAt h v k) (e : ∀ a o, v = .ref a → h.get? a = some o → h'.get? a = some o) : RowAt h' v k :=
  let ⟨a, o, xs, n, t, e1, e2, r⟩ := r; ⟨a, o, xs, n, t, e1, e a o e1 e2, r⟩
inductive RowsAt (h : Heap) : List Value → List Str → Prop
  | nil : RowsAt h [] []
  | cons {v : Value} {k : Str} {vs : List Value} {ks : List Str} : RowAt h v k → RowsAt h vs ks → RowsAt h (v :: vs) (k :: ks)
theorem RowsAt.len {h : Heap} {vs : List Value} {ks : List Str} (r : RowsAt h vs ks) : vs.length = ks.length := by
  induction r with
  | nil => rfl
  | cons _ _ ih => rw [List.length_cons, List.length_cons, ih]
theorem RowsAt.get {h : Heap} {vs : List Value} {ks : List Str} (r : RowsAt h vs ks) : ∀ {i : Nat}, i < vs.length → ∃ v k, vs[i]? = some v ∧ ks[i]? = some k ∧ RowAt h v k := by
  induction r with
  | nil => intro i hi; simp at hi
  | cons a _ ih =>
    intro i hi
    cases i with
    | zero => exact ⟨_, _, rfl, rfl, a⟩
    | succ i => simpa using ih (by simpa using hi)
theorem RowsAt.mono {h h' : Heap} {vs : List Value} {ks : List Str} (r : RowsAt h vs ks) (e : ∀ a o, .ref a ∈ vs → h.get? a = some o → h'.get? a = some o) : RowsAt h' vs ks := by
  induction r with
  | nil => exact .nil
  | cons a _ ih => exact .cons (a.at fun b o q => e b o (by rw [q]; exact .head _)) (ih fun b o q => e b o (.tail _ q))
theorem RowsAt.tups {h : Heap} {vs : List Value} {ks : List Str} (r : RowsAt h vs ks) : ∃ fs, KatTups h vs fs ∧ fs.length = vs.length ∧ ∀ v ∈ fs, ∃ x t, v = Value.str x t := by
  induction r with
  | nil => exact ⟨[], trivial, rfl, nofun⟩
  | cons a _ ih =>
    obtain ⟨b, o, xs, n, t, rfl, e2, e3, e4, e5⟩ := a
    obtain ⟨fs, h1, h2, h3⟩ := ih
    refine ⟨_ :: fs, KatTups.cons e2 e3 e4 e5 h1, by rw [List.length_cons, List.length_cons, h2], fun v hv => ?_⟩
    rcases List.mem_cons.mp hv with rfl | hv
    · exact ⟨_, _, rfl⟩
    · exact h3 v hv

/-- how the rows stand to one another -/
def ltK (ks : List Str) (i j : Nat) : Bool := decide ((ks.getD i ⟨#[]⟩).cps.toList < (ks.getD j ⟨#[]⟩).cps.toList)
theorem ltK_ok {ks : List Str} (nd : ks.Nodup) : SLt ks.length (ltK ks) where
  irr i := by simp [ltK]
  tr i j k h1 h2 := by
    simp only [ltK, decide_eq_true_eq] at *
    exact List.lt_trans h1 h2
  tot i j hi hj hij h := by
    simp only [ltK, decide_eq_true_eq, decide_eq_false_iff_not] at *
    have h1 : (ks.getD j ⟨#[]⟩).cps.toList ≤ (ks.getD i ⟨#[]⟩).cps.toList := List.not_lt.mp h
    by_cases h3 : (ks.getD j ⟨#[]⟩).cps.toList < (ks.getD i ⟨#[]⟩).cps.toList
    · exact h3
    · exfalso
      have h2 := List.le_antisymm h1 (List.not_lt.mp h3)
      have e1 : ks.getD i ⟨#[]⟩ = ks[i] := by simp [hi]
      have e2 : ks.getD j ⟨#[]⟩ = ks[j] := by simp [hj]
      rw [e1, e2] at h2
      have : ks[j] = ks[i] := Str.ext' (Array.ext' h2)
      exact hij ((List.getElem_inj nd).mp this).symm

section
variable {prog : Program} {w : World} {ρ : Addr} {A : Around} {E : Value → Shared → Prop} {s : Shared}

theorem ask_rows {vs : List Value} {ks : List Str} (r : RowsAt s.heap vs ks) (nd : ks.Nodup) {i j : Nat} (hi : i < ks.length) (hj : j < ks.length) (hij : i ≠ j) {C : Bool → Shared → Prop} (h : C (ltK ks i j) s) :
    kas_ask prog w A (tuples' true) vs i j C s := by
  unfold kas_ask
  obtain ⟨v, k, e1, e2, a, o, xs, n, t, rfl, ho, hc, hd, hx⟩ := r.get (i := i) (by rw [r.len]; exact hi)
  obtain ⟨u, l, e3, e4, b, p, ys, m, q, rfl, hp, hpc, hpd, hy⟩ := r.get (i := j) (by rw [r.len]; exact hj)
  have g1 : vs.getD i Value.none = .ref a := by simp [e1]
  have g2 : vs.getD j Value.none = .ref b := by simp [e3]
  rw [g1, g2]
  have hkl : k ≠ l := by
    rintro rfl
    have f1 := (List.getElem?_eq_some_iff.mp e2).2
    have f2 := (List.getElem?_eq_some_iff.mp e4).2
    exact hij ((List.getElem_inj (h₀ := hi) (h₁ := hj) nd).mp (f1.trans f2.symm))
  have hlt : ltK ks i j = decide (k.cps.toList < l.cps.toList) := by
    unfold ltK
    have f1 : ks.getD i ⟨#[]⟩ = k := by simp [e2]
    have f2 : ks.getD j ⟨#[]⟩ = l := by simp [e4]
    rw [f1, f2]
  rw [hlt] at h
  have z1 : ∃ r1, xs.toList = .str k t :: r1 := by
    cases hxl : xs.toList with
    | nil => have : xs = #[] := by simpa using hxl
             subst this; simp at hx
    | cons z r1 =>
      have : xs = (z :: r1).toArray := by rw [← hxl]
      subst this
      simp at hx
      exact ⟨r1, by rw [hx]⟩
  have z2 : ∃ r1, ys.toList = .str l q :: r1 := by
    cases hyl : ys.toList with
    | nil => have : ys = #[] := by simpa using hyl
             subst this; simp at hy
    | cons z r1 =>
      have : ys = (z :: r1).toArray := by rw [← hyl]
      subst this
      simp at hy
      exact ⟨r1, by rw [hy]⟩
  obtain ⟨r1, z1⟩ := z1
  obtain ⟨r2, z2⟩ := z2
  refine kat_lt (b := true) ho hd hp hpd ?_
  rw [z1, z2, List.zip_cons_cons]
  refine kat_cons (wpAny_eqBool_str ?_)
  rw [decide_eq_false hkl]
  refine kat_no ?_
  exact strKind_oneLt prog w A _ s _ _ k.cps.toList l.cps.toList rfl rfl h

/-- sorted, in place: the rows in their order, nothing else touched but the list -/
theorem sort_rows {a : Addr} {vs : List Value} {ks : List Str} {n : Nat} {P : PySem.Fin → Shared → Prop} (ho : s.heap.get? a = some (seqObj "list" vs.toArray n)) (h64 : vs.length < 64) (r : RowsAt s.heap vs ks) (hna : .ref a ∉ vs) (nd : ks.Nodup)
    (h : ∀ (p : Array Nat) (h' : Heap) (tk : Nat) (e : Nat), ok vs.length p → inc (ltK ks) p vs.length → h'.get? a = some (seqObj "list" (p.toList.map fun i => vs.getD i Value.none).toArray e) → (∀ b o, b ≠ a → s.heap.get? b = some o → h'.get? b = some o) →
      P (.done (.ret .none)) { s with heap := h', toks := tk }) : wpAny (model prog w) A (Builtin.«list.sort» ⟨[.ref a], []⟩) P E s := by
  have ha : a < s.heap.objs.size := Heap.lt_size ho
  rw [list_sort_plain]
  refine wpAny_bind (listItems_at ho rfl ?_)
  refine wpAny_bind (listUpdate_at ho rfl ?_ (by rw [List.size_toArray, sizeLine_eq]; omega) (Nat.zero_le _))
  obtain ⟨e1, ho1⟩ : ∃ e1, (s.heap.update a (Obj.mapSeq fun _ => (#[] : Array Value))).get? a = some (seqObj "list" #[] e1) := ⟨_, get?_update_seq ho fun _ => #[]⟩
  refine wpAny_bind (seqEpoch_at ho1 rfl ?_)
  refine wpAny_bind (wpAny_newTuple ?_ (by show vs.length ≤ _; rw [sizeLine_eq]; omega))
  refine wpAny_bind (wpAny_newList ?_ (Nat.zero_le _))
  refine wpAny_holding ?_
  show wpAny (model prog w) A _ P E { s with heap := ((s.heap.update a (Obj.mapSeq fun _ => (#[] : Array Value))).push (seqObj "tuple" vs.toArray 0)).push (seqObj "list" #[] 0) }
  dsimp only
  generalize hH : ((s.heap.update a (Obj.mapSeq fun _ => (#[] : Array Value))).push (seqObj "tuple" vs.toArray 0)).push (seqObj "list" #[] 0) = H
  have ho6 : H.get? a = some (seqObj "list" #[] e1) := by
    rw [← hH]; exact Heap.get?_push_of_some _ (Heap.get?_push_of_some _ ho1)
  have keep : ∀ b o, b ≠ a → s.heap.get? b = some o → H.get? b = some o := fun b o hb q => by
    rw [← hH]; exact Heap.get?_push_of_some _ (Heap.get?_push_of_some _ ((Heap.SameBut.update s.heap a _).extBut b o hb q))
  have rH : RowsAt H vs ks := r.mono fun b o hb q => keep b o (fun e => hna (e ▸ hb)) q
  have fin : ∀ (st' : SortSt) (p : Array Nat) (tk : Nat), ok vs.length p → inc (ltK ks) p vs.length → (arrOf st').map (·.2) = (p.toList.map fun i => vs.getD i Value.none).toArray → failedOf st' = none →
      wpAny (model prog w) A (do
        let touched := (← seqEpoch a) != e1
        Builtin.List.listUpdate (.ref a) fun _ => (arrOf st').map (·.2)
        if let some e := failedOf st' then rule "list.sort.comparison-raised"; throw e
        if touched then rule "list.sort.modified"; raiseError "ValueError" "list modified during sort"
        ret .none) P E { s with heap := H, toks := tk } := by
    intro st' p tk hp hi hout hf
    refine wpAny_bind (seqEpoch_at ho6 rfl ?_)
    rw [hout]
    have hz := ok_size hp
    obtain ⟨c2, hc2⟩ : ∃ c2, (H.update a (Obj.mapSeq fun _ => (p.toList.map fun i => vs.getD i Value.none).toArray)).get? a = some (seqObj "list" (p.toList.map fun i => vs.getD i Value.none).toArray c2) := ⟨_, get?_update_seq ho6 fun _ => _⟩
    refine wpAny_bind (listUpdate_at ho6 rfl ?_ (Nat.zero_le _) (by rw [List.size_toArray, List.length_map, Array.length_toList, hz, sizeLine_eq]; omega))
    rw [hf]
    simp only [bne_self_eq_false, Bool.false_eq_true, if_false]
    exact wpAny_pure (h p _ tk c2 hp hi hc2 fun b o hb q => (Heap.SameBut.update H a _).extBut b o hb (keep b o hb q))
  by_cases h2 : vs.toArray.size < 2
  · rw [if_pos h2, if_pos h2]
    refine wpAny_bind (wpAny_pure ?_)
    rw [StateT.run_pure]
    refine wpAny_bind (wpAny_pure ?_)
    have hl : vs.length < 2 := by simpa using h2
    refine fin (SortSt.mk' general' (vs.toArray.zip vs.toArray) #[] 7 none) (List.range vs.length).toArray s.toks (by unfold ok; simp) (fun i j h1 h2 => by omega) ?_ rfl
    have ea : arrOf (SortSt.mk' general' (vs.toArray.zip vs.toArray) #[] 7 none) = vs.toArray.zip vs.toArray := rfl
    rw [ea]
    match vs, hl with
    | [], _ => simp
    | [v], _ => simp [List.range_succ]
  · rw [if_neg h2, if_neg h2]
    have hl2 : 2 ≤ vs.length := by simpa using h2
    obtain ⟨fs, t1, t2, t3⟩ := rH.tups
    have hT : ∀ v ∈ fs, Looks (model prog w) H (typeOf v) (Value.type "str") := fun v hv => by
      obtain ⟨x, t, rfl⟩ := t3 v hv
      exact Looks.of_pure rfl
    have nl : vs.length = ks.length := r.len
    have S := ltK_ok nd
    rw [← nl] at S
    refine wpAny_bind (kat_kind (s := { s with heap := H }) t1 (by omega) hT rfl ?_)
    have run := pw_wp (cmp := kas_ask prog w A (tuples' (Value.type "str" != Value.type "tuple")) vs) (P := fun s' => ∃ tk, s' = { s with heap := H, toks := tk }) (fun i j C s' p hi hj hij hC => by
      obtain ⟨tk, rfl⟩ := p
      exact ask_rows (s := { s with heap := H, toks := tk }) rH nd (nl ▸ hi) (nl ▸ hj) hij (hC _ ⟨tk, rfl⟩)) (kas_sort vs.length) { s with heap := H } ⟨s.toks, rfl⟩ (sort_pw S hl2)
    refine wpAny_bind (wpAny_mono (kat_run (Q := fun st' s' => ∃ p : Array Nat, arrOf st' = p.map (kas_item (vs.toArray.zip vs.toArray)) ∧ failedOf st' = none ∧ (∃ tk, s' = { s with heap := H, toks := tk }) ∧ ok vs.length p ∧ inc (ltK ks) p vs.length)
      rfl hl2 h64 (fun p' st' s' a1 a2 a3 a4 => ⟨p', a2, a3, a4.1, a4.2.1, a4.2.2⟩) run) ?_ fun _ _ e => e)
    rintro ⟨⟨⟩, st'⟩ s' ⟨p, har, hf, ⟨tk, rfl⟩, hp, hi⟩
    exact fin st' p tk hp hi (kat_snds rfl har) hf

theorem sorted_rows {l : Addr} {vs : List Value} {ks : List Str} {Q : Value → Shared → Prop} (hl : s.heap.IsList l vs.toArray) (h64 : vs.length < 64) (r : RowsAt s.heap vs ks) (nd : ks.Nodup)
    (h : ∀ (p : Array Nat) (h' : Heap) (tk D : Nat) (e : Nat), ok vs.length p → inc (ltK ks) p vs.length → s.heap.get? D = none → h'.get? D = some (seqObj "list" (p.toList.map fun i => vs.getD i Value.none).toArray e) → (∀ b o, s.heap.get? b = some o → h'.get? b = some o) →
      Q (.ref D) { s with heap := h', toks := tk }) : wpAny (model prog w) A (call (.builtin "sorted") [.ref l]) Q E s := by
  refine Calls.call_function_entry kind_sorted plain_sorted entry_sorted (args_sorted1 _) ?_
  unfold Builtin.«sorted»
  refine wpAny_bind (m := checkCount "sorted" 1 1 _) (wpAny_pure ?_)
  refine wpAny_bind (collect_list hl ?_ (by rw [sizeLine_eq]; omega))
  refine wpAny_bind (wpAny_newList ?_ (by rw [sizeLine_eq]; omega))
  show wpAny _ _ _ _ _ { s with heap := ((s.heap.push (seqObj "list" #[] 0)).update s.heap.objs.size (Obj.mapSeq (· ++ vs.toArray))).push (seqObj "list" vs.toArray 0) }
  dsimp only
  generalize hG : (s.heap.push (seqObj "list" #[] 0)).update s.heap.objs.size (Obj.mapSeq (· ++ vs.toArray)) = G
  have hsz : G.objs.size = s.heap.objs.size + 1 := by rw [← hG, Heap.size_update, size_push']
  have keep : ∀ b o, s.heap.get? b = some o → (G.push (seqObj "list" vs.toArray 0)).get? b = some o := fun b o q => by
    have hlt : b < s.heap.objs.size := Heap.lt_size q
    refine Heap.get?_push_of_some _ ?_
    rw [← hG]
    exact (Heap.SameBut.update _ _ _).extBut b o (Nat.ne_of_lt hlt) (Heap.get?_push_of_some _ q)
  have hoL : (G.push (seqObj "list" vs.toArray 0)).get? G.objs.size = some (seqObj "list" vs.toArray 0) := Heap.get?_push_size _ rfl
  have hDn : s.heap.get? G.objs.size = none := newer (by rw [hsz]; exact Nat.le_succ _)
  refine wpAny_bind (wpAny_holding (wpAny_call_entry slot_list_sort ⟨_, hoL, rfl⟩ entry_list_sort ?_ (args_list_sort _)))
  refine sort_rows (s := { s with heap := G.push (seqObj "list" vs.toArray 0) }) hoL h64 (r.mono fun b o _ q => keep b o q) (fun hm => ?_) nd fun p h' tk e hp hi hD hk => ⟨_, rfl, wpAny_pure ⟨_, rfl, ?_⟩⟩
  · obtain ⟨i, hi, he⟩ := List.getElem_of_mem hm
    obtain ⟨v, k, e1, _, b, o, _, _, _, rfl, hb, _⟩ := r.get hi
    rw [List.getElem?_eq_getElem hi, he] at e1
    cases e1
    rw [hDn] at hb; cases hb
  · exact h p h' tk G.objs.size e hp hi hDn hD fun b o q => hk b o (fun z => by subst z; rw [hDn] at q; cases q) (keep b o q)
end
end Mine
end
section
set_option autoImplicit false
namespace Mine
open PySem PySem.W

def kD : D → List Nat
  | .str a => a
  | .tup (.str a :: _) => a
  | _ => []
/-- one class of things to sort: texts, or rows -/
def cls (b : Bool) (d : D) : Bool := if b then isStrD d else isRowD d
theorem leD_cls {b : Bool} {x y : D} (hx : cls b x = true) (hy : cls b y = true) : leD x y = !decide (kD y < kD x) := by
  cases b with
  | true =>
    cases x <;> simp [cls, isStrD] at hx
    cases y <;> simp [cls, isStrD] at hy
    simp only [leD, kD, ltL_eq]
    exact congrArg _ (decide_eq_decide.mpr Iff.rfl)
  | false =>
    have hx' : isRowD x = true := hx
    have hy' : isRowD y = true := hy
    unfold isRowD at hx' hy'
    split at hx'
    · split at hy'
      · simp only [leD, kD, ltL_eq]
        exact congrArg _ (decide_eq_decide.mpr Iff.rfl)
      · cases hy'
    · cases hx'
theorem insD_perm (x : D) : ∀ l : List D, (insD x l).Perm (x :: l)
  | [] => .refl _
  | y :: l => by
    unfold insD
    split
    · exact .refl _
    · exact ((insD_perm x l).cons y).trans (.swap x y l)
theorem sortD_perm : ∀ l : List D, (l.foldr insD []).Perm l
  | [] => .refl _
  | x :: l => (insD_perm x _).trans ((sortD_perm l).cons x)
def LeK (x y : D) : Prop := kD x ≤ kD y
theorem insD_sorted {b : Bool} {x : D} (hx : cls b x = true) : ∀ {l : List D}, (∀ y ∈ l, cls b y = true) → l.Pairwise LeK → (insD x l).Pairwise LeK
  | [], _, _ => by simp [insD]
  | y :: l, hc, h => by
    obtain ⟨h1, h2⟩ := List.pairwise_cons.mp h
    unfold insD
    rw [leD_cls hx (hc y (.head _))]
    split
    · rename_i hle
      have hle : kD x ≤ kD y := by simpa using hle
      refine List.pairwise_cons.mpr ⟨fun z hz => ?_, h⟩
      rcases List.mem_cons.mp hz with rfl | hz
      · exact hle
      · exact List.le_trans hle (h1 z hz)
    · rename_i hle
      have hle : kD y ≤ kD x := by
        have : kD y < kD x := by simpa using hle
        exact List.le_of_lt this
      refine List.pairwise_cons.mpr ⟨fun z hz => ?_, insD_sorted hx (fun z hz => hc z (.tail _ hz)) h2⟩
      rcases List.mem_cons.mp ((insD_perm x l).mem_iff.mp hz) with rfl | hz
      · exact hle
      · exact h1 z hz
theorem sortD_sorted {b : Bool} : ∀ {l : List D}, (∀ y ∈ l, cls b y = true) → (l.foldr insD []).Pairwise LeK
  | [], _ => .nil
  | x :: l, hc => insD_sorted (hc x (.head _)) (fun y hy => hc y (.tail _ ((sortD_perm l).mem_iff.mp hy))) (sortD_sorted fun y hy => hc y (.tail _ hy))
/-- what is in order is what sortOp gives -/
theorem sortD_unique {b : Bool} {l l' : List D} (hc : ∀ y ∈ l, cls b y = true) (hinj : ∀ x ∈ l, ∀ y ∈ l, kD x = kD y → x = y) (hp : l'.Perm l) (hs : l'.Pairwise LeK) : l' = l.foldr insD [] := by
  refine List.Perm.eq_of_pairwise (le := LeK) (fun a b ha hb h1 h2 => ?_) hs (sortD_sorted hc) (hp.trans (sortD_perm l).symm)
  exact hinj a (hp.mem_iff.mp ha) b ((sortD_perm l).mem_iff.mp hb) (List.le_antisymm h1 h2)

section
variable {prog : Program} {w : World} {ρ : Addr} {h₀ : Heap} {mg mb : Str → Option Value} {G : Nat → Option D} {Sg : Sig} {gname fname : Nat → Option Str} {fa : Nat → Addr}
variable {A : Around} {s s' : Shared} {Mu : Addr → Prop} {α : Nat → Addr} {σ : List LV} {env : Env} {c : Ctx} {n : Nat}

theorem strs_are {h : Heap} : ∀ {vs : List Value} {ds : List Mine.D}, RDs prog w ρ Mu h vs ds → (∀ y ∈ ds, isStrD y = true) → PyProof.Rows.StrsAre vs (ds.map fun d => tx (kD d))
  | _, _, .nil, _ => .nil
  | _, _, .cons a r, hc => by
    have := hc _ (.head _)
    cases a with
    | str x t => exact .cons _ t (strs_are r fun y hy => hc y (.tail _ hy))
    | _ => cases this
theorem strs_back {h : Heap} : ∀ {vs : List Value} {ss : List Str}, PyProof.Rows.StrsAre vs ss → RDs prog w ρ Mu h vs (ss.map fun x => Mine.D.str x.cps.toList)
  | _, _, .nil => .nil
  | _, _, .cons y t r => .cons (by
      have := RD.str (prog := prog) (w := w) (ρ := ρ) (Mu := Mu) (h := h) y.cps.toList t
      simpa using this) (strs_back r)
theorem rows_at {h : Heap} : ∀ {vs : List Value} {ds : List Mine.D}, RDs prog w ρ Mu h vs ds → (∀ y ∈ ds, isRowD y = true) → RowsAt h vs (ds.map fun d => tx (kD d))
  | _, _, .nil, _ => .nil
  | _, _, .cons a r, hc => by
    refine .cons ?_ (rows_at r fun y hy => hc y (.tail _ hy))
    have h1 := hc _ (.head _)
    unfold isRowD at h1
    split at h1
    · cases a with
      | tup n t r1 =>
        obtain ⟨o, ho, hcl, k, hd⟩ := t
        cases r1 with
        | cons a1 r2 =>
        cases a1 with
        | str x t => exact ⟨_, o, _, k, t, rfl, ho, hcl, hd, rfl⟩
    · cases h1

theorem risingS_le : ∀ (p : Str) (ss : List Str), PyProof.Rows.risingS p ss = true → (p :: ss).Pairwise fun x y => x.cps.toList ≤ y.cps.toList
  | p, [], _ => by simp
  | p, x :: r, h => by
    have h' : (!PySem.Spec.ltCps x.cps.toList p.cps.toList && PyProof.Rows.risingS x r) = true := h
    rw [Bool.and_eq_true, PyProof.Rows.ltCps_eq] at h'
    have h1 : p.cps.toList ≤ x.cps.toList := by simpa using h'.1
    have ih := risingS_le x r h'.2
    refine List.pairwise_cons.mpr ⟨fun y hy => ?_, ih⟩
    rcases List.mem_cons.mp hy with rfl | hy
    · exact h1
    · exact List.le_trans h1 ((List.pairwise_cons.mp ih).1 y hy)
theorem sortedS_le {ss : List Str} (h : PyProof.Rows.sortedS ss = true) : ss.Pairwise fun x y => x.cps.toList ≤ y.cps.toList := by
  cases ss with
  | nil => exact .nil
  | cons x r => exact risingS_le x r h

theorem SE.sorted (B : Base prog w ρ h₀ mg mb G gname fname fa) {a : PE} {x : Expr} {p q : Pos} (hk : c.k "sorted" = some .globalImplicit) (ha : Snd prog w ρ h₀ G Sg A c a x) (hs : ∀ rest env, starEach (x :: rest) env = (false, eval x env) :: starEach rest env) :
    SE prog w ρ h₀ G Sg A c (.sorted a) (.Call (.Name "sorted" q) [x] [] p) := by
  intro env Mu α σ s r Q N e h
  simp only [evE, Option.bind_eq_some_iff] at e
  obtain ⟨⟨d, tg⟩, ea, e⟩ := e
  dsimp only at e
  split at e
  · rename_i l
    obtain ⟨out, eo, rfl⟩ := Option.map_eq_some_iff.mp e
    refine stepT (wpAny_Call_NameR (wpAny_Name (load_built B N.O N.R.toSt hk B.sorted ?_)))
    refine PyProof.Rows.callWith_builtin1 (PyProof.Rows.args_cons (ha.ev N ea fun va s₁ x₁ t₁ v₁ => PyProof.Rows.args_nil ?_) (hs _ _)) (hs _ _)
    obtain ⟨b, vs, rfl, pl, hr⟩ := N.rw x₁ ea v₁
    unfold sortOp at eo
    split at eo
    · rename_i hc
      obtain ⟨h64, _, hcl⟩ := hc
      cases eo
      have hlen : vs.length < 64 := by rw [hr.length]; exact h64
      rcases hcl with hcl | ⟨hcl, hnd⟩
      · have hst : ∀ y ∈ l, isStrD y = true := fun y hy => List.all_eq_true.mp hcl y hy
        refine PyProof.Rows.sorted_strs pl.isList (strs_are hr hst) hlen fun out ss' h1 h2 h3 tt => ?_
        obtain ⟨e', hat⟩ := PyProof.Rows.sortedAll_at s₁.heap vs out
        have hx : Ext s₁ { s₁ with heap := PyProof.Rows.sortedAll s₁.heap vs out } := .kept' fun b o q => PyProof.Rows.sortedAll_old q
        have e2 : (ss'.map fun x => Mine.D.str x.cps.toList) = l.foldr insD [] := by
          refine sortD_unique (b := true) hst (fun x hx y hy e => ?_) ?_ ?_
          · have f1 := hst x hx
            have f2 := hst y hy
            cases x <;> simp [isStrD] at f1
            cases y <;> simp [isStrD] at f2
            simp only [kD] at e
            rw [e]
          · have := h2.map fun x => Mine.D.str x.cps.toList
            refine this.trans (.of_eq ?_)
            rw [List.map_map]
            refine (List.map_congr_left fun d hd => ?_).trans (List.map_id l)
            have f1 := hst d hd
            cases d <;> simp [isStrD] at f1
            rfl
          · exact List.pairwise_map.mpr ((sortedS_le h3).imp fun h => h)
        refine h _ _ (x₁.trans hx) tt ⟨_, rfl, x₁.none N.R.tab (newer (Nat.le_succ _)), out.toList, e', by simpa using hat, ?_⟩
        rw [← e2]
        exact strs_back h1
      · have hst : ∀ y ∈ l, isRowD y = true := fun y hy => List.all_eq_true.mp hcl y hy
        have nd : (l.map fun d => tx (kD d)).Nodup := by
          have : (l.map fun d => kD d).Nodup := by
            refine (List.map_congr_left fun d hd => ?_) ▸ hnd
            have f1 := hst d hd
            unfold isRowD at f1
            split at f1
            · rfl
            · cases f1
          have e3 : (l.map fun d => tx (kD d)) = (l.map fun d => kD d).map tx := by rw [List.map_map]; rfl
          rw [e3]
          exact List.Pairwise.map _ (fun a b h e => h (by simpa using e)) this
        refine sorted_rows pl.isList hlen (rows_at hr hst) nd fun p h' tk D e' hp hi hDn hD hkeep tt => ?_
        have hx : Ext s₁ { s₁ with heap := h', toks := tk } := .kept hkeep
        have hz := ok_size hp
        have hlt : ∀ i ∈ p.toList, i < l.length := fun i hi => by
          have := List.mem_range.mp (hp.mem_iff.mp hi)
          rwa [hr.length] at this
        have hrd : RDs prog w ρ Mu s₁.heap (p.toList.map fun i => vs.getD i Value.none) (p.toList.map fun i => l.getD i Mine.D.none) := by
          have go : ∀ ps : List Nat, (∀ i ∈ ps, i < l.length) → RDs prog w ρ Mu s₁.heap (ps.map fun i => vs.getD i Value.none) (ps.map fun i => l.getD i Mine.D.none) := by
            intro ps
            induction ps with
            | nil => intro _; exact .nil
            | cons i ps ih =>
              intro hps
              have hi := hps i (.head _)
              obtain ⟨v, hv, hrv⟩ := hr.get (List.getElem?_eq_getElem hi)
              refine .cons ?_ (ih fun j hj => hps j (.tail _ hj))
              have g1 : vs.getD i Value.none = v := by simp [hv]
              have g2 : l.getD i Mine.D.none = l[i] := by simp [hi]
              dsimp only; rw [g1, g2]; exact hrv
          exact go _ hlt
        have e2 : (p.toList.map fun i => l.getD i Mine.D.none) = l.foldr insD [] := by
          refine sortD_unique (b := false) hst (fun x hx y hy e => ?_) ?_ ?_
          · obtain ⟨i, hi', rfl⟩ := List.getElem_of_mem hx
            obtain ⟨j, hj', rfl⟩ := List.getElem_of_mem hy
            have : i = j := by
              refine (List.getElem_inj (xs := l.map fun d => tx (kD d)) (h₀ := by simpa using hi') (h₁ := by simpa using hj') nd).mp ?_
              rw [List.getElem_map, List.getElem_map, e]
            subst this; rfl
          · have hp' : p.toList.Perm (List.range l.length) := by rw [← hr.length]; exact hp
            refine (hp'.map fun i => l.getD i Mine.D.none).trans (.of_eq ?_)
            refine List.ext_getElem (by simp) fun i h1 h2 => ?_
            simp at h1
            simp [h1]
          · refine List.pairwise_iff_getElem.mpr fun i j hi' hj' hij => ?_
            rw [List.length_map, Array.length_toList] at hi' hj'
            rw [List.getElem_map, List.getElem_map]
            have hlt2 := hi i j hij (by omega)
            unfold ltK at hlt2
            have f1 : p.getD i 0 = p.toList[i] := by simp [Array.getD, hi']
            have f2 : p.getD j 0 = p.toList[j] := by simp [Array.getD, hj']
            rw [f1, f2] at hlt2
            have b1 := hlt (p.toList[i]) (List.getElem_mem _)
            have b2 := hlt (p.toList[j]) (List.getElem_mem _)
            simp only [List.getD_eq_getElem?_getD, List.getElem?_map, List.getElem?_eq_getElem b1, List.getElem?_eq_getElem b2, Option.map_some, Option.getD_some, decide_eq_true_eq] at hlt2 ⊢
            exact List.le_of_lt (by simpa using hlt2)
        refine h _ _ (x₁.trans hx) tt ⟨_, rfl, x₁.none N.R.tab hDn, _, e', hD, ?_⟩
        rw [← e2]
        exact (hrd.hideN.mono (fun b h q => h (q.elim .inl fun q => .inr (q ▸ hDn))) fun _ _ _ e => e).mono (fun _ h => h) fun b o h q => hkeep b o q
    · cases eo
  · cases e
end
end Mine
end
section
set_option autoImplicit false
set_option maxRecDepth 100000
namespace Mine
open PySem PySem.W

section
variable {prog : Program} {w : World} {ρ : Addr} {A : Around} {E : Value → Shared → Prop} {s : Shared}
theorem sub_str_str : isSubtype (.type "str") (.type "str") = pure true := by rw [isSubtype_type]; kernel_rfl
theorem issub_nested_str {k : Value} {dep : Int} {tk : Tok} {Q : Fin → Shared → Prop} (hk : k = .int dep tk) (hq : Q (.done (.ret (.bool true))) s) :
    wpAny (model prog w) A (Builtin.«issubclass.nested» ⟨[.type "str", .type "str", k], []⟩) Q E s := by
  subst hk
  have hself := sub_str_str
  have hm : typeOf (.type "str") = pure (.type "type") := by kernel_rfl
  repeat (any_goals (first | assumption | (rw [hm]) | (rw [hself]) | wp_step))
end

theorem body_fspath : ∃ p1 p2 p3 p4 p5 p6 p7 p8 p9 kk p10 p11 p12 p13 p14 rest, bodyOf "fspath" =
    .Assign [.Name "kind" p1] (.Call (.Name "type" p2) [.Name "path" p3] [] p4) p5 ::
    .If (.Call (.Name "issubclass" p6) [.Name "kind" p7, .Tuple [.Name "str" p8, .Name "bytes" p9] kk p10] [] p11) [.Return (some (.Name "path" p12)) p13] [] p14 :: rest := ⟨_, _, _, _, _, _, _, _, _, _, _, _, _, _, _, _, rfl⟩

theorem kind_isn : builtinKind "issubclass.nested" = none := by decide +kernel
theorem plain_isn : plainId "issubclass.nested" = true := by decide +kernel
theorem args_isn (a b c : Value) : argsOk "issubclass.nested" ⟨[a, b, c], []⟩ := by unfold argsOk; kernel_rfl
theorem sub_tup_tup : isSubtype (.type "tuple") (.type "tuple") = pure true := by rw [isSubtype_type]; kernel_rfl
section
variable {prog : Program} {w : World} {ρ : Addr} {A : Around} {E : Value → Shared → Prop} {s : Shared}
theorem issub_call_str {tk : Int} {Q : Value → Shared → Prop} (h : Q (.bool true) s) : wpAny (model prog w) A (call (.builtin "issubclass.nested") [.type "str", .type "str", rawInt tk]) Q E s :=
  Calls.call_function_entry kind_isn plain_isn F.entry_issubclass_nested (args_isn _ _ _) (issub_nested_str rfl ⟨_, rfl, h⟩)
theorem issub_nested_tup {t : Addr} {Q : Fin → Shared → Prop} (ht : s.heap.IsTuple t #[.type "str", .type "bytes"]) (hq : Q (.done (.ret (.bool true))) s) :
    wpAny (model prog w) A (Builtin.«issubclass.nested» ⟨[.type "str", .ref t, rawInt 0], []⟩) Q E s := by
  obtain ⟨o, ho, hc, n, hd⟩ := id ht
  have hT : s.TypeIs (.ref t) "tuple" := ⟨o, ho, hc⟩
  unfold Builtin.«issubclass.nested»
  refine wpAny_bind (wpAny_typeOf hT ?_)
  rw [if_neg (by decide)]
  unfold Builtin.Builtins.unionMembers
  refine wpAny_bind (wpAny_bind (wpAny_typeOf hT ?_))
  rw [if_neg (by decide)]
  refine wpAny_pure (wpAny_bind (wpAny_isInstance hT sub_tup_tup ?_))
  rw [if_pos rfl, if_neg (by decide)]
  dsimp only
  refine wpAny_bind (wpAny_seqItems ho hd ?_)
  simp only [Option.getD_some, List.forIn_toArray, List.forIn_cons]
  refine wpAny_bind (wpAny_bind (wpAny_bind (issub_call_str (wpAny_bind (wpAny_truthy_bool ?_)))))
  rw [if_pos rfl]
  exact wpAny_bind (wpAny_pure (wpAny_pure (wpAny_pure (wpAny_pure hq))))
theorem issub_str {t : Addr} {Q : Value → Shared → Prop} (ht : s.heap.IsTuple t #[.type "str", .type "bytes"]) (h : Q (.bool true) s) : wpAny (model prog w) A (call (.builtin "issubclass") [.type "str", .ref t]) Q E s :=
  PyProof.Rows.call_issubclass (S := fun _ R s => s.heap.IsTuple t #[.type "str", .type "bytes"] ∧ R (.ok (.ret (.bool true))) s) (fun _ _ _ _ _ hs => PyProof.Rows.issubclass_outer (issub_nested_tup hs.1 hs.2)) ⟨ht, h⟩
end

section
variable {prog : Program} {w : World} {ρ : Addr} {h₀ : Heap} {mg mb : Str → Option Value} {G : Nat → Option D} {Sg : Sig} {gname fname : Nat → Option Str} {fa : Nat → Addr}
variable {A : Around} {s s' : Shared} {Mu₀ Mu Wr : Addr → Prop} {α : Nat → Addr} {σ : List LV} {env : Env} {c : Ctx} {n : Nat}
/-- the built-in names that are read by hand -/
structure Base2 (mg mb : Str → Option Value) : Prop where
  type : mg "type" = none ∧ mb "type" = some (.type "type")
  issub : mg "issubclass" = none ∧ mb "issubclass" = some (.builtin "issubclass")
  isins : mg "isinstance" = none ∧ mb "isinstance" = some (.builtin "isinstance")
  str : mg "str" = none ∧ mb "str" = some (.type "str")
  bytes : mg "bytes" = none ∧ mb "bytes" = some (.type "bytes")

def Fsame : Fun := ⟨1, 1, .cons (.ret (.bin .add (.var 0) (.lit (.str [])))) .nil⟩
def vfspath : List (Str × Nat) := [("path", 0)]
def cfspath : Ctx := ⟨fun x => (namesOf "fspath").lookup x, vfspath, 1⟩
theorem same_str {σ : List LV} {fl : Fl} {σ' : List LV} (e : exSs G Sg Fsame.body σ = some (fl, σ')) : ∃ x lv, σ[0]? = some lv ∧ lv.get = some (.str x) ∧ fl = .ret (.str x) ∧ σ' = σ := by
  simp only [Fsame, exSs, exS, evE, Option.bind_eq_some_iff, Option.map_eq_some_iff] at e
  obtain ⟨⟨f1, σ1⟩, ⟨y, ⟨z, ⟨lv, hk, d, hd, rfl⟩, u, hu, hb⟩, e1⟩, e⟩ := e
  cases hu
  cases e1
  dsimp only at e hb
  cases e
  cases d <;> simp only [binOp] at hb <;> first | (cases hb; done) | skip
  · split at hb
    · cases hb
      exact ⟨_, lv, hk, hd, by simp, rfl⟩
    · cases hb
  
theorem fspath_sound (B : Base prog w ρ h₀ mg mb G gname fname fa) (B2 : Base2 mg mb) : SSs prog w ρ h₀ G Sg A cfspath Fsame.body (bodyOf "fspath") := by
  obtain ⟨p1, p2, p3, p4, p5, p6, p7, p8, p9, kk, p10, p11, p12, p13, p14, rest, eb⟩ := body_fspath
  rw [eb]
  intro env Mu₀ Mu Wr α σ s fl σ' Q N e h
  obtain ⟨x, lv, hk, hd, rfl, rfl⟩ := same_str e
  have hp : cfspath.v.lookup ("path" : Str) = some 0 := by decide +kernel
  have hkd : cfspath.v.lookup ("kind" : Str) = none := by decide +kernel
  have hkk : cfspath.k "kind" = some .local := by decide +kernel
  have hgl : ∀ y : Str, y = "type" ∨ y = "issubclass" ∨ y = "str" ∨ y = "bytes" → cfspath.k y = some .globalImplicit := by
    rintro y (rfl | rfl | rfl | rfl) <;> decide +kernel
  have ldp : ∀ {s : Shared}, NowS prog w ρ h₀ Mu₀ cfspath env Mu Wr α σ' s → ∃ t, Loads env s.heap "path" (.str (tx x) t) := by
    intro s N
    have q := N.N.R.slots _ 0 hp lv hk
    cases lv with
    | fz d =>
      cases hd
      obtain ⟨v, l, r⟩ := q
      cases r
      exact ⟨_, l⟩
    | ow d =>
      cases hd
      exact (N.N.R.owns 0 _ hk).2.elim
    | _ => cases hd
  obtain ⟨t, l⟩ := ldp N
  refine wpAny_execs_cons (wpAny_Assign_Name (wpAny_Call_NameR (wpAny_Name (load_built B N.N.O N.N.R.toSt (hgl _ (.inl rfl)) B2.type ?_))))
  have hb1 : backTo p4 (starEach [.Name "path" p3] env) = [(false, eval (.Name "path" p3) env)] := rfl
  rw [hb1]
  refine callWith_type rfl (Calls.evalArgs_plain (Calls.spliced_cons (wpAny_Name (load_slot N.N.O l (Calls.spliced_nil ?_)))))
  refine call_type_of (typeIs_str _ _ _) (by decide) (store_other N (.inl hkk) hkd fun s₁ g1 N1 l1 => ?_)
  obtain ⟨u, l2⟩ := ldp N1
  refine wpAny_execs_cons (wpAny_If (wpAny_isTrue_value (wpAny_Call_NameR (wpAny_Name (load_built B N1.N.O N1.N.R.toSt (hgl _ (.inr (.inl rfl))) B2.issub ?_)))))
  refine PyProof.Rows.callWith_builtin1 (PyProof.Rows.args_cons (wpAny_Name (load_slot N1.N.O l1 (PyProof.Rows.args_cons (wpAny_Tuple ?_)))))
  refine PyProof.Rows.args_cons (wpAny_Name (load_built B N1.N.O N1.N.R.toSt (hgl _ (.inr (.inr (.inl rfl)))) B2.str ?_))
  refine PyProof.Rows.args_cons (wpAny_Name (load_built B N1.N.O N1.N.R.toSt (hgl _ (.inr (.inr (.inr rfl)))) B2.bytes ?_))
  refine PyProof.Rows.args_nil ⟨by decide, PyProof.Rows.args_nil ?_⟩
  refine issub_str ⟨_, Heap.get?_push_size _ rfl, rfl, 0, rfl⟩ (wpAny_truthy_bool ?_)
  have x2 : Ext s₁ { s₁ with heap := s₁.heap.push { cls := .type "tuple", data := .seq [Value.type "str", Value.type "bytes"].toArray } } := .push
  have N2 := N1.ext x2 (Nat.le_refl _)
  refine wpAny_execs_cons (wpAny_Return_some (wpAny_Name (load_slot N2.N.O (x2.loads N1.N.R.tab l2) ?_)))
  exact h _ _ _ _ _ (g1.trans (.ext x2 N1.N.R.tab (Nat.le_refl _))) N2 (.str x u)
end
end Mine
end
section
set_option autoImplicit false
set_option maxRecDepth 100000
namespace Mine
open PySem PySem.W

theorem body_sep : ∃ p1 p2 p3 p4 b k5 p5 p6 k7 p7 p8 p9, bodyOf "_get_sep" =
    [.If (.Call (.Name "isinstance" p1) [.Name "path" p2, .Name "bytes" p3] [] p4) [.Return (some (.Constant (.bytes b) k5 p5)) p6] [.Return (some (.Constant (.str "/") k7 p7)) p8] p9] := ⟨_, _, _, _, _, _, _, _, _, _, _, _, rfl⟩

section
variable {prog : Program} {w : World} {ρ : Addr} {h₀ : Heap} {mg mb : Str → Option Value} {G : Nat → Option D} {Sg : Sig} {gname fname : Nat → Option Str} {fa : Nat → Addr}
variable {A : Around} {s s' : Shared} {Mu₀ Mu Wr : Addr → Prop} {α : Nat → Addr} {σ : List LV} {env : Env} {c : Ctx} {n : Nat}
/-- a text in a slot, as it is read -/
theorem ld_str {x : Str} {k : Nat} {lv : LV} {y : List Nat} (N : NowS prog w ρ h₀ Mu₀ c env Mu Wr α σ s) (hx : c.v.lookup x = some k) (hk : σ[k]? = some lv) (hd : lv.get = some (.str y)) : ∃ t, Loads env s.heap x (.str (tx y) t) := by
  have q := N.N.R.slots _ k hx lv hk
  cases lv with
  | fz d =>
    cases hd
    obtain ⟨v, l, r⟩ := q
    cases r
    exact ⟨_, l⟩
  | ow d =>
    cases hd
    exact (N.N.R.owns k _ hk).2.elim
  | _ => cases hd
def Fsep : Fun := ⟨1, 1, .cons (.ret (.idx (.bin .add (.lit (.str [47])) (.var 0)) (.lit (.int 0)))) .nil⟩
def vsep : List (Str × Nat) := [("path", 0)]
def csep : Ctx := ⟨fun x => (namesOf "_get_sep").lookup x, vsep, 1⟩
theorem sep_str {σ : List LV} {fl : Fl} {σ' : List LV} (e : exSs G Sg Fsep.body σ = some (fl, σ')) : ∃ x lv, σ[0]? = some lv ∧ lv.get = some (.str x) ∧ fl = .ret (.str [47]) ∧ σ' = σ := by
  simp only [Fsep, exSs, exS, evE, Option.bind_eq_some_iff, Option.map_eq_some_iff] at e
  obtain ⟨⟨f1, σ1⟩, ⟨y, ⟨z, ⟨a, ha, b, ⟨lv, hk, d, hd, rfl⟩, hb⟩, u, hu, d2, hi, rfl⟩, e1⟩, e⟩ := e
  cases ha; cases hu
  cases e1
  dsimp only at e hb
  cases e
  cases d <;> simp only [binOp] at hb <;> first | (cases hb; done) | skip
  split at hb
  · cases hb
    refine ⟨_, lv, hk, hd, ?_, rfl⟩
    simp [idxOp, item] at hi
    rw [← hi]
  · cases hb
theorem sep_sound (B : Base prog w ρ h₀ mg mb G gname fname fa) (B2 : Base2 mg mb) : SSs prog w ρ h₀ G Sg A csep Fsep.body (bodyOf "_get_sep") := by
  obtain ⟨p1, p2, p3, p4, b, k5, p5, p6, k7, p7, p8, p9, eb⟩ := body_sep
  rw [eb]
  intro env Mu₀ Mu Wr α σ s fl σ' Q N e h
  obtain ⟨x, lv, hk, hd, rfl, rfl⟩ := sep_str e
  have hp : csep.v.lookup ("path" : Str) = some 0 := by decide +kernel
  have hgl : ∀ y : Str, y = "isinstance" ∨ y = "bytes" → csep.k y = some .globalImplicit := by
    rintro y (rfl | rfl) <;> decide +kernel
  obtain ⟨t, l⟩ := ld_str N hp hk hd
  refine wpAny_execs_cons (wpAny_If (wpAny_isTrue_value (wpAny_Call_NameR (wpAny_Name (load_built B N.N.O N.N.R.toSt (hgl _ (.inl rfl)) B2.isins ?_)))))
  refine PyProof.Rows.callWith_builtin1 (PyProof.Rows.args_cons (wpAny_Name (load_slot N.N.O l (PyProof.Rows.args_cons (wpAny_Name (load_built B N.N.O N.N.R.toSt (hgl _ (.inr rfl)) B2.bytes (PyProof.Rows.args_nil ?_)))))))
  refine IsiPair.str_bytes (wpAny_truthy_bool ?_)
  refine wpAny_execs_cons (wpAny_Return_some (wpAny_Constant_str ?_))
  have x2 : Ext s { s with toks := s.toks + 1 + 1 } := .toks
  exact h _ { s with toks := s.toks + 1 + 1 } _ _ _ (.ext x2 N.N.R.tab (by show s.toks ≤ s.toks + 1 + 1; omega)) (N.ext x2 (by show s.toks ≤ s.toks + 1 + 1; omega)) (RD.str [47] _)
end
end Mine
end
section
set_option autoImplicit false
set_option maxRecDepth 100000
namespace Mine
open PySem PySem.W
def plainArgs (as : List Arg) : Arguments := { posonlyargs := [], args := as, vararg := none, kwonlyargs := [], kw_defaults := [], kwarg := none, defaults := [] }
theorem bind1 {fd : FuncData} {x : Str} {an : Option Expr} {p : Pos} (hp : fd.params = plainArgs [⟨x, an, p⟩]) (hd : fd.defaults = .none) (vals : List Value) (h : vals.length = [x].length) : bindArgs fd ⟨vals, []⟩ = pure ([x].zip vals) := by
  match vals, h with
  | [v], _ =>
    unfold bindArgs
    rw [hp, hd]
    have e : notAStandIn Value.none = pure () := rfl
    simp [plainArgs, seqItems?, List.lookup, e]
theorem bind2 {fd : FuncData} {x y : Str} {an bn : Option Expr} {p q : Pos} (hxy : (y == x) = false) (hp : fd.params = plainArgs [⟨x, an, p⟩, ⟨y, bn, q⟩]) (hd : fd.defaults = .none) (vals : List Value) (h : vals.length = [x, y].length) : bindArgs fd ⟨vals, []⟩ = pure ([x, y].zip vals) := by
  match vals, h with
  | [u, v], _ =>
    unfold bindArgs
    rw [hp, hd]
    have e : notAStandIn Value.none = pure () := rfl
    simp [plainArgs, seqItems?, List.lookup, e, hxy]
theorem bind3 {fd : FuncData} {x y z : Str} {an bn cn : Option Expr} {p q r : Pos} (hxy : (y == x) = false) (hxz : (z == x) = false) (hyz : (z == y) = false) (hp : fd.params = plainArgs [⟨x, an, p⟩, ⟨y, bn, q⟩, ⟨z, cn, r⟩]) (hd : fd.defaults = .none) (vals : List Value) (h : vals.length = [x, y, z].length) :
    bindArgs fd ⟨vals, []⟩ = pure ([x, y, z].zip vals) := by
  match vals, h with
  | [u, v, w], _ =>
    unfold bindArgs
    rw [hp, hd]
    have e : notAStandIn Value.none = pure () := rfl
    simp [plainArgs, seqItems?, List.lookup, e, hxy, hxz, hyz]
theorem bind_star {fd : FuncData} {x y : Str} {an bn : Option Expr} {p q : Pos} (hxy : x ≠ y) (hp : fd.params = { plainArgs [⟨x, an, p⟩] with vararg := some ⟨y, bn, q⟩ }) (hd : fd.defaults = .none) (u v : Value) : bindArgs fd ⟨[u, v], []⟩ = (do let t ← newTuple [v]; pure [(x, u), (y, t)]) := by
  unfold bindArgs
  rw [hp, hd]
  have e : notAStandIn Value.none = pure () := rfl
  simp [plainArgs, seqItems?, List.lookup, e]
end Mine
end
section
set_option autoImplicit false
set_option maxRecDepth 100000
namespace Mine
open PySem PySem.W

def gl : Nat → Option D
  | 0 => some (.int 16384)
  | 1 => some (.tup [.tup [.tup [.int 40960, .str [108]], .tup [.int 49152, .str [115]], .tup [.int 32768, .str [45]], .tup [.int 24576, .str [98]], .tup [.int 16384, .str [100]], .tup [.int 8192, .str [99]], .tup [.int 4096, .str [112]]],
      .tup [.tup [.int 256, .str [114]]], .tup [.tup [.int 128, .str [119]]], .tup [.tup [.int 2112, .str [115]], .tup [.int 2048, .str [83]], .tup [.int 64, .str [120]]],
      .tup [.tup [.int 32, .str [114]]], .tup [.tup [.int 16, .str [119]]], .tup [.tup [.int 1032, .str [115]], .tup [.int 1024, .str [83]], .tup [.int 8, .str [120]]],
      .tup [.tup [.int 4, .str [114]]], .tup [.tup [.int 2, .str [119]]], .tup [.tup [.int 513, .str [116]], .tup [.int 512, .str [84]], .tup [.int 1, .str [120]]]])
  | _ => none

/-- a function as it lies in the base -/
structure FnIs (h₀ : Heap) (a : Addr) (nm : Str) (bind : FuncData → Prop) : Prop where
  ne : a ≠ gT
  fd : ∃ fd, FnAt h₀ a fd ∧ fd.body = .stmts (bodyOf nm) ∧ fd.scope.names = namesOf nm ∧ bind fd
def Plainly (ps : List Str) (fd : FuncData) : Prop := ∀ vals : List Value, vals.length = ps.length → bindArgs fd ⟨vals, []⟩ = pure (ps.zip vals)

def joinA (Sg : Sig) (a : List D) : Option D := match a with
  | [x, y] => runFun gl Sg Fjoin [x, .tup [y]]
  | _ => none
/-- the function table, level by level; E and T tell of escape and _translate -/
def sigL (E : Sig) (T : (Nat → List D → Option D) → List D → Option D) : Nat → Sig
  | 0, _, _ => none
  | n + 1, f, a => match f with
    | 0 => runFun gl (sigL E T n) FS_IFMT a
    | 1 => runFun gl (sigL E T n) FS_ISDIR a
    | 2 => runFun gl (sigL E T n) Ffilemode a
    | 3 => E 3 a
    | 4 => T (sigL E T n) a
    | 5 => runFun gl (sigL E T n) Fsame a
    | 6 => runFun gl (sigL E T n) Fsep a
    | 7 => joinA (sigL E T n) a
    | 8 => runFun gl (sigL E T n) Fbasename a
    | 9 => runFun gl (sigL E T n) Fdirname a
    | 10 => runFun gl (sigL E T n) F_law_numbers a
    | 11 => runFun gl (sigL E T n) F_law_items a
    | 12 => runFun gl (sigL E T n) F_law_tree a
    | 13 => runFun gl (sigL E T n) F_law_world a
    | 14 => runFun gl (sigL E T n) F_law_fits a
    | 15 => runFun gl (sigL E T n) F_law_takes a
    | 16 => runFun gl (sigL E T n) F_law_listing a
    | 17 => runFun gl (sigL E T n) F_law_rights a
    | 18 => runFun gl (sigL E T n) F_law_read a
    | 19 => runFun gl (sigL E T n) F_law_plain a
    | 20 => runFun gl (sigL E T n) F_law_due a
    | 21 => runFun gl (sigL E T n) Flaw a
    | _ => none

section
variable {prog : Program} {w : World} {ρ : Addr} {h₀ : Heap} {mg mb : Str → Option Value} {fa : Nat → Addr}

/-- all functions as they lie -/
structure Fns (h₀ : Heap) (fa : Nat → Addr) : Prop where
  f0 : FnIs h₀ (fa 0) "S_IFMT" (Plainly ["mode"])
  f1 : FnIs h₀ (fa 1) "S_ISDIR" (Plainly ["mode"])
  f2 : FnIs h₀ (fa 2) "filemode" (Plainly ["mode"])
  f5 : FnIs h₀ (fa 5) "fspath" (Plainly ["path"])
  f6 : FnIs h₀ (fa 6) "_get_sep" (Plainly ["path"])
  f8 : FnIs h₀ (fa 8) "basename" (Plainly ["p"])
  f9 : FnIs h₀ (fa 9) "dirname" (Plainly ["p"])
  f10 : FnIs h₀ (fa 10) "_law_numbers" (Plainly ["script"])
  f11 : FnIs h₀ (fa 11) "_law_items" (Plainly ["number"])
  f12 : FnIs h₀ (fa 12) "_law_tree" (Plainly ["numbers"])
  f13 : FnIs h₀ (fa 13) "_law_world" (Plainly ["base", "nodes"])
  f14 : FnIs h₀ (fa 14) "_law_fits" (Plainly ["part", "sign"])
  f15 : FnIs h₀ (fa 15) "_law_takes" (Plainly ["parts", "text"])
  f16 : FnIs h₀ (fa 16) "_law_listing" (Plainly ["base", "world", "pattern"])
  f17 : FnIs h₀ (fa 17) "_law_rights" (Plainly ["signs"])
  f18 : FnIs h₀ (fa 18) "_law_read" (Plainly ["base", "text"])
  f19 : FnIs h₀ (fa 19) "_law_plain" (Plainly ["items", "name"])
  f20 : FnIs h₀ (fa 20) "_law_due" (Plainly ["nodes", "items"])
  f21 : FnIs h₀ (fa 21) "law" (Plainly ["script"])
  f7 : FnIs h₀ (fa 7) "join" fun fd => ∀ u v : Value, bindArgs fd ⟨[u, v], []⟩ = (do let t ← newTuple [v]; pure [("a", u), ("p", t)])

def X0 : Ctx → PE → Expr → Prop := fun _ _ _ => False
def XS0 : Ctx → PS → Stmt → Prop := fun _ _ _ => False
theorem hx0 : ∀ c a x, xb0 c a x = true → X0 c a x ∧ Odd x := fun _ _ _ h => by cases h
theorem hxs0 : ∀ c a x, xs0 c a x = true → XS0 c a x := fun _ _ _ h => by cases h
theorem rest0 {Sg : Sig} {A : Around} (B : Base prog w ρ h₀ mg mb gl gnm fnm fa) : Rest prog w ρ h₀ gl Sg A X0 := ⟨fun h => h.elim, fun hk ha hs => SE.sorted B hk ha hs⟩
theorem restS0 {Sg : Sig} {A : Around} : RestS prog w ρ h₀ gl Sg A XS0 := ⟨fun h => h.elim⟩

/-- a body is sound, wherever there is room: kept shut -/
structure SW (prog : Program) (w : World) (ρ : Addr) (h₀ : Heap) (Sg : Sig) (n : Nat) (c : Ctx) (bd : PSs) (st : List Stmt) : Prop where
  h : ∀ A, Room n A → SSs prog w ρ h₀ gl Sg A c bd st
theorem fn_is {Sg : Sig} {n : Nat} {a : Addr} {nm : Str} {ps : List Str} {v : List (Str × Nat)} {F : Fun} {ds : List D} {d : D} (B : Base prog w ρ h₀ mg mb gl gnm fnm fa) (I : FnIs h₀ a nm (Plainly ps)) (hck : ∀ sc : Scope, sc.names = namesOf nm → fnCheck sc ps v F = true)
    {c : Ctx} (hc : c = ⟨fun x => (namesOf nm).lookup x, v, F.nslots⟩) (hnt : (namesOf nm).lookup ("_twin_re_1" : Str) = none) (snd : SW prog w ρ h₀ Sg n c F.body (bodyOf nm)) (run : runFun gl Sg F ds = some d) : FnOK prog w ρ h₀ (n + 1) a ds d := by
  obtain ⟨fd, Fa, hb, hn, hbd⟩ := I.fd
  refine fn_ok B Fa I.ne (fun q => absurd (by rw [hn]; exact hnt) q) hb hbd (hck _ hn) ?_ run
  rw [hn, ← hc]; exact snd.h
theorem chk {nm : Str} {ps : List Str} {v : List (Str × Nat)} {F : Fun} (h : fnCheck { kind := .function, names := namesOf nm, isGenerator := false, isCoroutine := false, more := [] } ps v F = true) : ∀ sc : Scope, sc.names = namesOf nm → fnCheck sc ps v F = true := by
  intro sc e
  unfold fnCheck at *
  rw [e]; exact h
theorem ckS_IFMT : ∀ sc : Scope, sc.names = namesOf "S_IFMT" → fnCheck sc ["mode"] vS_IFMT FS_IFMT = true := chk (by decide +kernel)
theorem ckS_ISDIR : ∀ sc : Scope, sc.names = namesOf "S_ISDIR" → fnCheck sc ["mode"] vS_ISDIR FS_ISDIR = true := chk (by decide +kernel)
theorem ckfilemode : ∀ sc : Scope, sc.names = namesOf "filemode" → fnCheck sc ["mode"] vfilemode Ffilemode = true := chk (by decide +kernel)
theorem ckfspath : ∀ sc : Scope, sc.names = namesOf "fspath" → fnCheck sc ["path"] vfspath Fsame = true := chk (by decide +kernel)
theorem ck_get_sep : ∀ sc : Scope, sc.names = namesOf "_get_sep" → fnCheck sc ["path"] vsep Fsep = true := chk (by decide +kernel)
theorem ckjoin : ∀ sc : Scope, sc.names = namesOf "join" → fnCheck sc ["a", "p"] vjoin Fjoin = true := chk (by decide +kernel)
theorem ckbasename : ∀ sc : Scope, sc.names = namesOf "basename" → fnCheck sc ["p"] vbasename Fbasename = true := chk (by decide +kernel)
theorem ckdirname : ∀ sc : Scope, sc.names = namesOf "dirname" → fnCheck sc ["p"] vdirname Fdirname = true := chk (by decide +kernel)
theorem ck_law_numbers : ∀ sc : Scope, sc.names = namesOf "_law_numbers" → fnCheck sc ["script"] v_law_numbers F_law_numbers = true := chk (by decide +kernel)
theorem ck_law_items : ∀ sc : Scope, sc.names = namesOf "_law_items" → fnCheck sc ["number"] v_law_items F_law_items = true := chk (by decide +kernel)
theorem ck_law_tree : ∀ sc : Scope, sc.names = namesOf "_law_tree" → fnCheck sc ["numbers"] v_law_tree F_law_tree = true := chk (by decide +kernel)
theorem ck_law_world : ∀ sc : Scope, sc.names = namesOf "_law_world" → fnCheck sc ["base", "nodes"] v_law_world F_law_world = true := chk (by decide +kernel)
theorem ck_law_fits : ∀ sc : Scope, sc.names = namesOf "_law_fits" → fnCheck sc ["part", "sign"] v_law_fits F_law_fits = true := chk (by decide +kernel)
theorem ck_law_takes : ∀ sc : Scope, sc.names = namesOf "_law_takes" → fnCheck sc ["parts", "text"] v_law_takes F_law_takes = true := chk (by decide +kernel)
theorem ck_law_listing : ∀ sc : Scope, sc.names = namesOf "_law_listing" → fnCheck sc ["base", "world", "pattern"] v_law_listing F_law_listing = true := chk (by decide +kernel)
theorem ck_law_rights : ∀ sc : Scope, sc.names = namesOf "_law_rights" → fnCheck sc ["signs"] v_law_rights F_law_rights = true := chk (by decide +kernel)
theorem ck_law_read : ∀ sc : Scope, sc.names = namesOf "_law_read" → fnCheck sc ["base", "text"] v_law_read F_law_read = true := chk (by decide +kernel)
theorem ck_law_plain : ∀ sc : Scope, sc.names = namesOf "_law_plain" → fnCheck sc ["items", "name"] v_law_plain F_law_plain = true := chk (by decide +kernel)
theorem ck_law_due : ∀ sc : Scope, sc.names = namesOf "_law_due" → fnCheck sc ["nodes", "items"] v_law_due F_law_due = true := chk (by decide +kernel)
theorem cklaw : ∀ sc : Scope, sc.names = namesOf "law" → fnCheck sc ["script"] vlaw Flaw = true := chk (by decide +kernel)

theorem esS_IFMT : EmbSs gnm fnm X0 XS0 cS_IFMT FS_IFMT.body (bodyOf "S_IFMT") := embSsB_sound (xb := xb0) (xs := xs0) hx0 hxs0 FS_IFMT.body embS_IFMT
theorem esS_ISDIR : EmbSs gnm fnm X0 XS0 cS_ISDIR FS_ISDIR.body (bodyOf "S_ISDIR") := embSsB_sound (xb := xb0) (xs := xs0) hx0 hxs0 FS_ISDIR.body embS_ISDIR
theorem esfilemode : EmbSs gnm fnm X0 XS0 cfilemode Ffilemode.body (bodyOf "filemode") := embSsB_sound (xb := xb0) (xs := xs0) hx0 hxs0 Ffilemode.body embfilemode
theorem esbasename : EmbSs gnm fnm X0 XS0 cbasename Fbasename.body (bodyOf "basename") := embSsB_sound (xb := xb0) (xs := xs0) hx0 hxs0 Fbasename.body embbasename
theorem esdirname : EmbSs gnm fnm X0 XS0 cdirname Fdirname.body (bodyOf "dirname") := embSsB_sound (xb := xb0) (xs := xs0) hx0 hxs0 Fdirname.body embdirname
theorem es_law_numbers : EmbSs gnm fnm X0 XS0 c_law_numbers F_law_numbers.body (bodyOf "_law_numbers") := embSsB_sound (xb := xb0) (xs := xs0) hx0 hxs0 F_law_numbers.body emb_law_numbers
theorem es_law_items : EmbSs gnm fnm X0 XS0 c_law_items F_law_items.body (bodyOf "_law_items") := embSsB_sound (xb := xb0) (xs := xs0) hx0 hxs0 F_law_items.body emb_law_items
theorem es_law_tree : EmbSs gnm fnm X0 XS0 c_law_tree F_law_tree.body (bodyOf "_law_tree") := embSsB_sound (xb := xb0) (xs := xs0) hx0 hxs0 F_law_tree.body emb_law_tree
theorem es_law_world : EmbSs gnm fnm X0 XS0 c_law_world F_law_world.body (bodyOf "_law_world") := embSsB_sound (xb := xb0) (xs := xs0) hx0 hxs0 F_law_world.body emb_law_world
theorem es_law_fits : EmbSs gnm fnm X0 XS0 c_law_fits F_law_fits.body (bodyOf "_law_fits") := embSsB_sound (xb := xb0) (xs := xs0) hx0 hxs0 F_law_fits.body emb_law_fits
theorem es_law_takes : EmbSs gnm fnm X0 XS0 c_law_takes F_law_takes.body (bodyOf "_law_takes") := embSsB_sound (xb := xb0) (xs := xs0) hx0 hxs0 F_law_takes.body emb_law_takes
theorem es_law_listing : EmbSs gnm fnm X0 XS0 c_law_listing F_law_listing.body (bodyOf "_law_listing") := embSsB_sound (xb := xb0) (xs := xs0) hx0 hxs0 F_law_listing.body emb_law_listing
theorem es_law_rights : EmbSs gnm fnm X0 XS0 c_law_rights F_law_rights.body (bodyOf "_law_rights") := embSsB_sound (xb := xb0) (xs := xs0) hx0 hxs0 F_law_rights.body emb_law_rights
theorem es_law_read : EmbSs gnm fnm X0 XS0 c_law_read F_law_read.body (bodyOf "_law_read") := embSsB_sound (xb := xb0) (xs := xs0) hx0 hxs0 F_law_read.body emb_law_read
theorem es_law_plain : EmbSs gnm fnm X0 XS0 c_law_plain F_law_plain.body (bodyOf "_law_plain") := embSsB_sound (xb := xb0) (xs := xs0) hx0 hxs0 F_law_plain.body emb_law_plain
theorem es_law_due : EmbSs gnm fnm X0 XS0 c_law_due F_law_due.body (bodyOf "_law_due") := embSsB_sound (xb := xb0) (xs := xs0) hx0 hxs0 F_law_due.body emb_law_due
theorem eslaw : EmbSs gnm fnm X0 XS0 claw Flaw.body (bodyOf "law") := embSsB_sound (xb := xb0) (xs := xs0) hx0 hxs0 Flaw.body emblaw
theorem esjoin : EmbSs gnm fnm X0 XS0 cjoin Fjoin.body (bodyOf "join") := embSsB_sound (xb := xb0) (xs := xs0) hx0 hxs0 Fjoin.body embjoin
theorem ccS_IFMT : cS_IFMT = ⟨fun x => (namesOf "S_IFMT").lookup x, vS_IFMT, FS_IFMT.nslots⟩ := rfl
theorem ccS_ISDIR : cS_ISDIR = ⟨fun x => (namesOf "S_ISDIR").lookup x, vS_ISDIR, FS_ISDIR.nslots⟩ := rfl
theorem ccfilemode : cfilemode = ⟨fun x => (namesOf "filemode").lookup x, vfilemode, Ffilemode.nslots⟩ := rfl
theorem ccbasename : cbasename = ⟨fun x => (namesOf "basename").lookup x, vbasename, Fbasename.nslots⟩ := rfl
theorem ccdirname : cdirname = ⟨fun x => (namesOf "dirname").lookup x, vdirname, Fdirname.nslots⟩ := rfl
theorem cc_law_numbers : c_law_numbers = ⟨fun x => (namesOf "_law_numbers").lookup x, v_law_numbers, F_law_numbers.nslots⟩ := rfl
theorem cc_law_items : c_law_items = ⟨fun x => (namesOf "_law_items").lookup x, v_law_items, F_law_items.nslots⟩ := rfl
theorem cc_law_tree : c_law_tree = ⟨fun x => (namesOf "_law_tree").lookup x, v_law_tree, F_law_tree.nslots⟩ := rfl
theorem cc_law_world : c_law_world = ⟨fun x => (namesOf "_law_world").lookup x, v_law_world, F_law_world.nslots⟩ := rfl
theorem cc_law_fits : c_law_fits = ⟨fun x => (namesOf "_law_fits").lookup x, v_law_fits, F_law_fits.nslots⟩ := rfl
theorem cc_law_takes : c_law_takes = ⟨fun x => (namesOf "_law_takes").lookup x, v_law_takes, F_law_takes.nslots⟩ := rfl
theorem cc_law_listing : c_law_listing = ⟨fun x => (namesOf "_law_listing").lookup x, v_law_listing, F_law_listing.nslots⟩ := rfl
theorem cc_law_rights : c_law_rights = ⟨fun x => (namesOf "_law_rights").lookup x, v_law_rights, F_law_rights.nslots⟩ := rfl
theorem cc_law_read : c_law_read = ⟨fun x => (namesOf "_law_read").lookup x, v_law_read, F_law_read.nslots⟩ := rfl
theorem cc_law_plain : c_law_plain = ⟨fun x => (namesOf "_law_plain").lookup x, v_law_plain, F_law_plain.nslots⟩ := rfl
theorem cc_law_due : c_law_due = ⟨fun x => (namesOf "_law_due").lookup x, v_law_due, F_law_due.nslots⟩ := rfl
theorem cclaw : claw = ⟨fun x => (namesOf "law").lookup x, vlaw, Flaw.nslots⟩ := rfl
theorem gens {Sg : Sig} {n : Nat} {c : Ctx} {bd : PSs} {st : List Stmt} (B : Base prog w ρ h₀ mg mb gl gnm fnm fa) (SG : SigOK prog w ρ h₀ Sg fnm fa n) (h : EmbSs gnm fnm X0 XS0 c bd st) : SW prog w ρ h₀ Sg n c bd st := ⟨fun _ Rm => EmbSs.sound B SG Rm (rest0 B) restS0 h⟩
variable {E : Sig} {T : (Nat → List D → Option D) → List D → Option D} {n : Nat}
theorem eq0 (ds : List D) : sigL E T (n + 1) 0 ds = runFun gl (sigL E T n) FS_IFMT ds := rfl
theorem ok0 {ds : List D} {d : D} (B : Base prog w ρ h₀ mg mb gl gnm fnm fa) (B2 : Base2 mg mb) (I : Fns h₀ fa) (SG : SigOK prog w ρ h₀ (sigL E T n) fnm fa n) (e : sigL E T (n + 1) 0 ds = some d) : FnOK prog w ρ h₀ (n + 1) (fa 0) ds d := by
  rw [eq0] at e
  exact fn_is B I.f0 ckS_IFMT ccS_IFMT (by decide +kernel) (gens B SG esS_IFMT) e
theorem eq1 (ds : List D) : sigL E T (n + 1) 1 ds = runFun gl (sigL E T n) FS_ISDIR ds := rfl
theorem ok1 {ds : List D} {d : D} (B : Base prog w ρ h₀ mg mb gl gnm fnm fa) (B2 : Base2 mg mb) (I : Fns h₀ fa) (SG : SigOK prog w ρ h₀ (sigL E T n) fnm fa n) (e : sigL E T (n + 1) 1 ds = some d) : FnOK prog w ρ h₀ (n + 1) (fa 1) ds d := by
  rw [eq1] at e
  exact fn_is B I.f1 ckS_ISDIR ccS_ISDIR (by decide +kernel) (gens B SG esS_ISDIR) e
theorem eq2 (ds : List D) : sigL E T (n + 1) 2 ds = runFun gl (sigL E T n) Ffilemode ds := rfl
theorem ok2 {ds : List D} {d : D} (B : Base prog w ρ h₀ mg mb gl gnm fnm fa) (B2 : Base2 mg mb) (I : Fns h₀ fa) (SG : SigOK prog w ρ h₀ (sigL E T n) fnm fa n) (e : sigL E T (n + 1) 2 ds = some d) : FnOK prog w ρ h₀ (n + 1) (fa 2) ds d := by
  rw [eq2] at e
  exact fn_is B I.f2 ckfilemode ccfilemode (by decide +kernel) (gens B SG esfilemode) e
theorem eq5 (ds : List D) : sigL E T (n + 1) 5 ds = runFun gl (sigL E T n) Fsame ds := rfl
theorem ok5 {ds : List D} {d : D} (B : Base prog w ρ h₀ mg mb gl gnm fnm fa) (B2 : Base2 mg mb) (I : Fns h₀ fa) (SG : SigOK prog w ρ h₀ (sigL E T n) fnm fa n) (e : sigL E T (n + 1) 5 ds = some d) : FnOK prog w ρ h₀ (n + 1) (fa 5) ds d := by
  rw [eq5] at e
  exact fn_is B I.f5 ckfspath rfl (by decide +kernel) ⟨fun A _ => fspath_sound B B2⟩ e
theorem eq6 (ds : List D) : sigL E T (n + 1) 6 ds = runFun gl (sigL E T n) Fsep ds := rfl
theorem ok6 {ds : List D} {d : D} (B : Base prog w ρ h₀ mg mb gl gnm fnm fa) (B2 : Base2 mg mb) (I : Fns h₀ fa) (SG : SigOK prog w ρ h₀ (sigL E T n) fnm fa n) (e : sigL E T (n + 1) 6 ds = some d) : FnOK prog w ρ h₀ (n + 1) (fa 6) ds d := by
  rw [eq6] at e
  exact fn_is B I.f6 ck_get_sep rfl (by decide +kernel) ⟨fun A _ => sep_sound B B2⟩ e
theorem eq8 (ds : List D) : sigL E T (n + 1) 8 ds = runFun gl (sigL E T n) Fbasename ds := rfl
theorem ok8 {ds : List D} {d : D} (B : Base prog w ρ h₀ mg mb gl gnm fnm fa) (B2 : Base2 mg mb) (I : Fns h₀ fa) (SG : SigOK prog w ρ h₀ (sigL E T n) fnm fa n) (e : sigL E T (n + 1) 8 ds = some d) : FnOK prog w ρ h₀ (n + 1) (fa 8) ds d := by
  rw [eq8] at e
  exact fn_is B I.f8 ckbasename ccbasename (by decide +kernel) (gens B SG esbasename) e
theorem eq9 (ds : List D) : sigL E T (n + 1) 9 ds = runFun gl (sigL E T n) Fdirname ds := rfl
theorem ok9 {ds : List D} {d : D} (B : Base prog w ρ h₀ mg mb gl gnm fnm fa) (B2 : Base2 mg mb) (I : Fns h₀ fa) (SG : SigOK prog w ρ h₀ (sigL E T n) fnm fa n) (e : sigL E T (n + 1) 9 ds = some d) : FnOK prog w ρ h₀ (n + 1) (fa 9) ds d := by
  rw [eq9] at e
  exact fn_is B I.f9 ckdirname ccdirname (by decide +kernel) (gens B SG esdirname) e
theorem eq10 (ds : List D) : sigL E T (n + 1) 10 ds = runFun gl (sigL E T n) F_law_numbers ds := rfl
theorem ok10 {ds : List D} {d : D} (B : Base prog w ρ h₀ mg mb gl gnm fnm fa) (B2 : Base2 mg mb) (I : Fns h₀ fa) (SG : SigOK prog w ρ h₀ (sigL E T n) fnm fa n) (e : sigL E T (n + 1) 10 ds = some d) : FnOK prog w ρ h₀ (n + 1) (fa 10) ds d := by
  rw [eq10] at e
  exact fn_is B I.f10 ck_law_numbers cc_law_numbers (by decide +kernel) (gens B SG es_law_numbers) e
theorem eq11 (ds : List D) : sigL E T (n + 1) 11 ds = runFun gl (sigL E T n) F_law_items ds := rfl
theorem ok11 {ds : List D} {d : D} (B : Base prog w ρ h₀ mg mb gl gnm fnm fa) (B2 : Base2 mg mb) (I : Fns h₀ fa) (SG : SigOK prog w ρ h₀ (sigL E T n) fnm fa n) (e : sigL E T (n + 1) 11 ds = some d) : FnOK prog w ρ h₀ (n + 1) (fa 11) ds d := by
  rw [eq11] at e
  exact fn_is B I.f11 ck_law_items cc_law_items (by decide +kernel) (gens B SG es_law_items) e
theorem eq12 (ds : List D) : sigL E T (n + 1) 12 ds = runFun gl (sigL E T n) F_law_tree ds := rfl
theorem ok12 {ds : List D} {d : D} (B : Base prog w ρ h₀ mg mb gl gnm fnm fa) (B2 : Base2 mg mb) (I : Fns h₀ fa) (SG : SigOK prog w ρ h₀ (sigL E T n) fnm fa n) (e : sigL E T (n + 1) 12 ds = some d) : FnOK prog w ρ h₀ (n + 1) (fa 12) ds d := by
  rw [eq12] at e
  exact fn_is B I.f12 ck_law_tree cc_law_tree (by decide +kernel) (gens B SG es_law_tree) e
theorem eq13 (ds : List D) : sigL E T (n + 1) 13 ds = runFun gl (sigL E T n) F_law_world ds := rfl
theorem ok13 {ds : List D} {d : D} (B : Base prog w ρ h₀ mg mb gl gnm fnm fa) (B2 : Base2 mg mb) (I : Fns h₀ fa) (SG : SigOK prog w ρ h₀ (sigL E T n) fnm fa n) (e : sigL E T (n + 1) 13 ds = some d) : FnOK prog w ρ h₀ (n + 1) (fa 13) ds d := by
  rw [eq13] at e
  exact fn_is B I.f13 ck_law_world cc_law_world (by decide +kernel) (gens B SG es_law_world) e
theorem eq14 (ds : List D) : sigL E T (n + 1) 14 ds = runFun gl (sigL E T n) F_law_fits ds := rfl
theorem ok14 {ds : List D} {d : D} (B : Base prog w ρ h₀ mg mb gl gnm fnm fa) (B2 : Base2 mg mb) (I : Fns h₀ fa) (SG : SigOK prog w ρ h₀ (sigL E T n) fnm fa n) (e : sigL E T (n + 1) 14 ds = some d) : FnOK prog w ρ h₀ (n + 1) (fa 14) ds d := by
  rw [eq14] at e
  exact fn_is B I.f14 ck_law_fits cc_law_fits (by decide +kernel) (gens B SG es_law_fits) e
theorem eq15 (ds : List D) : sigL E T (n + 1) 15 ds = runFun gl (sigL E T n) F_law_takes ds := rfl
theorem ok15 {ds : List D} {d : D} (B : Base prog w ρ h₀ mg mb gl gnm fnm fa) (B2 : Base2 mg mb) (I : Fns h₀ fa) (SG : SigOK prog w ρ h₀ (sigL E T n) fnm fa n) (e : sigL E T (n + 1) 15 ds = some d) : FnOK prog w ρ h₀ (n + 1) (fa 15) ds d := by
  rw [eq15] at e
  exact fn_is B I.f15 ck_law_takes cc_law_takes (by decide +kernel) (gens B SG es_law_takes) e
theorem eq16 (ds : List D) : sigL E T (n + 1) 16 ds = runFun gl (sigL E T n) F_law_listing ds := rfl
theorem ok16 {ds : List D} {d : D} (B : Base prog w ρ h₀ mg mb gl gnm fnm fa) (B2 : Base2 mg mb) (I : Fns h₀ fa) (SG : SigOK prog w ρ h₀ (sigL E T n) fnm fa n) (e : sigL E T (n + 1) 16 ds = some d) : FnOK prog w ρ h₀ (n + 1) (fa 16) ds d := by
  rw [eq16] at e
  exact fn_is B I.f16 ck_law_listing cc_law_listing (by decide +kernel) (gens B SG es_law_listing) e
theorem eq17 (ds : List D) : sigL E T (n + 1) 17 ds = runFun gl (sigL E T n) F_law_rights ds := rfl
theorem ok17 {ds : List D} {d : D} (B : Base prog w ρ h₀ mg mb gl gnm fnm fa) (B2 : Base2 mg mb) (I : Fns h₀ fa) (SG : SigOK prog w ρ h₀ (sigL E T n) fnm fa n) (e : sigL E T (n + 1) 17 ds = some d) : FnOK prog w ρ h₀ (n + 1) (fa 17) ds d := by
  rw [eq17] at e
  exact fn_is B I.f17 ck_law_rights cc_law_rights (by decide +kernel) (gens B SG es_law_rights) e
theorem eq18 (ds : List D) : sigL E T (n + 1) 18 ds = runFun gl (sigL E T n) F_law_read ds := rfl
theorem ok18 {ds : List D} {d : D} (B : Base prog w ρ h₀ mg mb gl gnm fnm fa) (B2 : Base2 mg mb) (I : Fns h₀ fa) (SG : SigOK prog w ρ h₀ (sigL E T n) fnm fa n) (e : sigL E T (n + 1) 18 ds = some d) : FnOK prog w ρ h₀ (n + 1) (fa 18) ds d := by
  rw [eq18] at e
  exact fn_is B I.f18 ck_law_read cc_law_read (by decide +kernel) (gens B SG es_law_read) e
theorem eq19 (ds : List D) : sigL E T (n + 1) 19 ds = runFun gl (sigL E T n) F_law_plain ds := rfl
theorem ok19 {ds : List D} {d : D} (B : Base prog w ρ h₀ mg mb gl gnm fnm fa) (B2 : Base2 mg mb) (I : Fns h₀ fa) (SG : SigOK prog w ρ h₀ (sigL E T n) fnm fa n) (e : sigL E T (n + 1) 19 ds = some d) : FnOK prog w ρ h₀ (n + 1) (fa 19) ds d := by
  rw [eq19] at e
  exact fn_is B I.f19 ck_law_plain cc_law_plain (by decide +kernel) (gens B SG es_law_plain) e
theorem eq20 (ds : List D) : sigL E T (n + 1) 20 ds = runFun gl (sigL E T n) F_law_due ds := rfl
theorem ok20 {ds : List D} {d : D} (B : Base prog w ρ h₀ mg mb gl gnm fnm fa) (B2 : Base2 mg mb) (I : Fns h₀ fa) (SG : SigOK prog w ρ h₀ (sigL E T n) fnm fa n) (e : sigL E T (n + 1) 20 ds = some d) : FnOK prog w ρ h₀ (n + 1) (fa 20) ds d := by
  rw [eq20] at e
  exact fn_is B I.f20 ck_law_due cc_law_due (by decide +kernel) (gens B SG es_law_due) e
theorem eq21 (ds : List D) : sigL E T (n + 1) 21 ds = runFun gl (sigL E T n) Flaw ds := rfl
theorem ok21 {ds : List D} {d : D} (B : Base prog w ρ h₀ mg mb gl gnm fnm fa) (B2 : Base2 mg mb) (I : Fns h₀ fa) (SG : SigOK prog w ρ h₀ (sigL E T n) fnm fa n) (e : sigL E T (n + 1) 21 ds = some d) : FnOK prog w ρ h₀ (n + 1) (fa 21) ds d := by
  rw [eq21] at e
  exact fn_is B I.f21 cklaw cclaw (by decide +kernel) (gens B SG eslaw) e
theorem eq7 (ds : List D) : sigL E T (n + 1) 7 ds = joinA (sigL E T n) ds := rfl
theorem join_args {Sg : Sig} {ds : List D} {d : D} (e : joinA Sg ds = some d) : ∃ x y, ds = [x, y] ∧ runFun gl Sg Fjoin [x, .tup [y]] = some d := by
  unfold joinA at e
  split at e
  · exact ⟨_, _, rfl, e⟩
  · cases e
theorem ok7 {ds : List D} {d : D} (B : Base prog w ρ h₀ mg mb gl gnm fnm fa) (B2 : Base2 mg mb) (I : Fns h₀ fa) (SG : SigOK prog w ρ h₀ (sigL E T n) fnm fa n) (e : sigL E T (n + 1) 7 ds = some d) : FnOK prog w ρ h₀ (n + 1) (fa 7) ds d := by
  rw [eq7] at e
  obtain ⟨x, y, rfl, e⟩ := join_args e
  obtain ⟨fd, Fa, hb, hn, hbd⟩ := I.f7.fd
  intro A s Mu vs Rm hK R hvs Q hQ
  cases hvs with
  | cons hx r =>
    cases r with
    | cons hy r =>
      cases r
      refine fn_gen (v := vjoin) (ps := ["a", "p"]) B Fa I.f7.ne (fun q => absurd (by rw [hn]; decide +kernel) q) hb (ckjoin _ hn) ?_ e Rm hK R ?_ hQ
      · rw [hn]
        exact (gens B SG esjoin).h
      · rw [hbd]
        refine wpAny_bind (wpAny_newTuple (wpAny_pure ?_))
        refine ⟨[_, _], rfl, .push, Nat.le_refl _, .cons ?_ (.cons ?_ .nil)⟩
        · exact (Ext.push (s := s)).rd R.mug hx
        · refine RD.tup ?_ ⟨_, Heap.get?_push_size _ rfl, rfl, 0, rfl⟩ (.cons ((Ext.push (s := s)).rd R.mug hy) .nil)
          refine R.notMu ?_
          exact newer (Nat.le_refl _)
theorem sig_ok (B : Base prog w ρ h₀ mg mb gl gnm fnm fa) (B2 : Base2 mg mb) (I : Fns h₀ fa) (hE : ∀ n ds d, E 3 ds = some d → FnOK prog w ρ h₀ (n + 1) (fa 3) ds d)
    (hT : ∀ n ds d, SigOK prog w ρ h₀ (sigL E T n) fnm fa n → T (sigL E T n) ds = some d → FnOK prog w ρ h₀ (n + 1) (fa 4) ds d) : ∀ n, SigOK prog w ρ h₀ (sigL E T n) fnm fa n := by
  intro n
  induction n with
  | zero => intro f ds d x _ e; cases e
  | succ n SG =>
    intro f ds d x hf e
    have hlt : f < 22 := by
      unfold fnm at hf
      exact (List.getElem?_eq_some_iff.mp hf).1
    match f, hlt with
    | 0, _ => exact ok0 B B2 I SG e
    | 1, _ => exact ok1 B B2 I SG e
    | 2, _ => exact ok2 B B2 I SG e
    | 3, _ => exact hE n ds d e
    | 4, _ => exact hT n ds d SG e
    | 5, _ => exact ok5 B B2 I SG e
    | 6, _ => exact ok6 B B2 I SG e
    | 7, _ => exact ok7 B B2 I SG e
    | 8, _ => exact ok8 B B2 I SG e
    | 9, _ => exact ok9 B B2 I SG e
    | 10, _ => exact ok10 B B2 I SG e
    | 11, _ => exact ok11 B B2 I SG e
    | 12, _ => exact ok12 B B2 I SG e
    | 13, _ => exact ok13 B B2 I SG e
    | 14, _ => exact ok14 B B2 I SG e
    | 15, _ => exact ok15 B B2 I SG e
    | 16, _ => exact ok16 B B2 I SG e
    | 17, _ => exact ok17 B B2 I SG e
    | 18, _ => exact ok18 B B2 I SG e
    | 19, _ => exact ok19 B B2 I SG e
    | 20, _ => exact ok20 B B2 I SG e
    | 21, _ => exact ok21 B B2 I SG e
end
end Mine
end
section
set_option autoImplicit false
set_option maxRecDepth 100000
namespace Mine
open PySem PySem.W

section
variable {prog : Program} {w : World} {ρ : Addr} {h₀ : Heap} {mg mb : Str → Option Value} {G : Nat → Option D} {Sg : Sig} {gname fname : Nat → Option Str} {fa : Nat → Addr}
variable {A : Around} {s s' : Shared} {Mu₀ Mu Wr : Addr → Prop} {α : Nat → Addr} {σ : List LV} {env : Env} {c : Ctx} {n : Nat}

theorem RDs.one {Mu : Addr → Prop} {h : Heap} {v : Value} {d : Mine.D} (r : RDs prog w ρ Mu h [v] [d]) : RD prog w ρ Mu h v d := by cases r with | cons a _ => exact a
/-- two targets that are stored the later first -/
theorem swapped_two {x y : Str} {px py tp p1 q1 q2 : Pos} {kk k1 k2 : Nat} {cn : Const} {f : Expr} {as : List Expr} {ks : List Keyword} (O : EnvOK env c.k) (hx : c.k x = some .local) (hy : c.k y = some .local) (hl : (py.line == px.line) = true) (hxy : x ≠ y) :
    swappedStores [.Tuple [.Name x px, .Name y py] kk tp] (.Tuple [.Constant cn k2 q1, .Call f as ks q2] k1 p1) env = pure (some [x, y]) := by
  have e1 : (env.blockKind != .function) = false := by unfold Env.blockKind; rw [O.kind]; rfl
  have e2 : (env.kindOf x == some .local) = true := by rw [O.names, hx]; rfl
  have e3 : (env.kindOf y == some .local) = true := by rw [O.names, hy]; rfl
  have e5 : ([x, y].eraseDups.length != [x, y].length) = false := by
    have : (y == x) = false := by simpa using fun h : y = x => hxy h.symm
    simp [List.eraseDups_cons, this]
  unfold swappedStores
  simp only [e1, List.length_cons, List.length_nil, List.filterMap_cons, List.filterMap_nil, e2, e3, List.head?_cons, Option.map_some, Option.getD_some, Expr.pos, hl, beq_self_eq_true, Bool.and_self, if_true]
  have e5' : ([x, y].eraseDups.length != 0 + 1 + 1) = false := e5
  simp only [e5', Bool.or_false, Bool.false_eq_true, if_false]
  rfl

theorem SS.unpack (hh : A.handled = none) {x y : Str} {kx ky kk k1 : Nat} {px py tp p1 p : Pos} {e : PE} (hx : c.v.lookup x = some kx) (hy : c.v.lookup y = some ky) (hne : kx ≠ ky)
    (hkx : c.k x = some .local) (hky : c.k y = some .local) (hl : (py.line == px.line) = true) (hxy : x ≠ y)
    {cn : Const} {k2 : Nat} {q1 q2 : Pos} {f : Expr} {as : List Expr} {ks : List Keyword} (he : Snd prog w ρ h₀ G Sg A c e (.Tuple [.Constant cn k2 q1, .Call f as ks q2] k1 p1)) : SS prog w ρ h₀ G Sg A c (.unpack [kx, ky] e) (.Assign [.Tuple [.Name x px, .Name y py] kk tp] (.Tuple [.Constant cn k2 q1, .Call f as ks q2] k1 p1) p) := by
  intro env Mu₀ Mu Wr α σ s fl σ' Q N e1 h
  simp only [exS, Option.bind_eq_some_iff, Option.map_eq_some_iff] at e1
  obtain ⟨⟨d, tg⟩, ee, σ₁, hp, e1⟩ := e1
  cases e1
  dsimp only at hp
  unfold bindT at hp
  split at hp
  · rename_i ds
    match ds, hp with
    | [d1, d2], hp =>
      cases hp
      refine PyProof.Rows.Assign_Tuple_swapped (he.ev N.N ee fun v s₁ x₁ t₁ v₁ => ?_) rfl (swapped_two N.N.O hkx hky hl hxy)
      have v₁ : RD prog w ρ Mu s₁.heap v (.tup [d1, d2]) := by
        cases tg with
        | fz => exact v₁
        | fresh => obtain ⟨_, _, _, o⟩ := v₁; exact o.elim
        | own j => exact (N.N.own x₁ ee j rfl).elim
      cases v₁ with
      | tup hn ht hr =>
      rename_i a vs
      have N1 := N.ext x₁ t₁
      cases hr with
      | cons r1 hr =>
      cases hr with
      | cons r2 hr =>
      cases hr
      rename_i u1 u2
      refine PyProof.Rows.unpackItems_tuple (items := #[u1, u2]) hh ht fun h' hx' => ?_
      have x2 : Ext s₁ { s₁ with heap := h' } := .kept' fun b o q => hx' b o (Nat.ne_of_lt (Heap.lt_size q)) q
      have N2 := N1.ext x2 (Nat.le_refl _)
      have g2 := (Grow.ext (Mu := Mu) (Wr := Wr) x₁ N.N.R.tab t₁).trans (.ext x2 N1.N.R.tab (Nat.le_refl _))
      refine wpAny_bind (wpAny_holding (PyProof.Rows.bindName_ (store_fz N2 hy (x2.rd N1.N.R.mug r2) fun s₃ g3 N3 => ?_)))
      refine wpAny_bind (wpAny_holding (PyProof.Rows.bindName_ (store_fz N3 hx (RDs.one (g3.rds N2.wm N2.N.R.mug (.cons (x2.rd N1.N.R.mug r1) .nil))) fun s₄ g4 N4 => ?_)))
      have : (σ.set ky (.fz d2)).set kx (.fz d1) = (σ.set kx (.fz d1)).set ky (.fz d2) := List.set_comm _ _ fun q => hne q.symm
      rw [this] at N4
      exact wpAny_pure (h _ _ _ _ _ ((g2.trans g3).trans g4) N4 trivial)
  · cases hp
end
end Mine
end
section
set_option autoImplicit false
set_option maxRecDepth 100000
namespace Mine
open PySem PySem.W

theorem typeOf_append : typeOf (.builtin "list.append") = pure (.type "method_descriptor") := F.type_list_append
theorem slot_md_get : Slot "method_descriptor" "__get__" "method_descriptor.__get__" :=
  .of (owner := "method_descriptor") (n := "__get__") (by rw [typeLookup_type, builtinLookup_eq_fast]; kernel_rfl) (by decide +kernel) (by decide +kernel) (by decide +kernel)
    (by first | exact .inl (by decide +kernel) | exact .inr (by decide +kernel)) (by rw [isSubtype_type]; kernel_rfl)
theorem md_set_none : typeLookup (.type "method_descriptor") "__set__" = pure none := by rw [typeLookup_type, builtinLookup_eq_fast]; kernel_rfl
theorem md_del_none : typeLookup (.type "method_descriptor") "__delete__" = pure none := by rw [typeLookup_type, builtinLookup_eq_fast]; kernel_rfl
theorem entry_md_get : entryFor table "method_descriptor.__get__" = some Builtin.«method_descriptor.__get__» := entryFor_of_tree (by kernel_rfl)
theorem args_md_get (a b c : Value) : argsOk "method_descriptor.__get__" ⟨[a, b, c], []⟩ := by unfold argsOk; kernel_rfl
theorem owner_list_append : (".".intercalate ("list.append".cutAt '.').dropLast) = "list" := by
  have e0 : "list.append".cutAt '.' = ["list", "append"] := by first | rfl | decide +kernel
  rw [e0]; decide +kernel
theorem sub_list_append_owner : isSubtype (.type "list") (.type (".".intercalate ("list.append".cutAt '.').dropLast)) = pure true := by
  rw [owner_list_append, isSubtype_type]; kernel_rfl
theorem told_append : Manifest.toldItsClass.contains "list.append" = false := by decide +kernel

section
variable {prog : Program} {w : World} {A : Around} {E : Value → Shared → Prop} {h : Heap} {g : Array GenState} {d : Drawn} {t : Nat} {os : OsState} {a : Addr} {o : Obj}
theorem md_get_eq (a : Addr) : Builtin.«method_descriptor.__get__» ⟨[.builtin "list.append", .ref a, .type "list"], []⟩ =
    (do (do
          let __do_lift ← isInstance (.ref a) (.type "list")
          if !__do_lift then
            rule "descr.get.wrong-instance"
            raiseError "TypeError" s!"descriptor '{(("append" : String) : Str).toString}' for '{← typeName (.type "list")}' objects doesn't apply to a '{← typeNameOf (.ref a)}' object")
        ret (← newFields "builtin_function_or_method" [.builtin "list.append", .ref a])) := by kernel_rfl
theorem sub_list_list : isSubtype (.type "list") (.type "list") = pure true := by rw [isSubtype_type]; kernel_rfl
theorem app_get {R : Result → Shared → Prop} (hx : h.get? a = some o) (hc : o.cls = .type "list") (hq : R (.ok (.ret (.ref h.objs.size))) ⟨h.push { cls := .type "builtin_function_or_method", data := .fields #[.builtin "list.append", .ref a] }, g, d, t, os⟩) :
    codeAny (model prog w) A (.call (.builtin "method_descriptor.__get__") ⟨[.builtin "list.append", .ref a, .type "list"], []⟩) R ⟨h, g, d, t, os⟩ := by
  have hT : (⟨h, g, d, t, os⟩ : Shared).TypeIs (.ref a) "list" := ⟨_, hx, hc⟩
  have hT5 : (⟨h, g, d, t, os⟩ : Shared).TypeIs (.builtin "list.append") "method_descriptor" := typeOf_append
  refine codeAny_call_builtin slot_md_get.plain entry_md_get (slot_md_get.check _ _ _ _ _ _ _ _ hT5 (args_md_get _ _ _) ?_)
  rw [md_get_eq]
  refine wpAny_bind (wpAny_bind (wpAny_isInstance hT sub_list_list ?_))
  rw [if_neg (by decide)]
  refine wpAny_pure (wpAny_bind ?_)
  exact wpAny_newObj_type (wpAny_pure hq) (by size_fits)

set_option maxHeartbeats 1000000 in
theorem app_entry {tk : Tok} {its : Array Value} {k : Nat} {Q : Fin → Shared → Prop} (hx : h.get? a = some { cls := .type "list", data := .seq its k }) (hq : Q (.done (.ret (.ref h.objs.size))) ⟨h.push { cls := .type "builtin_function_or_method", data := .fields #[.builtin "list.append", .ref a] }, g, d, t, os⟩) :
    wpAny (model prog w) A (Builtin.«object.__getattribute__» ⟨[.ref a, .str "append" tk], []⟩) Q E ⟨h, g, d, t, os⟩ := by
  have hT : (⟨h, g, d, t, os⟩ : Shared).TypeIs (.ref a) "list" := ⟨_, hx, rfl⟩
  have hT5 : (⟨h, g, d, t, os⟩ : Shared).TypeIs (.builtin "list.append") "method_descriptor" := typeOf_append
  have f4 := F.slot_list_append.lookup
  have f5 := typeOf_append
  have f6 := slot_md_get.lookup
  have f7 := md_set_none
  have f8 := md_del_none
  repeat (any_goals (first | assumption | wp_step))
  refine app_get hx rfl ?_
  exact wpAny_pure hq

theorem app_call {tk : Tok} {its : Array Value} {k : Nat} {R : Result → Shared → Prop} (hx : h.get? a = some { cls := .type "list", data := .seq its k }) (hq : R (.ok (.ret (.ref h.objs.size))) ⟨h.push { cls := .type "builtin_function_or_method", data := .fields #[.builtin "list.append", .ref a] }, g, d, t, os⟩) :
    codeAny (model prog w) A (.call (.builtin "list.__getattribute__") ⟨[.ref a, .str "append" tk], []⟩) R ⟨h, g, d, t, os⟩ :=
  codeAny_call_builtin F.slot_list_getattribute.plain F.entry_list_ga (F.slot_list_getattribute.check _ _ _ _ _ _ _ _ (show (⟨h, g, d, t, os⟩ : Shared).TypeIs (.ref a) "list" from ⟨_, hx, rfl⟩) (F.args_list_getattribute_2 _ _) (app_entry hx hq))

theorem app_attr {its : Array Value} {k : Nat} {Q : Value → Shared → Prop} (hx : h.get? a = some { cls := .type "list", data := .seq its k }) (hq : Q (.ref h.objs.size) ⟨h.push { cls := .type "builtin_function_or_method", data := .fields #[.builtin "list.append", .ref a] }, g, d, t + 1, os⟩) :
    wpAny (model prog w) A (getAttr (.ref a) "append" true) Q E ⟨h, g, d, t, os⟩ := by
  have hT : (⟨h, g, d, t, os⟩ : Shared).TypeIs (.ref a) "list" := ⟨_, hx, rfl⟩
  have f2 := F.slot_list_getattribute.lookup
  have f3 := F.slot_list_getattribute.bind (.ref a)
  unfold getAttr getAttrBy
  repeat (any_goals (first | assumption | wp_step))
  refine app_call hx ?_
  repeat (any_goals (first | assumption | wp_step))
end

section
variable {prog : Program} {w : World} {ρ : Addr} {h₀ : Heap} {mg mb : Str → Option Value} {G : Nat → Option D} {Sg : Sig} {gname fname : Nat → Option Str} {fa : Nat → Addr}
variable {A : Around} {s s' : Shared} {Mu₀ Mu Wr : Addr → Prop} {α : Nat → Addr} {σ : List LV} {env : Env} {c : Ctx} {n : Nat}
theorem SS.bindApp {x y nm : Str} {kx ky : Nat} {p1 p2 ap p : Pos} (hn : nm = "append") (hx : c.v.lookup x = some kx) (hy : c.v.lookup y = some ky) (hd : (y == ("__debug__" : Str)) = false) :
    SS prog w ρ h₀ G Sg A c (.bindApp kx ky) (.Assign [.Name x p1] (.Attribute (.Name y p2) nm ap) p) := by
  intro env Mu₀ Mu Wr α σ s fl σ' Q N e1 h
  subst hn
  simp only [exS] at e1
  split at e1
  · rename_i l hk
    cases e1
    obtain ⟨vs, n, ho, hr⟩ := N.lst hk
    refine wpAny_Assign_Name (PyProof.Rows.Attribute_name (own_load N hy hk hd ?_)) rfl
    obtain ⟨hp, g, d, t, os⟩ := s
    refine app_attr ho ?_
    have x2 : Ext ⟨hp, g, d, t, os⟩ ⟨hp.push { cls := .type "builtin_function_or_method", data := .fields #[.builtin "list.append", .ref (α ky)] }, g, d, t + 1, os⟩ := .kept fun b o e => Heap.get?_push_of_some _ e
    have N2 := N.ext x2 (Nat.le_succ _)
    exact store_app N2 hx (Heap.get?_push_size _ rfl) rfl rfl fun s' g' N' => h _ _ _ _ _ ((Grow.ext x2 N.N.R.tab (Nat.le_succ _)).trans g') N' trivial
  · cases e1
end
end Mine
end
section
set_option autoImplicit false
set_option maxRecDepth 100000
namespace Mine
open PySem PySem.W

theorem bkind_append : builtinKind "list.append" = some .method := by decide +kernel
theorem sub_list_module : isSubtype (.type "list") (.type "module") = pure false := by rw [isSubtype_type]; kernel_rfl
theorem varargs_append : Manifest.varargsMethods.contains "list.append" = false := by decide +kernel
theorem sig_append (a b : Value) : ∃ sig, Manifest.signature? "list.append" = some sig ∧ Bind.checkArgs "list.append" { sig with full := s!"{Bind.lastOf "list"}.{Bind.lastOf "list.append"}" } ⟨[a, b], []⟩ = pure () := by
  cases e : Manifest.signature? "list.append" with
  | none => exact absurd e (by decide +kernel)
  | some sig =>
    refine ⟨sig, rfl, ?_⟩
    have h : (match Manifest.signature? "list.append" with | some sig => Bind.checkArgs "list.append" { sig with full := s!"{Bind.lastOf "list"}.{Bind.lastOf "list.append"}" } ⟨[a, b], []⟩ | none => pure ()) = pure () := by kernel_rfl
    rw [e] at h; exact h

section
variable {prog : Program} {w : World} {A : Around} {E : Value → Shared → Prop} {s : Shared} {a : Addr} {o : Obj}
theorem bound_append {v : Value} {its : Array Value} {k : Nat} {Q : Unit → Shared → Prop} (hx : s.heap.get? a = some { cls := .type "list", data := .seq its k }) (hq : Q () s) : wpAny (model prog w) A (checkBoundCall "list.append" ⟨[.ref a, v], []⟩) Q E s := by
  have hT : s.TypeIs (.ref a) "list" := ⟨_, hx, rfl⟩
  obtain ⟨sig, h1, h2⟩ := sig_append (.ref a) v
  unfold checkBoundCall
  rw [h1, bkind_append]
  dsimp only
  rw [if_neg (by decide)]
  refine wpAny_bind (wpAny_isInstance hT sub_list_module ?_)
  rw [varargs_append, if_neg (by decide)]
  refine wpAny_bind ?_
  unfold isType
  refine wpAny_bind (wpAny_loadPart hx (wpAny_pure ?_))
  dsimp only
  rw [if_neg (by decide)]
  refine wpAny_bind (wpAny_typeOf hT ?_)
  dsimp only
  rw [h2]
  exact wpAny_pure hq
theorem call_app {q : Addr} {v : Value} {its : Array Value} {k : Nat} {Q : Value → Shared → Prop} (hq : s.heap.get? q = some o) (hc : o.cls = .type "builtin_function_or_method") (hd : o.data = .fields #[.builtin "list.append", .ref a])
    (hx : s.heap.get? a = some { cls := .type "list", data := .seq its k }) (hsz : its.size ≤ sizeLine) (h : ∀ h', h'.PlainList a (its.push v) → Heap.SameBut a s.heap h' → Q .none { s with heap := h' }) :
    wpAny (model prog w) A (call (.ref q) [v]) Q E s := by
  refine wpAny_call (codeAny_of_tree ?_)
  show wpAny _ _ (callAny (.ref q) ⟨[v], []⟩) _ _ _
  unfold callAny
  refine wpAny_bind (wpAny_load hq ?_)
  rw [hd]
  dsimp only
  rw [hc, if_pos (by decide)]
  simp only [List.getElem?_toArray, List.getElem?_cons_zero, List.getElem?_cons_succ]
  rw [if_pos (by decide)]
  refine wpAny_bind (bound_append hx ?_)
  refine wpAny_pure ⟨Code.quiet_builtin _ (by decide +kernel), codeAny_builtin F.entry_list_append ?_⟩
  show wpAny _ _ (updateSeq a (·.push v) >>= fun _ => ret .none) _ _ s
  refine wpAny_bind (wpAny_updateSeq hx rfl ?_)
  refine wpAny_pure ?_
  refine h _ ?_ (Heap.SameBut.update ..)
  exact ⟨k + 1, by rw [Heap.get?_update_self _ hx (by rw [Obj.mapSeq_push_plain]; rfl), Obj.mapSeq_push_plain]⟩
theorem callWith_app {pos : Pos} {q : Addr} {args : List (Bool × Sem Value)} {Q : Value → Shared → Prop} (hplain : args.any (·.1) = false)
    (h : wpAny (model prog w) A (evalArgs (.ref q) true args []) (fun x s₁ => (∃ o, s₁.heap.get? q = some o ∧ o.cls = .type "builtin_function_or_method" ∧ o.data = .fields #[.builtin "list.append", .ref a]) ∧ wpAny (model prog w) A (call (.ref q) x.pos x.kw) Q E s₁) E s) :
    wpAny (model prog w) A (callWith pos (.ref q) [] args []) Q E s := by
  unfold callWith
  refine wpAny_bind (wpAny_holding (wpAny_mono h (fun a s₁ h₁ => wpAny_bind (wpAny_standAt ?_)) fun _ _ x => x))
  simp only [hplain, List.any_nil, Bool.or_false]
  obtain ⟨⟨o, ho, hc, hd⟩, h₁⟩ := h₁
  refine wpAny_bind (m := keeperOf (.ref q)) ?_
  unfold keeperOf
  refine wpAny_bind (wpAny_load ho ?_)
  rw [hd]
  dsimp only
  rw [hc, if_pos (by decide), if_pos (by decide)]
  refine wpAny_pure ?_
  exact wpAny_bind (wpAny_mono h₁ (fun r s₂ hr => wpAny_bind (wpAny_holding (wpAny_point (wpAny_pure hr)))) fun _ _ x => x)
end

section
variable {prog : Program} {w : World} {ρ : Addr} {h₀ : Heap} {mg mb : Str → Option Value} {G : Nat → Option D} {Sg : Sig} {gname fname : Nat → Option Str} {fa : Nat → Addr}
variable {A : Around} {s s' : Shared} {Mu₀ Mu Wr : Addr → Prop} {α : Nat → Addr} {σ : List LV} {env : Env} {c : Ctx} {n : Nat}
theorem SS.appndB {k : Nat} {e : PE} {y : Str} {ex : Expr} {q p p2 : Pos} (hy : c.v.lookup y = some k) (hd : (y == ("__debug__" : Str)) = false) (he : Snd prog w ρ h₀ G Sg A c e ex)
    (hs : ∀ rest env, starEach (ex :: rest) env = (false, eval ex env) :: starEach rest env) : SS prog w ρ h₀ G Sg A c (.appndB k e) (.Expr (.Call (.Name y q) [ex] [] p) p2) := by
  intro env Mu₀ Mu Wr α σ s fl σ' Q N e1 h
  simp only [exS, Option.bind_eq_some_iff] at e1
  obtain ⟨z, ee, d, hz, e1⟩ := e1
  split at e1
  · rename_i j hk
    split at e1
    · rename_i l hj
      split at e1
      · rename_i hl
        cases e1
        have hb : backTo p (starEach [ex] env) = [(false, eval ex env)] := by rw [hs]; rfl
        obtain ⟨r, o, lr, ho, hc, hda⟩ := N.N.R.slots y k hy _ hk
        refine wpAny_Expr_any (wpAny_Call_NameR (wpAny_Name (load_slot N.N.O lr ?_) hd)) (by unfold interactive; rw [N.N.O.kind]; rfl)
        rw [hb]
        refine callWith_app (a := α j) rfl (Calls.evalArgs_plain (Calls.spliced_cons (he.ev N.N ee fun v s₁ x₁ t₁ v₁ => Calls.spliced_nil ?_)))
        have N1 := N.ext x₁ t₁
        have ho1 := x₁.keep _ _ (ne_gT' N.N.R.tab ho (by rw [hc]; nofun)) ho
        refine ⟨⟨o, ho1, hc, hda⟩, ?_⟩
        obtain ⟨vs, n, hlo, hr⟩ := N1.lst hj
        refine call_app ho1 hc hda hlo (by rw [List.size_toArray, hr.length, sizeLine_eq]; omega) fun h' hp hs' => ?_
        obtain ⟨g, N2⟩ := N1.putL (l' := l ++ [d]) (vs := vs ++ [v]) hj hs' (by simpa using hp) (hr.append (.cons (v₁.frozen N.N.R.toSt hz) .nil))
        exact h _ _ _ _ _ ((Grow.ext x₁ N.N.R.tab t₁).trans g) N2 trivial
      · cases e1
    · cases e1
  · cases e1
end
end Mine
end
section
set_option autoImplicit false
set_option maxRecDepth 100000
namespace Mine
open PySem PySem.W

theorem rsize_down (a b : Int) : Builtin.Range.rangeSize a b (-1) = ((a - b).toNat : Int) := by
  unfold Builtin.Range.rangeSize
  simp only [show ¬ ((-1 : Int) > 0) by decide, if_false, show (-(-1) : Int) = 1 from rfl, Int.ediv_one]
  split <;> omega
theorem rsmall_down {a b : Int} (ha : a.natAbs ≤ 1000000) (hb : b.natAbs ≤ 1000000) : Builtin.Range.small a b (-1) = true := by
  unfold Builtin.Range.small
  rw [rsize_down]
  simp only [Builtin.Range.rangeFitsLong, Bool.and_eq_true, Bool.or_eq_true, decide_eq_true_eq, beq_iff_eq, show ¬ ((-1 : Int) > 0) by decide, if_false]
  omega

section
variable {prog : Program} {w : World} {ρ : Addr} {h₀ : Heap} {mg mb : Str → Option Value} {G : Nat → Option D} {Sg : Sig} {gname fname : Nat → Option Str} {fa : Nat → Addr}
variable {A : Around} {s s' : Shared} {Mu₀ Mu Wr : Addr → Prop} {α : Nat → Addr} {σ : List LV} {env : Env} {c : Ctx} {n : Nat}

theorem rangeDownL_get {hi lo : Int} {i : Nat} (h : i < (hi - lo).toNat) : (rangeDownL hi lo)[i]? = some (.int (hi - i)) := by
  unfold rangeDownL
  rw [List.getElem?_map, List.getElem?_range h]; rfl
theorem iter_rangeDown (hh : A.handled = none) {r : Addr} {lo hi : Int} {t u v : Tok} (hr : IsRange s.heap r hi lo (-1) t u v) (h1 : hi.natAbs ≤ 1000000) (h2 : lo.natAbs ≤ 1000000) : Iter prog w ρ A Mu s (.ref r) (rangeDownL hi lo) := by
  intro Q E hq
  have hsz := rsize_down hi lo
  refine wpAny_pyIter_range hr (rsmall_down h1 h2) (hq _ ?_)
  have W := Walks.range (prog := prog) (w := w) hh s.heap.objs.size hi (-1) (hi - lo).toNat
  have hlen : (hi - lo).toNat = (rangeDownL hi lo).length := by simp [rangeDownL]
  have W' : Walks prog w A s.heap.objs.size [s.heap.objs.size] [s.heap.objs.size] (hi - lo).toNat (fun i v => i < (hi - lo).toNat ∧ ∃ t, v = .int (hi + i * (-1)) t) (fun i h => IsRangeIter h s.heap.objs.size (hi + (i : Nat) * (-1)) (((hi - lo).toNat : Int) - (i : Nat)) (-1)) :=
    { W with item := fun i s Q E hi' st hQ => W.item i s Q E hi' st fun v h' tk hP => hQ v h' tk ⟨hi', hP⟩ }
  rw [hlen] at W'
  refine ⟨_, _, _, W', ?_, ?_, ?_, fun i x e => ?_⟩
  · have : IsRangeIter (s.heap.push { cls := .type "range_iterator", data := .fields #[rawInt hi, rawInt (Builtin.Range.rangeSize hi lo (-1)), rawInt (-1)] }) s.heap.objs.size hi (Builtin.Range.rangeSize hi lo (-1)) (-1) := Heap.get?_push_size _ rfl
    rw [hsz, hlen] at this
    rw [hsz, hlen]
    simpa using this
  · intro i h' e
    have e' : h'.get? s.heap.objs.size = _ := e
    exact ⟨_, _, e', rfl, by decide⟩
  · intro b hb
    rcases List.mem_cons.mp hb with rfl | hb
    · exact .inl rfl
    · cases hb
  · obtain ⟨h3, t, rfl⟩ := e
    rw [← hlen] at h3
    refine ⟨_, rangeDownL_get h3, ?_⟩
    have : hi + (i : Int) * (-1) = hi - i := by omega
    rw [this]; exact .int _ _

theorem range3_eval (B : Base prog w ρ h₀ mg mb G gname fname fa) {e1 e2 : PE} {n1 n2 : Expr} {q p p3 p4 : Pos} {k : Nat} {i j : Int} {g1 g2 : Tag} (N : Now prog w ρ h₀ c env Mu α σ s) (hk : c.k "range" = some .globalImplicit) (h1 : Snd prog w ρ h₀ G Sg A c e1 n1)
    (h2 : Snd prog w ρ h₀ G Sg A c e2 n2) (hs1 : ∀ rest env, starEach (n1 :: rest) env = (false, eval n1 env) :: starEach rest env) (hs2 : ∀ rest env, starEach (n2 :: rest) env = (false, eval n2 env) :: starEach rest env)
    (ev1 : evE G Sg e1 σ = some (.int i, g1)) (ev2 : evE G Sg e2 σ = some (.int j, g2)) (hi : i.natAbs ≤ 1000000) (hj : j.natAbs ≤ 1000000) :
    wpAny (model prog w) A (eval (.Call (.Name "range" q) [n1, n2, .UnaryOp .USub (.Constant (.int 1) k p3) p4] [] p) env) (fun v s₁ => Ext s s₁ ∧ s.toks ≤ s₁.toks ∧ (∀ a, v = .ref a → s.heap.get? a = Option.none) ∧ ∃ r t u v', v = .ref r ∧ IsRange s₁.heap r i j (-1) t u v') NoE s := by
  refine stepT (wpAny_Call_NameR (wpAny_Name (load_built B N.O N.R.toSt hk B.range ?_)))
  have hb : backTo p (starEach [n1, n2, .UnaryOp .USub (.Constant (.int 1) k p3) p4] env) = [(false, eval n1 env), (false, eval n2 env), (false, eval (.UnaryOp .USub (.Constant (.int 1) k p3) p4) env)] := by rw [hs1, hs2]; rfl
  rw [hb]
  have h3 : Snd prog w ρ h₀ G Sg A c (.neg (.lit (.int 1))) (.UnaryOp .USub (.Constant (.int 1) k p3) p4) := Snd.neg Snd.int
  have ev3 : evE G Sg (.neg (.lit (.int 1))) σ = some (.int (-1), .fz) := rfl
  refine callWith_type rfl (Calls.evalArgs_plain (Calls.spliced_cons (h1.ev N ev1 fun v s₁ x₁ t₁ v₁ => Calls.spliced_cons (h2.ev (N.ext x₁ t₁) ev2 fun v' s₂ x₂ t₂ v₂ => Calls.spliced_cons (h3.ev ((N.ext x₁ t₁).ext x₂ t₂) ev3 fun v'' s₃ x₃ t₃ v₃ => Calls.spliced_nil ?_)))))
  have r1 := N.rw x₁ ev1 v₁
  have r2 := (N.ext x₁ t₁).rw x₂ ev2 v₂
  have r3 := ((N.ext x₁ t₁).ext x₂ t₂).rw x₃ ev3 v₃
  cases r1; cases r2; cases r3
  have X := (x₁.trans x₂).trans x₃
  exact call_range_3 (by decide) (fun t => ⟨X.trans (.kept fun _ _ e => Heap.get?_push_of_some _ e), t, (fun a q => by cases q; exact X.none N.R.tab (get_size _)), _, _, _, _, rfl, Heap.get?_push_size _ rfl⟩) (.inl (PyProof.noPylong_small (by omega)))

theorem SS.forDown (B : Base prog w ρ h₀ mg mb G gname fname fa) (hh : A.handled = none) {k kk : Nat} {hi lo : PE} {bd : PSs} {x : Str} {e1 e2 : Expr} {xs : List Stmt} {px p p2 q p3 p4 : Pos} (hx : c.v.lookup x = some k) (hk : c.k "range" = some .globalImplicit)
    (h1 : Snd prog w ρ h₀ G Sg A c hi e1) (h2 : Snd prog w ρ h₀ G Sg A c lo e2) (hs1 : ∀ rest env, starEach (e1 :: rest) env = (false, eval e1 env) :: starEach rest env) (hs2 : ∀ rest env, starEach (e2 :: rest) env = (false, eval e2 env) :: starEach rest env)
    (hb : SSs prog w ρ h₀ G Sg A c bd xs) : SS prog w ρ h₀ G Sg A c (.forDown k hi lo bd) (.For (.Name x px) (.Call (.Name "range" q) [e1, e2, .UnaryOp .USub (.Constant (.int 1) kk p3) p4] [] p2) xs [] p) := by
  intro env Mu₀ Mu Wr α σ s fl σ' Q N e h
  simp only [exS, Option.bind_eq_some_iff] at e
  obtain ⟨⟨d1, g1⟩, ev1, ⟨d2, g2⟩, ev2, e⟩ := e
  dsimp only at e
  split at e
  · rename_i i j
    split at e
    · rename_i hij
      refine for_stmt (od := .nil) N (wpAny_mono (range3_eval B N.N hk h1 h2 hs1 hs2 ev1 ev2 hij.1 hij.2) (fun v s₁ ⟨x₁, t₁, hn, r, t, u, v', hv, hr⟩ => ⟨x₁, t₁, ?_, ?_⟩) fun _ _ e => e) (fun _ => rfl) (binds_name hx) hb SSs.nil (by simpa only [exSs] using e) h
      · subst hv; exact iter_rangeDown hh hr hij.1 hij.2
      · exact fun a q h => by have := N.N.R.mu a h; rw [hn a q] at this; cases this
    · cases e
  · cases e
end
end Mine
end
section
set_option autoImplicit false
set_option maxRecDepth 100000
namespace Mine
open PySem PySem.W

section
variable {prog : Program} {w : World} {ρ : Addr} {h₀ : Heap} {mg mb : Str → Option Value} {G : Nat → Option D} {Sg : Sig} {gname fname : Nat → Option Str} {fa : Nat → Addr}
variable {A : Around} {s s' : Shared} {Mu₀ Mu Wr : Addr → Prop} {α : Nat → Addr} {σ : List LV} {env : Env} {c : Ctx} {n : Nat}

theorem tx_len (l : List Nat) : (tx l).length = l.length := by simp [tx, Str.length]
theorem tx_app (x y : List Nat) : tx x ++ tx y = tx (x ++ y) := by
  show (⟨_⟩ : Str) = _
  simp [tx]
theorem SE.fstr {pre post : List Nat} {s1 s2 : Str} {k1 k2 : Nat} {p1 p2 p3 p : Pos} {e : PE} {ex : Expr} (h1 : s1 = tx pre) (h2 : s2 = tx post) (hl1 : pre.length ≤ 100) (hl2 : post.length ≤ 100) (he : Snd prog w ρ h₀ G Sg A c e ex) :
    SE prog w ρ h₀ G Sg A c (.fstr pre e post) (.JoinedStr [.Constant (.str s1) k1 p1, .FormattedValue ex (-1) none p2, .Constant (.str s2) k2 p3] p) := by
  intro env Mu α σ s r Q N e1 h
  subst h1 h2
  simp only [evE, Option.bind_eq_some_iff] at e1
  obtain ⟨⟨d, tg⟩, ee, e1⟩ := e1
  dsimp only at e1
  split at e1
  · rename_i x
    split at e1
    · rename_i hl
      cases e1
      have e0 : Str.empty ++ tx pre = tx pre := by show (⟨_⟩ : Str) = _; simp [tx, Str.empty]
      refine stepT (PyProof.Rows.JoinedStr_many (PyProof.Rows.joinParts_cons (wpAny_Constant_str ⟨?_, PyProof.Rows.joinParts_cons (PyProof.Rows.FormattedValue_plain ?_)⟩)))
      · rw [e0, tx_len, sizeLine_eq]; omega
      · have x0 : Ext s { s with toks := s.toks + 1 } := .toks
        have N0 := N.ext x0 (Nat.le_succ _)
        refine he.ev N0 ee fun v s₁ x₁ t₁ v₁ => ?_
        have r1 := N0.rw x₁ ee v₁
        cases r1 with
        | str _ t =>
        have ez : ∀ z : List Nat, (⟨z.toArray⟩ : Str) = tx z := fun _ => rfl
        refine PyProof.Rows.formatField_str (fun t' tk => ?_) (by rw [ez, tx_len, sizeLine_eq]; omega)
        rw [e0, ez]
        dsimp only
        rw [tx_app]
        refine ⟨by rw [tx_len, List.length_append, sizeLine_eq]; omega, ?_⟩
        refine PyProof.Rows.joinParts_cons (wpAny_Constant_str ⟨?_, PyProof.Rows.joinParts_nil ?_ ?_⟩)
        · rw [tx_app, tx_len, List.length_append, List.length_append, sizeLine_eq]; omega
        · intro ht
          rw [tx_app]
          exact h _ _ ((x0.trans x₁).trans .toks) ht (RD.str _ _)
        · rw [tx_app, tx_len, List.length_append, List.length_append, sizeLine_eq]; omega
    · cases e1
  · cases e1
end
end Mine
end
section
set_option autoImplicit false
set_option maxRecDepth 100000
namespace Mine
open PySem PySem.W

theorem occ_free {l : List Nat} {c n : Nat} (h : c ∉ l) (hn : 1 ≤ n) : Builtin.Str.occurrences (tx l) ⟨#[c]⟩ 0 (tx l).length n = [] := by
  have no : ∀ i, ¬ StrLaws.At (tx l) ⟨#[c]⟩ (tx l).length i := fun i q => by
    rw [tx_len] at q
    exact h (List.mem_of_getElem? (at_one.mp q))
  rcases StrLaws.occ_head (tx l) ⟨#[c]⟩ n hn with ⟨e, _⟩ | ⟨i, _, _, q, _⟩
  · exact e
  · exact absurd q (no i)

section
variable {prog : Program} {w : World} {ρ : Addr} {h₀ : Heap} {mg mb : Str → Option Value} {G : Nat → Option D} {Sg : Sig} {gname fname : Nat → Option Str} {fa : Nat → Addr}
variable {A : Around} {E : Value → Shared → Prop} {s s' : Shared} {Mu₀ Mu Wr : Addr → Prop} {α : Nat → Addr} {σ : List LV} {env : Env} {c : Ctx} {n : Nat}

/-- a replacement that finds nothing asks no token -/
theorem repl_none {l z : List Nat} {g : Nat} {t u v : Tok} {Q : Value → Shared → Prop} (hg : g ∉ l) (hn : NoneBooked s.heap) (h : Q (.str (tx l) t) s) :
    wpAny (model prog w) A (call (.builtin "str.replace") [.str (tx l) t, .str (tx [g]) u, .str (tx z) v]) Q E s := by
  have ho : Builtin.Str.occurrences (tx l) (tx [g]) 0 (tx l).length ((tx l).length + 1) = [] := occ_free hg (by omega)
  refine call_givesAt F.slot_str_replace (typeIs_str _ _ _) F.entry_str_replace (F.args_str_replace_3 _ _ _) (gives_str_replace2 (tx l) (tx [g]) (tx z) t u v ?_) hn ?_
  · rw [ho]; nofun
  · rw [ho]
    exact h

/-- the code object of the generator, found or made -/
theorem gen_code {M : Model} {env : Env} {pos : Pos} {qual : Str} {scope : Scope} {Q : Value → Shared → Prop} (hc : env.code = .ref gC) (T : TabInv s.heap)
    (hQ : ∀ code h' tk, (∀ b o, b ≠ gT → s.heap.get? b = some o → h'.get? b = some o) → TabInv h' → Q code { s with heap := h', toks := tk }) : wpAny M A (genexprCode env pos qual scope) Q E s := by
  obtain ⟨C, ps, hP, ht⟩ := id T
  cases hf : codeAmong pos ps.toList with
  | some cv =>
    have : wpAny M A (genexprCode env pos qual scope) Q E s := by
      unfold genexprCode
      exact wpAny_codeAt_hit hc (C.code hP ht) hf (hQ cv s.heap s.toks (fun _ _ _ e => e) T)
    exact this
  | none =>
    refine wpAny_genexprCodeX hc (C.code hP ht) (C.tab hP) hf fun c' h₃ tk₃ hx₃ hge hlt hcode₃ _ htab₃ _ => ?_
    refine hQ _ _ _ (fun b o n e => hx₃ b o n e) ⟨CodeHd.of hcode₃ htab₃, _, htab₃.2, ?_⟩
    obtain ⟨_, _, _, _, _, _, _, _, _, _, _, _, _, _, _, _, _, _, _, r, _⟩ := hcode₃
    exact r

theorem tx_str (x : Str) : x = tx x.cps.toList := by cases x; rfl
theorem elt_eval {cenv : Env} {m₂ : Str → Option Value} {l : List Nat} {t : Tok} {p1 ap1 c1 c2 q1 ap2 c3 c4 q2 : Pos} {k1 k2 k3 k4 : Nat} (hk : cenv.scope.kind = .function) (hl : cenv.kindOf "s" = some .local) (hn : s.heap.Ns cenv.locals m₂)
    (hm : m₂ "s" = some (.str (tx l) t)) (hb : NoneBooked s.heap) (h92 : 92 ∉ l) (hlen : l.length ≤ 1000) (e1 : (ap1.endLine == q1.line) = true) (e2 : (ap2.endLine == q2.line) = true) :
    wpAny (model prog w) A (eval (.Call (.Attribute (.Call (.Attribute (.Name "s" p1) "replace" ap1) [.Constant (.str "\\") k1 c1, .Constant (.str "\\\\") k2 c2] [] q1) "replace" ap2) [.Constant (.str "-") k3 c3, .Constant (.str "\\-") k4 c4] [] q2) cenv)
      (fun y s₃ => (∃ u, y = .str (tx (replace1 45 [92, 45] l)) u) ∧ Keeps s s₃) NoE s := by
  have t1 : ("\\" : Str) = tx [92] := by decide +kernel
  have t2 : ("\\\\" : Str) = tx [92, 92] := by decide +kernel
  have t3 : ("-" : Str) = tx [45] := by decide +kernel
  have t4 : ("\\-" : Str) = tx [92, 45] := by decide +kernel
  refine wpAny_Call_method_late rfl rfl e2 rfl (wpAny_Call_method_late rfl rfl e1 rfl (wpAny_Name (wpAny_loadName_local hk hl hn hm ?_) rfl))
  refine on_str (m := .replace) rfl (PyProof.Rows.callWith_method1 (PyProof.Rows.args_cons (wpAny_Constant_str (PyProof.Rows.args_cons (wpAny_Constant_str (PyProof.Rows.args_nil ?_))))))
  rw [t1, t2]
  refine repl_none h92 hb ?_
  refine on_str (m := .replace) rfl (PyProof.Rows.callWith_method1 (PyProof.Rows.args_cons (wpAny_Constant_str (PyProof.Rows.args_cons (wpAny_Constant_str (PyProof.Rows.args_nil ?_))))))
  rw [t3, t4]
  refine SC.replaceA (s := { s with toks := s.toks + 1 + 1 + 1 + 1 }) (by show s.toks + 1 + 1 ≠ 0; omega) (by show s.toks + 1 + 1 + 1 ≠ 0; omega) (by show s.toks + 1 + 1 ≠ s.toks + 1 + 1 + 1; omega) ?_ (fun t' k => ?_) hb
  · rw [tx_len, tx_len]; simp; omega
  · rw [show tx [45] = (⟨#[45]⟩ : Str) from rfl, replace_eq]
    exact ⟨⟨_, rfl⟩, _, _, rfl, fun _ _ e => e⟩
end
end Mine
end
section
set_option autoImplicit false
set_option maxRecDepth 100000
namespace Mine
open PySem PySem.W

/-- the module of the built-in names, in the base -/
structure Base3 (h₀ : Heap) (mg : Str → Option Value) : Prop where
  bm : ∃ bm ob, PyProof.Rows.BMod h₀ PySem.mainGlobals mg bm ob ∧ bm ≠ gT

section
variable {prog : Program} {w : World} {ρ : Addr} {h₀ : Heap} {mg mb : Str → Option Value} {G : Nat → Option D} {Sg : Sig} {gname fname : Nat → Option Str} {fa : Nat → Addr}
variable {A : Around} {E : Value → Shared → Prop} {s s' : Shared} {Mu₀ Mu Wr : Addr → Prop} {α : Nat → Addr} {σ : List LV} {env : Env} {c : Ctx} {n : Nat}

theorem bmod_now {h : Heap} (B : Base prog w ρ h₀ mg mb G gname fname fa) (B3 : Base3 h₀ mg) (k : ∀ b o, b ≠ gT → h₀.get? b = some o → h.get? b = some o) : ∃ bm ob, PyProof.Rows.BMod h PySem.mainGlobals mg bm ob := by
  obtain ⟨bm, ob, M, hne⟩ := B3.bm
  exact ⟨bm, ob, (let ⟨o, es, ep, ho, r⟩ := M.ns; ⟨o, es, ep, k _ _ B.ne.1 ho, r⟩), M.name, M.ne, k _ _ hne M.obj, M.cls, M.dict, M.data⟩

/-- the elements that the generator gives -/
def repE (m : Nat) : PE := .meth .replace (.meth .replace (.var m) (.cons (.lit (.str [92])) (.cons (.lit (.str [92, 92])) .nil))) (.cons (.lit (.str [45])) (.cons (.lit (.str [92, 45])) .nil))
def repD : List Nat → List Nat := replace1 45 [92, 45]
theorem replace1_free {g : Nat} {z : List Nat} : ∀ {l : List Nat}, g ∉ l → replace1 g z l = l
  | [], _ => rfl
  | a :: l, h => by
    have h1 : (a == g) = false := by simpa using fun e : a = g => h (e ▸ .head _)
    show (if a == g then z else [a]) ++ replace1 g z l = _
    rw [h1, replace1_free fun q => h (.tail _ q)]
    rfl
theorem rep_eval {x : List Nat} {d : D} (h : 92 ∉ x) (e : (evE G Sg (repE σ.length) (σ ++ [.fz (.str x)])).bind kept = some d) : d = .str (repD x) := by
  have ev : (σ ++ [LV.fz (D.str x)])[σ.length]? = some (.fz (.str x)) := by simp
  unfold repE at e
  simp only [evE, evB, ev, Option.bind_some, Option.map_some, LV.get, Option.bind_eq_some_iff] at e
  obtain ⟨r, ⟨r1, e1, e2⟩, e3⟩ := e
  simp only [methOp] at e1
  split at e1
  · cases e1
    simp only [methOp] at e2
    split at e2
    · cases e2
      cases e3
      rw [replace1_free h]; rfl
    · cases e2
  · cases e1
theorem map_rep {f : D → Option D} : ∀ {l l' : List D}, mapE f l = some l' → l.all noBs = true → (∀ x d, 92 ∉ x → f (.str x) = some d → d = .str (repD x)) → ∃ xs : List (List Nat), l = xs.map .str ∧ l' = xs.map (fun x => .str (repD x)) ∧ (∀ x ∈ xs, 92 ∉ x ∧ x.length ≤ 1000)
  | [], _, e, _, _ => by cases e; exact ⟨[], rfl, rfl, nofun⟩
  | d :: r, l', e, h, hf => by
    simp only [mapE, Option.bind_eq_some_iff, Option.map_eq_some_iff] at e
    obtain ⟨y, e1, r', e2, rfl⟩ := e
    simp only [List.all_cons, Bool.and_eq_true] at h
    obtain ⟨xs, rfl, rfl, h3⟩ := map_rep e2 h.2 hf
    cases d with
    | str x =>
      have hb := h.1
      simp only [noBs, Bool.and_eq_true, Bool.not_eq_true', decide_eq_true_eq] at hb
      have h92 : 92 ∉ x := by simpa using hb.1
      obtain rfl := hf x y h92 e1
      exact ⟨x :: xs, rfl, rfl, fun z hz => by
        rcases List.mem_cons.mp hz with rfl | hz
        · exact ⟨h92, hb.2⟩
        · exact h3 z hz⟩
    | _ => simp [noBs] at h
theorem strsOf_map (f : List Nat → List Nat) : ∀ xs : List (List Nat), strsOf (xs.map fun x => D.str (f x)) = some (xs.map f)
  | [] => rfl
  | x :: xs => by simp [strsOf, strsOf_map f xs]

theorem passing_all (n : Nat) : passing (fun _ => true) n 0 = List.range n := by
  unfold passing
  rw [List.drop_zero]
  exact List.filter_eq_self.mpr fun _ _ => rfl

theorem strVals {xs : List (List Nat)} : ∀ (l : List (Str × Tok)), (strValues l).length = xs.length → (∀ (j : Nat) (v : Value), (strValues l)[j]? = some v → ∃ x u, xs[j]? = some x ∧ v = Value.str (tx (repD x)) u) → l.map (·.1) = (xs.map repD).map tx := by
  intro l hlen h
  have el : (strValues l).length = l.length := by unfold strValues; simp
  refine List.ext_getElem? fun j => ?_
  rw [List.getElem?_map, List.getElem?_map, List.getElem?_map]
  by_cases hj : j < l.length
  · have e1 : (strValues l)[j]? = some (.str l[j].1 l[j].2) := by
      unfold strValues
      rw [List.getElem?_map, List.getElem?_eq_getElem hj]; rfl
    obtain ⟨x, u, hx, e2⟩ := h j _ e1
    rw [hx, List.getElem?_eq_getElem hj]
    have e3 : l[j].1 = tx (repD x) := by injection e2
    exact congrArg some e3
  · rw [List.getElem?_eq_none (by omega), List.getElem?_eq_none (by omega)]; rfl

theorem SE.joinG (B : Base prog w ρ h₀ mg mb G gname fname fa) (B3 : Base3 h₀ mg) (hh : A.handled = none) (hroom : A.depth < recursionLimit) {k : Nat} {y : Str} {pc pl px pos ap p p1 ap1 c1 c2 q1 ap2 c3 c4 q2 : Pos} {k0 k1 k2 k3 k4 : Nat} {scope : Scope}
    (hy : c.v.lookup y = some k) (hd : (y == ("__debug__" : Str)) = false) (hcode : c.k ("_twin_re_1" : Str) ≠ none) (hline : (ap.endLine == p.line) = true) (e1 : (ap1.endLine == q1.line) = true) (e2 : (ap2.endLine == q2.line) = true)
    (hsc : scope = { kind := .function, names := [(".0", .local), ("s", .local)], isGenerator := true, isCoroutine := false, more := [] }) :
    SE prog w ρ h₀ G Sg A c (.joinG (.lit (.str [45])) (repE c.n) (.var k)) (.Call (.Attribute (.Constant (.str "-") k0 pc) "join" ap) [.GeneratorExp (.Call (.Attribute (.Call (.Attribute (.Name "s" p1) "replace" ap1) [.Constant (.str "\\") k1 c1, .Constant (.str "\\\\") k2 c2] [] q1) "replace" ap2) [.Constant (.str "-") k3 c3, .Constant (.str "\\-") k4 c4] [] q2) [⟨.Name "s" px, .Name y pl, [], 0⟩] scope pos] [] p) := by
  intro env Mu α σ s r Q N e h
  subst hsc
  simp only [evE, Option.bind_some, Option.bind_eq_some_iff] at e
  obtain ⟨⟨d, tg⟩, ev, e⟩ := e
  have ev : evE G Sg (.var k) σ = some (d, tg) := by
    simp only [evE, Option.bind_eq_some_iff]; exact ev
  dsimp only at e
  split at e
  · rename_i ds
    split at e
    · rename_i hds
      simp only [Bool.and_eq_true, decide_eq_true_eq] at hds
      obtain ⟨l', hm, e⟩ := Option.bind_eq_some_iff.mp e
      rw [← N.L] at hm
      obtain ⟨xs, rfl, rfl, hxs⟩ := map_rep hm hds.1 fun x d h e => rep_eval h e
      have hlen : xs.length ≤ 1000 := by simpa using hds.2
      simp only [methOp, strsOf_map, Option.bind_some] at e
      split at e
      · rename_i hj
        cases e
        have hok := join_room (sep := [45]) hj.1 hj.2.1 hj.2.2
        have t3 : ("-" : Str) = tx [45] := by decide +kernel
        refine stepT (wpAny_Call_method_late rfl rfl hline rfl (wpAny_Constant_str ?_))
        rw [t3]
        refine on_str (m := .join) rfl (PyProof.Rows.callWith_method1 (PyProof.Rows.args_cons ?_))
        have x0 : Ext s { s with toks := s.toks + 1 } := .toks
        have N0 := N.ext x0 (Nat.le_succ _)
        refine wpAny_GeneratorExp_walksQ hh rfl (cl := []) rfl (by intro z hz; simp at hz; rcases hz with rfl | rfl <;> nofun) (by decide +kernel) (by decide +kernel) rfl hroom ?_ (fun _ => rfl)
        refine (Snd.var (G := G) (Sg := Sg) hy hd).ev N0 ev fun v s₁ x₁ t₁ v₁ => ?_
        have N1 := N0.ext x₁ t₁
        obtain ⟨a, vs, rfl, pl, hr⟩ := N0.rw x₁ ev v₁
        refine wpAny_pyIter_list pl.isList ⟨?_, ?_⟩
        · obtain ⟨mc, hmc, hm⟩ := B.nolim
          exact ⟨mc, (ns_keep N1.R.toSt hmc B.ne.2.2).push _, hm⟩
        have x2 : Ext s₁ { s₁ with heap := s₁.heap.push { cls := .type "list_iterator", data := .fields #[.ref a, .int 0 0] } } := .push
        have N2 := N1.ext x2 (Nat.le_refl _)
        have hI : s₁.heap.get? s₁.heap.objs.size = none := newer (Nat.le_refl _)
        obtain ⟨na, ho⟩ := id pl
        have hlt : a < s₁.heap.objs.size := Heap.lt_size ho
        have haT : a ≠ gT := ne_gT' N1.R.tab ho nofun
        have hIT : s₁.heap.objs.size ≠ gT := fun q => by
          have := N1.R.tab.has (.inr rfl); rw [← q, hI] at this; cases this
        refine gen_code (N.O.code hcode) N2.R.tab fun code h₃ tk₃ k₃ T₃ => ?_
        have x3 : Ext s₁ { s₁ with heap := h₃, toks := tk₃ } := ⟨fun b o n q => k₃ b o n (Heap.get?_push_of_some _ q), fun _ => T₃, rfl, id⟩
        have R3 := N1.R.toSt.ext x3
        obtain ⟨bm, ob, M⟩ := bmod_now (h := h₃) B B3 R3.keep
        rw [N.O.globals]
        refine wpAny_builtinsFor M.ns M.name M.ne M.obj M.cls M.dict M.data ?_
        have hz : s₁.heap.objs.size < h₃.objs.size := by
          have := k₃ s₁.heap.objs.size _ hIT (Heap.get?_push_size _ rfl)
          exact Heap.lt_size this
        have hlim : h₃.NoLimit := by
          obtain ⟨mc, hmc, hm⟩ := B.nolim
          exact ⟨mc, ns_keep R3 hmc B.ne.2.2, hm⟩
        have hcw : cStatics ∉ [s₁.heap.objs.size] := fun q => by
          obtain ⟨mc, hmc, hm⟩ := B.nolim
          obtain ⟨o, _, _, q2, _⟩ := ns_keep N1.R.toSt hmc B.ne.2.2
          have : cStatics = s₁.heap.objs.size := by simpa using q
          rw [this, hI] at q2; cases q2
        refine ⟨s₁.heap.objs.size, [s₁.heap.objs.size, a], [s₁.heap.objs.size], vs.toArray.size, _, _, (fun _ => true), (fun i z => ∃ x u, xs[i]? = some x ∧ z = Value.str (tx (repD x)) u), rfl, (fun A' hA => Walks.list hA _ _ (Nat.ne_of_lt hlt) vs.toArray), ?_, ?_, hlim, hcw, ?_, ?_⟩
        · exact ⟨⟨_, k₃ _ _ hIT (Heap.get?_push_size _ rfl), rfl, rfl⟩, ⟨_, k₃ _ _ haT (Heap.get?_push_of_some _ ho), rfl, na, rfl⟩⟩
        · intro b hb
          show b < h₃.objs.size
          rcases List.mem_cons.mp hb with rfl | hb
          · exact hz
          · rcases List.mem_cons.mp hb with rfl | hb
            · exact Nat.lt_trans hlt hz
            · cases hb
        · intro href hk
          have hsl : ([((".0" : Str), NameKind.local), (("s" : Str), NameKind.local)].lookup ("s" : Str)) = some NameKind.local := by decide +kernel
          refine ⟨fun A' E' i v s₂ m₂ _ _ _ _ _ => wpAny_pure ⟨rfl, _, _, rfl, fun _ _ e => e⟩, fun A' E' i v s₂ m₂ _ hP _ hn hmx hkp => ?_⟩
          obtain ⟨d, hd1, hd2⟩ := hr.gets hP
          rw [List.getElem?_map] at hd1
          obtain ⟨x, hx, rfl⟩ := Option.map_eq_some_iff.mp hd1
          cases hd2
          rename_i t
          obtain ⟨h92, hlx⟩ := hxs x (List.mem_of_getElem? hx)
          have hb : NoneBooked s₂.heap := by
            obtain ⟨mc, hc, hm⟩ := B.nb
            obtain ⟨o, es, ep, q, r⟩ := ns_keep R3 hc B.ne.2.2
            exact ⟨mc, ⟨o, es, ep, hkp _ (List.mem_range.mpr (Heap.lt_size q)) hcw _ (hk _ _ q), r⟩, hm⟩
          exact wpAny_mono (elt_eval (t := t) rfl hsl hn hmx hb h92 hlx e1 e2) (fun y s₃ ⟨⟨u, hu⟩, hK⟩ => ⟨⟨x, u, hx, hu⟩, hK⟩) fun _ _ q => q.elim
        · intro g h₅ tk gs hbare hag hsz₅ hk₅ W hat
          refine PyProof.Rows.args_nil ?_
          rw [passing_all] at W
          have hvl : vs.toArray.size = xs.length := by rw [List.size_toArray, hr.length, List.length_map]
          have hgi : ∀ j i, (List.range vs.toArray.size)[j]? = some i → i = j := fun j i q => by
            obtain ⟨h1, h2⟩ := List.getElem?_eq_some_iff.mp q
            simpa using h2.symm
          refine SC.joinGen (x := tx [45]) W.in4_2 (fun i s' st => st.1.typeIs) hat ?_ (.head _) ?_ ?_ (by rw [List.length_range, hvl, sizeLine_eq]; omega)
          · intro b hb
            show b < h₅.objs.size
            rw [hsz₅]
            rcases List.mem_cons.mp hb with rfl | hb
            · exact Nat.lt_succ_self _
            · rcases List.mem_cons.mp hb with rfl | hb
              · exact Nat.lt_succ_of_lt hag
              · exact Nat.lt_succ_of_lt (Nat.lt_trans (List.mem_range.mp hb) hag)
          · rintro i v ⟨_, _, x, u, _, rfl⟩
            exact ⟨_, u, rfl⟩
          · intro s' l mv it
            have hl := strVals (xs := xs) l (by have := it.1; rw [List.size_toArray, List.length_range] at this; omega) fun j v q => by
              obtain ⟨i, q1, x, u, q2, q3⟩ := it.2 j v (by simpa using q)
              rw [hgi j i q1] at q2
              exact ⟨x, u, q2, q3⟩
            rw [hl]
            refine ⟨hok, fun t' kk ht => ?_⟩
            rw [txt_join_eq]
            refine h _ _ ?_ ht (RD.str _ _)
            have hnew : ∀ b o, s₁.heap.get? b = some o → b ∉ [h₃.objs.size, s₁.heap.objs.size] := fun b o q hb => by
              have hlt := Heap.lt_size q
              rcases List.mem_cons.mp hb with e | hb
              · exact Nat.lt_irrefl _ (Nat.lt_trans hz (show h₃.objs.size < s₁.heap.objs.size from e ▸ hlt))
              · rcases List.mem_cons.mp hb with e | hb
                · exact Nat.lt_irrefl _ (show s₁.heap.objs.size < s₁.heap.objs.size from e ▸ hlt)
                · cases hb
            refine (x0.trans x₁).trans ⟨fun b o n q => mv.heap b o (hnew b o q) (hk₅ b o (x3.keep b o n q)), fun _ => T₃.only fun b o hb q => mv.heap b o ?_ (hk₅ b o q), mv.os, fun q => ?_⟩
            · have : (s₁.heap.get? b).isSome = true := N1.R.tab.has hb
              obtain ⟨o', ho'⟩ := Option.isSome_iff_exists.mp this
              exact hnew b o' ho'
            · exact mv.gens.bare (PyProof.Rows.AllBare.push q hbare)
      · cases e
    · cases e
  · cases e
end
end Mine
end
section
set_option autoImplicit false
set_option maxRecDepth 100000
namespace Mine
open PySem PySem.W

theorem slot_pat_sub : Slot "re.Pattern" "sub" "re.Pattern.sub" :=
  .of (owner := "re.Pattern") (n := "sub") (by rw [typeLookup_type, builtinLookup_eq_fast]; kernel_rfl) (by decide +kernel) (by decide +kernel) (by decide +kernel)
    (by first | exact .inl (by decide +kernel) | exact .inr (by decide +kernel)) (by rw [isSubtype_type]; kernel_rfl)
theorem type_pat_sub : typeOf (.builtin "re.Pattern.sub") = pure (.type "method_descriptor") := by show builtinType _ = _; rw [builtinType_eq_fast]; kernel_rfl
theorem entry_pat_sub : entryFor table "re.Pattern.sub" = some Builtin.«re.Pattern.sub» := entryFor_of_tree (by kernel_rfl)
theorem entry_pat_loop : entryFor table "re.Pattern.sub.loop" = some Builtin.«re.Pattern.sub.loop» := entryFor_of_tree (by kernel_rfl)
theorem args_pat_sub (a b c : Value) : argsOk "re.Pattern.sub" ⟨[a, b, c], []⟩ := by unfold argsOk; kernel_rfl

def CODE : Array Nat := #[14, 14, 4, 1, 1, 9, 0, 64, 0, 1342177280, 0, 0, 0, 0, 0, 17, 0, 13, 11, 9, 0, 64, 0, 1342177280, 0, 0, 0, 0, 0, 17, 1, 1]
def patObj (cd : Addr) (t0 t1 : Tok) : Obj := { cls := .type "re.Pattern", data := .fields #[.str "([&~|])" t0, .int 32 t1, .int 1 0, .none, .none, .ref cd, .int 0 0] }
/-- the pattern object, and its code, in a heap -/
def PatAt (h : Heap) (a : Addr) : Prop := ∃ cd t0 t1 o, h.get? a = some (patObj cd t0 t1) ∧ h.get? cd = some o ∧ o.cls = .type "tuple" ∧ ∃ n, o.data = .seq (CODE.map fun i => Value.int (i : Nat) 0) n

def stepsTo : Nat → Sre.M → Option Sre.M
  | 0, _ => none
  | k + 1, m => if (m.runFor Builtin.Re.reTurnSteps).outcome.isSome then some (m.runFor Builtin.Re.reTurnSteps) else stepsTo k (m.runFor Builtin.Re.reTurnSteps)
def isFailed : Option Sre.Outcome → Bool
  | some .failed => true
  | _ => false
def subFails (s : List Nat) : Bool := match stepsTo 40 (Sre.forSearch CODE s.toArray 1 0 s.length false) with
  | some m => isFailed m.outcome
  | none => false

section
variable {M : Model} {A : Around} {E : Value → Shared → Prop} {s : Shared}
theorem drive_ok : ∀ {k n : Nat} {m m' : Sre.M} {Q : Sre.M → Shared → Prop}, k ≤ n → stepsTo k m = some m' → Q m' s → wpAny M A (Builtin.Re.reDrive n m) Q E s
  | 0, _, _, _, _, _, e, _ => by cases e
  | k + 1, 0, _, _, _, h, _, _ => by omega
  | k + 1, n + 1, m, m', Q, h, e, hq => by
    unfold stepsTo at e
    show wpAny M A (if (m.runFor Builtin.Re.reTurnSteps).outcome.isSome then pure (m.runFor Builtin.Re.reTurnSteps) else do rule "sre.turn"; Builtin.Re.reDrive n (m.runFor Builtin.Re.reTurnSteps)) Q E s
    split at e
    · rename_i h1
      rw [if_pos h1]
      cases e
      exact wpAny_pure hq
    · rename_i h1
      rw [if_neg h1]
      exact wpAny_bind (wpAny_rule (drive_ok (by omega) e hq))
theorem rules_ok {p : Nat → Bool} {f : Nat → String} {Q : PUnit → Shared → Prop} (h : Q ⟨⟩ s) : ∀ l : List Nat, wpAny M A (forIn l PUnit.unit fun i _ => do
      if p i = true then do rule (f i); pure (ForInStep.yield PUnit.unit) else pure (ForInStep.yield PUnit.unit)) Q E s
  | [] => by rw [List.forIn_nil]; exact wpAny_pure h
  | i :: l => by
    rw [List.forIn_cons]
    refine wpAny_bind ?_
    split
    · exact wpAny_bind (wpAny_rule (wpAny_pure (rules_ok h l)))
    · exact wpAny_pure (rules_ok h l)
theorem run_fails {m m' : Sre.M} {Q : Option Sre.M → Shared → Prop} (e : stepsTo 40 m = some m') (ho : isFailed m'.outcome = true) (h : Q none s) : wpAny M A (Builtin.Re.reRunToEnd m) Q E s := by
  unfold Builtin.Re.reRunToEnd
  refine wpAny_bind (drive_ok (by decide) e ?_)
  refine wpAny_bind (rules_ok ?_ _)
  have : m'.outcome = some .failed := by
    revert ho; unfold isFailed; split <;> simp_all
  rw [this]
  exact wpAny_pure h
end

section
variable {prog : Program} {w : World} {ρ : Addr} {h₀ : Heap} {mg mb : Str → Option Value} {G : Nat → Option D} {Sg : Sig} {gname fname : Nat → Option Str} {fa : Nat → Addr}
variable {A : Around} {s s' : Shared} {Mu₀ Mu Wr : Addr → Prop} {α : Nat → Addr} {σ : List LV} {env : Env} {c : Ctx} {n : Nat}

theorem code_raw : ((CODE.map fun i => Value.int (i : Nat) 0).map Builtin.Re.reRawOf).map (·.toNat) = CODE := by decide +kernel
theorem whole_target {a : Addr} {l : List Nat} {t : Tok} {Q : Builtin.Re.ReTarget → Shared → Prop} {E : Value → Shared → Prop} (hp : PatAt s.heap a)
    (h : Q { pattern := .ref a, string := .str (tx l) t, code := CODE, text := l.toArray, kind := 0, groups := 1, pos := 0, lim := l.length } s) : wpAny (model prog w) A (Builtin.Re.reWholeTarget (.ref a) (.str (tx l) t)) Q E s := by
  obtain ⟨cd, t0, t1, o, h1, h2, h3, n, h4⟩ := hp
  unfold Builtin.Re.reWholeTarget
  refine wpAny_bind (wpAny_fieldsOf h1 rfl ?_)
  refine wpAny_bind (m := Builtin.Re.reTextOf (.str (tx l) t)) ?_
  refine wpAny_pure ?_
  show wpAny _ _ (do
    Builtin.Re.reNoCollectionInside (.str (tx l) t) 0
    let its ← Builtin.Re.reRawItems (.ref cd)
    pure ({ pattern := .ref a, string := .str (tx l) t, code := its.map (·.toNat), text := l.toArray, kind := 0, groups := 1, pos := 0, lim := l.length } : Builtin.Re.ReTarget)) Q E s
  refine wpAny_bind (wpAny_pure ?_)
  refine wpAny_bind ?_
  unfold Builtin.Re.reRawItems
  refine wpAny_bind (wpAny_seqItems h2 h4 (wpAny_pure ?_))
  show wpAny _ _ (pure _) Q E s
  rw [show ((some (Array.map (fun i : Nat => Value.int (i : Int) 0) CODE)).getD #[]) = Array.map (fun i : Nat => Value.int (i : Int) 0) CODE from rfl, code_raw]
  exact wpAny_pure h

theorem sub_loop {a f L : Addr} {l : List Nat} {t : Tok} {k : Nat} {R : Result → Shared → Prop} (hp : PatAt s.heap a) (hf : subFails l = true) (hl : l.length ≤ 1000) (hL : s.heap.get? L = some { cls := .type "list", data := .seq #[] k })
    (h : ∀ t' h' s', Heap.SameBut L s.heap h' → Ext { s with heap := h' } s' → R (.ok (.ret (.str (tx l) t'))) s') :
    codeAny (model prog w) A (.builtin "re.Pattern.sub.loop" ⟨[.ref a, .str (tx l) t, .ref f, rawInt 1, rawInt 0, rawInt 0, rawInt 0, rawInt 0, .bool false, .ref L, .bool false], []⟩) R s := by
  refine codeAny_builtin entry_pat_loop ?_
  unfold Builtin.«re.Pattern.sub.loop»
  refine wpAny_bind (whole_target hp ?_)
  refine wpAny_bind (m := Builtin.Re.reNextFound { pattern := .ref a, string := .str (tx l) t, code := CODE, text := l.toArray, kind := 0, groups := 1, pos := 0, lim := l.length } 0 false) ?_
  unfold Builtin.Re.reNextFound
  unfold subFails at hf
  split at hf
  · rename_i m he
    refine run_fails he hf ?_
    dsimp only
    have e0 : ∀ n, l.toArray.extract 0 n = (l.take n).toArray := fun n => by simp
    by_cases hz : Int.toNat 0 < l.length
    · rw [if_pos hz]
      show wpAny _ _ (do
        let x ← mkStr ⟨l.toArray.extract 0 l.length⟩
        updateSeq L fun y => y.push x
        let joiner ← mkStr ⟨l.toArray.extract 0 0⟩
        let o ← seqItems? (.ref L)
        if (o.getD #[]).isEmpty = true then (do let text ← pure joiner; ret text) else (do let text ← call (.builtin "str.join") [joiner, .ref L]; ret text)) _ _ s
      rw [e0, e0, List.take_of_length_le (Nat.le_refl _), List.take_zero]
      refine wpAny_bind (wpAny_mkStr ?_ (by show (tx l).length ≤ _; rw [tx_len, sizeLine_eq]; omega))
      refine wpAny_bind (wpAny_updateSeq hL rfl ?_)
      refine wpAny_bind (wpAny_mkStr ?_ (by show (tx []).length ≤ _; rw [tx_len, sizeLine_eq]; decide))
      have hpl : (s.heap.update L (Obj.mapSeq fun y => y.push (.str ⟨l.toArray⟩ s.toks))).get? L = some { cls := .type "list", data := .seq #[.str (tx l) s.toks] (k + 1) } := by
        rw [Heap.get?_update_self _ hL (by rw [Obj.mapSeq_push_plain]; rfl), Obj.mapSeq_push_plain]; rfl
      refine wpAny_bind (wpAny_seqItems hpl rfl ?_)
      rw [if_neg (by simp)]
      refine wpAny_bind (meth_sound (prog := prog) (w := w) (ρ := 0) (Mu := fun _ => False) (α := fun _ => 0) (m := .join) (d := .str []) (ds := [.list [.str l]]) (r := (.str l, .fz)) (by nofun) (RD.str [] _) (.cons ⟨L, [.str (tx l) s.toks], rfl, ⟨k + 1, hpl⟩, .cons (RD.str l _) .nil⟩ .nil) ?_ fun v s' x r => ?_)
      · have hc : (joinL [] [l]).length ≤ 1000000 ∧ [l].length ≤ 100000 ∧ ([] : List Nat).length ≤ 10 := ⟨by show l.length ≤ _; omega, by simp, by simp⟩
        show (if (joinL [] [l]).length ≤ 1000000 ∧ [l].length ≤ 100000 ∧ ([] : List Nat).length ≤ 10 then some (D.str (joinL [] [l]), Tag.fz) else none) = _
        rw [if_pos hc]; rfl
      · have r : RD prog w 0 (fun _ => False) s'.heap v (.str l) := r
        cases r
        refine wpAny_pure (h _ (s.heap.update L (Obj.mapSeq fun y => y.push (.str ⟨l.toArray⟩ s.toks))) _ (Heap.SameBut.update s.heap L (Obj.mapSeq fun y => y.push (.str ⟨l.toArray⟩ s.toks))) ?_)
        exact Ext.trans (Ext.toks (t := s.toks + 1 + 1)) x
    · have hl0 : l = [] := by
        cases l with
        | nil => rfl
        | cons => simp at hz
      subst hl0
      rw [if_neg hz]
      show wpAny _ _ (do
        let joiner ← mkStr ⟨#[]⟩
        let o ← seqItems? (.ref L)
        if (o.getD #[]).isEmpty = true then (do let text ← pure joiner; ret text) else (do let text ← call (.builtin "str.join") [joiner, .ref L]; ret text)) _ _ s
      refine wpAny_bind (wpAny_mkStr ?_ (by decide))
      refine wpAny_bind (wpAny_seqItems hL rfl ?_)
      show wpAny _ _ (do let text ← pure (Value.str ⟨#[]⟩ s.toks); ret text) _ _ _
      refine wpAny_bind (wpAny_pure (wpAny_pure (h _ s.heap _ ?_ .toks)))
      exact Heap.SameBut.refl _ _
  · cases hf

theorem fn_call_slot : ∃ v, typeLookup (.type "function") "__call__" = pure (some v) := ⟨.builtin "function.__call__", by rw [typeLookup_type, builtinLookup_eq_fast]; kernel_rfl⟩
theorem sub_str_bytearray : isSubtype (.type "str") (.type "bytearray") = pure false := by rw [isSubtype_type]; kernel_rfl
theorem named_sub (x y : Value) : Builtin.Re.reNamed "re.Pattern.sub" "sub" ["repl", "string", "count"] 2 [x, y] [] = pure [some x, some y, none] := by kernel_rfl
theorem call_sub {a f : Addr} {o : Obj} {l : List Nat} {t : Tok} {Q : Value → Shared → Prop} {E : Value → Shared → Prop} (hp : PatAt s.heap a) (hfo : s.heap.get? f = some o) (hfc : o.cls = .type "function") (hf : subFails l = true) (hl : l.length ≤ 1000)
    (h : ∀ t' s', Ext s s' → Q (.str (tx l) t') s') : wpAny (model prog w) A (call (.builtin "re.Pattern.sub") [.ref a, .ref f, .str (tx l) t]) Q E s := by
  have hT : s.TypeIs (.ref a) "re.Pattern" := by obtain ⟨_, _, _, _, h1, _⟩ := hp; exact ⟨_, h1, rfl⟩
  refine wpAny_call (codeAny_call_builtin slot_pat_sub.plain entry_pat_sub (slot_pat_sub.check _ _ _ _ _ _ _ _ hT (args_pat_sub _ _ _) ?_))
  show wpAny _ _ (Builtin.Re.reSubstitute "re.Pattern.sub" "sub" false ⟨[.ref a, .ref f, .str (tx l) t], []⟩) _ _ _
  unfold Builtin.Re.reSubstitute
  dsimp only
  rw [named_sub]
  refine wpAny_bind (wpAny_pure ?_)
  dsimp only
  refine wpAny_bind (wpAny_pure ?_)
  obtain ⟨cv, hcv⟩ := fn_call_slot
  refine wpAny_bind (wpAny_specialOf (name := Str.ofString "__call__") ⟨_, hfo, hfc⟩ hcv ?_)
  simp only [Option.isSome_some, if_true]
  refine wpAny_bind (wpAny_pure (wpAny_bind (wpAny_pure (wpAny_bind (wpAny_holding (whole_target hp ?_))))))
  dsimp only
  rw [if_pos (by decide)]
  refine wpAny_bind ?_
  · unfold Builtin.Re.reNotHeld
    refine wpAny_bind (wpAny_isInstance (typeIs_str _ _ _) sub_str_bytearray ?_)
    show wpAny _ _ (pure PUnit.unit) _ _ _
    refine wpAny_pure ?_
    refine wpAny_bind (wpAny_newList ?_ (Nat.zero_le _))
    refine wpAny_pure ⟨Code.quiet_builtin _ (by decide +kernel), ?_⟩
    have hp' : PatAt (s.heap.push { cls := .type "list", data := .seq ([] : List Value).toArray }) a := by
      obtain ⟨cd, t0, t1, o, h1, h2, r⟩ := hp
      exact ⟨cd, t0, t1, o, Heap.get?_push_of_some _ h1, Heap.get?_push_of_some _ h2, r⟩
    refine sub_loop (s := { s with heap := s.heap.push { cls := .type "list", data := .seq ([] : List Value).toArray } }) hp' hf hl (Heap.get?_push_size _ rfl) fun t' h' s' sb x => h t' s' (Ext.trans (Ext.kept' fun b o q => sb.extBut b o (Nat.ne_of_lt (Heap.lt_size q)) (Heap.get?_push_of_some _ q)) x)
end
end Mine
end
section
set_option autoImplicit false
set_option maxRecDepth 100000
namespace Mine
open PySem PySem.W

theorem plainAttrs_pat : PlainAttrs "re.Pattern" :=
  ⟨⟨"object.__getattribute__", by rw [typeLookup_type, builtinLookup_eq_fast]; kernel_rfl, by decide +kernel⟩, by rw [typeLookup_type, builtinLookup_eq_fast]; kernel_rfl⟩
/-- the pattern, in the base -/
structure Base4 (h₀ : Heap) (mg : Str → Option Value) : Prop where
  pat : ∃ a, mg "_twin_re_1" = some (.ref a) ∧ a ≠ gT ∧ ∃ cd t0 t1 o, cd ≠ gT ∧ h₀.get? a = some (patObj cd t0 t1) ∧ h₀.get? cd = some o ∧ o.cls = .type "tuple" ∧ ∃ n, o.data = .seq (CODE.map fun i => Value.int (i : Nat) 0) n

section
variable {prog : Program} {w : World} {ρ : Addr} {h₀ : Heap} {mg mb : Str → Option Value} {G : Nat → Option D} {Sg : Sig} {gname fname : Nat → Option Str} {fa : Nat → Addr}
variable {A : Around} {s s' : Shared} {Mu₀ Mu Wr : Addr → Prop} {α : Nat → Addr} {σ : List LV} {env : Env} {c : Ctx} {n : Nat}

theorem lam_eval {E : Value → Shared → Prop} (B : Base prog w ρ h₀ mg mb G gname fname fa) (B3 : Base3 h₀ mg) (R : St h₀ Mu s) (O : EnvOK env c.k) (hcode : c.k ("_twin_re_1" : Str) ≠ none) {args : Arguments} {body : Expr} {scope : Scope} {pos : Pos} {Q : Value → Shared → Prop}
    (hdf : defaultsOf args env = ([], [])) (hcl : closureFor scope env = pure []) (h : ∀ f s' o, Ext s s' → s'.heap.get? f = some o → o.cls = .type "function" → Q (.ref f) s') :
    wpAny (model prog w) A (eval (.Lambda args body scope pos) env) Q E s := by
  rw [arm_eval_Lambda, hdf]
  show wpAny _ _ (do let dv ← (pure [] : Sem (List Value)); let kdv ← holding dv (pure [] : Sem (List (Option Value))); makeFunction "<lambda>" (env.qual ++ "<lambda>") args (.expr body) scope env dv kdv [] pos pos.line) Q E s
  refine wpAny_bind (wpAny_pure (wpAny_bind (wpAny_holding (wpAny_pure ?_))))
  obtain ⟨C, ps, hP, ht⟩ := id R.tab
  have hg := ns_keep R B.g B.ne.1
  have hbi : s.heap.BuiltinsAt mg gT := by
    obtain ⟨bm, ob, M⟩ := bmod_now (h := s.heap) B B3 R.keep
    refine ⟨bm, ob, M.name, M.ne, ?_, ?_, M.obj, M.cls, M.dict, M.data⟩
    · rintro rfl
      obtain ⟨o, es, ep, ho, hd, _⟩ := M.ns
      have := M.obj
      rw [ho] at this; cases this
      have := M.data
      rw [hd] at this; cases this
    · exact ne_gT R.tab M.obj (by rw [M.data]; nofun)
  cases hf : codeAmong pos ps.toList with
  | some cv =>
    refine kla_makeFunctionHit hcl O.globals hg (O.code hcode) C hP ht hf hbi fun ctv h' tk k _ => h _ _ _ (.kept fun b o e => Heap.get?_push_of_some _ (k b o e)) (Heap.get?_push_size _ rfl) rfl
  | none =>
    refine kla_makeFunction hcl O.globals hg (O.code hcode) C hP ht hf B.ne.1 hbi fun c' ctv h' tk hx hge hlt hrec htb => h _ _ _ ⟨fun b o n e => Heap.get?_push_of_some _ (hx b o n e), fun T => ?_, rfl, id⟩ (Heap.get?_push_size _ rfl) rfl
    refine ⟨?_, _, Heap.get?_push_of_some _ htb, ?_⟩
    · obtain ⟨o, vs, file, tf, flags, tg, inF, text, tt, e, r⟩ := C
      have hne : gC ≠ gT := by decide
      exact ⟨o, vs, file, tf, flags, tg, inF, text, tt, Heap.get?_push_of_some _ (hx _ _ hne e), r⟩
    · have : (ps ++ #[rawInt pos.line, rawInt pos.col, .ref c']).toList = ps.toList ++ [rawInt pos.line, rawInt pos.col, .ref c'] := by simp
      rw [this]; exact TriplesOk_snoc _ _ _ _ ht

theorem SE.sub (B : Base prog w ρ h₀ mg mb G gname fname fa) (B3 : Base3 h₀ mg) (B4 : Base4 h₀ mg) {k : Nat} {y : Str} {pn ap lpos py p : Pos} {args : Arguments} {body : Expr} {scope : Scope} (hy : c.v.lookup y = some k) (hd : (y == ("__debug__" : Str)) = false)
    (hk : c.k ("_twin_re_1" : Str) = some .globalImplicit) (hline : (ap.endLine == p.line) = true) (hdf : ∀ env, defaultsOf args env = ([], [])) (hcl : ∀ env, closureFor scope env = pure [])
    (hS : ∀ ds d, Sg 100 ds = some d → ∃ l, ds = [.str l] ∧ d = .str l ∧ subFails l = true ∧ l.length ≤ 1000) :
    SE prog w ρ h₀ G Sg A c (.prim 100 (.cons (.var k) .nil)) (.Call (.Attribute (.Name "_twin_re_1" pn) "sub" ap) [.Lambda args body scope lpos, .Name y py] [] p) := by
  intro env Mu α σ s r Q N e h
  simp only [evE, Option.bind_eq_some_iff, Option.map_eq_some_iff] at e
  obtain ⟨ds, ed, d, es, rfl⟩ := e
  obtain ⟨l, rfl, rfl, hf, hl⟩ := hS ds d es
  have hSE : SEs prog w ρ h₀ G Sg A c (.cons (.var k) .nil) [.Name y py] := SEs.cons (Snd.var hy hd) SEs.nil fun _ => rfl
  obtain ⟨a, hm, haT, cd, t0, t1, o, hcdT, h1, h2, h3⟩ := B4.pat
  have hc : c.k ("_twin_re_1" : Str) ≠ none := by rw [hk]; nofun
  have pat : ∀ {s : Shared}, St h₀ Mu s → PatAt s.heap a := fun R => ⟨cd, t0, t1, o, R.keep _ _ haT h1, R.keep _ _ hcdT h2, h3⟩
  refine stepT (wpAny_Call_method_late rfl rfl hline rfl (wpAny_Name (load_glob B N.O N.R.toSt hk hm ?_) (by decide +kernel)))
  refine ⟨"re.Pattern", "re.Pattern.sub", plainAttrs_pat, slot_pat_sub, type_pat_sub, ⟨_, N.R.keep _ _ haT h1, rfl⟩, fun a' q => by cases q; exact ⟨_, N.R.keep _ _ haT h1, rfl⟩, ?_⟩
  refine PyProof.Rows.callWith_method1 (PyProof.Rows.args_cons (stepT (lam_eval B B3 N.R.toSt N.O hc (hdf _) (hcl _) fun f s₁ o₁ x₁ ho₁ hc₁ t₁ => ?_)))
  have N1 := N.ext x₁ t₁
  refine hSE.k N1 ed fun vs s₂ x₂ t₂ _ r₂ => ?_
  cases r₂ with
  | cons r r' =>
  cases r'
  cases r
  refine call_sub (pat (N1.R.toSt.ext x₂)) (x₂.keep _ _ (ne_gT' N1.R.tab ho₁ (by rw [hc₁]; nofun)) ho₁) hc₁ hf hl fun t' s' x t => h _ _ (x₁.trans (x₂.trans x)) t (RD.str _ _)
end
end Mine
end
section
set_option autoImplicit false
set_option maxRecDepth 100000
namespace Mine
open PySem PySem.W

def gNms : List (Str × NameKind) := [(".0", .local), ("s", .local)]
def lNms : List (Str × NameKind) := [("_m", .local)]
/-- the expressions that _translate shows apart -/
noncomputable def xbT : Ctx → PE → Expr → Bool
  | c, .fstr pre (.var k) post, .JoinedStr [.Constant (.str s1) _ _, .FormattedValue (.Name x _) cv none _, .Constant (.str s2) _ _] _ =>
    cv == -1 && s1 == tx pre && s2 == tx post && decide (pre.length ≤ 100) && decide (post.length ≤ 100) && c.v.lookup x == some k && !(x == ("__debug__" : Str))
  | c, .joinG (.lit (.str sep)) (.meth .replace (.meth .replace (.var m) (.cons (.lit (.str a1)) (.cons (.lit (.str a2)) .nil))) (.cons (.lit (.str a3)) (.cons (.lit (.str a4)) .nil))) (.var k),
      .Call (.Attribute (.Constant (.str d) _ _) nm ap) [.GeneratorExp (.Call (.Attribute (.Call (.Attribute (.Name s1 _) r1 ap1) [.Constant (.str z1) _ _, .Constant (.str z2) _ _] [] q1) r2 ap2) [.Constant (.str z3) _ _, .Constant (.str z4) _ _] [] q2)
        [⟨.Name s2 _, .Name y _, [], 0⟩] ⟨sk, nms, ig, ic, mo⟩ _] [] p =>
    sep == [45] && m == c.n && a1 == [92] && a2 == [92, 92] && a3 == [45] && a4 == [92, 45] && d == "-" && nm == "join" && s1 == "s" && r1 == "replace" && z1 == "\\" && z2 == "\\\\" && r2 == "replace" && z3 == "-" && z4 == "\\-" && s2 == "s" &&
    sk == .function && nms == gNms && ig && !ic && mo.isEmpty && c.v.lookup y == some k && !(y == ("__debug__" : Str)) && (c.k ("_twin_re_1" : Str)).isSome && ap.endLine == p.line && ap1.endLine == q1.line && ap2.endLine == q2.line
  | c, .prim n (.cons (.var k) .nil), .Call (.Attribute (.Name g _) nm ap) [.Lambda as _ sc _, .Name y _] [] p =>
    n == 100 && g == "_twin_re_1" && nm == "sub" && as.defaults.isEmpty && as.kw_defaults.isEmpty && sc.names == lNms && c.v.lookup y == some k && !(y == ("__debug__" : Str)) && c.k ("_twin_re_1" : Str) == some .globalImplicit && ap.endLine == p.line
  | _, _, _ => false
def XT (c : Ctx) (a : PE) (x : Expr) : Prop := xbT c a x = true
theorem hxT : ∀ c a x, xbT c a x = true → XT c a x ∧ Odd x := by
  intro c a x h
  refine ⟨h, ?_⟩
  unfold xbT at h
  split at h
  · exact ⟨fun _ _ => rfl, fun _ _ => rfl, fun _ => rfl, fun _ _ => rfl, fun _ _ => rfl, fun _ _ => rfl⟩
  · exact ⟨fun _ _ => rfl, fun _ _ => rfl, fun _ => rfl, fun _ _ => rfl, fun _ _ => rfl, fun _ _ => rfl⟩
  · exact ⟨fun _ _ => rfl, fun _ _ => rfl, fun _ => rfl, fun _ _ => rfl, fun _ _ => rfl, fun _ _ => rfl⟩
  · cases h

/-- the statements that _translate shows apart -/
noncomputable def xsT : Ctx → PS → Stmt → Bool
  | c, .unpack ks e, .Assign [.Tuple [.Name x px, .Name y py] _ _] (.Tuple [.Constant cn k2 q1, .Call f as kw q2] k1 p1) _ => match ks with
    | [kx, ky] => c.v.lookup x == some kx && c.v.lookup y == some ky && kx != ky && c.k x == some .local && c.k y == some .local && py.line == px.line && !(x == y) && embB gnm fnm xbT c e (.Tuple [.Constant cn k2 q1, .Call f as kw q2] k1 p1)
    | _ => false
  | c, .bindApp kx ky, .Assign [.Name x _] (.Attribute (.Name y _) nm _) _ => nm == "append" && c.v.lookup x == some kx && c.v.lookup y == some ky && !(y == ("__debug__" : Str))
  | c, .appndB k e, .Expr (.Call (.Name y _) [ex] [] _) _ => c.v.lookup y == some k && !(y == ("__debug__" : Str)) && embB gnm fnm xbT c e ex
  | c, .forDown k hi lo bd, .For (.Name x _) (.Call (.Name f _) [e1, e2, .UnaryOp .USub (.Constant (.int 1) _ _) _] [] _) xs [] _ =>
    c.v.lookup x == some k && f == "range" && c.k "range" == some .globalImplicit && embB gnm fnm xbT c hi e1 && embB gnm fnm xbT c lo e2 && embSsB gnm fnm xbT xs0 c bd xs
  | _, _, _ => false
def XST (c : Ctx) (a : PS) (x : Stmt) : Prop := xsT c a x = true
theorem hxsT : ∀ c a x, xsT c a x = true → XST c a x := fun _ _ _ h => h

theorem nofree {l : List (Str × NameKind)} {sc : Scope} {env : Env} (h : sc.names = lNms) : closureFor sc env = pure [] := by
  unfold closureFor
  rw [h]
  rfl
theorem nodefs {as : Arguments} {env : Env} (h1 : as.defaults = []) (h2 : as.kw_defaults = []) : defaultsOf as env = ([], []) := by
  obtain ⟨a, b, c, d, e, f, g⟩ := as
  simp only at h1 h2
  subst h1 h2
  rfl

section
variable {prog : Program} {w : World} {ρ : Addr} {h₀ : Heap} {mg mb : Str → Option Value} {G : Nat → Option D} {Sg : Sig} {fa : Nat → Addr} {A : Around} {n : Nat}
theorem restT (B : Base prog w ρ h₀ mg mb gl gnm fnm fa) (B3 : Base3 h₀ mg) (B4 : Base4 h₀ mg) (Rm : Room n A) (hS : ∀ ds d, Sg 100 ds = some d → ∃ l, ds = [.str l] ∧ d = .str l ∧ subFails l = true ∧ l.length ≤ 1000) : Rest prog w ρ h₀ gl Sg A XT := by
  refine ⟨fun {c a x} h => ?_, fun hk ha hs => SE.sorted B hk ha hs⟩
  unfold XT xbT at h
  split at h
  · simp only [Bool.and_eq_true, beq_iff_eq, decide_eq_true_eq] at h
    obtain ⟨⟨⟨⟨⟨⟨rfl, h2⟩, h3⟩, h4⟩, h5⟩, h6⟩, h7⟩ := h
    exact SE.fstr h2 h3 h4 h5 (Snd.var h6 (debug_ne h7))
  · simp only [Bool.and_eq_true, beq_iff_eq] at h
    obtain ⟨⟨⟨⟨⟨⟨⟨⟨⟨⟨⟨⟨⟨⟨⟨⟨⟨⟨⟨⟨⟨⟨⟨⟨⟨⟨rfl, rfl⟩, rfl⟩, rfl⟩, rfl⟩, rfl⟩, rfl⟩, rfl⟩, rfl⟩, rfl⟩, rfl⟩, rfl⟩, rfl⟩, rfl⟩, rfl⟩, rfl⟩, rfl⟩, rfl⟩, g1⟩, g2⟩, g3⟩, g4⟩, g5⟩, g6⟩, g7⟩, g8⟩, g9⟩ := h
    refine SE.joinG B B3 Rm.handled (by have := Rm.depth; omega) g4 (debug_ne g5) (fun q => by rw [q] at g6; cases g6) (by simpa using g7) (by simpa using g8) (by simpa using g9) ?_
    rw [g1]
    congr 1
    · simpa using g2
    · simpa using g3
  · simp only [Bool.and_eq_true, beq_iff_eq, List.isEmpty_iff] at h
    obtain ⟨⟨⟨⟨⟨⟨⟨⟨⟨rfl, rfl⟩, rfl⟩, h4⟩, h5⟩, h6⟩, h7⟩, h8⟩, h9⟩, h10⟩ := h
    exact SE.sub B B3 B4 h7 (debug_ne h8) h9 (by simpa using h10) (fun _ => nodefs h4 h5) (fun _ => nofree (l := []) h6) hS
  · cases h

theorem restST (B : Base prog w ρ h₀ mg mb gl gnm fnm fa) (B3 : Base3 h₀ mg) (B4 : Base4 h₀ mg) (SG : SigOK prog w ρ h₀ Sg fnm fa n) (Rm : Room n A) (hS : ∀ ds d, Sg 100 ds = some d → ∃ l, ds = [.str l] ∧ d = .str l ∧ subFails l = true ∧ l.length ≤ 1000) :
    RestS prog w ρ h₀ gl Sg A XST := by
  have H := restT B B3 B4 Rm hS
  refine ⟨fun {c a x} h => ?_⟩
  unfold XST xsT at h
  split at h
  · split at h
    · simp only [Bool.and_eq_true, beq_iff_eq, bne_iff_ne] at h
      obtain ⟨⟨⟨⟨⟨⟨⟨h1, h2⟩, h3⟩, h4⟩, h5⟩, h6⟩, h7⟩, h8⟩ := h
      exact SS.unpack Rm.handled h1 h2 h3 h4 h5 (by simpa using h6) (by simpa using h7) ((embB_sound hxT _ h8).sound B SG Rm H)
    · cases h
  · simp only [Bool.and_eq_true, beq_iff_eq] at h
    exact SS.bindApp h.1.1.1 h.1.1.2 h.1.2 (debug_ne h.2)
  · simp only [Bool.and_eq_true, beq_iff_eq] at h
    have he := embB_sound hxT _ h.2
    have hsn := he.sound B SG Rm H
    intro env Mu₀ Mu Wr α σ s fl σ' Q N e1 hq
    exact SS.appndB h.1.1 (debug_ne h.1.2) hsn (fun _ _ => he.star) N e1 hq
  · simp only [Bool.and_eq_true, beq_iff_eq] at h
    obtain ⟨⟨⟨⟨⟨h1, rfl⟩, h3⟩, h4⟩, h5⟩, h6⟩ := h
    have e1 := embB_sound hxT _ h4
    have e2 := embB_sound hxT _ h5
    have e3 := embSsB_sound (xb := xbT) (xs := xs0) hxT hxs0 _ h6
    have s1 := e1.sound B SG Rm H
    have s2 := e2.sound B SG Rm H
    intro env Mu₀ Mu Wr α σ s fl σ' Q N e4 hq
    exact SS.forDown B Rm.handled h1 h3 s1 s2 (fun _ _ => e1.star) (fun _ _ => e2.star) (EmbSs.sound B SG Rm H restS0 e3) N e4 hq
  · cases h
end
theorem emb_translate : embSsB gnm fnm xbT xsT c_translate F_translate.body (bodyOf "_translate") = true := by decide +kernel
end Mine
end
section
set_option autoImplicit false
set_option maxRecDepth 100000
namespace Mine
open PySem PySem.W

theorem slot_translate : Slot "str" "translate" "str.translate" :=
  .of (owner := "str") (n := "translate") (by rw [typeLookup_type, builtinLookup_eq_fast]; kernel_rfl) (by decide +kernel) (by decide +kernel) (by decide +kernel)
    (by first | exact .inl (by decide +kernel) | exact .inr (by decide +kernel)) (by rw [isSubtype_type]; kernel_rfl)
theorem type_translate : typeOf (.builtin "str.translate") = pure (.type "method_descriptor") := by show builtinType _ = _; rw [builtinType_eq_fast]; kernel_rfl
theorem entry_translate : entryFor table "str.translate" = some Builtin.«str.translate» := entryFor_of_tree (by kernel_rfl)
theorem args_translate (a b : Value) : argsOk "str.translate" ⟨[a, b], []⟩ := by unfold argsOk; kernel_rfl

section
variable {prog : Program} {w : World} {A : Around} {E : Value → Shared → Prop} {s : Shared} {a : Addr} {f : Int → Option Value}
theorem look_text {c : Nat} {t : Str} {u : Tok} {Q : Builtin.Str.Mapped → Shared → Prop} (hm : s.heap.MapOf (intKind prog w) a f) (hf : f c = some (.str t u)) (h : Q (.text t) { s with toks := s.toks + 1 + 1 }) :
    wpAny (model prog w) A (Builtin.Str.tableLookup (.ref a) c) Q E s := by
  unfold Builtin.Str.tableLookup
  refine wpAny_bind (wpAny_attempt (wpAny_bind (wpAny_mkInt (wpAny_getItem_intMap (s := { s with toks := s.toks + 1 }) hm.intMap hf ?_))))
  dsimp only
  refine wpAny_bind (m := asInt? (Value.str t u)) (wpAny_pure ?_)
  exact wpAny_bind (wpAny_pure (wpAny_pure h))
theorem sub_key_lookup : isSubtype (.type "KeyError") (.type "LookupError") = pure true := by rw [isSubtype_type]; kernel_rfl
theorem look_keep {c : Nat} {Q : Builtin.Str.Mapped → Shared → Prop} (hh : A.handled = none) (hm : s.heap.MapOf (intKind prog w) a f) (hs : (a == sysModules) = false) (hf : f c = none) (h : ∀ h', (∀ b o, s.heap.get? b = some o → h'.get? b = some o) → Q .keep { s with heap := h', toks := s.toks + 1 + 1 }) :
    wpAny (model prog w) A (Builtin.Str.tableLookup (.ref a) c) Q E s := by
  unfold Builtin.Str.tableLookup
  refine wpAny_bind (wpAny_attempt (wpAny_bind (wpAny_mkInt (wpAny_getItem_missing_of (s := { s with toks := s.toks + 1 }) (knd := intKind prog w) (k := (c : Int)) (by show Value.isInt (c : Int) (Value.int (c : Int) s.toks) = true; simp [Value.isInt]) hs hh hm hf fun h' e hx => ?_))))
  dsimp only
  refine wpAny_bind (wpAny_isInstance (let ⟨ob, _, h1, h2, _⟩ := hx.there; ⟨ob, h1, h2⟩) sub_key_lookup ?_)
  rw [if_pos rfl]
  exact wpAny_bind (wpAny_rule (wpAny_pure (h h' fun b o q => hx.keeps b o q)))
theorem call_translate_dot {t u : Tok} {Q : Value → Shared → Prop} (hm : s.heap.MapOf (intKind prog w) a f) (hf : f 46 = some (.str (tx [92, 46]) u)) (h : ∀ t' tk, Q (.str (tx [92, 46]) t') { s with toks := tk }) :
    wpAny (model prog w) A (call (.builtin "str.translate") [.str (tx [46]) t, .ref a]) Q E s := by
  refine wpAny_call_entry slot_translate (typeIs_str _ _ _) entry_translate ?_ (args_translate _ _)
  unfold Builtin.«str.translate»
  refine wpAny_bind (m := Builtin.Str.strOneArg "translate" ⟨[Value.str (tx [46]) t, Value.ref a], []⟩) (wpAny_pure ?_)
  dsimp only
  rw [if_neg (by decide)]
  have e0 : (#[46] : Array Nat).all (fun x => decide (x < 128)) = true := by simp
  rw [e0, List.forIn_toArray, List.forIn_cons]
  refine wpAny_bind (wpAny_bind ?_)
  rw [if_neg (by decide), if_pos (by decide)]
  refine wpAny_bind (look_text (c := 46) hm hf ?_)
  have e1 : ((tx [92, 46]).length == 1) = false := by rw [tx_len]; rfl
  simp only [e1, Bool.false_and, Bool.false_eq_true, if_false]
  refine wpAny_bind (wpAny_pure (wpAny_bind (wpAny_rule ?_)))
  refine wpAny_bind (look_text (s := { s with toks := s.toks + 1 + 1 }) (c := 46) hm hf ?_)
  refine wpAny_pure ?_
  dsimp only
  rw [List.forIn_nil]
  refine wpAny_pure ?_
  dsimp only
  rw [if_neg (by rw [tx_len]; decide)]
  have e2 : (List.foldl (fun acc p => acc ++ p.cps) #[] [tx [92, 46]].reverse : Array Nat) = (tx [92, 46]).cps := by simp [tx]
  rw [e2]
  exact wpAny_bind (wpAny_mkStr (wpAny_pure ⟨_, rfl, h _ _⟩) (by show (tx [92, 46]).length ≤ _; rw [tx_len, sizeLine_eq]; decide))
theorem call_translate_a {t : Tok} {Q : Value → Shared → Prop} (hh : A.handled = none) (hm : s.heap.MapOf (intKind prog w) a f) (hs : (a == sysModules) = false) (hf : f 97 = none) (h : ∀ t' h' tk, (∀ b o, s.heap.get? b = some o → h'.get? b = some o) → Q (.str (tx [97]) t') { s with heap := h', toks := tk }) :
    wpAny (model prog w) A (call (.builtin "str.translate") [.str (tx [97]) t, .ref a]) Q E s := by
  refine wpAny_call_entry slot_translate (typeIs_str _ _ _) entry_translate ?_ (args_translate _ _)
  unfold Builtin.«str.translate»
  refine wpAny_bind (m := Builtin.Str.strOneArg "translate" ⟨[Value.str (tx [97]) t, Value.ref a], []⟩) (wpAny_pure ?_)
  dsimp only
  rw [if_neg (by decide)]
  have e0 : (#[97] : Array Nat).all (fun x => decide (x < 128)) = true := by simp
  rw [e0, List.forIn_toArray, List.forIn_cons]
  refine wpAny_bind (wpAny_bind ?_)
  rw [if_neg (by decide), if_pos (by decide)]
  refine wpAny_bind (look_keep (A := A.in1) (c := 97) hh hm hs hf fun h' hk => ?_)
  dsimp only
  refine wpAny_bind (wpAny_pure ?_)
  dsimp only
  refine wpAny_pure ?_
  dsimp only
  rw [List.forIn_nil]
  refine wpAny_pure ?_
  dsimp only
  rw [if_neg (by decide)]
  have e2 : (List.foldl (fun acc p => acc ++ p.cps) #[] [(⟨#[97]⟩ : Str)].reverse : Array Nat) = (tx [97]).cps := by simp [tx]
  rw [e2]
  exact wpAny_bind (wpAny_mkStr (wpAny_pure ⟨_, rfl, h _ _ _ hk⟩) (by show (tx [97]).length ≤ _; rw [tx_len, sizeLine_eq]; decide))
end
end Mine
end
section
set_option autoImplicit false
set_option maxRecDepth 100000
namespace Mine
open PySem PySem.W

def Fesc : Fun := ⟨1, 1, .cons (.ret (.prim 101 (.cons (.var 0) .nil))) .nil⟩
def escSig : Sig := fun f ds => match f, ds with
  | 101, [.str [46]] => some (.str [92, 46])
  | 101, [.str [97]] => some (.str [97])
  | _, _ => none
def vesc : List (Str × Nat) := [("pattern", 0)]
def cesc : Ctx := ⟨fun x => (namesOf "escape").lookup x, vesc, 1⟩
theorem body_esc : ∃ p1 p2 p3 p4 p5 p6 p7 p8 p9 els p10, bodyOf "escape" =
    [.If (.Call (.Name "isinstance" p1) [.Name "pattern" p2, .Name "str" p3] [] p4) [.Return (some (.Call (.Attribute (.Name "pattern" p5) "translate" p6) [.Name "_special_chars_map" p7] [] p8)) p9] els p10] ∧ (p6.endLine == p8.line) = true :=
  ⟨_, _, _, _, _, _, _, _, _, _, _, rfl, rfl⟩
/-- the table of the special signs, in the base -/
structure Base5 (prog : Program) (w : World) (h₀ : Heap) (mg : Str → Option Value) : Prop where
  map : ∃ a f u, mg "_special_chars_map" = some (.ref a) ∧ a ≠ gT ∧ (a == sysModules) = false ∧ h₀.MapOf (intKind prog w) a f ∧ f 46 = some (.str (tx [92, 46]) u) ∧ f 97 = none

section
variable {prog : Program} {w : World} {ρ : Addr} {h₀ : Heap} {mg mb : Str → Option Value} {G : Nat → Option D} {Sg : Sig} {gname fname : Nat → Option Str} {fa : Nat → Addr}
variable {A : Around} {s s' : Shared} {Mu₀ Mu Wr : Addr → Prop} {α : Nat → Addr} {σ : List LV} {env : Env} {c : Ctx} {n : Nat}
theorem esc_str {σ : List LV} {fl : Fl} {σ' : List LV} (e : exSs G escSig Fesc.body σ = some (fl, σ')) : ∃ x lv y, σ[0]? = some lv ∧ lv.get = some (.str x) ∧ fl = .ret (.str y) ∧ σ' = σ ∧ ((x = [46] ∧ y = [92, 46]) ∨ (x = [97] ∧ y = [97])) := by
  simp only [Fesc, exSs, exS, evE, evEs, Option.bind_eq_some_iff, Option.map_eq_some_iff] at e
  obtain ⟨⟨f1, σ1⟩, ⟨r, ⟨ds, ⟨d1, ⟨lv, hk, d, hd, rfl⟩, d2, hkp, ds', e0, rfl⟩, d3, he, rfl⟩, e1⟩, e⟩ := e
  cases e1
  cases e0
  cases e
  have hk2 : d2 = d := by
    unfold kept at hkp
    split at hkp
    · cases hkp
    · rename_i h; cases h; cases hkp; rfl
  subst hk2
  unfold escSig at he
  split at he
  · rename_i h1; cases h1; cases he; exact ⟨_, lv, _, hk, hd, rfl, rfl, .inl ⟨rfl, rfl⟩⟩
  · rename_i h1; cases h1; cases he; exact ⟨_, lv, _, hk, hd, rfl, rfl, .inr ⟨rfl, rfl⟩⟩
  · cases he
theorem esc_sound (hh : A.handled = none) (B : Base prog w ρ h₀ mg mb G gname fname fa) (B2 : Base2 mg mb) (B5 : Base5 prog w h₀ mg) : SSs prog w ρ h₀ G escSig A cesc Fesc.body (bodyOf "escape") := by
  obtain ⟨p1, p2, p3, p4, p5, p6, p7, p8, p9, els, p10, eb, hl⟩ := body_esc
  rw [eb]
  intro env Mu₀ Mu Wr α σ s fl σ' Q N e h
  obtain ⟨x, lv, y, hk, hd, rfl, rfl, hxy⟩ := esc_str e
  have hp : cesc.v.lookup ("pattern" : Str) = some 0 := by decide +kernel
  have hgl : ∀ y : Str, y = "isinstance" ∨ y = "str" ∨ y = "_special_chars_map" → cesc.k y = some .globalImplicit := by
    rintro y (rfl | rfl | rfl) <;> decide +kernel
  obtain ⟨t, l⟩ := ld_str N hp hk hd
  obtain ⟨a, f, u, hm, haT, hs, hmap, hf1, hf2⟩ := B5.map
  have hmap' : s.heap.MapOf (intKind prog w) a f := by
    obtain ⟨o, es, ep, ho, r⟩ := hmap
    exact ⟨o, es, ep, N.N.R.keep _ _ haT ho, r⟩
  refine wpAny_execs_cons (wpAny_If (wpAny_isTrue_value (wpAny_Call_NameR (wpAny_Name (load_built B N.N.O N.N.R.toSt (hgl _ (.inl rfl)) B2.isins ?_)))))
  refine PyProof.Rows.callWith_builtin1 (PyProof.Rows.args_cons (wpAny_Name (load_slot N.N.O l (PyProof.Rows.args_cons (wpAny_Name (load_built B N.N.O N.N.R.toSt (hgl _ (.inr (.inl rfl))) B2.str (PyProof.Rows.args_nil ?_)))))))
  refine IsiPair.str_str (wpAny_truthy_bool ?_)
  refine wpAny_execs_cons (wpAny_Return_some (stepT (wpAny_Call_method_late rfl rfl hl rfl (wpAny_Name (load_slot N.N.O l ?_)))))
  refine ⟨"str", "str.translate", F.plainAttrs_str, slot_translate, type_translate, typeIs_str _ _ _, nofun, ?_⟩
  refine PyProof.Rows.callWith_method1 (PyProof.Rows.args_cons (wpAny_Name (load_glob B N.N.O N.N.R.toSt (hgl _ (.inr (.inr rfl))) hm (PyProof.Rows.args_nil ?_))))
  rcases hxy with ⟨rfl, rfl⟩ | ⟨rfl, rfl⟩
  · refine call_translate_dot hmap' hf1 fun t' tk ht => ?_
    have x2 : Ext s { s with toks := tk } := .toks
    exact h _ _ _ _ _ (.ext x2 N.N.R.tab ht) (N.ext x2 ht) (RD.str [92, 46] _)
  · refine call_translate_a hh hmap' hs hf2 fun t' h' tk k ht => ?_
    have x2 : Ext s { s with heap := h', toks := tk } := .kept k
    exact h _ _ _ _ _ (.ext x2 N.N.R.tab ht) (N.ext x2 ht) (RD.str [97] _)
end
end Mine
end
section
set_option autoImplicit false
set_option maxRecDepth 100000
namespace Mine
open PySem PySem.W

/-- what _translate's run asks of others: escape, and the pattern's sub -/
def sub100 (ds : List D) : Option D := match ds with
  | [.str s] => if subFails s && decide (s.length ≤ 1000) then some (.str s) else none
  | _ => none
def sigT (Sg : Sig) : Sig := fun f ds => match f with
  | 3 => Sg 3 ds
  | 100 => sub100 ds
  | _ => none
def starD : D := .list [.str [115, 116, 97, 114]]
def unadr : D → D
  | .adr _ => starD
  | d => d
def partD : D → Bool
  | .str _ => true
  | .adr _ => true
  | _ => false
def trP (Sg : Sig) (p q : List Nat) : Option D := (runFun gl (sigT Sg) F_translate [.str p, .adr 0, .str q]).bind fun r => match r with
  | .list l => if l.all partD then some (.list (l.map unadr)) else none
  | _ => none
def isStar : D → Bool
  | .list [.str s] => s == [115, 116, 97, 114]
  | _ => false
def trT (Sg : Sig) (ds : List D) : Option D := match ds with
  | [.str p, d, .str q] => if isStar d then trP Sg p q else none
  | _ => none
theorem isStar_eq {d : D} (h : isStar d = true) : d = starD := by
  unfold isStar at h
  split at h
  · rename_i s
    have : s = [115, 116, 97, 114] := by simpa using h
    rw [this]; rfl
  · cases h
def escT : Sig := fun _ ds => runFun gl escSig Fesc ds
abbrev SIG : Nat → Sig := sigL escT trT

section
variable {prog : Program} {w : World} {ρ : Addr} {h₀ : Heap} {mg mb : Str → Option Value} {fa : Nat → Addr}

theorem ck_esc : ∀ sc : Scope, sc.names = namesOf "escape" → fnCheck sc ["pattern"] vesc Fesc = true := chk (by decide +kernel)
theorem ck_tr : ∀ sc : Scope, sc.names = namesOf "_translate" → fnCheck sc ["pat", "STAR", "QUESTION_MARK"] v_translate F_translate = true := chk (by decide +kernel)

theorem star_part {Mu : Addr → Prop} {h : Heap} {a : Addr} {t : Tok} (hn : ¬ Mu a) (hp : h.PlainList a #[.str (tx [115, 116, 97, 114]) t]) {v : Value} {d : D} (r : RD prog w a Mu h v d) (hd : partD d = true) : RD prog w ρ Mu h v (unadr d) := by
  cases r with
  | str s t => exact .str s t
  | adr n => exact .list hn hp (.cons (.str _ _) .nil)
  | _ => cases hd
theorem star_parts {Mu : Addr → Prop} {h : Heap} {a : Addr} {t : Tok} (hn : ¬ Mu a) (hp : h.PlainList a #[.str (tx [115, 116, 97, 114]) t]) : ∀ {vs : List Value} {ds : List D}, RDs prog w a Mu h vs ds → ds.all partD = true → RDs prog w ρ Mu h vs (ds.map unadr)
  | _, _, .nil, _ => .nil
  | _, _, .cons a r, e => by
    simp only [List.all_cons, Bool.and_eq_true] at e
    exact .cons (star_part hn hp a e.1) (star_parts hn hp r e.2)

/-- the two functions that stand apart, as they lie -/
structure FnsT (h₀ : Heap) (fa : Nat → Addr) : Prop where
  f3 : FnIs h₀ (fa 3) "escape" (Plainly ["pattern"])
  f4 : FnIs h₀ (fa 4) "_translate" fun fd => Plainly ["pat", "STAR", "QUESTION_MARK"] fd ∧ fd.code = .ref gC

theorem ok_esc {n : Nat} {ds : List D} {d : D} (B : Base prog w ρ h₀ mg mb gl gnm fnm fa) (B2 : Base2 mg mb) (B5 : Base5 prog w h₀ mg) (I : FnsT h₀ fa) (e : escT 3 ds = some d) : FnOK prog w ρ h₀ (n + 1) (fa 3) ds d :=
  fn_is B I.f3 ck_esc (c := cesc) rfl (by decide +kernel) (n := n) ⟨fun _ Rm => esc_sound Rm.handled B B2 B5⟩ e

theorem ok_trP {n : Nat} {p q : List Nat} {d : D} (B : ∀ ρ, Base prog w ρ h₀ mg mb gl gnm fnm fa) (B3 : Base3 h₀ mg) (B4 : Base4 h₀ mg) (I : FnsT h₀ fa) {Sg : Sig} (SG : ∀ ρ, SigOK prog w ρ h₀ Sg fnm fa n) (e : trP Sg p q = some d) :
    FnOK prog w ρ h₀ (n + 1) (fa 4) [.str p, starD, .str q] d := by
  unfold trP at e
  obtain ⟨r, er, e⟩ := Option.bind_eq_some_iff.mp e
  split at e
  · rename_i l
    split at e
    · rename_i hl
      cases e
      obtain ⟨fd, Fa, hb, hn, hbd, hcd⟩ := I.f4.fd
      intro A s Mu vs Rm hK R hvs Q hQ
      cases hvs with
      | cons h1 hvs =>
      cases hvs with
      | cons h2 hvs =>
      cases hvs with
      | cons h3 hvs =>
      cases hvs
      cases h1
      cases h3
      cases h2 with
      | list hna hpl hr =>
      rename_i a vs
      cases hr with
      | cons h4 hr =>
      cases hr
      cases h4
      have hS : ∀ ds d, sigT Sg 100 ds = some d → ∃ l, ds = [.str l] ∧ d = .str l ∧ subFails l = true ∧ l.length ≤ 1000 := by
        intro ds d e
        have e : sub100 ds = some d := e
        unfold sub100 at e
        split at e
        · split at e
          · rename_i h5
            cases e
            simp only [Bool.and_eq_true, decide_eq_true_eq] at h5
            exact ⟨_, rfl, rfl, h5.1, h5.2⟩
          · cases e
        · cases e
      have SG' : SigOK prog w a h₀ (sigT Sg) fnm fa n := by
        intro f ds d x hf e
        by_cases h3 : f = 3
        · subst h3; exact SG a 3 ds d x hf e
        · by_cases h100 : f = 100
          · subst h100; cases hf
          · have : sigT Sg f ds = none := by
              unfold sigT
              split
              · exact absurd rfl h3
              · exact absurd rfl h100
              · rfl
            rw [this] at e; cases e
      have es : EmbSs gnm fnm XT XST c_translate F_translate.body (bodyOf "_translate") := embSsB_sound hxT hxsT _ emb_translate
      have key : FnOK prog w a h₀ (n + 1) (fa 4) [.str p, .adr 0, .str q] (.list l) := by
        refine fn_ok (B a) Fa I.f4.ne (fun _ => hcd) hb hbd (ck_tr _ hn) ?_ er
        intro A Rm
        rw [hn]
        exact EmbSs.sound (B a) SG' Rm (restT (B a) B3 B4 Rm hS) (restST (B a) B3 B4 SG' Rm hS) es
      refine key A s Mu _ Rm hK R (.cons (.str _ _) (.cons (.adr _) (.cons (.str _ _) .nil))) Q fun v s' x r => hQ v s' x ?_
      cases r with
      | list hnv hpv hrv =>
      obtain ⟨k, ho⟩ := hpl
      exact .list hnv hpv (star_parts hna ⟨k, x.keep _ _ (fun q => hna (q ▸ R.mug)) ho⟩ hrv hl)
    · cases e
  · cases e

theorem sig_all (B : ∀ ρ, Base prog w ρ h₀ mg mb gl gnm fnm fa) (B2 : Base2 mg mb) (B3 : Base3 h₀ mg) (B4 : Base4 h₀ mg) (B5 : Base5 prog w h₀ mg) (I : Fns h₀ fa) (IT : FnsT h₀ fa) : ∀ n ρ, SigOK prog w ρ h₀ (SIG n) fnm fa n := by
  intro n
  induction n with
  | zero => intro ρ f ds d x _ e; cases e
  | succ n SG =>
    intro ρ f ds d x hf e
    have hlt : f < 22 := by
      unfold fnm at hf
      exact (List.getElem?_eq_some_iff.mp hf).1
    match f, hlt with
    | 0, _ => exact ok0 (B ρ) B2 I (SG ρ) e
    | 1, _ => exact ok1 (B ρ) B2 I (SG ρ) e
    | 2, _ => exact ok2 (B ρ) B2 I (SG ρ) e
    | 3, _ => exact ok_esc (B ρ) B2 B5 IT e
    | 4, _ =>
      have e : trT (SIG n) ds = some d := e
      unfold trT at e
      split at e
      · rename_i p d' q
        split at e
        · rename_i h
          obtain rfl := isStar_eq h
          exact ok_trP B B3 B4 IT SG e
        · cases e
      · cases e
    | 5, _ => exact ok5 (B ρ) B2 I (SG ρ) e
    | 6, _ => exact ok6 (B ρ) B2 I (SG ρ) e
    | 7, _ => exact ok7 (B ρ) B2 I (SG ρ) e
    | 8, _ => exact ok8 (B ρ) B2 I (SG ρ) e
    | 9, _ => exact ok9 (B ρ) B2 I (SG ρ) e
    | 10, _ => exact ok10 (B ρ) B2 I (SG ρ) e
    | 11, _ => exact ok11 (B ρ) B2 I (SG ρ) e
    | 12, _ => exact ok12 (B ρ) B2 I (SG ρ) e
    | 13, _ => exact ok13 (B ρ) B2 I (SG ρ) e
    | 14, _ => exact ok14 (B ρ) B2 I (SG ρ) e
    | 15, _ => exact ok15 (B ρ) B2 I (SG ρ) e
    | 16, _ => exact ok16 (B ρ) B2 I (SG ρ) e
    | 17, _ => exact ok17 (B ρ) B2 I (SG ρ) e
    | 18, _ => exact ok18 (B ρ) B2 I (SG ρ) e
    | 19, _ => exact ok19 (B ρ) B2 I (SG ρ) e
    | 20, _ => exact ok20 (B ρ) B2 I (SG ρ) e
    | 21, _ => exact ok21 (B ρ) B2 I (SG ρ) e
end
end Mine
end
section
set_option autoImplicit false
set_option maxRecDepth 100000
namespace Mine
open PySem PySem.W

section
variable {prog : Program} {w : World} {ρ : Addr} {h₀ : Heap} {mg mb : Str → Option Value} {G : Nat → Option D} {Sg : Sig} {gname fname : Nat → Option Str} {fa : Nat → Addr}
variable {A : Around} {s : Shared} {Mu : Addr → Prop} {n : Nat}
/-- the first call, of one argument: no number need have been given out before it -/
theorem fn_top {a : Addr} {fd : FuncData} {body : List Stmt} {x : Str} {v : List (Str × Nat)} {F : Fun} {d0 d : Mine.D} {u : Value} (B : Base prog w ρ h₀ mg mb G gname fname fa) (Fa : FnAt h₀ a fd) (haT : a ≠ gT) (hcode : fd.scope.names.lookup ("_twin_re_1" : Str) = none) (hbody : fd.body = .stmts body)
    (hbind : bindArgs fd ⟨[u], []⟩ = pure [(x, u)]) (hck : fnCheck fd.scope [x] v F = true) (hnc : ∀ y ∈ fd.scope.names, y.2 ≠ .cell)
    (snd : ∀ A, Room n A → SSs prog w ρ h₀ G Sg A ⟨fun x => fd.scope.names.lookup x, v, F.nslots⟩ F.body body) (run : runFun G Sg F [d0] = some d)
    (Rm : Room (n + 1) A) (R : St h₀ Mu s) (hv : RD prog w ρ Mu s.heap u d0) {Q : Value → Shared → Prop} {E : Value → Shared → Prop} (hQ : ∀ v s', Ext s s' → RD prog w ρ Mu s'.heap v d → Q v s') : wpAny (model prog w) A (call (.ref a) [u]) Q E s := by
  unfold fnCheck at hck
  simp only [Bool.and_eq_true, List.all_eq_true] at hck
  obtain ⟨⟨⟨⟨k1, k2⟩, k3⟩, k4⟩, k5⟩ := hck
  have k1 : [x].length = F.nargs := by simpa using k1
  have k2 : F.nargs ≤ F.nslots := of_decide_eq_true k2
  have k4 : (v.map (·.2)).Nodup := of_decide_eq_true k4
  have hcl : ∀ y, fd.scope.names.lookup y ≠ some .cell := fun y q => hnc _ (lookup_mem q) rfl
  have hv3 : ∀ x k, v.lookup x = some k → k < F.nslots ∧ fd.scope.names.lookup x = some .local := fun x k h => by
    have := k3 _ (lookup_mem h)
    simp only [Bool.and_eq_true, Bool.or_eq_true, beq_iff_eq, decide_eq_true_eq] at this
    exact ⟨this.1, this.2.resolve_right (hcl x)⟩
  have hx0 : v.lookup x = some 0 := by
    have := k5 0 (List.mem_range.mpr (by simp))
    simpa using this
  have hna : F.nargs = 1 := by simpa using k1.symm
  unfold runFun at run
  rw [if_pos (by rw [hna]; rfl)] at run
  obtain ⟨⟨fl, σ'⟩, hex, run⟩ := Option.bind_eq_some_iff.mp run
  obtain ⟨o, ho, hdat⟩ := Fa.at_
  obtain ⟨cc, oc, cvs, ct, hc1, hc2, hc3, hc4, hc5⟩ := Fa.code
  have hlim : s.heap.NoLimit := by
    obtain ⟨mc, hmc, hm⟩ := B.nolim
    exact ⟨mc, ns_keep R hmc B.ne.2.2, hm⟩
  refine wpAny_call (codeAny_call_plain (by have := Rm.depth; omega) (R.keep _ _ haT ho) hdat hlim ⟨cc, oc, cvs, ct, hc1, R.keep _ _ hc2 hc3, hc4, hc5⟩ hbody hbind hnc ?_ ?_ Fa.co Fa.gen Fa.kind)
  · intro y hy
    rcases List.mem_cons.mp hy with rfl | hy
    · exact (hv3 _ _ hx0).2
    · cases hy
  · intro h1 hns hkeep
    have e : (fun y : Str => ([(x, u)] : List (Str × Value)).reverse.lookup y) = fun y : Str => if y = x then some u else none := by
      funext y
      by_cases hy : y = x
      · subst hy; simp
      · have : (y == x) = false := by simpa using hy
        simp [List.lookup, this, hy]
    rw [e] at hns
    generalize hE : callEnv fd s.heap.objs.size a = env at ⊢
    have eL : env.locals = s.heap.objs.size := by rw [← hE]; rfl
    have eS : env.scope = fd.scope := by rw [← hE]; rfl
    have eK : ∀ y, env.kindOf y = fd.scope.names.lookup y := fun y => by rw [← hE]; rfl
    have eC : env.cells = [] := by rw [← hE]; exact Fa.clo
    have hFr : ∀ b, FrA env b → b = s.heap.objs.size := by
      rintro b (rfl | ⟨y, hy⟩)
      · exact eL
      · rw [eC] at hy; cases hy
    have hFn : ∀ b, FrA env b → s.heap.get? b = none := fun b hb => newer (Nat.le_of_eq (hFr b hb).symm)
    have hold : ∀ b, s.heap.get? b = none → b = gT ∨ h₀.get? b = none := by
      intro b hb
      by_cases h : b = gT
      · exact .inl h
      · refine .inr ?_
        cases q : h₀.get? b with
        | none => rfl
        | some o => have := R.keep b o h q; rw [hb] at this; cases this
    have e1 : Ext s { s with heap := h1, toks := s.toks + [(x, u)].length } := .kept hkeep
    have hσ : ∀ k lv, ([d0].map LV.fz ++ List.replicate (F.nslots - F.nargs) LV.un)[k]? = some lv → (k = 0 ∧ lv = .fz d0) ∨ lv = .un := by
      intro k lv h
      cases k with
      | zero => simp at h; exact .inl ⟨rfl, h.symm⟩
      | succ k =>
        simp only [List.map_cons, List.map_nil, List.cons_append, List.nil_append, List.getElem?_cons_succ, List.getElem?_replicate] at h
        split at h
        · cases h; exact .inr rfl
        · cases h
    have N : NowS prog w ρ h₀ Mu ⟨fun x => fd.scope.names.lookup x, v, F.nslots⟩ env (fun b => Mu b ∨ FrA env b) (FrA env) (fun _ => 0) ([d0].map .fz ++ List.replicate (F.nslots - F.nargs) .un) { s with heap := h1, toks := s.toks + [(x, u)].length } := by
      refine ⟨⟨⟨fun y hy => absurd hy (hcl y), by rw [eS]; exact Fa.kind, by rw [← hE]; exact Fa.glob, by rw [← hE]; exact Fa.blt, eK, fun q => absurd hcode q⟩, { keep := fun b o n h => e1.keep b o n (R.keep b o n h), tab := e1.tab R.tab, mu := ?_, mug := .inl R.mug, muh := ?_, slots := ?_, owns := ?_ }, ?_, Nat.le_add_left _ _⟩,
        ⟨fun y z b h1 h2 => (by rw [eC] at h1; cases h1), fun y z k h1 h2 => nodup_snd k4 (lookup_mem h1) (lookup_mem h2), fun y k h => (hv3 y k h).1, fun y k h => .inl (hv3 y k h).2⟩, fun _ h => h, ?_, fun _ h => .inr h, fun _ h => .inl h, ?_, ⟨_, by rw [eL]; exact hns⟩, fun y b h => (by rw [eC] at h; cases h)⟩
      · rintro b (h | h)
        · exact e1.some R.tab (R.mu b h)
        · rw [hFr b h]
          obtain ⟨o, _, _, q, _⟩ := hns
          show (h1.get? _).isSome = true
          rw [q]; rfl
      · rintro b (h | h)
        · exact R.muh b h
        · exact hold b (hFn b h)
      · intro y k hy lv hlv
        rcases hσ k lv hlv with ⟨rfl, rfl⟩ | rfl
        · obtain rfl : y = x := nodup_snd k4 (lookup_mem hy) (lookup_mem hx0)
          refine ⟨u, .inl ⟨(eK _).trans (hv3 _ _ hx0).2, _, by rw [eL]; exact hns, by simp⟩, ?_⟩
          exact hv.hideN.mono (fun b h q => h (q.elim .inl fun q => .inr (hFn b q))) fun b o h q => hkeep b o q
        · trivial
      · intro k d hk
        rcases hσ k _ hk with ⟨_, q⟩ | q <;> cases q
      · simp; omega
      · intro k d hk
        rcases hσ k _ hk with ⟨_, q⟩ | q <;> cases q
      · intro k k' d d' hk
        rcases hσ k _ hk with ⟨_, q⟩ | q <;> cases q
    refine wpAny_mono (snd _ (Rm.deeper env) N hex fun f s' Mu' Wr' α' g N' hf => ?_) (fun _ _ h => h) fun _ _ h => h.elim
    have eX : Ext s s' := ⟨fun b o n h => g.keep b o n (fun q => by have := hFn b q; rw [this] at h; cases h) (e1.keep b o n h), fun t => g.tab (e1.tab t), g.os.trans e1.os, fun q => g.gens (e1.gens q)⟩
    cases fl with
    | next => cases run; cases f <;> first | exact hf.elim | exact hQ _ _ eX .none
    | brk => cases run; cases f <;> first | exact hf.elim | exact hQ _ _ eX .none
    | ret d' => cases run; cases f <;> first | exact hf.elim | exact hQ _ _ eX hf
end
end Mine
end
section
set_option autoImplicit false
set_option maxRecDepth 100000
namespace Mine
open PySem PySem.W

noncomputable abbrev KP (P : Params) : Frag := Mine.hd.heap_39 P
noncomputable def objK (P : Params) (a : Addr) : Obj := ((KP P).lookup a).getD default
noncomputable def fdK (P : Params) (a : Addr) : FuncData := match (objK P a).data with
  | .func fd => fd
  | _ => default
noncomputable def cdK (P : Params) (a : Addr) : Addr := match (fdK P a).code with
  | .ref c => c
  | _ => 0
noncomputable def flK (P : Params) (a : Addr) : Array Value := match (objK P a).data with
  | .fields vs => vs
  | _ => #[]
noncomputable def tkK (P : Params) (a : Addr) : Tok := match (flK P a).getD 1 .none with
  | .str _ t => t
  | _ => 0
def argOf (fd : FuncData) (i : Nat) : Arg := (fd.params.args[i]?).getD ⟨"", none, ⟨0, 0, 0, 0⟩⟩
def starOf (fd : FuncData) : Arg := (fd.params.vararg).getD ⟨"", none, ⟨0, 0, 0, 0⟩⟩
/-- a function as it lies in the written part -/
structure FnK (P : Params) (a : Addr) (nm : Str) : Prop where
  l : (KP P).lookup a = some (objK P a)
  f : (objK P a).data = .func (fdK P a)
  b : (fdK P a).body = .stmts (bodyOf nm)
  n : (fdK P a).scope.names = namesOf nm
  c : (fdK P a).code = .ref (cdK P a)
  cn : (cdK P a == gT) = false
  lc : (KP P).lookup (cdK P a) = some (objK P (cdK P a))
  fc : (objK P (cdK P a)).data = .fields (flK P (cdK P a))
  v1 : (flK P (cdK P a))[1]? = some (.str (fdK P a).qualname (tkK P (cdK P a)))
  clo : (fdK P a).closure = []
  glob : (fdK P a).globals = PySem.mainGlobals
  blt : (fdK P a).builtins = builtinsNs
  kind : (fdK P a).scope.kind = .function
  gen : (fdK P a).scope.isGenerator = false
  co : (fdK P a).scope.isCoroutine = false
  df : (fdK P a).defaults = .none
theorem FnK.at_ {P : Params} {a : Addr} {nm : Str} {h : Heap} (k : FnK P a nm) (X : (KP P).In h) : FnAt h a (fdK P a) where
  at_ := ⟨_, X _ _ k.l, k.f⟩
  code := ⟨_, _, _, _, k.c, by have := k.cn; simpa using this, X _ _ k.lc, k.fc, k.v1⟩
  clo := k.clo
  glob := k.glob
  blt := k.blt
  kind := k.kind
  gen := k.gen
  co := k.co
theorem FnK.is {P : Params} {a : Addr} {nm : Str} {h : Heap} {bd : FuncData → Prop} (k : FnK P a nm) (X : (KP P).In h) (ha : a ≠ gT) (hb : bd (fdK P a)) : FnIs h a nm bd := ⟨ha, _, k.at_ X, k.b, k.n, hb⟩
theorem fkS_IFMT (P : Params) : FnK P 45 "S_IFMT" := ⟨by kernel_rfl, by kernel_rfl, by kernel_rfl, by kernel_rfl, by kernel_rfl, by kernel_rfl, by kernel_rfl, by kernel_rfl, by kernel_rfl, by kernel_rfl, by kernel_rfl, by kernel_rfl, by kernel_rfl, by kernel_rfl, by kernel_rfl, by kernel_rfl⟩
theorem fbS_IFMT (P : Params) : Plainly ["mode"] (fdK P 45) := bind1 (an := (argOf (fdK P 45) 0).annotation) (p := (argOf (fdK P 45) 0).pos) (by kernel_rfl) (fkS_IFMT P).df
theorem fkS_ISDIR (P : Params) : FnK P 52 "S_ISDIR" := ⟨by kernel_rfl, by kernel_rfl, by kernel_rfl, by kernel_rfl, by kernel_rfl, by kernel_rfl, by kernel_rfl, by kernel_rfl, by kernel_rfl, by kernel_rfl, by kernel_rfl, by kernel_rfl, by kernel_rfl, by kernel_rfl, by kernel_rfl, by kernel_rfl⟩
theorem fbS_ISDIR (P : Params) : Plainly ["mode"] (fdK P 52) := bind1 (an := (argOf (fdK P 52) 0).annotation) (p := (argOf (fdK P 52) 0).pos) (by kernel_rfl) (fkS_ISDIR P).df
theorem fkfilemode (P : Params) : FnK P 92 "filemode" := ⟨by kernel_rfl, by kernel_rfl, by kernel_rfl, by kernel_rfl, by kernel_rfl, by kernel_rfl, by kernel_rfl, by kernel_rfl, by kernel_rfl, by kernel_rfl, by kernel_rfl, by kernel_rfl, by kernel_rfl, by kernel_rfl, by kernel_rfl, by kernel_rfl⟩
theorem fbfilemode (P : Params) : Plainly ["mode"] (fdK P 92) := bind1 (an := (argOf (fdK P 92) 0).annotation) (p := (argOf (fdK P 92) 0).pos) (by kernel_rfl) (fkfilemode P).df
theorem fkescape (P : Params) : FnK P 109 "escape" := ⟨by kernel_rfl, by kernel_rfl, by kernel_rfl, by kernel_rfl, by kernel_rfl, by kernel_rfl, by kernel_rfl, by kernel_rfl, by kernel_rfl, by kernel_rfl, by kernel_rfl, by kernel_rfl, by kernel_rfl, by kernel_rfl, by kernel_rfl, by kernel_rfl⟩
theorem fbescape (P : Params) : Plainly ["pattern"] (fdK P 109) := bind1 (an := (argOf (fdK P 109) 0).annotation) (p := (argOf (fdK P 109) 0).pos) (by kernel_rfl) (fkescape P).df
theorem fk_translate (P : Params) : FnK P 116 "_translate" := ⟨by kernel_rfl, by kernel_rfl, by kernel_rfl, by kernel_rfl, by kernel_rfl, by kernel_rfl, by kernel_rfl, by kernel_rfl, by kernel_rfl, by kernel_rfl, by kernel_rfl, by kernel_rfl, by kernel_rfl, by kernel_rfl, by kernel_rfl, by kernel_rfl⟩
theorem fb_translate (P : Params) : Plainly ["pat", "STAR", "QUESTION_MARK"] (fdK P 116) := bind3 (an := (argOf (fdK P 116) 0).annotation) (p := (argOf (fdK P 116) 0).pos) (bn := (argOf (fdK P 116) 1).annotation) (q := (argOf (fdK P 116) 1).pos) (cn := (argOf (fdK P 116) 2).annotation) (r := (argOf (fdK P 116) 2).pos) (by decide +kernel) (by decide +kernel) (by decide +kernel) (by kernel_rfl) (fk_translate P).df
theorem fkfspath (P : Params) : FnK P 189 "fspath" := ⟨by kernel_rfl, by kernel_rfl, by kernel_rfl, by kernel_rfl, by kernel_rfl, by kernel_rfl, by kernel_rfl, by kernel_rfl, by kernel_rfl, by kernel_rfl, by kernel_rfl, by kernel_rfl, by kernel_rfl, by kernel_rfl, by kernel_rfl, by kernel_rfl⟩
theorem fbfspath (P : Params) : Plainly ["path"] (fdK P 189) := bind1 (an := (argOf (fdK P 189) 0).annotation) (p := (argOf (fdK P 189) 0).pos) (by kernel_rfl) (fkfspath P).df
theorem fk_get_sep (P : Params) : FnK P 203 "_get_sep" := ⟨by kernel_rfl, by kernel_rfl, by kernel_rfl, by kernel_rfl, by kernel_rfl, by kernel_rfl, by kernel_rfl, by kernel_rfl, by kernel_rfl, by kernel_rfl, by kernel_rfl, by kernel_rfl, by kernel_rfl, by kernel_rfl, by kernel_rfl, by kernel_rfl⟩
theorem fb_get_sep (P : Params) : Plainly ["path"] (fdK P 203) := bind1 (an := (argOf (fdK P 203) 0).annotation) (p := (argOf (fdK P 203) 0).pos) (by kernel_rfl) (fk_get_sep P).df
theorem fkjoin (P : Params) : FnK P 210 "join" := ⟨by kernel_rfl, by kernel_rfl, by kernel_rfl, by kernel_rfl, by kernel_rfl, by kernel_rfl, by kernel_rfl, by kernel_rfl, by kernel_rfl, by kernel_rfl, by kernel_rfl, by kernel_rfl, by kernel_rfl, by kernel_rfl, by kernel_rfl, by kernel_rfl⟩
theorem fbjoin (P : Params) : ∀ u v : Value, bindArgs (fdK P 210) ⟨[u, v], []⟩ = (do let t ← newTuple [v]; pure [("a", u), ("p", t)]) := bind_star (an := (argOf (fdK P 210) 0).annotation) (p := (argOf (fdK P 210) 0).pos) (bn := (starOf (fdK P 210)).annotation) (q := (starOf (fdK P 210)).pos) (by decide +kernel) (by kernel_rfl) (fkjoin P).df
theorem fkbasename (P : Params) : FnK P 217 "basename" := ⟨by kernel_rfl, by kernel_rfl, by kernel_rfl, by kernel_rfl, by kernel_rfl, by kernel_rfl, by kernel_rfl, by kernel_rfl, by kernel_rfl, by kernel_rfl, by kernel_rfl, by kernel_rfl, by kernel_rfl, by kernel_rfl, by kernel_rfl, by kernel_rfl⟩
theorem fbbasename (P : Params) : Plainly ["p"] (fdK P 217) := bind1 (an := (argOf (fdK P 217) 0).annotation) (p := (argOf (fdK P 217) 0).pos) (by kernel_rfl) (fkbasename P).df
theorem fkdirname (P : Params) : FnK P 224 "dirname" := ⟨by kernel_rfl, by kernel_rfl, by kernel_rfl, by kernel_rfl, by kernel_rfl, by kernel_rfl, by kernel_rfl, by kernel_rfl, by kernel_rfl, by kernel_rfl, by kernel_rfl, by kernel_rfl, by kernel_rfl, by kernel_rfl, by kernel_rfl, by kernel_rfl⟩
theorem fbdirname (P : Params) : Plainly ["p"] (fdK P 224) := bind1 (an := (argOf (fdK P 224) 0).annotation) (p := (argOf (fdK P 224) 0).pos) (by kernel_rfl) (fkdirname P).df
theorem fk_law_numbers (P : Params) : FnK P 229 "_law_numbers" := ⟨by kernel_rfl, by kernel_rfl, by kernel_rfl, by kernel_rfl, by kernel_rfl, by kernel_rfl, by kernel_rfl, by kernel_rfl, by kernel_rfl, by kernel_rfl, by kernel_rfl, by kernel_rfl, by kernel_rfl, by kernel_rfl, by kernel_rfl, by kernel_rfl⟩
theorem fb_law_numbers (P : Params) : Plainly ["script"] (fdK P 229) := bind1 (an := (argOf (fdK P 229) 0).annotation) (p := (argOf (fdK P 229) 0).pos) (by kernel_rfl) (fk_law_numbers P).df
theorem fk_law_items (P : Params) : FnK P 236 "_law_items" := ⟨by kernel_rfl, by kernel_rfl, by kernel_rfl, by kernel_rfl, by kernel_rfl, by kernel_rfl, by kernel_rfl, by kernel_rfl, by kernel_rfl, by kernel_rfl, by kernel_rfl, by kernel_rfl, by kernel_rfl, by kernel_rfl, by kernel_rfl, by kernel_rfl⟩
theorem fb_law_items (P : Params) : Plainly ["number"] (fdK P 236) := bind1 (an := (argOf (fdK P 236) 0).annotation) (p := (argOf (fdK P 236) 0).pos) (by kernel_rfl) (fk_law_items P).df
theorem fk_law_tree (P : Params) : FnK P 241 "_law_tree" := ⟨by kernel_rfl, by kernel_rfl, by kernel_rfl, by kernel_rfl, by kernel_rfl, by kernel_rfl, by kernel_rfl, by kernel_rfl, by kernel_rfl, by kernel_rfl, by kernel_rfl, by kernel_rfl, by kernel_rfl, by kernel_rfl, by kernel_rfl, by kernel_rfl⟩
theorem fb_law_tree (P : Params) : Plainly ["numbers"] (fdK P 241) := bind1 (an := (argOf (fdK P 241) 0).annotation) (p := (argOf (fdK P 241) 0).pos) (by kernel_rfl) (fk_law_tree P).df
theorem fk_law_world (P : Params) : FnK P 248 "_law_world" := ⟨by kernel_rfl, by kernel_rfl, by kernel_rfl, by kernel_rfl, by kernel_rfl, by kernel_rfl, by kernel_rfl, by kernel_rfl, by kernel_rfl, by kernel_rfl, by kernel_rfl, by kernel_rfl, by kernel_rfl, by kernel_rfl, by kernel_rfl, by kernel_rfl⟩
theorem fb_law_world (P : Params) : Plainly ["base", "nodes"] (fdK P 248) := bind2 (an := (argOf (fdK P 248) 0).annotation) (p := (argOf (fdK P 248) 0).pos) (bn := (argOf (fdK P 248) 1).annotation) (q := (argOf (fdK P 248) 1).pos) (by decide +kernel) (by kernel_rfl) (fk_law_world P).df
theorem fk_law_fits (P : Params) : FnK P 255 "_law_fits" := ⟨by kernel_rfl, by kernel_rfl, by kernel_rfl, by kernel_rfl, by kernel_rfl, by kernel_rfl, by kernel_rfl, by kernel_rfl, by kernel_rfl, by kernel_rfl, by kernel_rfl, by kernel_rfl, by kernel_rfl, by kernel_rfl, by kernel_rfl, by kernel_rfl⟩
theorem fb_law_fits (P : Params) : Plainly ["part", "sign"] (fdK P 255) := bind2 (an := (argOf (fdK P 255) 0).annotation) (p := (argOf (fdK P 255) 0).pos) (bn := (argOf (fdK P 255) 1).annotation) (q := (argOf (fdK P 255) 1).pos) (by decide +kernel) (by kernel_rfl) (fk_law_fits P).df
theorem fk_law_takes (P : Params) : FnK P 260 "_law_takes" := ⟨by kernel_rfl, by kernel_rfl, by kernel_rfl, by kernel_rfl, by kernel_rfl, by kernel_rfl, by kernel_rfl, by kernel_rfl, by kernel_rfl, by kernel_rfl, by kernel_rfl, by kernel_rfl, by kernel_rfl, by kernel_rfl, by kernel_rfl, by kernel_rfl⟩
theorem fb_law_takes (P : Params) : Plainly ["parts", "text"] (fdK P 260) := bind2 (an := (argOf (fdK P 260) 0).annotation) (p := (argOf (fdK P 260) 0).pos) (bn := (argOf (fdK P 260) 1).annotation) (q := (argOf (fdK P 260) 1).pos) (by decide +kernel) (by kernel_rfl) (fk_law_takes P).df
theorem fk_law_listing (P : Params) : FnK P 267 "_law_listing" := ⟨by kernel_rfl, by kernel_rfl, by kernel_rfl, by kernel_rfl, by kernel_rfl, by kernel_rfl, by kernel_rfl, by kernel_rfl, by kernel_rfl, by kernel_rfl, by kernel_rfl, by kernel_rfl, by kernel_rfl, by kernel_rfl, by kernel_rfl, by kernel_rfl⟩
theorem fb_law_listing (P : Params) : Plainly ["base", "world", "pattern"] (fdK P 267) := bind3 (an := (argOf (fdK P 267) 0).annotation) (p := (argOf (fdK P 267) 0).pos) (bn := (argOf (fdK P 267) 1).annotation) (q := (argOf (fdK P 267) 1).pos) (cn := (argOf (fdK P 267) 2).annotation) (r := (argOf (fdK P 267) 2).pos) (by decide +kernel) (by decide +kernel) (by decide +kernel) (by kernel_rfl) (fk_law_listing P).df
theorem fk_law_rights (P : Params) : FnK P 274 "_law_rights" := ⟨by kernel_rfl, by kernel_rfl, by kernel_rfl, by kernel_rfl, by kernel_rfl, by kernel_rfl, by kernel_rfl, by kernel_rfl, by kernel_rfl, by kernel_rfl, by kernel_rfl, by kernel_rfl, by kernel_rfl, by kernel_rfl, by kernel_rfl, by kernel_rfl⟩
theorem fb_law_rights (P : Params) : Plainly ["signs"] (fdK P 274) := bind1 (an := (argOf (fdK P 274) 0).annotation) (p := (argOf (fdK P 274) 0).pos) (by kernel_rfl) (fk_law_rights P).df
theorem fk_law_read (P : Params) : FnK P 281 "_law_read" := ⟨by kernel_rfl, by kernel_rfl, by kernel_rfl, by kernel_rfl, by kernel_rfl, by kernel_rfl, by kernel_rfl, by kernel_rfl, by kernel_rfl, by kernel_rfl, by kernel_rfl, by kernel_rfl, by kernel_rfl, by kernel_rfl, by kernel_rfl, by kernel_rfl⟩
theorem fb_law_read (P : Params) : Plainly ["base", "text"] (fdK P 281) := bind2 (an := (argOf (fdK P 281) 0).annotation) (p := (argOf (fdK P 281) 0).pos) (bn := (argOf (fdK P 281) 1).annotation) (q := (argOf (fdK P 281) 1).pos) (by decide +kernel) (by kernel_rfl) (fk_law_read P).df
theorem fk_law_plain (P : Params) : FnK P 286 "_law_plain" := ⟨by kernel_rfl, by kernel_rfl, by kernel_rfl, by kernel_rfl, by kernel_rfl, by kernel_rfl, by kernel_rfl, by kernel_rfl, by kernel_rfl, by kernel_rfl, by kernel_rfl, by kernel_rfl, by kernel_rfl, by kernel_rfl, by kernel_rfl, by kernel_rfl⟩
theorem fb_law_plain (P : Params) : Plainly ["items", "name"] (fdK P 286) := bind2 (an := (argOf (fdK P 286) 0).annotation) (p := (argOf (fdK P 286) 0).pos) (bn := (argOf (fdK P 286) 1).annotation) (q := (argOf (fdK P 286) 1).pos) (by decide +kernel) (by kernel_rfl) (fk_law_plain P).df
theorem fk_law_due (P : Params) : FnK P 291 "_law_due" := ⟨by kernel_rfl, by kernel_rfl, by kernel_rfl, by kernel_rfl, by kernel_rfl, by kernel_rfl, by kernel_rfl, by kernel_rfl, by kernel_rfl, by kernel_rfl, by kernel_rfl, by kernel_rfl, by kernel_rfl, by kernel_rfl, by kernel_rfl, by kernel_rfl⟩
theorem fb_law_due (P : Params) : Plainly ["nodes", "items"] (fdK P 291) := bind2 (an := (argOf (fdK P 291) 0).annotation) (p := (argOf (fdK P 291) 0).pos) (bn := (argOf (fdK P 291) 1).annotation) (q := (argOf (fdK P 291) 1).pos) (by decide +kernel) (by kernel_rfl) (fk_law_due P).df
theorem fklaw (P : Params) : FnK P 296 "law" := ⟨by kernel_rfl, by kernel_rfl, by kernel_rfl, by kernel_rfl, by kernel_rfl, by kernel_rfl, by kernel_rfl, by kernel_rfl, by kernel_rfl, by kernel_rfl, by kernel_rfl, by kernel_rfl, by kernel_rfl, by kernel_rfl, by kernel_rfl, by kernel_rfl⟩
theorem fblaw (P : Params) : Plainly ["script"] (fdK P 296) := bind1 (an := (argOf (fdK P 296) 0).annotation) (p := (argOf (fdK P 296) 0).pos) (by kernel_rfl) (fklaw P).df
def faL : List Addr := [45, 52, 92, 109, 116, 189, 203, 210, 217, 224, 229, 236, 241, 248, 255, 260, 267, 274, 281, 286, 291, 296]
def faK (n : Nat) : Addr := (faL[n]?).getD 0
theorem fnsK {P : Params} {h : Heap} (X : (KP P).In h) : Fns h faK where
  f0 := (fkS_IFMT P).is X (by decide) (fbS_IFMT P)
  f1 := (fkS_ISDIR P).is X (by decide) (fbS_ISDIR P)
  f2 := (fkfilemode P).is X (by decide) (fbfilemode P)
  f5 := (fkfspath P).is X (by decide) (fbfspath P)
  f6 := (fk_get_sep P).is X (by decide) (fb_get_sep P)
  f7 := (fkjoin P).is X (by decide) (fbjoin P)
  f8 := (fkbasename P).is X (by decide) (fbbasename P)
  f9 := (fkdirname P).is X (by decide) (fbdirname P)
  f10 := (fk_law_numbers P).is X (by decide) (fb_law_numbers P)
  f11 := (fk_law_items P).is X (by decide) (fb_law_items P)
  f12 := (fk_law_tree P).is X (by decide) (fb_law_tree P)
  f13 := (fk_law_world P).is X (by decide) (fb_law_world P)
  f14 := (fk_law_fits P).is X (by decide) (fb_law_fits P)
  f15 := (fk_law_takes P).is X (by decide) (fb_law_takes P)
  f16 := (fk_law_listing P).is X (by decide) (fb_law_listing P)
  f17 := (fk_law_rights P).is X (by decide) (fb_law_rights P)
  f18 := (fk_law_read P).is X (by decide) (fb_law_read P)
  f19 := (fk_law_plain P).is X (by decide) (fb_law_plain P)
  f20 := (fk_law_due P).is X (by decide) (fb_law_due P)
  f21 := (fklaw P).is X (by decide) (fblaw P)
theorem fnsTK {P : Params} {h : Heap} (X : (KP P).In h) : FnsT h faK where
  f3 := (fkescape P).is X (by decide) (fbescape P)
  f4 := (fk_translate P).is X (by decide) ⟨fb_translate P, by kernel_rfl⟩
end Mine
end
section
set_option autoImplicit false
set_option maxRecDepth 100000
namespace Mine
open PySem PySem.W

noncomputable def esK (P : Params) (a : Addr) : Array DictEntry := match (objK P a).data with
  | .dict es _ => es
  | _ => #[]
noncomputable def epK (P : Params) (a : Addr) : Nat := match (objK P a).data with
  | .dict _ n => n
  | _ => 0
def findS (l : List DictEntry) (x : Str) : Option Value := (l.find? fun e => e.key.isStr x).map (·.val)
theorem nsFind_list (es : Array DictEntry) (x : Str) : nsFind es x = findS es.toList x := by
  unfold nsFind findBy findS
  rw [Array.find?_toList]
theorem l3 (P : Params) : (KP P).lookup 3 = some (objK P 3) := by kernel_rfl
theorem d3 (P : Params) : (objK P 3).data = .dict (esK P 3) (epK P 3) := by kernel_rfl
theorem l2 (P : Params) : (KP P).lookup 2 = some (objK P 2) := by kernel_rfl
theorem d2 (P : Params) : (objK P 2).data = .dict (esK P 2) (epK P 2) := by kernel_rfl
theorem ns_at {P : Params} {h : Heap} {a : Addr} {m : Str → Option Value} (X : (KP P).In h) (g : h.Ns a m) (l : (KP P).lookup a = some (objK P a)) (d : (objK P a).data = .dict (esK P a) (epK P a)) (x : Str) : m x = findS (esK P a).toList x := by
  obtain ⟨o, es, ep, ho, hd, _, e⟩ := g
  rw [X _ _ l] at ho
  cases ho
  rw [d] at hd
  cases hd
  rw [← e, nsFind_list]

/-- data that lies in the written part -/
def chkD (K : Frag) : Nat → Value → D → Bool
  | 0, _, _ => false
  | n + 1, v, d => match v, d with
    | .int i _, .int j => i == j
    | .str s _, .str l => s.cps.toList == l
    | .ref a, .tup ds => a != gT && (match K.lookup a with
      | some o => o.cls == .type "tuple" && (match o.data with
        | .seq arr _ => arr.toList.length == ds.length && (arr.toList.zip ds).all fun p => chkD K n p.1 p.2
        | _ => false)
      | none => false)
    | _, _ => false
theorem chkD_sound {prog : Program} {w : World} {ρ : Addr} {K : Frag} {h : Heap} (X : K.In h) : ∀ {n : Nat} {v : Value} {d : D}, chkD K n v d = true → RD prog w ρ (· = gT) h v d
  | 0, _, _, e => by cases e
  | n + 1, v, d, e => by
    unfold chkD at e
    split at e
    · rename_i i t j
      have : i = j := by simpa using e
      subst this; exact .int _ _
    · rename_i s t l
      have : s.cps.toList = l := by simpa using e
      subst this
      obtain ⟨⟨l⟩⟩ := s
      exact .str l t
    · rename_i a ds
      rw [Bool.and_eq_true] at e
      obtain ⟨e1, e2⟩ := e
      split at e2
      · rename_i o ho
        rw [Bool.and_eq_true] at e2
        obtain ⟨e2, e3⟩ := e2
        split at e3
        · rename_i arr k hd
          rw [Bool.and_eq_true] at e3
          obtain ⟨e3, e4⟩ := e3
          have hc : o.cls = .type "tuple" := by simpa using e2
          refine .tup (vs := arr.toList) (by simpa using e1) ⟨o, X _ _ ho, hc, k, by simpa using hd⟩ ?_
          have hl : arr.toList.length = ds.length := by simpa using e3
          clear ho hd e3
          revert hl e4
          generalize arr.toList = vs
          intro e4 hl
          induction vs generalizing ds with
          | nil => cases ds with
            | nil => exact .nil
            | cons => cases hl
          | cons u us ih => cases ds with
            | nil => cases hl
            | cons c cs =>
              simp only [List.zip_cons_cons, List.all_cons, Bool.and_eq_true] at e4
              exact .cons (chkD_sound X e4.1) (ih cs e4.2 (by simpa using hl))
        · cases e3
      · cases e2
    · cases e

def chkI (l : List DictEntry) : Bool := l.all fun e => match e.key with
  | .int i _ => e.hash == hashInt i
  | _ => false
theorem gS_IFDIR (P : Params) : findS (esK P 3).toList "S_IFDIR" = some (.int 16384 298) := by kernel_rfl
theorem gu_filemode_table (P : Params) : findS (esK P 3).toList "_filemode_table" = some (.ref 85) := by kernel_rfl
theorem gu_twin_re_1 (P : Params) : findS (esK P 3).toList "_twin_re_1" = some (.ref 97) := by kernel_rfl
theorem gu_special_chars_map (P : Params) : findS (esK P 3).toList "_special_chars_map" = some (.ref 99) := by kernel_rfl
theorem gS_IFMT (P : Params) : findS (esK P 3).toList "S_IFMT" = some (.ref 45) := by kernel_rfl
theorem gS_ISDIR (P : Params) : findS (esK P 3).toList "S_ISDIR" = some (.ref 52) := by kernel_rfl
theorem gfilemode (P : Params) : findS (esK P 3).toList "filemode" = some (.ref 92) := by kernel_rfl
theorem gescape (P : Params) : findS (esK P 3).toList "escape" = some (.ref 109) := by kernel_rfl
theorem gu_translate (P : Params) : findS (esK P 3).toList "_translate" = some (.ref 116) := by kernel_rfl
theorem gfspath (P : Params) : findS (esK P 3).toList "fspath" = some (.ref 189) := by kernel_rfl
theorem gu_get_sep (P : Params) : findS (esK P 3).toList "_get_sep" = some (.ref 203) := by kernel_rfl
theorem gjoin (P : Params) : findS (esK P 3).toList "join" = some (.ref 210) := by kernel_rfl
theorem gbasename (P : Params) : findS (esK P 3).toList "basename" = some (.ref 217) := by kernel_rfl
theorem gdirname (P : Params) : findS (esK P 3).toList "dirname" = some (.ref 224) := by kernel_rfl
theorem gu_law_numbers (P : Params) : findS (esK P 3).toList "_law_numbers" = some (.ref 229) := by kernel_rfl
theorem gu_law_items (P : Params) : findS (esK P 3).toList "_law_items" = some (.ref 236) := by kernel_rfl
theorem gu_law_tree (P : Params) : findS (esK P 3).toList "_law_tree" = some (.ref 241) := by kernel_rfl
theorem gu_law_world (P : Params) : findS (esK P 3).toList "_law_world" = some (.ref 248) := by kernel_rfl
theorem gu_law_fits (P : Params) : findS (esK P 3).toList "_law_fits" = some (.ref 255) := by kernel_rfl
theorem gu_law_takes (P : Params) : findS (esK P 3).toList "_law_takes" = some (.ref 260) := by kernel_rfl
theorem gu_law_listing (P : Params) : findS (esK P 3).toList "_law_listing" = some (.ref 267) := by kernel_rfl
theorem gu_law_rights (P : Params) : findS (esK P 3).toList "_law_rights" = some (.ref 274) := by kernel_rfl
theorem gu_law_read (P : Params) : findS (esK P 3).toList "_law_read" = some (.ref 281) := by kernel_rfl
theorem gu_law_plain (P : Params) : findS (esK P 3).toList "_law_plain" = some (.ref 286) := by kernel_rfl
theorem gu_law_due (P : Params) : findS (esK P 3).toList "_law_due" = some (.ref 291) := by kernel_rfl
theorem glaw (P : Params) : findS (esK P 3).toList "law" = some (.ref 296) := by kernel_rfl
theorem gn_len (P : Params) : findS (esK P 3).toList "len" = none := by kernel_rfl
theorem gn_sorted (P : Params) : findS (esK P 3).toList "sorted" = none := by kernel_rfl
theorem gn_range (P : Params) : findS (esK P 3).toList "range" = none := by kernel_rfl
theorem gn_list (P : Params) : findS (esK P 3).toList "list" = none := by kernel_rfl
theorem gn_enumerate (P : Params) : findS (esK P 3).toList "enumerate" = none := by kernel_rfl
theorem gn_type (P : Params) : findS (esK P 3).toList "type" = none := by kernel_rfl
theorem gn_issubclass (P : Params) : findS (esK P 3).toList "issubclass" = none := by kernel_rfl
theorem gn_isinstance (P : Params) : findS (esK P 3).toList "isinstance" = none := by kernel_rfl
theorem gn_str (P : Params) : findS (esK P 3).toList "str" = none := by kernel_rfl
theorem gn_bytes (P : Params) : findS (esK P 3).toList "bytes" = none := by kernel_rfl
theorem bt_len : bootBuiltins "len" = some (.builtin "len") := by kernel_rfl
theorem bt_sorted : bootBuiltins "sorted" = some (.builtin "sorted") := by kernel_rfl
theorem bt_range : bootBuiltins "range" = some (.type "range") := by kernel_rfl
theorem bt_list : bootBuiltins "list" = some (.type "list") := by kernel_rfl
theorem bt_enumerate : bootBuiltins "enumerate" = some (.type "enumerate") := by kernel_rfl
theorem bt_type : bootBuiltins "type" = some (.type "type") := by kernel_rfl
theorem bt_issubclass : bootBuiltins "issubclass" = some (.builtin "issubclass") := by kernel_rfl
theorem bt_isinstance : bootBuiltins "isinstance" = some (.builtin "isinstance") := by kernel_rfl
theorem bt_str : bootBuiltins "str" = some (.type "str") := by kernel_rfl
theorem bt_bytes : bootBuiltins "bytes" = some (.type "bytes") := by kernel_rfl
theorem gl1 (P : Params) {d : D} : gl 1 = some d → chkD (KP P) 5 (.ref 85) d = true := by
  intro e; cases e; kernel_rfl

section
variable {P : Params} {prog : Program} {w : World} {ρ : Addr} {h : Heap} {mg mb : Str → Option Value} {q : Program} {loose : List Str} {mean : ExcName → Option Value}
theorem mgK (X : (KP P).In h) (g : h.Ns PySem.mainGlobals mg) (x : Str) : mg x = findS (esK P 3).toList x := ns_at X g (l3 P) (d3 P) x
theorem baseK (T : PyProof.Rows.Top q loose mean mg mb h) (X : (KP P).In h) : Base prog w ρ h mg mb gl gnm fnm faK where
  g := T.g
  b := T.b
  nolim := T.nolimit
  nb := by
    obtain ⟨mc, h1, _⟩ := T.nolimit
    exact ⟨mc, h1, (ns_at X h1 (l2 P) (d2 P) _).trans (by kernel_rfl)⟩
  ne := ⟨by decide, by decide, by decide⟩
  len := ⟨(mgK X T.g _).trans (gn_len P), (T.builtins _ (by decide +kernel)).trans bt_len⟩
  sorted := ⟨(mgK X T.g _).trans (gn_sorted P), (T.builtins _ (by decide +kernel)).trans bt_sorted⟩
  range := ⟨(mgK X T.g _).trans (gn_range P), (T.builtins _ (by decide +kernel)).trans bt_range⟩
  list := ⟨(mgK X T.g _).trans (gn_list P), (T.builtins _ (by decide +kernel)).trans bt_list⟩
  enum := ⟨(mgK X T.g _).trans (gn_enumerate P), (T.builtins _ (by decide +kernel)).trans bt_enumerate⟩
  gl := fun n x d h1 h2 => by
    match n, h1, h2 with
    | 0, h1, h2 => cases h1; cases h2; exact ⟨_, (mgK X T.g _).trans (gS_IFDIR P), .int _ _⟩
    | 1, h1, h2 => cases h1; exact ⟨_, (mgK X T.g _).trans (gu_filemode_table P), chkD_sound X (gl1 P h2)⟩
    | n + 2, h1, _ => cases h1
  fn := fun f x hf => by
    have hlt : f < 22 := by
      unfold fnm at hf
      exact (List.getElem?_eq_some_iff.mp hf).1
    match f, hlt with
    | 0, _ => cases hf; exact ⟨(mgK X T.g _).trans (gS_IFMT P), by decide, _, _, X _ _ (fkS_IFMT P).l, (fkS_IFMT P).f⟩
    | 1, _ => cases hf; exact ⟨(mgK X T.g _).trans (gS_ISDIR P), by decide, _, _, X _ _ (fkS_ISDIR P).l, (fkS_ISDIR P).f⟩
    | 2, _ => cases hf; exact ⟨(mgK X T.g _).trans (gfilemode P), by decide, _, _, X _ _ (fkfilemode P).l, (fkfilemode P).f⟩
    | 3, _ => cases hf; exact ⟨(mgK X T.g _).trans (gescape P), by decide, _, _, X _ _ (fkescape P).l, (fkescape P).f⟩
    | 4, _ => cases hf; exact ⟨(mgK X T.g _).trans (gu_translate P), by decide, _, _, X _ _ (fk_translate P).l, (fk_translate P).f⟩
    | 5, _ => cases hf; exact ⟨(mgK X T.g _).trans (gfspath P), by decide, _, _, X _ _ (fkfspath P).l, (fkfspath P).f⟩
    | 6, _ => cases hf; exact ⟨(mgK X T.g _).trans (gu_get_sep P), by decide, _, _, X _ _ (fk_get_sep P).l, (fk_get_sep P).f⟩
    | 7, _ => cases hf; exact ⟨(mgK X T.g _).trans (gjoin P), by decide, _, _, X _ _ (fkjoin P).l, (fkjoin P).f⟩
    | 8, _ => cases hf; exact ⟨(mgK X T.g _).trans (gbasename P), by decide, _, _, X _ _ (fkbasename P).l, (fkbasename P).f⟩
    | 9, _ => cases hf; exact ⟨(mgK X T.g _).trans (gdirname P), by decide, _, _, X _ _ (fkdirname P).l, (fkdirname P).f⟩
    | 10, _ => cases hf; exact ⟨(mgK X T.g _).trans (gu_law_numbers P), by decide, _, _, X _ _ (fk_law_numbers P).l, (fk_law_numbers P).f⟩
    | 11, _ => cases hf; exact ⟨(mgK X T.g _).trans (gu_law_items P), by decide, _, _, X _ _ (fk_law_items P).l, (fk_law_items P).f⟩
    | 12, _ => cases hf; exact ⟨(mgK X T.g _).trans (gu_law_tree P), by decide, _, _, X _ _ (fk_law_tree P).l, (fk_law_tree P).f⟩
    | 13, _ => cases hf; exact ⟨(mgK X T.g _).trans (gu_law_world P), by decide, _, _, X _ _ (fk_law_world P).l, (fk_law_world P).f⟩
    | 14, _ => cases hf; exact ⟨(mgK X T.g _).trans (gu_law_fits P), by decide, _, _, X _ _ (fk_law_fits P).l, (fk_law_fits P).f⟩
    | 15, _ => cases hf; exact ⟨(mgK X T.g _).trans (gu_law_takes P), by decide, _, _, X _ _ (fk_law_takes P).l, (fk_law_takes P).f⟩
    | 16, _ => cases hf; exact ⟨(mgK X T.g _).trans (gu_law_listing P), by decide, _, _, X _ _ (fk_law_listing P).l, (fk_law_listing P).f⟩
    | 17, _ => cases hf; exact ⟨(mgK X T.g _).trans (gu_law_rights P), by decide, _, _, X _ _ (fk_law_rights P).l, (fk_law_rights P).f⟩
    | 18, _ => cases hf; exact ⟨(mgK X T.g _).trans (gu_law_read P), by decide, _, _, X _ _ (fk_law_read P).l, (fk_law_read P).f⟩
    | 19, _ => cases hf; exact ⟨(mgK X T.g _).trans (gu_law_plain P), by decide, _, _, X _ _ (fk_law_plain P).l, (fk_law_plain P).f⟩
    | 20, _ => cases hf; exact ⟨(mgK X T.g _).trans (gu_law_due P), by decide, _, _, X _ _ (fk_law_due P).l, (fk_law_due P).f⟩
    | 21, _ => cases hf; exact ⟨(mgK X T.g _).trans (glaw P), by decide, _, _, X _ _ (fklaw P).l, (fklaw P).f⟩
theorem base2K (T : PyProof.Rows.Top q loose mean mg mb h) (X : (KP P).In h) : Base2 mg mb where
  type := ⟨(mgK X T.g _).trans (gn_type P), (T.builtins _ (by decide +kernel)).trans bt_type⟩
  issub := ⟨(mgK X T.g _).trans (gn_issubclass P), (T.builtins _ (by decide +kernel)).trans bt_issubclass⟩
  isins := ⟨(mgK X T.g _).trans (gn_isinstance P), (T.builtins _ (by decide +kernel)).trans bt_isinstance⟩
  str := ⟨(mgK X T.g _).trans (gn_str P), (T.builtins _ (by decide +kernel)).trans bt_str⟩
  bytes := ⟨(mgK X T.g _).trans (gn_bytes P), (T.builtins _ (by decide +kernel)).trans bt_bytes⟩
theorem base3K (T : PyProof.Rows.Top q loose mean mg mb h) (hT : h.get? gT = some (tabObj #[])) : Base3 h mg where
  bm := by
    obtain ⟨bm, ob, h1, h2, h3, h4, h5, h6⟩ := T.bmain
    refine ⟨bm, ob, ⟨T.g, h1, h2, h3, h4, h5, h6⟩, ?_⟩
    rintro rfl
    rw [hT] at h3; cases h3; cases h4
theorem base4K (T : PyProof.Rows.Top q loose mean mg mb h) (X : (KP P).In h) : Base4 h mg where
  pat := ⟨97, (mgK X T.g _).trans (gu_twin_re_1 P), by decide, 96, 382, 417, objK P 96, by decide, X _ _ (by kernel_rfl), X _ _ (by kernel_rfl), by kernel_rfl, 0, by kernel_rfl⟩
theorem base5K (T : PyProof.Rows.Top q loose mean mg mb h) (X : (KP P).In h) : Base5 prog w h mg where
  map := by
    refine ⟨99, fun k => findBy Value.isInt (esK P 99) k, 506 + 4, (mgK X T.g _).trans (gu_special_chars_map P), by decide, by decide, ⟨objK P 99, esK P 99, epK P 99, X _ _ (by kernel_rfl), ⟨by kernel_rfl, by kernel_rfl, by kernel_rfl⟩, by kernel_rfl, ?_, fun _ => rfl⟩, ?_, ?_⟩
    · intro e he
      have hc : chkI (esK P 99).toList = true := by kernel_rfl
      have := List.all_eq_true.mp hc e (Array.mem_toList_iff.mpr he)
      split at this
      · rename_i i t hk
        refine ⟨i, ?_, by show e.hash = hashInt i; simpa using this⟩
        rw [hk]
        show Value.isInt i (.int i t) = true
        simp [Value.isInt]
      · cases this
    · show (Array.find? (fun e => Value.isInt 46 e.key) (esK P 99)).map (·.val) = _
      rw [← Array.find?_toList]
      kernel_rfl
    · show (Array.find? (fun e => Value.isInt 97 e.key) (esK P 99)).map (·.val) = _
      rw [← Array.find?_toList]
      kernel_rfl
end
end Mine
end
section
set_option Elab.async false
set_option autoImplicit false
set_option maxRecDepth 100000
namespace Mine
open PySem PySem.W PyProof.Rows

theorem roomK : Room 13 callerA := ⟨rfl, by decide, by decide⟩
theorem well_ints {P : Params} {prog : Program} {w : World} {ρ : Addr} {Mu : Addr → Prop} {h : Heap} : ∀ {l : List Int} {vs : List Value}, WellAll P h vs (ofPys (l.map PyData.int)) → RDs prog w ρ Mu h vs (l.map .int)
  | [], _, x => by cases x; exact .nil
  | i :: l, _, x => by
    cases x with
    | cons a r =>
      cases a with
      | int _ t => exact .cons (.int i t) (well_ints r)
def intsD (l : List Int) : Mine.D := .list (l.map .int)
theorem well_rd {P : Params} {prog : Program} {w : World} {ρ : Addr} {h : Heap} (hT : h.get? gT = some (tabObj #[])) {v : Value} {l : List Int} (x : Well P h v (ofPy (.list (l.map PyData.int)))) : RD prog w ρ (· = gT) h v (intsD l) := by
  have x : Well P h v (.list (ofPys (l.map PyData.int))) := x
  cases x with
  | list ho r =>
    refine .list ?_ ⟨0, ho⟩ (well_ints r)
    rintro rfl
    rw [hT] at ho; cases ho
theorem names_law : ∀ y ∈ namesOf "law", y.2 ≠ NameKind.cell := by decide +kernel

theorem call_law (pure : ∀ l : List Int, l.length ≤ 63 → SIG 13 21 [intsD l] = some (.bool true)) {w : World} {s : Shared} {mg mb : Str → Option Value} {q prog : Program} {loose : List Str} {mean : ExcName → Option Value} (T : PyProof.Rows.Top q loose mean mg mb s.heap)
    (X : (KP w.params).In s.heap) (hC : CodeHd s.heap gC gT) (hT : s.heap.get? gT = some (tabObj #[])) {fa : Addr} (hmg : mg "law" = some (.ref fa)) {v : Value} {l : List Int} (hw : Well w.params s.heap v (ofPy (.list (l.map PyData.int)))) (hlen : l.length ≤ 63) (hg : s.gens = #[]) {E : Value → Shared → Prop} :
    wpAny (model prog w) callerA (call (.ref fa) [v]) (fun r s' => r = .bool true ∧ OldK s.heap s'.heap ∧ s'.os = s.os ∧ AllBare s'.gens) E s := by
  have hfa : fa = faK 21 := by
    have := (mgK X T.g "law").trans (glaw w.params)
    rw [hmg] at this
    cases this; rfl
  subst hfa
  have TI : TabInv s.heap := ⟨hC, #[], hT, trivial⟩
  have B : ∀ ρ, Base prog w ρ s.heap mg mb gl gnm fnm faK := fun ρ => baseK T X
  have SG := sig_all B (base2K T X) (base3K T hT) (base4K T X) (base5K (prog := prog) (w := w) T X) (fnsK X) (fnsTK X)
  have R : St s.heap (· = gT) s := ⟨fun b o _ e => e, TI, fun a ha => by rw [ha, hT]; rfl, rfl, fun a ha => .inl ha⟩
  have run : runFun gl (SIG 12) Flaw [intsD l] = some (.bool true) := pure l hlen
  obtain ⟨fd, Fa, hb, hn, hbd⟩ := (fnsK X).f21.fd
  refine fn_top (x := "script") (v := vlaw) (B 0) Fa (fnsK X).f21.ne (by rw [hn]; decide +kernel) hb (hbd [v] rfl) (cklaw _ hn) (by rw [hn]; exact names_law) ?_ run roomK R (well_rd hT hw) fun r s' x rd => ?_
  · rw [hn]
    exact (gens (B 0) (SG 12 0) eslaw).h
  · cases rd
    refine ⟨rfl, ⟨fun b o e => ?_, fun b o e => ?_⟩, x.os, x.gens (by rw [hg]; exact .empty)⟩
    · by_cases hb : b = gT
      · subst hb
        rw [hT] at e
        cases e
        obtain ⟨_, ps, hp, _⟩ := x.tab TI
        refine .inr (.inl ⟨(hC.tab hT).isCodeTable, rfl, #[], ps, rfl, ?_⟩)
        rw [hp]; simp
      · exact .inl (x.keep b o hb e)
    · by_cases hb : b = gT
      · subst hb
        obtain ⟨_, ps, hp, _⟩ := x.tab TI
        exact ⟨_, hp⟩
      · exact ⟨o, x.keep b o hb e⟩
end Mine
end
section
set_option Elab.async false
set_option autoImplicit false
set_option maxRecDepth 100000
set_option maxHeartbeats 0
namespace Mine
open PySem PySem.W PyProof.Rows
theorem join_law (pure : ∀ l : List Int, l.length ≤ 63 → SIG 13 21 [intsD l] = some (.bool true)) : PySem.Challenge.rw_in0236_01.Holds := hd (by
  k_fill
  intro w s₀ s₁ mg mb G Y fa o pm cd doc dV kV ho hd hcd hD hmg hg args vals as hpre hlay hrd hwl hlo
  have KX := km_in_of Y
  km_tabs Y
  have X := (Ground.X G).1
  have V := (Ground.X G).2
  refine Ground.open G ?_
  intro T B D TE TW
  try (refine guard_noD D (by decide +kernel) ?_; clear D)
  km_lay T hmg ho hd cd
  wrow_args hpre hlay hrd hwl hlo
  all_goals (
    rename Well _ _ _ _ => hw
    rename List Int => ns
    rename ¬ _ < _ => hlen
    have hT := (hT9 _ (List.mem_cons_self ..))
    refine wpAny_mono (call_law pure T KX hT.1 hT.2 hmg hw (by omega) hg) (fun r s' ⟨hr, hk, hos, hb⟩ => ?_) fun _ _ e => e
    subst hr
    refine ⟨.inl ⟨_, .bool true, [], rfl, ?_, ?_, ?_, ?_⟩, hk, hos, hb⟩
    · exact fun _ => rfl
    · exact .bool true
    · wrow_post
    · exact fun _ => ⟨.nil, fun _ h => nomatch h⟩))
end Mine
end
section
set_option autoImplicit false
set_option maxRecDepth 100000
namespace Mine
open PySem PySem.W
section
variable {G : Nat → Option D} {Sg : Sig}
theorem seqN {s : PS} {r : PSs} {σ σ' : List LV} (h : exS G Sg s σ = some (.next, σ')) : exSs G Sg (.cons s r) σ = exSs G Sg r σ' := by
  show (exS G Sg s σ).bind _ = _
  rw [h]; rfl
theorem seqR {s : PS} {r : PSs} {σ σ' : List LV} {d : D} (h : exS G Sg s σ = some (.ret d, σ')) : exSs G Sg (.cons s r) σ = some (.ret d, σ') := by
  show (exS G Sg s σ).bind _ = _
  rw [h]; rfl
theorem seqB {s : PS} {r : PSs} {σ σ' : List LV} (h : exS G Sg s σ = some (.brk, σ')) : exSs G Sg (.cons s r) σ = some (.brk, σ') := by
  show (exS G Sg s σ).bind _ = _
  rw [h]; rfl
theorem runFun_of {F : Fun} {args : List D} {d : D} {σ : List LV} (hl : args.length = F.nargs) (h : exSs G Sg F.body (args.map .fz ++ List.replicate (F.nslots - F.nargs) .un) = some (.ret d, σ)) : runFun G Sg F args = some d := by
  unfold runFun
  rw [if_pos hl, h]; rfl
theorem s_assign {k : Nat} {e : PE} {σ : List LV} {d : D} (h : evE G Sg e σ = some (d, .fz)) : exS G Sg (.assign k e) σ = some (.next, σ.set k (.fz d)) := by
  show (evE G Sg e σ).bind _ = _
  rw [h]; rfl
theorem s_fresh {k : Nat} {e : PE} {σ : List LV} {d : D} (h : evE G Sg e σ = some (d, .fresh)) : exS G Sg (.assign k e) σ = some (.next, putO k d σ) := by
  show (evE G Sg e σ).bind _ = _
  rw [h]; rfl
theorem s_ret {e : PE} {σ : List LV} {d : D} {t : Tag} (h : evE G Sg e σ = some (d, t)) : exS G Sg (.ret e) σ = some (.ret d, σ) := by
  show (evE G Sg e σ).map _ = _
  rw [h]; rfl
theorem s_ite {c : PE} {a b : PSs} {σ : List LV} {d : D} {t : Tag} {x : Bool} (h : evE G Sg c σ = some (d, t)) (ht : truth d = some x) : exS G Sg (.ite c a b) σ = if x then exSs G Sg a σ else exSs G Sg b σ := by
  show (evE G Sg c σ).bind _ = _
  rw [h]
  show (truth d).bind _ = _
  rw [ht]; rfl
theorem s_forE {k : Nat} {xs : PE} {body orelse : PSs} {σ : List LV} {d : D} {t : Tag} {l : List D} (h : evE G Sg xs σ = some (d, t)) (hw : walkable (d, t) = some l) : exS G Sg (.forE k xs body orelse) σ = (forGo (fun d σ => some (σ.set k (.fz d))) (fun σ => exSs G Sg body σ) l σ).bind (behind fun σ => exSs G Sg orelse σ) := by
  show (evE G Sg xs σ).bind _ = _
  rw [h]
  show (walkable _).bind _ = _
  rw [hw]; rfl
theorem s_forT {ks : List Nat} {xs : PE} {body orelse : PSs} {σ : List LV} {d : D} {t : Tag} {l : List D} (h : evE G Sg xs σ = some (d, t)) (hw : walkable (d, t) = some l) : exS G Sg (.forT ks xs body orelse) σ = (forGo (bindT ks) (fun σ => exSs G Sg body σ) l σ).bind (behind fun σ => exSs G Sg orelse σ) := by
  show (evE G Sg xs σ).bind _ = _
  rw [h]
  show (walkable _).bind _ = _
  rw [hw]; rfl
theorem s_forR {k : Nat} {lo hi : PE} {body : PSs} {σ : List LV} {t t' : Tag} {i j : Int} (h : evE G Sg lo σ = some (.int i, t)) (h' : evE G Sg hi σ = some (.int j, t')) (hi0 : i.natAbs ≤ 1000000) (hj0 : j.natAbs ≤ 1000000) : exS G Sg (.forR k lo hi body) σ = (forGo (fun d σ => some (σ.set k (.fz d))) (fun σ => exSs G Sg body σ) (rangeL i j) σ).bind (behind fun σ => some (.next, σ)) := by
  show (evE G Sg lo σ).bind _ = _
  rw [h]
  show (evE G Sg _ σ).bind _ = _
  rw [h']
  show (if _ then _ else _) = _
  rw [if_pos ⟨hi0, hj0⟩]
theorem s_appnd {k : Nat} {e : PE} {σ : List LV} {d : D} {t : Tag} {l : List D} (h : evE G Sg e σ = some (d, t)) (hk : kept (d, t) = some d) (hs : σ[k]? = some (.ow (.list l))) (hl : l.length ≤ 1000000) : exS G Sg (.appnd k e) σ = some (.next, σ.set k (.ow (.list (l ++ [d])))) := by
  show (evE G Sg e σ).bind _ = _
  rw [h]
  show (kept (d, t)).bind _ = _
  rw [hk]
  show (match σ[k]? with | some (.ow (.list l)) => _ | _ => _) = _
  rw [hs]
  show (if _ then _ else _) = _
  rw [if_pos hl]
theorem forGo_nil {bind : D → List LV → Option (List LV)} {body : List LV → Option (Fl × List LV)} {σ : List LV} : forGo bind body [] σ = some (.next, σ) := rfl
theorem forGo_cons {bind : D → List LV → Option (List LV)} {body : List LV → Option (Fl × List LV)} {d : D} {r : List D} {σ σ₁ σ₂ : List LV} (hb : bind d σ = some σ₁) (h : body σ₁ = some (.next, σ₂)) : forGo bind body (d :: r) σ = forGo bind body r σ₂ := by
  show (bind d σ).bind _ = _
  rw [hb]
  show (body σ₁).bind _ = _
  rw [h]; rfl
theorem forGo_brk {bind : D → List LV → Option (List LV)} {body : List LV → Option (Fl × List LV)} {d : D} {r : List D} {σ σ₁ σ₂ : List LV} (hb : bind d σ = some σ₁) (h : body σ₁ = some (.brk, σ₂)) : forGo bind body (d :: r) σ = some (.brk, σ₂) := by
  show (bind d σ).bind _ = _
  rw [hb]
  show (body σ₁).bind _ = _
  rw [h]; rfl
/-- a for loop by an invariant: I i holds in front of round i -/
theorem forGo_inv {bind : D → List LV → Option (List LV)} {body : List LV → Option (Fl × List LV)} {l : List D} (I : Nat → List LV → Prop) (step : ∀ i (h : i < l.length) σ, I i σ → ∃ σ₁ σ₂, bind l[i] σ = some σ₁ ∧ body σ₁ = some (.next, σ₂) ∧ I (i + 1) σ₂) {σ : List LV} (h0 : I 0 σ) : ∃ σ', forGo bind body l σ = some (.next, σ') ∧ I l.length σ' := by
  induction l generalizing I σ with
  | nil => exact ⟨σ, rfl, h0⟩
  | cons d r ih =>
    obtain ⟨σ₁, σ₂, hb, hs, hi⟩ := step 0 (by simp) σ h0
    obtain ⟨σ', e, hI⟩ := ih (fun i => I (i + 1)) (fun i h σ hI => step (i + 1) (by simpa using h) σ hI) hi
    exact ⟨σ', (forGo_cons (d := d) hb hs).trans e, hI⟩
theorem whileGo_next {test : List LV → Option Bool} {body : List LV → Option (Fl × List LV)} {n : Nat} {σ σ' : List LV} (ht : test σ = some true) (h : body σ = some (.next, σ')) : whileGo test body (n + 1) σ = whileGo test body n σ' := by
  show (test σ).bind _ = _
  rw [ht]
  show (body σ).bind _ = _
  rw [h]; rfl
theorem whileGo_end {test : List LV → Option Bool} {body : List LV → Option (Fl × List LV)} {n : Nat} {σ : List LV} (ht : test σ = some false) : whileGo test body (n + 1) σ = some (.next, σ) := by
  show (test σ).bind _ = _
  rw [ht]; rfl
theorem e_lit {σ : List LV} (d : D) : evE G Sg (.lit d) σ = some (d, .fz) := rfl
theorem e_var {k : Nat} {σ : List LV} {d : D} (h : σ[k]? = some (.fz d)) : evE G Sg (.var k) σ = some (d, .fz) := by
  show (σ[k]?).bind _ = _
  rw [h]; rfl
theorem e_own {k : Nat} {σ : List LV} {d : D} (h : σ[k]? = some (.ow d)) : evE G Sg (.var k) σ = some (d, .own k) := by
  show (σ[k]?).bind _ = _
  rw [h]; rfl
theorem e_neg {a : PE} {σ : List LV} {i : Int} {t : Tag} (h : evE G Sg a σ = some (.int i, t)) : evE G Sg (.neg a) σ = some (.int (-i), .fz) := by
  show (evE G Sg a σ).bind _ = _
  rw [h]; rfl
theorem e_bin {op : BOp} {a b : PE} {σ : List LV} {x y : D} {t t' : Tag} {r : D × Tag} (ha : evE G Sg a σ = some (x, t)) (hb : evE G Sg b σ = some (y, t')) (h : binOp op x y = some r) : evE G Sg (.bin op a b) σ = some r := by
  show (evE G Sg a σ).bind _ = _
  rw [ha]
  show (evE G Sg b σ).bind _ = _
  rw [hb]; exact h
theorem e_cmp {op : COp} {a b : PE} {σ : List LV} {x y : D} {t t' : Tag} {r : Bool} (ha : evE G Sg a σ = some (x, t)) (hb : evE G Sg b σ = some (y, t')) (h : cmpOp op x y = some r) : evE G Sg (.cmp op a b) σ = some (.bool r, .fz) := by
  show (evE G Sg a σ).bind _ = _
  rw [ha]
  show (evE G Sg b σ).bind _ = _
  rw [hb]
  show (cmpOp op x y).map _ = _
  rw [h]; rfl
theorem e_idx {a b : PE} {σ : List LV} {x y d : D} {t t' : Tag} (ha : evE G Sg a σ = some (x, t)) (hb : evE G Sg b σ = some (y, t')) (h : idxOp x y = some d) : evE G Sg (.idx a b) σ = some (d, .fz) := by
  show (evE G Sg a σ).bind _ = _
  rw [ha]
  show (evE G Sg b σ).bind _ = _
  rw [hb]
  show (idxOp x y).map _ = _
  rw [h]; rfl
theorem e_len {a : PE} {σ : List LV} {x : D} {t : Tag} {n : Int} (ha : evE G Sg a σ = some (x, t)) (h : lenOp x = some n) : evE G Sg (.len a) σ = some (.int n, .fz) := by
  show (evE G Sg a σ).bind _ = _
  rw [ha]
  show (lenOp x).map _ = _
  rw [h]; rfl
theorem e_not {a : PE} {σ : List LV} {x : D} {t : Tag} {p : Bool} (ha : evE G Sg a σ = some (x, t)) (h : truth x = some p) : evE G Sg (.not a) σ = some (.bool (!p), .fz) := by
  show (evE G Sg a σ).bind _ = _
  rw [ha]
  show (truth x).map _ = _
  rw [h]; rfl
theorem e_andB {a b : PE} {σ : List LV} {p q : Bool} (ha : evE G Sg a σ = some (.bool p, .fz)) (hb : p = true → evE G Sg b σ = some (.bool q, .fz)) : evE G Sg (.and a (.cons b .nil)) σ = some (.bool (p && q), .fz) := by
  show (evE G Sg a σ).bind _ = _
  rw [ha]
  cases p with
  | false => rfl
  | true =>
    show (evE G Sg b σ).bind _ = _
    rw [hb rfl]
    cases q <;> rfl
theorem e_orB {a b : PE} {σ : List LV} {p q : Bool} (ha : evE G Sg a σ = some (.bool p, .fz)) (hb : p = false → evE G Sg b σ = some (.bool q, .fz)) : evE G Sg (.or a (.cons b .nil)) σ = some (.bool (p || q), .fz) := by
  show (evE G Sg a σ).bind _ = _
  rw [ha]
  cases p with
  | true => rfl
  | false =>
    show (evE G Sg b σ).bind _ = _
    rw [hb rfl]
    cases q <;> rfl
theorem e_and3 {a b c : PE} {σ : List LV} {p q r : Bool} (ha : evE G Sg a σ = some (.bool p, .fz)) (hb : p = true → evE G Sg b σ = some (.bool q, .fz)) (hc : p = true → q = true → evE G Sg c σ = some (.bool r, .fz)) : evE G Sg (.and a (.cons b (.cons c .nil))) σ = some (.bool (p && (q && r)), .fz) := by
  show (evE G Sg a σ).bind _ = _
  rw [ha]
  cases p with
  | false => rfl
  | true =>
    show (evE G Sg b σ).bind _ = _
    rw [hb rfl]
    cases q with
    | false => rfl
    | true =>
      show (evE G Sg c σ).bind _ = _
      rw [hc rfl rfl]
      cases r <;> rfl
theorem e_or3 {a b c : PE} {σ : List LV} {p q r : Bool} (ha : evE G Sg a σ = some (.bool p, .fz)) (hb : p = false → evE G Sg b σ = some (.bool q, .fz)) (hc : p = false → q = false → evE G Sg c σ = some (.bool r, .fz)) : evE G Sg (.or a (.cons b (.cons c .nil))) σ = some (.bool (p || (q || r)), .fz) := by
  show (evE G Sg a σ).bind _ = _
  rw [ha]
  cases p with
  | true => rfl
  | false =>
    show (evE G Sg b σ).bind _ = _
    rw [hb rfl]
    cases q with
    | true => rfl
    | false =>
      show (evE G Sg c σ).bind _ = _
      rw [hc rfl rfl]
      cases r <;> rfl
theorem e_ite {c a b : PE} {σ : List LV} {x : D} {t : Tag} {p : Bool} {r : D × Tag} (hc : evE G Sg c σ = some (x, t)) (ht : truth x = some p) (ha : p = true → evE G Sg a σ = some r) (hb : p = false → evE G Sg b σ = some r) : evE G Sg (.ite c a b) σ = some r := by
  show (evE G Sg c σ).bind _ = _
  rw [hc]
  show (truth x).bind _ = _
  rw [ht]
  cases p with
  | true => exact ha rfl
  | false => exact hb rfl
theorem es_nil {σ : List LV} : evEs G Sg .nil σ = some [] := rfl
theorem es_cons {e : PE} {r : PEs} {σ : List LV} {d : D} {t : Tag} {ds : List D} (h : evE G Sg e σ = some (d, t)) (hk : kept (d, t) = some d) (hr : evEs G Sg r σ = some ds) : evEs G Sg (.cons e r) σ = some (d :: ds) := by
  show (evE G Sg e σ).bind _ = _
  rw [h]
  show (kept (d, t)).bind _ = _
  rw [hk]
  show (evEs G Sg r σ).map _ = _
  rw [hr]; rfl
theorem eb_cons {e : PE} {r : PEs} {σ : List LV} {d : D} {t : Tag} {ds : List D} (h : evE G Sg e σ = some (d, t)) (hr : evB G Sg r σ = some ds) : evB G Sg (.cons e r) σ = some (d :: ds) := by
  show (evE G Sg e σ).bind _ = _
  rw [h]
  show (evB G Sg r σ).map _ = _
  rw [hr]; rfl
theorem e_tup {es : PEs} {σ : List LV} {ds : List D} (h : evEs G Sg es σ = some ds) : evE G Sg (.tup es) σ = some (.tup ds, .fz) := by
  show (evEs G Sg es σ).map _ = _
  rw [h]; rfl
theorem e_lst {es : PEs} {σ : List LV} {ds : List D} (h : evEs G Sg es σ = some ds) : evE G Sg (.lst es) σ = some (.list ds, .fresh) := by
  show (evEs G Sg es σ).map _ = _
  rw [h]; rfl
theorem e_call {f : Nat} {es : PEs} {σ : List LV} {ds : List D} {d : D} (h : evEs G Sg es σ = some ds) (hs : Sg f ds = some d) : evE G Sg (.call f es) σ = some (d, .fz) := by
  show (evEs G Sg es σ).bind _ = _
  rw [h]
  show (Sg f ds).map _ = _
  rw [hs]; rfl
theorem e_call1 {f : Nat} {a : PE} {σ : List LV} {x d : D} (h : evE G Sg a σ = some (x, .fz)) (hs : Sg f [x] = some d) : evE G Sg (.call f (.cons a .nil)) σ = some (d, .fz) := e_call (es_cons h rfl es_nil) hs
theorem e_call2 {f : Nat} {a b : PE} {σ : List LV} {x y d : D} (h : evE G Sg a σ = some (x, .fz)) (h' : evE G Sg b σ = some (y, .fz)) (hs : Sg f [x, y] = some d) : evE G Sg (.call f (.cons a (.cons b .nil))) σ = some (d, .fz) := e_call (es_cons h rfl (es_cons h' rfl es_nil)) hs
theorem e_slTo {a i : PE} {σ : List LV} {x : D} {j : Int} {t t' : Tag} {r : D × Tag} (ha : evE G Sg a σ = some (x, t)) (hi : evE G Sg i σ = some (.int j, t')) (h : sliceOp x none (some j) = some r) : evE G Sg (.slTo a i) σ = some r := by
  show (evE G Sg a σ).bind _ = _
  rw [ha]
  show (evE G Sg i σ).bind _ = _
  rw [hi]; exact h
theorem e_slFrom {a i : PE} {σ : List LV} {x : D} {j : Int} {t t' : Tag} {r : D × Tag} (ha : evE G Sg a σ = some (x, t)) (hi : evE G Sg i σ = some (.int j, t')) (h : sliceOp x (some j) none = some r) : evE G Sg (.slFrom a i) σ = some r := by
  show (evE G Sg a σ).bind _ = _
  rw [ha]
  show (evE G Sg i σ).bind _ = _
  rw [hi]; exact h
theorem e_sl {a i i' : PE} {σ : List LV} {x : D} {j j' : Int} {t t' t'' : Tag} {r : D × Tag} (ha : evE G Sg a σ = some (x, t)) (hi : evE G Sg i σ = some (.int j, t')) (hi' : evE G Sg i' σ = some (.int j', t'')) (h : sliceOp x (some j) (some j') = some r) : evE G Sg (.sl a i i') σ = some r := by
  show (evE G Sg a σ).bind _ = _
  rw [ha]
  show (evE G Sg i σ).bind _ = _
  rw [hi]
  show (evE G Sg i' σ).bind _ = _
  rw [hi']; exact h
theorem e_meth {m : Meth} {o : PE} {es : PEs} {σ : List LV} {x : D} {t : Tag} {ds : List D} {r : D × Tag} (h : evE G Sg o σ = some (x, t)) (hs : evB G Sg es σ = some ds) (hr : methOp m x ds = some r) : evE G Sg (.meth m o es) σ = some r := by
  show (evE G Sg o σ).bind _ = _
  rw [h]
  show (evB G Sg es σ).bind _ = _
  rw [hs]; exact hr
theorem e_meth1 {m : Meth} {o a : PE} {σ : List LV} {x y : D} {t t' : Tag} {r : D × Tag} (h : evE G Sg o σ = some (x, t)) (ha : evE G Sg a σ = some (y, t')) (hr : methOp m x [y] = some r) : evE G Sg (.meth m o (.cons a .nil)) σ = some r := e_meth h (eb_cons ha rfl) hr
theorem e_sorted {a : PE} {σ : List LV} {l r : List D} {t : Tag} (h : evE G Sg a σ = some (.list l, t)) (hs : sortOp l = some r) : evE G Sg (.sorted a) σ = some (.list r, .fresh) := by
  show (evE G Sg a σ).bind _ = _
  rw [h]
  show (sortOp l).map _ = _
  rw [hs]; rfl
theorem e_compR {elt a : PE} {σ : List LV} {n : Int} {t : Tag} {r : List D} (h : evE G Sg a σ = some (.int n, t)) (hn : n.natAbs ≤ 1000000) (hm : mapE (fun d => (evE G Sg elt (σ ++ [.fz d])).bind kept) (rangeL 0 n) = some r) : evE G Sg (.compR elt a) σ = some (.list r, .fresh) := by
  show (evE G Sg a σ).bind _ = _
  rw [h]
  show (if n.natAbs ≤ 1000000 then _ else _) = _
  rw [if_pos hn, hm]; rfl
theorem e_compRI {elt a c : PE} {σ : List LV} {n : Int} {t : Tag} {l r : List D} (h : evE G Sg a σ = some (.int n, t)) (hn : n.natAbs ≤ 1000000) (hf : filterE (fun d => (evE G Sg c (σ ++ [.fz d])).bind fun x => truth x.1) (rangeL 0 n) = some l) (hm : mapE (fun d => (evE G Sg elt (σ ++ [.fz d])).bind kept) l = some r) : evE G Sg (.compRI elt a c) σ = some (.list r, .fresh) := by
  show (evE G Sg a σ).bind _ = _
  rw [h]
  show (if n.natAbs ≤ 1000000 then _ else _) = _
  rw [if_pos hn, hf]
  show (mapE _ l).map _ = _
  rw [hm]; rfl
theorem e_compL {elt xs : PE} {σ : List LV} {l r : List D} {t : Tag} (h : evE G Sg xs σ = some (.list l, t)) (hn : l.length ≤ 1000000) (hm : mapE (fun d => (evE G Sg elt (σ ++ [.fz d])).bind kept) l = some r) : evE G Sg (.compL elt xs) σ = some (.list r, .fresh) := by
  show (evE G Sg xs σ).bind _ = _
  rw [h]
  show (if 1000000 < l.length then _ else _) = _
  rw [if_neg (by omega), hm]; rfl
theorem e_compLI {elt xs c : PE} {σ : List LV} {l l' r : List D} {t : Tag} (h : evE G Sg xs σ = some (.list l, t)) (hn : l.length ≤ 1000000) (hf : filterE (fun d => (evE G Sg c (σ ++ [.fz d])).bind fun x => truth x.1) l = some l') (hm : mapE (fun d => (evE G Sg elt (σ ++ [.fz d])).bind kept) l' = some r) : evE G Sg (.compLI elt xs c) σ = some (.list r, .fresh) := by
  show (evE G Sg xs σ).bind _ = _
  rw [h]
  show (if 1000000 < l.length then _ else _) = _
  rw [if_neg (by omega), hf]
  show (mapE _ l').map _ = _
  rw [hm]; rfl
theorem s_unpack {ks : List Nat} {e : PE} {σ σ' : List LV} {d : D} {t : Tag} (h : evE G Sg e σ = some (d, t)) (hb : bindT ks d σ = some σ') : exS G Sg (.unpack ks e) σ = some (.next, σ') := by
  show (evE G Sg e σ).bind _ = _
  rw [h]
  show (bindT ks d σ).map _ = _
  rw [hb]; rfl
theorem s_aug {k : Nat} {op : BOp} {e : PE} {σ : List LV} {d y d' : D} {t : Tag} (hs : σ[k]? = some (.fz d)) (h : evE G Sg e σ = some (y, t)) (hb : binOp op d y = some (d', .fz)) : exS G Sg (.aug k op e) σ = some (.next, σ.set k (.fz d')) := by
  show (σ[k]?).bind _ = _
  rw [hs]
  show (evE G Sg e σ).bind _ = _
  rw [h]
  show (binOp op d y).bind _ = _
  rw [hb]; rfl
theorem s_setD {k : Nat} {i v : PE} {σ : List LV} {d : D} {t t' : Tag} {key : List Nat} {l : List (List Nat × D)} (h : evE G Sg v σ = some (d, t)) (hk : kept (d, t) = some d) (hi : evE G Sg i σ = some (.str key, t')) (hs : σ[k]? = some (.ow (.dict l))) (hl : l.length ≤ 1000) : exS G Sg (.setD k i v) σ = some (.next, σ.set k (.ow (.dict (putD l key d)))) := by
  show (evE G Sg v σ).bind _ = _
  rw [h]
  show (kept (d, t)).bind _ = _
  rw [hk]
  show (evE G Sg i σ).bind _ = _
  rw [hi]
  show (match σ[k]?, D.str key with | some (.ow (.dict l)), .str key => _ | _, _ => _) = _
  rw [hs]
  show (if _ then _ else _) = _
  rw [if_pos hl]
theorem idx_nat {l : List D} {i : Nat} {d : D} (h : l[i]? = some d) (hi : i ≤ 1000000) : idxOp (.list l) (.int (i : Int)) = some d := by
  have h1 : ((i : Nat) : Int).natAbs ≤ 1000000 := by omega
  have h2 : (0 : Int) ≤ (i : Int) := by omega
  simp [idxOp, h1, h2, item, h]
  exact hi
theorem idx_str {s : List Nat} {i : Nat} {c : Nat} (h : s[i]? = some c) (hi : i ≤ 1000000) : idxOp (.str s) (.int (i : Int)) = some (.str [c]) := by
  have h1 : ((i : Nat) : Int).natAbs ≤ 1000000 := by omega
  have h2 : (0 : Int) ≤ (i : Int) := by omega
  simp [idxOp, h1, h2, item, h]
  exact hi
theorem idx_last (l : List D) (x : D) : idxOp (.list (l ++ [x])) (.int (-1)) = some x := by
  show item (l ++ [x]) (-1) = some x
  unfold item
  rw [if_neg (by decide), if_pos (by simp; omega)]
  have : (((l ++ [x]).length : Int) + -1).toNat = l.length := by simp; omega
  rw [this]; simp
theorem len_list {l : List D} (h : l.length ≤ 1000000) : lenOp (.list l) = some (l.length : Int) := if_pos h
theorem len_str {s : List Nat} (h : s.length ≤ 1000000) : lenOp (.str s) = some (s.length : Int) := if_pos h
theorem mapE_of {f : D → Option D} {g : D → D} : ∀ {l : List D}, (∀ d ∈ l, f d = some (g d)) → mapE f l = some (l.map g)
  | [], _ => rfl
  | d :: r, h => by
    show (f d).bind _ = _
    rw [h d (by simp)]
    show (mapE f r).map _ = _
    rw [mapE_of fun x hx => h x (by simp [hx])]; rfl
theorem filterE_of {f : D → Option Bool} {g : D → Bool} : ∀ {l : List D}, (∀ d ∈ l, f d = some (g d)) → filterE f l = some (l.filter g)
  | [], _ => rfl
  | d :: r, h => by
    show (f d).bind _ = _
    rw [h d (by simp)]
    show (filterE f r).map _ = _
    rw [filterE_of fun x hx => h x (by simp [hx])]
    cases e : g d <;> simp [e]
end
end Mine
end
section
set_option autoImplicit false
set_option maxRecDepth 100000
namespace Mine
open PySem PySem.W
def bodyT : PSs := match F_translate.body with
  | .cons _ (.cons _ (.cons _ (.cons (.while_ _ _ b) _))) => b
  | _ => .nil
def shp (x : Option (Fl × List LV)) : Option (Fl × List LV × Nat) := x.map fun p => (p.1, p.2.take 7, p.2.length)
abbrev stT (pat : List Nat) (res : List D) (i n : Int) (v7 v8 v9 v10 v11 v12 : LV) : List LV := [.fz (.str pat), .fz (.adr 0), .fz (.str [46]), .ow (.list res), .app 3, .fz (.int i), .fz (.int n), v7, v8, v9, v10, v11, v12]
abbrev SgT : Sig := sigT (SIG 1)
def patL : List (List Nat) := [[42], [63], [97], [46], [91, 33, 97, 93], [91, 46, 45, 93], [91, 91, 93], [91, 98, 45, 97, 93], [91, 33, 98, 45, 97, 93], [91, 97, 45, 98, 93], [91, 33, 45, 46, 93], [91, 32, 45, 58, 93], [91, 45, 45, 98, 93]]
def partL : List (Option (List Nat)) := [none, some [46], some [97], some [92, 46], some [91, 94, 97, 93], some [91, 46, 92, 45, 93], some [91, 92, 91, 93], some [40, 63, 33, 41], some [46], some [91, 97, 45, 98, 93], some [91, 94, 92, 45, 46, 93], some [91, 32, 45, 58, 93], some [91, 92, 45, 45, 98, 93]]
def patAt (i : Nat) : List Nat := (patL[i]?).getD []
def partAt (i : Nat) : Option (List Nat) := (partL[i]?).getD none
def isAdr : D → Bool
  | .adr _ => true
  | _ => false
def addP (res : List D) : Option (List Nat) → List D
  | some s => res ++ [.str s]
  | none => if (res.getLast?.map isAdr).getD false then res else res ++ [.adr 0]
def StepOK (i : Nat) (pre post : List Nat) (res : List D) : Prop := ∀ v7 v8 v9 v10 v11 v12 : LV,
  shp (exSs gl SgT bodyT (stT (pre ++ patAt i ++ post) res (pre.length : Int) ((pre ++ patAt i ++ post).length : Int) v7 v8 v9 v10 v11 v12)) = some (.next, [.fz (.str (pre ++ patAt i ++ post)), .fz (.adr 0), .fz (.str [46]), .ow (.list (addP res (partAt i))), .app 3, .fz (.int ((pre ++ patAt i).length : Int)), .fz (.int ((pre ++ patAt i ++ post).length : Int))], 13)
def Good (r : D) : Prop := (∃ t, r = .str t) ∨ r = .adr 0
theorem elA {P : List Nat → Prop} (h0 : P []) (h1 : ∀ a1, P [a1]) (h2 : ∀ a1 a2, P [a1, a2]) (h3 : ∀ a1 a2 a3, P [a1, a2, a3]) (h4 : ∀ a1 a2 a3 a4, P [a1, a2, a3, a4]) (h5 : ∀ a1 a2 a3 a4 a5, P [a1, a2, a3, a4, a5]) (h6 : ∀ a1 a2 a3 a4 a5 a6, P [a1, a2, a3, a4, a5, a6]) (h7 : ∀ a1 a2 a3 a4 a5 a6 a7, P [a1, a2, a3, a4, a5, a6, a7]) (h8 : ∀ a1 a2 a3 a4 a5 a6 a7 a8, P [a1, a2, a3, a4, a5, a6, a7, a8]) (h9 : ∀ a1 a2 a3 a4 a5 a6 a7 a8 a9, P [a1, a2, a3, a4, a5, a6, a7, a8, a9]) (h10 : ∀ a1 a2 a3 a4 a5 a6 a7 a8 a9 a10, P [a1, a2, a3, a4, a5, a6, a7, a8, a9, a10]) (h11 : ∀ a1 a2 a3 a4 a5 a6 a7 a8 a9 a10 a11, P [a1, a2, a3, a4, a5, a6, a7, a8, a9, a10, a11]) (h12 : ∀ a1 a2 a3 a4 a5 a6 a7 a8 a9 a10 a11 a12, P [a1, a2, a3, a4, a5, a6, a7, a8, a9, a10, a11, a12]) : ∀ l : List Nat, l.length ≤ 12 → P l
  | [], _ => h0
  | [a1], _ => h1 a1
  | [a1, a2], _ => h2 a1 a2
  | [a1, a2, a3], _ => h3 a1 a2 a3
  | [a1, a2, a3, a4], _ => h4 a1 a2 a3 a4
  | [a1, a2, a3, a4, a5], _ => h5 a1 a2 a3 a4 a5
  | [a1, a2, a3, a4, a5, a6], _ => h6 a1 a2 a3 a4 a5 a6
  | [a1, a2, a3, a4, a5, a6, a7], _ => h7 a1 a2 a3 a4 a5 a6 a7
  | [a1, a2, a3, a4, a5, a6, a7, a8], _ => h8 a1 a2 a3 a4 a5 a6 a7 a8
  | [a1, a2, a3, a4, a5, a6, a7, a8, a9], _ => h9 a1 a2 a3 a4 a5 a6 a7 a8 a9
  | [a1, a2, a3, a4, a5, a6, a7, a8, a9, a10], _ => h10 a1 a2 a3 a4 a5 a6 a7 a8 a9 a10
  | [a1, a2, a3, a4, a5, a6, a7, a8, a9, a10, a11], _ => h11 a1 a2 a3 a4 a5 a6 a7 a8 a9 a10 a11
  | [a1, a2, a3, a4, a5, a6, a7, a8, a9, a10, a11, a12], _ => h12 a1 a2 a3 a4 a5 a6 a7 a8 a9 a10 a11 a12
  | _ :: _ :: _ :: _ :: _ :: _ :: _ :: _ :: _ :: _ :: _ :: _ :: _ :: _, h => absurd h (by simp only [List.length_cons]; omega)
theorem elP {P : List Nat → Prop} (h1 : ∀ a1, P [a1]) (h3 : ∀ a1 a2 a3, P [a1, a2, a3]) (h4 : ∀ a1 a2 a3 a4, P [a1, a2, a3, a4]) (h5 : ∀ a1 a2 a3 a4 a5, P [a1, a2, a3, a4, a5]) (h6 : ∀ a1 a2 a3 a4 a5 a6, P [a1, a2, a3, a4, a5, a6]) : ∀ l : List Nat, (l.length = 1 ∨ l.length = 3 ∨ l.length = 4 ∨ l.length = 5 ∨ l.length = 6) → P l
  | [], h => absurd h (by simp only [List.length_cons, List.length_nil]; omega)
  | [a1], _ => h1 a1
  | [_, _], h => absurd h (by simp only [List.length_cons, List.length_nil]; omega)
  | [a1, a2, a3], _ => h3 a1 a2 a3
  | [a1, a2, a3, a4], _ => h4 a1 a2 a3 a4
  | [a1, a2, a3, a4, a5], _ => h5 a1 a2 a3 a4 a5
  | [a1, a2, a3, a4, a5, a6], _ => h6 a1 a2 a3 a4 a5 a6
  | _ :: _ :: _ :: _ :: _ :: _ :: _ :: _, h => absurd h (by simp only [List.length_cons]; omega)
theorem elQ {P : List Nat → Prop} (h0 : P []) (h1 : ∀ a1, P [a1]) (h3 : ∀ a1 a2 a3, P [a1, a2, a3]) (h4 : ∀ a1 a2 a3 a4, P [a1, a2, a3, a4]) (h5 : ∀ a1 a2 a3 a4 a5, P [a1, a2, a3, a4, a5]) (h6 : ∀ a1 a2 a3 a4 a5 a6, P [a1, a2, a3, a4, a5, a6]) : ∀ l : List Nat, (l.length = 0 ∨ l.length = 1 ∨ l.length = 3 ∨ l.length = 4 ∨ l.length = 5 ∨ l.length = 6) → P l
  | [], _ => h0
  | [a1], _ => h1 a1
  | [_, _], h => absurd h (by simp only [List.length_cons, List.length_nil]; omega)
  | [a1, a2, a3], _ => h3 a1 a2 a3
  | [a1, a2, a3, a4], _ => h4 a1 a2 a3 a4
  | [a1, a2, a3, a4, a5], _ => h5 a1 a2 a3 a4 a5
  | [a1, a2, a3, a4, a5, a6], _ => h6 a1 a2 a3 a4 a5 a6
  | _ :: _ :: _ :: _ :: _ :: _ :: _ :: _, h => absurd h (by simp only [List.length_cons]; omega)
theorem elC {P : List Nat → Prop} (h2 : ∀ a1 a2, P [a1, a2]) (h4 : ∀ a1 a2 a3 a4, P [a1, a2, a3, a4]) (h5 : ∀ a1 a2 a3 a4 a5, P [a1, a2, a3, a4, a5]) (h6 : ∀ a1 a2 a3 a4 a5 a6, P [a1, a2, a3, a4, a5, a6]) (h7 : ∀ a1 a2 a3 a4 a5 a6 a7, P [a1, a2, a3, a4, a5, a6, a7]) (h8 : ∀ a1 a2 a3 a4 a5 a6 a7 a8, P [a1, a2, a3, a4, a5, a6, a7, a8]) (h9 : ∀ a1 a2 a3 a4 a5 a6 a7 a8 a9, P [a1, a2, a3, a4, a5, a6, a7, a8, a9]) (h10 : ∀ a1 a2 a3 a4 a5 a6 a7 a8 a9 a10, P [a1, a2, a3, a4, a5, a6, a7, a8, a9, a10]) (h11 : ∀ a1 a2 a3 a4 a5 a6 a7 a8 a9 a10 a11, P [a1, a2, a3, a4, a5, a6, a7, a8, a9, a10, a11]) (h12 : ∀ a1 a2 a3 a4 a5 a6 a7 a8 a9 a10 a11 a12, P [a1, a2, a3, a4, a5, a6, a7, a8, a9, a10, a11, a12]) : ∀ l : List Nat, (l.length = 2 ∨ l.length = 4 ∨ l.length = 5 ∨ l.length = 6 ∨ l.length = 7 ∨ l.length = 8 ∨ l.length = 9 ∨ l.length = 10 ∨ l.length = 11 ∨ l.length = 12) → P l
  | [], h => absurd h (by simp only [List.length_cons, List.length_nil]; omega)
  | [_], h => absurd h (by simp only [List.length_cons, List.length_nil]; omega)
  | [a1, a2], _ => h2 a1 a2
  | [_, _, _], h => absurd h (by simp only [List.length_cons, List.length_nil]; omega)
  | [a1, a2, a3, a4], _ => h4 a1 a2 a3 a4
  | [a1, a2, a3, a4, a5], _ => h5 a1 a2 a3 a4 a5
  | [a1, a2, a3, a4, a5, a6], _ => h6 a1 a2 a3 a4 a5 a6
  | [a1, a2, a3, a4, a5, a6, a7], _ => h7 a1 a2 a3 a4 a5 a6 a7
  | [a1, a2, a3, a4, a5, a6, a7, a8], _ => h8 a1 a2 a3 a4 a5 a6 a7 a8
  | [a1, a2, a3, a4, a5, a6, a7, a8, a9], _ => h9 a1 a2 a3 a4 a5 a6 a7 a8 a9
  | [a1, a2, a3, a4, a5, a6, a7, a8, a9, a10], _ => h10 a1 a2 a3 a4 a5 a6 a7 a8 a9 a10
  | [a1, a2, a3, a4, a5, a6, a7, a8, a9, a10, a11], _ => h11 a1 a2 a3 a4 a5 a6 a7 a8 a9 a10 a11
  | [a1, a2, a3, a4, a5, a6, a7, a8, a9, a10, a11, a12], _ => h12 a1 a2 a3 a4 a5 a6 a7 a8 a9 a10 a11 a12
  | _ :: _ :: _ :: _ :: _ :: _ :: _ :: _ :: _ :: _ :: _ :: _ :: _ :: _, h => absurd h (by simp only [List.length_cons]; omega)
theorem stepA0 (post : List Nat) (h : post.length ≤ 12) : StepOK 0 [] post [] := by
  refine elA (P := fun post => StepOK 0 [] post []) ?_ ?_ ?_ ?_ ?_ ?_ ?_ ?_ ?_ ?_ ?_ ?_ ?_ post h <;> intros <;> unfold StepOK <;> intros <;> kernel_rfl
theorem stepBs0 (pre post : List Nat) (t : List Nat) (h : (pre.length = 1 ∨ pre.length = 3 ∨ pre.length = 4 ∨ pre.length = 5 ∨ pre.length = 6)) (hq : (post.length = 0 ∨ post.length = 1 ∨ post.length = 3 ∨ post.length = 4 ∨ post.length = 5 ∨ post.length = 6)) : StepOK 0 pre post [.str t] := by
  refine elP (P := fun pre => StepOK 0 pre post [.str t]) ?_ ?_ ?_ ?_ ?_ pre h <;> intros <;> refine elQ (P := fun post => StepOK 0 _ post [.str t]) ?_ ?_ ?_ ?_ ?_ ?_ post hq <;> intros <;> unfold StepOK <;> intros <;> kernel_rfl
theorem stepDs0 (a b : Nat) (t : List Nat) : StepOK 0 [a, b] [] [.str t] := by unfold StepOK; intros; kernel_rfl
theorem stepCs0 (pre : List Nat) (r1 : D) (t : List Nat) (h : (pre.length = 2 ∨ pre.length = 4 ∨ pre.length = 5 ∨ pre.length = 6 ∨ pre.length = 7 ∨ pre.length = 8 ∨ pre.length = 9 ∨ pre.length = 10 ∨ pre.length = 11 ∨ pre.length = 12)) : StepOK 0 pre [] [r1, .str t] := by
  refine elC (P := fun pre => StepOK 0 pre [] [r1, .str t]) ?_ ?_ ?_ ?_ ?_ ?_ ?_ ?_ ?_ ?_ pre h <;> intros <;> unfold StepOK <;> intros <;> kernel_rfl
theorem stepBa0 (pre post : List Nat) (h : (pre.length = 1 ∨ pre.length = 3 ∨ pre.length = 4 ∨ pre.length = 5 ∨ pre.length = 6)) (hq : (post.length = 0 ∨ post.length = 1 ∨ post.length = 3 ∨ post.length = 4 ∨ post.length = 5 ∨ post.length = 6)) : StepOK 0 pre post [.adr 0] := by
  refine elP (P := fun pre => StepOK 0 pre post [.adr 0]) ?_ ?_ ?_ ?_ ?_ pre h <;> intros <;> refine elQ (P := fun post => StepOK 0 _ post [.adr 0]) ?_ ?_ ?_ ?_ ?_ ?_ post hq <;> intros <;> unfold StepOK <;> intros <;> kernel_rfl
theorem stepDa0 (a b : Nat) : StepOK 0 [a, b] [] [.adr 0] := by unfold StepOK; intros; kernel_rfl
theorem stepCa0 (pre : List Nat) (r1 : D) (h : (pre.length = 2 ∨ pre.length = 4 ∨ pre.length = 5 ∨ pre.length = 6 ∨ pre.length = 7 ∨ pre.length = 8 ∨ pre.length = 9 ∨ pre.length = 10 ∨ pre.length = 11 ∨ pre.length = 12)) : StepOK 0 pre [] [r1, .adr 0] := by
  refine elC (P := fun pre => StepOK 0 pre [] [r1, .adr 0]) ?_ ?_ ?_ ?_ ?_ ?_ ?_ ?_ ?_ ?_ pre h <;> intros <;> unfold StepOK <;> intros <;> kernel_rfl
theorem stepA1 (post : List Nat) (h : post.length ≤ 12) : StepOK 1 [] post [] := by
  refine elA (P := fun post => StepOK 1 [] post []) ?_ ?_ ?_ ?_ ?_ ?_ ?_ ?_ ?_ ?_ ?_ ?_ ?_ post h <;> intros <;> unfold StepOK <;> intros <;> kernel_rfl
theorem stepB1 (pre post : List Nat) (r : D) (h : (pre.length = 1 ∨ pre.length = 3 ∨ pre.length = 4 ∨ pre.length = 5 ∨ pre.length = 6)) (hq : (post.length = 0 ∨ post.length = 1 ∨ post.length = 3 ∨ post.length = 4 ∨ post.length = 5 ∨ post.length = 6)) : StepOK 1 pre post [r] := by
  refine elP (P := fun pre => StepOK 1 pre post [r]) ?_ ?_ ?_ ?_ ?_ pre h <;> intros <;> refine elQ (P := fun post => StepOK 1 _ post [r]) ?_ ?_ ?_ ?_ ?_ ?_ post hq <;> intros <;> unfold StepOK <;> intros <;> kernel_rfl
theorem stepD1 (a b : Nat) (r : D) : StepOK 1 [a, b] [] [r] := by unfold StepOK; intros; kernel_rfl
theorem stepC1 (pre : List Nat) (r1 : D) (r : D) (h : (pre.length = 2 ∨ pre.length = 4 ∨ pre.length = 5 ∨ pre.length = 6 ∨ pre.length = 7 ∨ pre.length = 8 ∨ pre.length = 9 ∨ pre.length = 10 ∨ pre.length = 11 ∨ pre.length = 12)) : StepOK 1 pre [] [r1, r] := by
  refine elC (P := fun pre => StepOK 1 pre [] [r1, r]) ?_ ?_ ?_ ?_ ?_ ?_ ?_ ?_ ?_ ?_ pre h <;> intros <;> unfold StepOK <;> intros <;> kernel_rfl
theorem stepA2 (post : List Nat) (h : post.length ≤ 12) : StepOK 2 [] post [] := by
  refine elA (P := fun post => StepOK 2 [] post []) ?_ ?_ ?_ ?_ ?_ ?_ ?_ ?_ ?_ ?_ ?_ ?_ ?_ post h <;> intros <;> unfold StepOK <;> intros <;> kernel_rfl
theorem stepB2 (pre post : List Nat) (r : D) (h : (pre.length = 1 ∨ pre.length = 3 ∨ pre.length = 4 ∨ pre.length = 5 ∨ pre.length = 6)) (hq : (post.length = 0 ∨ post.length = 1 ∨ post.length = 3 ∨ post.length = 4 ∨ post.length = 5 ∨ post.length = 6)) : StepOK 2 pre post [r] := by
  refine elP (P := fun pre => StepOK 2 pre post [r]) ?_ ?_ ?_ ?_ ?_ pre h <;> intros <;> refine elQ (P := fun post => StepOK 2 _ post [r]) ?_ ?_ ?_ ?_ ?_ ?_ post hq <;> intros <;> unfold StepOK <;> intros <;> kernel_rfl
theorem stepD2 (a b : Nat) (r : D) : StepOK 2 [a, b] [] [r] := by unfold StepOK; intros; kernel_rfl
theorem stepC2 (pre : List Nat) (r1 : D) (r : D) (h : (pre.length = 2 ∨ pre.length = 4 ∨ pre.length = 5 ∨ pre.length = 6 ∨ pre.length = 7 ∨ pre.length = 8 ∨ pre.length = 9 ∨ pre.length = 10 ∨ pre.length = 11 ∨ pre.length = 12)) : StepOK 2 pre [] [r1, r] := by
  refine elC (P := fun pre => StepOK 2 pre [] [r1, r]) ?_ ?_ ?_ ?_ ?_ ?_ ?_ ?_ ?_ ?_ pre h <;> intros <;> unfold StepOK <;> intros <;> kernel_rfl
theorem stepA3 (post : List Nat) (h : post.length ≤ 12) : StepOK 3 [] post [] := by
  refine elA (P := fun post => StepOK 3 [] post []) ?_ ?_ ?_ ?_ ?_ ?_ ?_ ?_ ?_ ?_ ?_ ?_ ?_ post h <;> intros <;> unfold StepOK <;> intros <;> kernel_rfl
theorem stepB3 (pre post : List Nat) (r : D) (h : (pre.length = 1 ∨ pre.length = 3 ∨ pre.length = 4 ∨ pre.length = 5 ∨ pre.length = 6)) (hq : (post.length = 0 ∨ post.length = 1 ∨ post.length = 3 ∨ post.length = 4 ∨ post.length = 5 ∨ post.length = 6)) : StepOK 3 pre post [r] := by
  refine elP (P := fun pre => StepOK 3 pre post [r]) ?_ ?_ ?_ ?_ ?_ pre h <;> intros <;> refine elQ (P := fun post => StepOK 3 _ post [r]) ?_ ?_ ?_ ?_ ?_ ?_ post hq <;> intros <;> unfold StepOK <;> intros <;> kernel_rfl
theorem stepD3 (a b : Nat) (r : D) : StepOK 3 [a, b] [] [r] := by unfold StepOK; intros; kernel_rfl
theorem stepC3 (pre : List Nat) (r1 : D) (r : D) (h : (pre.length = 2 ∨ pre.length = 4 ∨ pre.length = 5 ∨ pre.length = 6 ∨ pre.length = 7 ∨ pre.length = 8 ∨ pre.length = 9 ∨ pre.length = 10 ∨ pre.length = 11 ∨ pre.length = 12)) : StepOK 3 pre [] [r1, r] := by
  refine elC (P := fun pre => StepOK 3 pre [] [r1, r]) ?_ ?_ ?_ ?_ ?_ ?_ ?_ ?_ ?_ ?_ pre h <;> intros <;> unfold StepOK <;> intros <;> kernel_rfl
theorem stepA4 (post : List Nat) (h : post.length ≤ 12) : StepOK 4 [] post [] := by
  refine elA (P := fun post => StepOK 4 [] post []) ?_ ?_ ?_ ?_ ?_ ?_ ?_ ?_ ?_ ?_ ?_ ?_ ?_ post h <;> intros <;> unfold StepOK <;> intros <;> kernel_rfl
theorem stepB4 (pre post : List Nat) (r : D) (h : (pre.length = 1 ∨ pre.length = 3 ∨ pre.length = 4 ∨ pre.length = 5 ∨ pre.length = 6)) (hq : (post.length = 0 ∨ post.length = 1 ∨ post.length = 3 ∨ post.length = 4 ∨ post.length = 5 ∨ post.length = 6)) : StepOK 4 pre post [r] := by
  refine elP (P := fun pre => StepOK 4 pre post [r]) ?_ ?_ ?_ ?_ ?_ pre h <;> intros <;> refine elQ (P := fun post => StepOK 4 _ post [r]) ?_ ?_ ?_ ?_ ?_ ?_ post hq <;> intros <;> unfold StepOK <;> intros <;> kernel_rfl
theorem stepD4 (a b : Nat) (r : D) : StepOK 4 [a, b] [] [r] := by unfold StepOK; intros; kernel_rfl
theorem stepC4 (pre : List Nat) (r1 : D) (r : D) (h : (pre.length = 2 ∨ pre.length = 4 ∨ pre.length = 5 ∨ pre.length = 6 ∨ pre.length = 7 ∨ pre.length = 8 ∨ pre.length = 9 ∨ pre.length = 10 ∨ pre.length = 11 ∨ pre.length = 12)) : StepOK 4 pre [] [r1, r] := by
  refine elC (P := fun pre => StepOK 4 pre [] [r1, r]) ?_ ?_ ?_ ?_ ?_ ?_ ?_ ?_ ?_ ?_ pre h <;> intros <;> unfold StepOK <;> intros <;> kernel_rfl
theorem stepA5 (post : List Nat) (h : post.length ≤ 12) : StepOK 5 [] post [] := by
  refine elA (P := fun post => StepOK 5 [] post []) ?_ ?_ ?_ ?_ ?_ ?_ ?_ ?_ ?_ ?_ ?_ ?_ ?_ post h <;> intros <;> unfold StepOK <;> intros <;> kernel_rfl
theorem stepB5 (pre post : List Nat) (r : D) (h : (pre.length = 1 ∨ pre.length = 3 ∨ pre.length = 4 ∨ pre.length = 5 ∨ pre.length = 6)) (hq : (post.length = 0 ∨ post.length = 1 ∨ post.length = 3 ∨ post.length = 4 ∨ post.length = 5 ∨ post.length = 6)) : StepOK 5 pre post [r] := by
  refine elP (P := fun pre => StepOK 5 pre post [r]) ?_ ?_ ?_ ?_ ?_ pre h <;> intros <;> refine elQ (P := fun post => StepOK 5 _ post [r]) ?_ ?_ ?_ ?_ ?_ ?_ post hq <;> intros <;> unfold StepOK <;> intros <;> kernel_rfl
theorem stepD5 (a b : Nat) (r : D) : StepOK 5 [a, b] [] [r] := by unfold StepOK; intros; kernel_rfl
theorem stepC5 (pre : List Nat) (r1 : D) (r : D) (h : (pre.length = 2 ∨ pre.length = 4 ∨ pre.length = 5 ∨ pre.length = 6 ∨ pre.length = 7 ∨ pre.length = 8 ∨ pre.length = 9 ∨ pre.length = 10 ∨ pre.length = 11 ∨ pre.length = 12)) : StepOK 5 pre [] [r1, r] := by
  refine elC (P := fun pre => StepOK 5 pre [] [r1, r]) ?_ ?_ ?_ ?_ ?_ ?_ ?_ ?_ ?_ ?_ pre h <;> intros <;> unfold StepOK <;> intros <;> kernel_rfl
theorem stepA6 (post : List Nat) (h : post.length ≤ 12) : StepOK 6 [] post [] := by
  refine elA (P := fun post => StepOK 6 [] post []) ?_ ?_ ?_ ?_ ?_ ?_ ?_ ?_ ?_ ?_ ?_ ?_ ?_ post h <;> intros <;> unfold StepOK <;> intros <;> kernel_rfl
theorem stepB6 (pre post : List Nat) (r : D) (h : (pre.length = 1 ∨ pre.length = 3 ∨ pre.length = 4 ∨ pre.length = 5 ∨ pre.length = 6)) (hq : (post.length = 0 ∨ post.length = 1 ∨ post.length = 3 ∨ post.length = 4 ∨ post.length = 5 ∨ post.length = 6)) : StepOK 6 pre post [r] := by
  refine elP (P := fun pre => StepOK 6 pre post [r]) ?_ ?_ ?_ ?_ ?_ pre h <;> intros <;> refine elQ (P := fun post => StepOK 6 _ post [r]) ?_ ?_ ?_ ?_ ?_ ?_ post hq <;> intros <;> unfold StepOK <;> intros <;> kernel_rfl
theorem stepD6 (a b : Nat) (r : D) : StepOK 6 [a, b] [] [r] := by unfold StepOK; intros; kernel_rfl
theorem stepC6 (pre : List Nat) (r1 : D) (r : D) (h : (pre.length = 2 ∨ pre.length = 4 ∨ pre.length = 5 ∨ pre.length = 6 ∨ pre.length = 7 ∨ pre.length = 8 ∨ pre.length = 9 ∨ pre.length = 10 ∨ pre.length = 11 ∨ pre.length = 12)) : StepOK 6 pre [] [r1, r] := by
  refine elC (P := fun pre => StepOK 6 pre [] [r1, r]) ?_ ?_ ?_ ?_ ?_ ?_ ?_ ?_ ?_ ?_ pre h <;> intros <;> unfold StepOK <;> intros <;> kernel_rfl
theorem stepA7 (post : List Nat) (h : post.length ≤ 12) : StepOK 7 [] post [] := by
  refine elA (P := fun post => StepOK 7 [] post []) ?_ ?_ ?_ ?_ ?_ ?_ ?_ ?_ ?_ ?_ ?_ ?_ ?_ post h <;> intros <;> unfold StepOK <;> intros <;> kernel_rfl
theorem stepB7 (pre post : List Nat) (r : D) (h : (pre.length = 1 ∨ pre.length = 3 ∨ pre.length = 4 ∨ pre.length = 5 ∨ pre.length = 6)) (hq : (post.length = 0 ∨ post.length = 1 ∨ post.length = 3 ∨ post.length = 4 ∨ post.length = 5 ∨ post.length = 6)) : StepOK 7 pre post [r] := by
  refine elP (P := fun pre => StepOK 7 pre post [r]) ?_ ?_ ?_ ?_ ?_ pre h <;> intros <;> refine elQ (P := fun post => StepOK 7 _ post [r]) ?_ ?_ ?_ ?_ ?_ ?_ post hq <;> intros <;> unfold StepOK <;> intros <;> kernel_rfl
theorem stepD7 (a b : Nat) (r : D) : StepOK 7 [a, b] [] [r] := by unfold StepOK; intros; kernel_rfl
theorem stepC7 (pre : List Nat) (r1 : D) (r : D) (h : (pre.length = 2 ∨ pre.length = 4 ∨ pre.length = 5 ∨ pre.length = 6 ∨ pre.length = 7 ∨ pre.length = 8 ∨ pre.length = 9 ∨ pre.length = 10 ∨ pre.length = 11 ∨ pre.length = 12)) : StepOK 7 pre [] [r1, r] := by
  refine elC (P := fun pre => StepOK 7 pre [] [r1, r]) ?_ ?_ ?_ ?_ ?_ ?_ ?_ ?_ ?_ ?_ pre h <;> intros <;> unfold StepOK <;> intros <;> kernel_rfl
theorem stepA8 (post : List Nat) (h : post.length ≤ 12) : StepOK 8 [] post [] := by
  refine elA (P := fun post => StepOK 8 [] post []) ?_ ?_ ?_ ?_ ?_ ?_ ?_ ?_ ?_ ?_ ?_ ?_ ?_ post h <;> intros <;> unfold StepOK <;> intros <;> kernel_rfl
theorem stepB8 (pre post : List Nat) (r : D) (h : (pre.length = 1 ∨ pre.length = 3 ∨ pre.length = 4 ∨ pre.length = 5 ∨ pre.length = 6)) (hq : (post.length = 0 ∨ post.length = 1 ∨ post.length = 3 ∨ post.length = 4 ∨ post.length = 5 ∨ post.length = 6)) : StepOK 8 pre post [r] := by
  refine elP (P := fun pre => StepOK 8 pre post [r]) ?_ ?_ ?_ ?_ ?_ pre h <;> intros <;> refine elQ (P := fun post => StepOK 8 _ post [r]) ?_ ?_ ?_ ?_ ?_ ?_ post hq <;> intros <;> unfold StepOK <;> intros <;> kernel_rfl
theorem stepD8 (a b : Nat) (r : D) : StepOK 8 [a, b] [] [r] := by unfold StepOK; intros; kernel_rfl
theorem stepC8 (pre : List Nat) (r1 : D) (r : D) (h : (pre.length = 2 ∨ pre.length = 4 ∨ pre.length = 5 ∨ pre.length = 6 ∨ pre.length = 7 ∨ pre.length = 8 ∨ pre.length = 9 ∨ pre.length = 10 ∨ pre.length = 11 ∨ pre.length = 12)) : StepOK 8 pre [] [r1, r] := by
  refine elC (P := fun pre => StepOK 8 pre [] [r1, r]) ?_ ?_ ?_ ?_ ?_ ?_ ?_ ?_ ?_ ?_ pre h <;> intros <;> unfold StepOK <;> intros <;> kernel_rfl
theorem stepA9 (post : List Nat) (h : post.length ≤ 12) : StepOK 9 [] post [] := by
  refine elA (P := fun post => StepOK 9 [] post []) ?_ ?_ ?_ ?_ ?_ ?_ ?_ ?_ ?_ ?_ ?_ ?_ ?_ post h <;> intros <;> unfold StepOK <;> intros <;> kernel_rfl
theorem stepB9 (pre post : List Nat) (r : D) (h : (pre.length = 1 ∨ pre.length = 3 ∨ pre.length = 4 ∨ pre.length = 5 ∨ pre.length = 6)) (hq : (post.length = 0 ∨ post.length = 1 ∨ post.length = 3 ∨ post.length = 4 ∨ post.length = 5 ∨ post.length = 6)) : StepOK 9 pre post [r] := by
  refine elP (P := fun pre => StepOK 9 pre post [r]) ?_ ?_ ?_ ?_ ?_ pre h <;> intros <;> refine elQ (P := fun post => StepOK 9 _ post [r]) ?_ ?_ ?_ ?_ ?_ ?_ post hq <;> intros <;> unfold StepOK <;> intros <;> kernel_rfl
theorem stepD9 (a b : Nat) (r : D) : StepOK 9 [a, b] [] [r] := by unfold StepOK; intros; kernel_rfl
theorem stepC9 (pre : List Nat) (r1 : D) (r : D) (h : (pre.length = 2 ∨ pre.length = 4 ∨ pre.length = 5 ∨ pre.length = 6 ∨ pre.length = 7 ∨ pre.length = 8 ∨ pre.length = 9 ∨ pre.length = 10 ∨ pre.length = 11 ∨ pre.length = 12)) : StepOK 9 pre [] [r1, r] := by
  refine elC (P := fun pre => StepOK 9 pre [] [r1, r]) ?_ ?_ ?_ ?_ ?_ ?_ ?_ ?_ ?_ ?_ pre h <;> intros <;> unfold StepOK <;> intros <;> kernel_rfl
theorem stepA10 (post : List Nat) (h : post.length ≤ 12) : StepOK 10 [] post [] := by
  refine elA (P := fun post => StepOK 10 [] post []) ?_ ?_ ?_ ?_ ?_ ?_ ?_ ?_ ?_ ?_ ?_ ?_ ?_ post h <;> intros <;> unfold StepOK <;> intros <;> kernel_rfl
theorem stepB10 (pre post : List Nat) (r : D) (h : (pre.length = 1 ∨ pre.length = 3 ∨ pre.length = 4 ∨ pre.length = 5 ∨ pre.length = 6)) (hq : (post.length = 0 ∨ post.length = 1 ∨ post.length = 3 ∨ post.length = 4 ∨ post.length = 5 ∨ post.length = 6)) : StepOK 10 pre post [r] := by
  refine elP (P := fun pre => StepOK 10 pre post [r]) ?_ ?_ ?_ ?_ ?_ pre h <;> intros <;> refine elQ (P := fun post => StepOK 10 _ post [r]) ?_ ?_ ?_ ?_ ?_ ?_ post hq <;> intros <;> unfold StepOK <;> intros <;> kernel_rfl
theorem stepD10 (a b : Nat) (r : D) : StepOK 10 [a, b] [] [r] := by unfold StepOK; intros; kernel_rfl
theorem stepC10 (pre : List Nat) (r1 : D) (r : D) (h : (pre.length = 2 ∨ pre.length = 4 ∨ pre.length = 5 ∨ pre.length = 6 ∨ pre.length = 7 ∨ pre.length = 8 ∨ pre.length = 9 ∨ pre.length = 10 ∨ pre.length = 11 ∨ pre.length = 12)) : StepOK 10 pre [] [r1, r] := by
  refine elC (P := fun pre => StepOK 10 pre [] [r1, r]) ?_ ?_ ?_ ?_ ?_ ?_ ?_ ?_ ?_ ?_ pre h <;> intros <;> unfold StepOK <;> intros <;> kernel_rfl
theorem stepA11 (post : List Nat) (h : post.length ≤ 12) : StepOK 11 [] post [] := by
  refine elA (P := fun post => StepOK 11 [] post []) ?_ ?_ ?_ ?_ ?_ ?_ ?_ ?_ ?_ ?_ ?_ ?_ ?_ post h <;> intros <;> unfold StepOK <;> intros <;> kernel_rfl
theorem stepB11 (pre post : List Nat) (r : D) (h : (pre.length = 1 ∨ pre.length = 3 ∨ pre.length = 4 ∨ pre.length = 5 ∨ pre.length = 6)) (hq : (post.length = 0 ∨ post.length = 1 ∨ post.length = 3 ∨ post.length = 4 ∨ post.length = 5 ∨ post.length = 6)) : StepOK 11 pre post [r] := by
  refine elP (P := fun pre => StepOK 11 pre post [r]) ?_ ?_ ?_ ?_ ?_ pre h <;> intros <;> refine elQ (P := fun post => StepOK 11 _ post [r]) ?_ ?_ ?_ ?_ ?_ ?_ post hq <;> intros <;> unfold StepOK <;> intros <;> kernel_rfl
theorem stepD11 (a b : Nat) (r : D) : StepOK 11 [a, b] [] [r] := by unfold StepOK; intros; kernel_rfl
theorem stepC11 (pre : List Nat) (r1 : D) (r : D) (h : (pre.length = 2 ∨ pre.length = 4 ∨ pre.length = 5 ∨ pre.length = 6 ∨ pre.length = 7 ∨ pre.length = 8 ∨ pre.length = 9 ∨ pre.length = 10 ∨ pre.length = 11 ∨ pre.length = 12)) : StepOK 11 pre [] [r1, r] := by
  refine elC (P := fun pre => StepOK 11 pre [] [r1, r]) ?_ ?_ ?_ ?_ ?_ ?_ ?_ ?_ ?_ ?_ pre h <;> intros <;> unfold StepOK <;> intros <;> kernel_rfl
theorem stepA12 (post : List Nat) (h : post.length ≤ 12) : StepOK 12 [] post [] := by
  refine elA (P := fun post => StepOK 12 [] post []) ?_ ?_ ?_ ?_ ?_ ?_ ?_ ?_ ?_ ?_ ?_ ?_ ?_ post h <;> intros <;> unfold StepOK <;> intros <;> kernel_rfl
theorem stepB12 (pre post : List Nat) (r : D) (h : (pre.length = 1 ∨ pre.length = 3 ∨ pre.length = 4 ∨ pre.length = 5 ∨ pre.length = 6)) (hq : (post.length = 0 ∨ post.length = 1 ∨ post.length = 3 ∨ post.length = 4 ∨ post.length = 5 ∨ post.length = 6)) : StepOK 12 pre post [r] := by
  refine elP (P := fun pre => StepOK 12 pre post [r]) ?_ ?_ ?_ ?_ ?_ pre h <;> intros <;> refine elQ (P := fun post => StepOK 12 _ post [r]) ?_ ?_ ?_ ?_ ?_ ?_ post hq <;> intros <;> unfold StepOK <;> intros <;> kernel_rfl
theorem stepD12 (a b : Nat) (r : D) : StepOK 12 [a, b] [] [r] := by unfold StepOK; intros; kernel_rfl
theorem stepC12 (pre : List Nat) (r1 : D) (r : D) (h : (pre.length = 2 ∨ pre.length = 4 ∨ pre.length = 5 ∨ pre.length = 6 ∨ pre.length = 7 ∨ pre.length = 8 ∨ pre.length = 9 ∨ pre.length = 10 ∨ pre.length = 11 ∨ pre.length = 12)) : StepOK 12 pre [] [r1, r] := by
  refine elC (P := fun pre => StepOK 12 pre [] [r1, r]) ?_ ?_ ?_ ?_ ?_ ?_ ?_ ?_ ?_ ?_ pre h <;> intros <;> unfold StepOK <;> intros <;> kernel_rfl
theorem stepA {i : Nat} (hi : i < 13) (post : List Nat) (h : post.length ≤ 12) : StepOK i [] post [] := by
  match i, hi with
  | 0, _ => exact stepA0 post h
  | 1, _ => exact stepA1 post h
  | 2, _ => exact stepA2 post h
  | 3, _ => exact stepA3 post h
  | 4, _ => exact stepA4 post h
  | 5, _ => exact stepA5 post h
  | 6, _ => exact stepA6 post h
  | 7, _ => exact stepA7 post h
  | 8, _ => exact stepA8 post h
  | 9, _ => exact stepA9 post h
  | 10, _ => exact stepA10 post h
  | 11, _ => exact stepA11 post h
  | 12, _ => exact stepA12 post h
theorem stepB {i : Nat} (hi : i < 13) (pre post : List Nat) (r : D) (hr : Good r) (h : (pre.length = 1 ∨ pre.length = 3 ∨ pre.length = 4 ∨ pre.length = 5 ∨ pre.length = 6)) (hq : (post.length = 0 ∨ post.length = 1 ∨ post.length = 3 ∨ post.length = 4 ∨ post.length = 5 ∨ post.length = 6)) : StepOK i pre post [r] := by
  match i, hi with
  | 0, _ =>
    rcases hr with ⟨t, rfl⟩ | rfl
    · exact stepBs0 pre post t h hq
    · exact stepBa0 pre post  h hq
  | 1, _ => exact stepB1 pre post r h hq
  | 2, _ => exact stepB2 pre post r h hq
  | 3, _ => exact stepB3 pre post r h hq
  | 4, _ => exact stepB4 pre post r h hq
  | 5, _ => exact stepB5 pre post r h hq
  | 6, _ => exact stepB6 pre post r h hq
  | 7, _ => exact stepB7 pre post r h hq
  | 8, _ => exact stepB8 pre post r h hq
  | 9, _ => exact stepB9 pre post r h hq
  | 10, _ => exact stepB10 pre post r h hq
  | 11, _ => exact stepB11 pre post r h hq
  | 12, _ => exact stepB12 pre post r h hq
theorem stepD {i : Nat} (hi : i < 13) (a b : Nat) (r : D) (hr : Good r) : StepOK i [a, b] [] [r] := by
  match i, hi with
  | 0, _ =>
    rcases hr with ⟨t, rfl⟩ | rfl
    · exact stepDs0 a b t
    · exact stepDa0 a b 
  | 1, _ => exact stepD1 a b r
  | 2, _ => exact stepD2 a b r
  | 3, _ => exact stepD3 a b r
  | 4, _ => exact stepD4 a b r
  | 5, _ => exact stepD5 a b r
  | 6, _ => exact stepD6 a b r
  | 7, _ => exact stepD7 a b r
  | 8, _ => exact stepD8 a b r
  | 9, _ => exact stepD9 a b r
  | 10, _ => exact stepD10 a b r
  | 11, _ => exact stepD11 a b r
  | 12, _ => exact stepD12 a b r
theorem stepC {i : Nat} (hi : i < 13) (pre : List Nat) (r1 r : D) (hr : Good r) (h : (pre.length = 2 ∨ pre.length = 4 ∨ pre.length = 5 ∨ pre.length = 6 ∨ pre.length = 7 ∨ pre.length = 8 ∨ pre.length = 9 ∨ pre.length = 10 ∨ pre.length = 11 ∨ pre.length = 12)) : StepOK i pre [] [r1, r] := by
  match i, hi with
  | 0, _ =>
    rcases hr with ⟨t, rfl⟩ | rfl
    · exact stepCs0 pre r1 t h
    · exact stepCa0 pre r1  h
  | 1, _ => exact stepC1 pre r1 r h
  | 2, _ => exact stepC2 pre r1 r h
  | 3, _ => exact stepC3 pre r1 r h
  | 4, _ => exact stepC4 pre r1 r h
  | 5, _ => exact stepC5 pre r1 r h
  | 6, _ => exact stepC6 pre r1 r h
  | 7, _ => exact stepC7 pre r1 r h
  | 8, _ => exact stepC8 pre r1 r h
  | 9, _ => exact stepC9 pre r1 r h
  | 10, _ => exact stepC10 pre r1 r h
  | 11, _ => exact stepC11 pre r1 r h
  | 12, _ => exact stepC12 pre r1 r h
end Mine
end
section
set_option autoImplicit false
set_option maxRecDepth 100000
namespace Mine
open PySem PySem.W

def testT : List LV → Option Bool := fun σ => (evE gl SgT (.cmp .lt (.var 5) (.var 6)) σ).bind fun x => truth x.1
abbrev WT (f : Nat) (σ : List LV) : Option (Fl × List LV) := whileGo testT (fun σ => exSs gl SgT bodyT σ) f σ
theorem six {α : Type} : ∀ {l : List α}, l.length = 6 → ∃ a b c d e f, l = [a, b, c, d, e, f]
  | [a, b, c, d, e, f], _ => ⟨a, b, c, d, e, f, rfl⟩
theorem shp_inv {x : Option (Fl × List LV)} {l : List LV} (hl : l.length = 7) (h : shp x = some (.next, l, 13)) : ∃ v7 v8 v9 v10 v11 v12, x = some (.next, l ++ [v7, v8, v9, v10, v11, v12]) := by
  cases x with
  | none => cases h
  | some p =>
  obtain ⟨fl, σ⟩ := p
  have h : some (fl, σ.take 7, σ.length) = some (Fl.next, l, 13) := h
  obtain ⟨h4, h5⟩ := Prod.mk.inj (Option.some.inj h)
  obtain ⟨h1, h2⟩ := Prod.mk.inj h5
  subst h4
  obtain ⟨a, b, c, d, e, f, h3⟩ := six (l := σ.drop 7) (by rw [List.length_drop, h2])
  exact ⟨a, b, c, d, e, f, by rw [← h3, ← h1, List.take_append_drop]⟩
theorem testT_eq (pat : List Nat) (res : List D) (i n : Int) (v7 v8 v9 v10 v11 v12 : LV) : testT (stT pat res i n v7 v8 v9 v10 v11 v12) = some (decide (i < n)) := rfl
def Go (pat : List Nat) (p : Nat) (res : List D) (p' : Nat) (res' : List D) : Prop := ∀ f v7 v8 v9 v10 v11 v12, ∃ w7 w8 w9 w10 w11 w12,
  WT (f + 1) (stT pat res (p : Int) (pat.length : Int) v7 v8 v9 v10 v11 v12) = WT f (stT pat res' (p' : Int) (pat.length : Int) w7 w8 w9 w10 w11 w12)
theorem go_of {i : Nat} {pre post : List Nat} {res : List D} (h : StepOK i pre post res) (hp : 0 < (patAt i).length) : Go (pre ++ patAt i ++ post) pre.length res (pre ++ patAt i).length (addP res (partAt i)) := by
  intro f v7 v8 v9 v10 v11 v12
  obtain ⟨w7, w8, w9, w10, w11, w12, e⟩ := shp_inv rfl (h v7 v8 v9 v10 v11 v12)
  refine ⟨w7, w8, w9, w10, w11, w12, ?_⟩
  have hl : ((pre.length : Nat) : Int) < (((pre ++ patAt i ++ post).length : Nat) : Int) := by simp only [List.length_append]; omega
  show (testT _).bind _ = _
  rw [testT_eq]
  simp only [hl, decide_true, Option.bind_some, if_true]
  rw [e]
  rfl
theorem wt_end (pat : List Nat) (res : List D) (f : Nat) (v7 v8 v9 v10 v11 v12 : LV) : WT (f + 1) (stT pat res (pat.length : Int) (pat.length : Int) v7 v8 v9 v10 v11 v12) = some (.next, stT pat res (pat.length : Int) (pat.length : Int) v7 v8 v9 v10 v11 v12) := by
  show (testT _).bind _ = _
  rw [testT_eq]
  simp
theorem sig3 (n : Nat) (ds : List D) : SIG (n + 1) 3 ds = escT 3 ds := rfl
theorem sig4 (n : Nat) (ds : List D) : SIG (n + 1) 4 ds = trT (SIG n) ds := rfl
theorem sigTa (Sg : Sig) (ds : List D) : sigT Sg 3 ds = Sg 3 ds := rfl
theorem sigTb (Sg : Sig) (ds : List D) : sigT Sg 100 ds = sub100 ds := rfl
theorem sigT_eq (n : Nat) : sigT (SIG (n + 1)) = SgT := by
  funext f ds
  unfold SgT
  by_cases h3 : f = 3
  · rw [h3, sigTa, sigTa, sig3, sig3 0]
  · by_cases h100 : f = 100
    · rw [h100, sigTb, sigTb]
    · have : ∀ Sg, sigT Sg f ds = none := by
        intro Sg
        unfold sigT
        split
        · exact absurd rfl h3
        · exact absurd rfl h100
        · rfl
      rw [this, this]

def collapse : List (Option (List Nat)) → List (Option (List Nat))
  | none :: none :: r => collapse (none :: r)
  | x :: r => x :: collapse r
  | [] => []
def partD1 : Option (List Nat) → D
  | none => starD
  | some s => .str s

theorem body_eq : F_translate.body = .cons (.assign 3 (.lst .nil)) (.cons (.bindApp 4 3) (.cons (.unpack [5, 6] (.tup (.cons (.lit (.int 0)) (.cons (.len (.var 0)) .nil)))) (.cons (.while_ 1000 (.cmp .lt (.var 5) (.var 6)) bodyT) (.cons (.assert_ (.cmp .eq (.var 5) (.var 6))) (.cons (.ret (.var 3)) .nil))))) := rfl
theorem s_assert {G : Nat → Option D} {Sg : Sig} {e : PE} {σ : List LV} {d : D} {t : Tag} (h : evE G Sg e σ = some (d, t)) (ht : truth d = some true) : exS G Sg (.assert_ e) σ = some (.next, σ) := by
  show (evE G Sg e σ).bind _ = _
  rw [h]
  show (truth d).bind _ = _
  rw [ht]; rfl
theorem tr_run {pat : List Nat} {res : List D} (hl : pat.length ≤ 1000) (h : ∃ w7 w8 w9 w10 w11 w12, WT 1000 (stT pat [] 0 (pat.length : Int) .un .un .un .un .un .un) = some (.next, stT pat res (pat.length : Int) (pat.length : Int) w7 w8 w9 w10 w11 w12)) :
    runFun gl SgT F_translate [.str pat, .adr 0, .str [46]] = some (.list res) := by
  obtain ⟨w7, w8, w9, w10, w11, w12, h⟩ := h
  have h1 : pat.length ≤ 1000000 := by omega
  have hw : exS gl SgT (.while_ 1000 (.cmp .lt (.var 5) (.var 6)) bodyT) (stT pat [] 0 (pat.length : Int) .un .un .un .un .un .un) = some (.next, stT pat res (pat.length : Int) (pat.length : Int) w7 w8 w9 w10 w11 w12) := h
  refine runFun_of rfl (σ := stT pat res (pat.length : Int) (pat.length : Int) w7 w8 w9 w10 w11 w12) ?_
  rw [body_eq, seqN (s_fresh (d := .list []) rfl), seqN (s := .bindApp 4 3) (σ' := [.fz (.str pat), .fz (.adr 0), .fz (.str [46]), .ow (.list []), .app 3, .un, .un, .un, .un, .un, .un, .un, .un]) rfl, seqN (s := .unpack _ _) (σ' := stT pat [] 0 (pat.length : Int) .un .un .un .un .un .un) (by
      simp only [exS, evE, evEs, List.getElem?_cons_zero, LV.get, LV.tag, lenOp, h1, if_true, kept, Option.map_some, Option.bind_some, bindT, setAll, List.set]), seqN hw, seqN (s := .assert_ _) (σ' := stT pat res (pat.length : Int) (pat.length : Int) w7 w8 w9 w10 w11 w12) (s_assert (d := .bool true) (e_cmp (e_var (d := .int (pat.length : Int)) rfl) (e_var (d := .int (pat.length : Int)) rfl) (by show some ((pat.length : Int) == (pat.length : Int)) = _; rw [beq_self_eq_true])) rfl), seqR (s_ret rfl)]
def inA (n : Nat) : Bool := n == 1 || n == 3 || n == 4 || n == 5 || n == 6
theorem pat_in : ((List.range 13).all fun i => inA (patAt i).length) = true := by decide
theorem pat_inA {i : Nat} (h : i < 13) : inA (patAt i).length = true := List.all_eq_true.mp pat_in i (List.mem_range.mpr h)
theorem inA_le {n : Nat} (h : inA n = true) : 0 < n ∧ n ≤ 6 := by
  match n, h with
  | 1, _ | 3, _ | 4, _ | 5, _ | 6, _ => decide
theorem inA_P {n : Nat} (h : inA n = true) : n = 1 ∨ n = 3 ∨ n = 4 ∨ n = 5 ∨ n = 6 := by
  match n, h with
  | 1, _ | 3, _ | 4, _ | 5, _ | 6, _ => decide
theorem inA_sum {n m : Nat} (h : inA n = true) (h' : inA m = true) : n + m = 2 ∨ n + m = 4 ∨ n + m = 5 ∨ n + m = 6 ∨ n + m = 7 ∨ n + m = 8 ∨ n + m = 9 ∨ n + m = 10 ∨ n + m = 11 ∨ n + m = 12 := by
  rcases inA_P h with rfl | rfl | rfl | rfl | rfl <;> rcases inA_P h' with rfl | rfl | rfl | rfl | rfl <;> decide
theorem pat_len {i : Nat} (h : i < 13) : (patAt i).length = 1 ∨ (patAt i).length = 3 ∨ (patAt i).length = 4 ∨ (patAt i).length = 5 ∨ (patAt i).length = 6 := inA_P (pat_inA h)
theorem pat_bd {i : Nat} (h : i < 13) : 0 < (patAt i).length ∧ (patAt i).length ≤ 6 := inA_le (pat_inA h)
theorem le_add6 {a b : Nat} (ha : a ≤ 6) (hb : b ≤ 6) : a + b ≤ 12 := Nat.add_le_add ha hb
theorem part_none {i : Nat} (h : i < 13) (e : partAt i = none) : patAt i = [42] := by
  match i, h with
  | 0, _ => rfl
  | 1, _ | 2, _ | 3, _ | 4, _ | 5, _ | 6, _ | 7, _ | 8, _ | 9, _ | 10, _ | 11, _ | 12, _ => cases e
theorem wt0 {pat : List Nat} {res : List D} {p : Nat} {f : Nat} {v7 v8 v9 v10 v11 v12 : LV} (hp : p = pat.length) (h : ∃ f' v7' v8' v9' v10' v11' v12', WT f (stT pat [] 0 (pat.length : Int) v7 v8 v9 v10 v11 v12) = WT (f' + 1) (stT pat res (p : Int) (pat.length : Int) v7' v8' v9' v10' v11' v12')) :
    ∃ w7 w8 w9 w10 w11 w12, WT f (stT pat [] 0 (pat.length : Int) v7 v8 v9 v10 v11 v12) = some (.next, stT pat res (pat.length : Int) (pat.length : Int) w7 w8 w9 w10 w11 w12) := by
  obtain ⟨f', v7', v8', v9', v10', v11', v12', h⟩ := h
  subst hp
  exact ⟨_, _, _, _, _, _, h.trans (wt_end _ _ _ _ _ _ _ _ _)⟩
/-- the list that the loop makes -/
def resOf (is : List Nat) : List D := is.foldl (fun r i => addP r (partAt i)) []
theorem good1 (i : Nat) : ∃ r, addP [] (partAt i) = [r] ∧ Good r := by
  cases h : partAt i with
  | none => exact ⟨.adr 0, rfl, .inr rfl⟩
  | some s => exact ⟨.str s, rfl, .inl ⟨s, rfl⟩⟩
theorem good2 {i j : Nat} (hi : i < 13) (hj : j < 13) : (patAt i = [42] ∧ patAt j = [42] ∧ addP (addP [] (partAt i)) (partAt j) = [.adr 0]) ∨ ∃ r1 r2, addP (addP [] (partAt i)) (partAt j) = [r1, r2] ∧ Good r2 := by
  cases h : partAt i with
  | none =>
    cases h2 : partAt j with
    | none => exact .inl ⟨part_none hi h, part_none hj h2, rfl⟩
    | some s => exact .inr ⟨.adr 0, .str s, rfl, .inl ⟨s, rfl⟩⟩
  | some t =>
    cases h2 : partAt j with
    | none => exact .inr ⟨.str t, .adr 0, rfl, .inr rfl⟩
    | some s => exact .inr ⟨.str t, .str s, rfl, .inl ⟨s, rfl⟩⟩
theorem tr_res {is : List Nat} (h3 : is.length ≤ 3) (hi : ∀ i ∈ is, i < 13) : runFun gl SgT F_translate [.str (is.map patAt).flatten, .adr 0, .str [46]] = some (.list (resOf is)) := by
  match is, h3, hi with
  | [], _, _ => exact tr_run (by decide) (wt0 (p := 0) rfl ⟨999, _, _, _, _, _, _, rfl⟩)
  | [i], _, hi =>
    have b := hi i (by simp)
    have ⟨l0, l6⟩ := pat_bd b
    have g := go_of (stepA b [] (by simp)) l0
    have e : ([i].map patAt).flatten = [] ++ patAt i ++ [] := by simp
    rw [e]
    refine tr_run (by simp only [List.nil_append, List.append_nil]; exact Nat.le_trans l6 (by decide)) (wt0 (p := ([] ++ patAt i).length) (by simp) ?_)
    obtain ⟨w7, w8, w9, w10, w11, w12, g⟩ := g 999 .un .un .un .un .un .un
    exact ⟨_, _, _, _, _, _, _, g⟩
  | [i, j], _, hi =>
    have b := hi i (by simp)
    have ⟨l0, l6⟩ := pat_bd b
    have b2 := hi j (by simp)
    have ⟨m0, m6⟩ := pat_bd b2
    obtain ⟨r, er, gr⟩ := good1 i
    have g := go_of (stepA b (patAt j) (Nat.le_trans m6 (by decide))) l0
    have g2 := go_of (stepB b2 (patAt i) [] r gr (pat_len b) (.inl rfl)) m0
    have e : ([i, j].map patAt).flatten = [] ++ patAt i ++ patAt j := by simp
    rw [e]
    refine tr_run (by rw [List.nil_append, List.length_append]; exact Nat.le_trans (le_add6 l6 m6) (by decide)) (wt0 (p := (patAt i ++ patAt j).length) (by simp) ?_)
    obtain ⟨w7, w8, w9, w10, w11, w12, g⟩ := g 999 .un .un .un .un .un .un
    obtain ⟨x7, x8, x9, x10, x11, x12, g2⟩ := g2 998 w7 w8 w9 w10 w11 w12
    rw [← er, List.append_nil] at g2
    exact ⟨_, _, _, _, _, _, _, g.trans g2⟩
  | [i, j, k], _, hi =>
    have b := hi i (by simp)
    have ⟨l0, l6⟩ := pat_bd b
    have b2 := hi j (by simp)
    have ⟨m0, m6⟩ := pat_bd b2
    have b3 := hi k (by simp)
    have ⟨k0, k6⟩ := pat_bd b3
    obtain ⟨r, er, gr⟩ := good1 i
    have g := go_of (stepA b (patAt j ++ patAt k) (by rw [List.length_append]; exact le_add6 m6 k6)) l0
    have g2 := go_of (stepB b2 (patAt i) (patAt k) r gr (pat_len b) (.inr (pat_len b3))) m0
    have e : ([i, j, k].map patAt).flatten = [] ++ patAt i ++ (patAt j ++ patAt k) := by simp
    rw [e]
    refine tr_run (by rw [List.nil_append, List.length_append, List.length_append]; exact Nat.le_trans (Nat.add_le_add l6 (le_add6 m6 k6)) (by decide)) (wt0 (p := (patAt i ++ patAt j ++ patAt k).length) (by simp) ?_)
    obtain ⟨w7, w8, w9, w10, w11, w12, g⟩ := g 999 .un .un .un .un .un .un
    obtain ⟨x7, x8, x9, x10, x11, x12, g2⟩ := g2 998 w7 w8 w9 w10 w11 w12
    rw [← er, List.append_assoc] at g2
    have g3 : Go (patAt i ++ patAt j ++ patAt k) (patAt i ++ patAt j).length (addP (addP [] (partAt i)) (partAt j)) (patAt i ++ patAt j ++ patAt k).length (resOf [i, j, k]) := by
      show Go _ _ _ _ (addP (addP (addP [] (partAt i)) (partAt j)) (partAt k))
      rcases good2 b b2 with ⟨e1, e2, e3⟩ | ⟨r1, r2, e3, gr2⟩
      · rw [e3, e1, e2]
        have := go_of (stepD b3 42 42 (.adr 0) (.inr rfl)) k0
        rw [List.append_nil] at this
        exact this
      · rw [e3]
        have := go_of (stepC b3 (patAt i ++ patAt j) r1 r2 gr2 (by rw [List.length_append]; exact inA_sum (pat_inA b) (pat_inA b2))) k0
        rw [List.append_nil] at this
        exact this
    obtain ⟨y7, y8, y9, y10, y11, y12, g3⟩ := g3 997 x7 x8 x9 x10 x11 x12
    have ea : patAt i ++ patAt j ++ patAt k = patAt i ++ (patAt j ++ patAt k) := List.append_assoc _ _ _
    rw [ea] at g3 ⊢
    exact ⟨_, _, _, _, _, _, _, (g.trans g2).trans g3⟩
theorem res_parts (is : List Nat) (h3 : is.length ≤ 3) : (resOf is).all partD = true ∧ (resOf is).map unadr = (collapse (is.map partAt)).map partD1 := by
  match is, h3 with
  | [], _ => exact ⟨rfl, rfl⟩
  | [i], _ =>
    show (addP [] (partAt i)).all partD = true ∧ (addP [] (partAt i)).map unadr = (collapse [partAt i]).map partD1
    cases partAt i <;> exact ⟨rfl, rfl⟩
  | [i, j], _ =>
    show (addP (addP [] (partAt i)) (partAt j)).all partD = true ∧ (addP (addP [] (partAt i)) (partAt j)).map unadr = (collapse [partAt i, partAt j]).map partD1
    cases partAt i <;> cases partAt j <;> exact ⟨rfl, rfl⟩
  | [i, j, k], _ =>
    show (addP (addP (addP [] (partAt i)) (partAt j)) (partAt k)).all partD = true ∧ (addP (addP (addP [] (partAt i)) (partAt j)) (partAt k)).map unadr = (collapse [partAt i, partAt j, partAt k]).map partD1
    cases partAt i <;> cases partAt j <;> cases partAt k <;> exact ⟨rfl, rfl⟩
theorem tr_of {is : List Nat} (h3 : is.length ≤ 3) (hi : ∀ i ∈ is, i < 13) (n : Nat) : SIG (n + 2) 4 [.str (is.map patAt).flatten, starD, .str [46]] = some (.list ((collapse (is.map partAt)).map partD1)) := by
  rw [sig4]
  show (if isStar starD = true then trP (SIG (n + 1)) (is.map patAt).flatten [46] else none) = _
  rw [if_pos (by rfl)]
  unfold trP
  rw [sigT_eq, tr_res h3 hi]
  obtain ⟨a, b⟩ := res_parts is h3
  show (if (resOf is).all partD = true then _ else _) = _
  rw [if_pos a, b]
end Mine
end
section
set_option autoImplicit false
set_option maxRecDepth 100000
namespace Mine
open PySem PySem.W

def A7 : List Nat := [97, 98, 46, 45, 91, 58, 32]
def setL : List (List Nat) := [[97, 110, 121, 32, 114, 117, 110], [97, 98, 46, 45, 91, 58, 32], [97], [46], [98, 46, 45, 91, 58, 32], [46, 45], [91], [], [97, 98, 46, 45, 91, 58, 32], [97, 98], [97, 98, 91, 58, 32], [46, 45, 58, 32], [97, 98, 46, 45, 91, 58]]
def setAt (i : Nat) : List Nat := (setL[i]?).getD []
def boolOf : Option D → Bool
  | some (.bool b) => b
  | _ => false
def isB : Option D → Bool → Bool
  | some (.bool b), c => b == c
  | _, _ => false
theorem isB_eq {x : Option D} {b : Bool} (h : isB x b = true) : x = some (.bool b) := by
  unfold isB at h
  split at h
  · rw [eq_of_beq h]
  · cases h
def fitB (s : List Nat) (c : Nat) : Bool := (partL.zip setL).any fun p => p.1 == some s && p.2.contains c
def fitsT (Sg : Sig) : Bool := (List.range 13).all fun i => match partAt i with
  | none => true
  | some s => A7.all fun c => isB (runFun gl Sg F_law_fits [.str s, .str [c]]) ((setAt i).contains c) && ((setAt i).contains c == fitB s c)
theorem fitsT_ok (Sg : Sig) : fitsT Sg = true := by kernel_rfl
theorem fits_ok {n i c : Nat} {s : List Nat} (hi : i < 13) (hs : partAt i = some s) (hc : c ∈ A7) : SIG (n + 1) 14 [.str s, .str [c]] = some (.bool (fitB s c)) ∧ (setAt i).contains c = fitB s c := by
  have h := fitsT_ok (SIG n)
  unfold fitsT at h
  rw [List.all_eq_true] at h
  have h := h i (by simp [hi])
  rw [hs] at h
  have h := (List.all_eq_true.mp h) c hc
  simp only [Bool.and_eq_true] at h
  have e := eq_of_beq h.2
  refine ⟨?_, e⟩
  rw [← e]
  exact isB_eq h.1

/-- the parts' law -/
def anyS (f : List Nat → Bool) : List Nat → Bool
  | [] => f []
  | c :: t => f (c :: t) || anyS f t
def mt : List (Option (List Nat)) → List Nat → Bool
  | [], s => s.isEmpty
  | none :: r, s => anyS (mt r) s
  | some _ :: _, [] => false
  | some p :: r, c :: t => fitB p c && mt r t
theorem anyS_idem (f : List Nat → Bool) (s : List Nat) : anyS (anyS f) s = anyS f s := by
  induction s with
  | nil => rfl
  | cons c t ih => simp only [anyS, ih, Bool.or_assoc, Bool.or_self]
theorem mt_star {r r' : List (Option (List Nat))} (h : ∀ s, mt r s = mt r' s) (s : List Nat) : mt (none :: r) s = mt (none :: r') s := by
  have : mt r = mt r' := funext h
  simp only [mt, this]
theorem mt_collapse : ∀ (ps : List (Option (List Nat))) (s : List Nat), mt (collapse ps) s = mt ps s
  | [], _ => rfl
  | none :: none :: r, s => by
    rw [collapse, mt_collapse (none :: r) s]
    show anyS (mt r) s = anyS (anyS (mt r)) s
    exact (anyS_idem _ _).symm
  | none :: some p :: r, s => by
    have : collapse (none :: some p :: r) = none :: collapse (some p :: r) := by rw [collapse]; simp
    rw [this]
    exact mt_star (fun s => mt_collapse (some p :: r) s) s
  | [none], s => rfl
  | some p :: r, s => by
    have : collapse (some p :: r) = some p :: collapse r := by rw [collapse]; simp
    rw [this]
    cases s with
    | nil => rfl
    | cons c t => simp only [mt, mt_collapse r t]

/-- one part's step over the places -/
def stepP (t : List Nat) (P : List Nat) : Option (List Nat) → List Nat
  | none => match P with
    | [] => []
    | p :: _ => List.range' p (t.length + 1 - p)
  | some s => (P.filter fun p => decide (p < t.length) && fitB s (t.getD p 0)).map (· + 1)
def foldP (t : List Nat) : List (Option (List Nat)) → List Nat → List Nat
  | [], P => P
  | p :: r, P => foldP t r (stepP t P p)
def Asc (t : List Nat) (P : List Nat) : Prop := P.Pairwise (· < ·) ∧ ∀ p ∈ P, p ≤ t.length
theorem stepP_asc {t P : List Nat} (h : Asc t P) (p : Option (List Nat)) : Asc t (stepP t P p) := by
  cases p with
  | none =>
    cases P with
    | nil => exact h
    | cons p r =>
      refine ⟨List.pairwise_lt_range', fun q hq => ?_⟩
      have := h.2 p (by simp)
      simp only [stepP, List.mem_range'_1] at hq
      omega
  | some s =>
    refine ⟨?_, fun q hq => ?_⟩
    · simp only [stepP, List.pairwise_map]
      exact (h.1.filter _).imp (by intro a b h; omega)
    · simp only [stepP, List.mem_map, List.mem_filter, Bool.and_eq_true, decide_eq_true_eq] at hq
      obtain ⟨a, ⟨_, h1, _⟩, rfl⟩ := hq
      omega
theorem anyS_drop (f : List Nat → Bool) : ∀ (t : List Nat) (p : Nat), p ≤ t.length → anyS f (t.drop p) = (List.range' p (t.length + 1 - p)).any fun q => f (t.drop q) := by
  intro t p hp
  generalize hk : t.length - p = k
  induction k generalizing p with
  | zero =>
    have : p = t.length := by omega
    subst this
    have e : t.length + 1 - t.length = 1 := by omega
    simp [e, anyS]
  | succ k ih =>
    have hlt : p < t.length := by omega
    have e : t.length + 1 - p = (t.length + 1 - (p + 1)) + 1 := by omega
    rw [e, List.range'_succ, List.any_cons, ← ih (p + 1) (by omega) (by omega), List.drop_eq_getElem_cons hlt]
    rfl
theorem fold_ok (t : List Nat) : ∀ (ps : List (Option (List Nat))) (P : List Nat), Asc t P → (foldP t ps P).contains t.length = P.any fun p => mt ps (t.drop p)
  | [], P, h => by
    rw [Bool.eq_iff_iff]
    simp only [foldP, List.contains_iff_mem, List.any_eq_true, mt, List.isEmpty_iff, List.drop_eq_nil_iff]
    constructor
    · intro q; exact ⟨_, q, Nat.le_refl _⟩
    · rintro ⟨p, hp, hl⟩
      have := h.2 p hp
      have : p = t.length := by omega
      subst this; exact hp
  | none :: r, P, h => by
    show (foldP t r (stepP t P none)).contains t.length = _
    rw [fold_ok t r _ (stepP_asc h none)]
    cases P with
    | nil => rfl
    | cons p P =>
      simp only [stepP, mt]
      rw [← anyS_drop (mt r) t p (h.2 p (by simp))]
      rw [Bool.eq_iff_iff]
      simp only [List.any_cons, Bool.or_eq_true, List.any_eq_true]
      constructor
      · intro q; exact .inl q
      · rintro (q | ⟨x, hx, q⟩)
        · exact q
        · have hpx : p < x := (List.pairwise_cons.mp h.1).1 x hx
          rw [anyS_drop _ _ _ (h.2 x (by simp [hx]))] at q
          rw [anyS_drop _ _ _ (h.2 p (by simp))]
          simp only [List.any_eq_true, List.mem_range'_1] at q ⊢
          obtain ⟨y, hy, q⟩ := q
          exact ⟨y, by omega, q⟩
  | some s :: r, P, h => by
    show (foldP t r (stepP t P (some s))).contains t.length = _
    rw [fold_ok t r _ (stepP_asc h (some s))]
    simp only [stepP, List.any_map, List.any_filter]
    congr 1
    funext p
    by_cases hp : p < t.length
    · simp only [hp, decide_true, Bool.true_and, Function.comp]
      rw [List.drop_eq_getElem_cons hp]
      simp [mt, hp]
    · have e : t.drop p = [] := by rw [List.drop_eq_nil_iff]; omega
      simp [hp, e, mt]
end Mine
end
section
set_option autoImplicit false
set_option maxRecDepth 100000
namespace Mine
open PySem PySem.W

theorem sg0 (n : Nat) (ds : List D) : SIG (n + 1) 0 ds = runFun gl (SIG n) FS_IFMT ds := rfl
theorem sg1 (n : Nat) (ds : List D) : SIG (n + 1) 1 ds = runFun gl (SIG n) FS_ISDIR ds := rfl
theorem sg2 (n : Nat) (ds : List D) : SIG (n + 1) 2 ds = runFun gl (SIG n) Ffilemode ds := rfl
theorem sg5 (n : Nat) (ds : List D) : SIG (n + 1) 5 ds = runFun gl (SIG n) Fsame ds := rfl
theorem sg6 (n : Nat) (ds : List D) : SIG (n + 1) 6 ds = runFun gl (SIG n) Fsep ds := rfl
theorem sg8 (n : Nat) (ds : List D) : SIG (n + 1) 8 ds = runFun gl (SIG n) Fbasename ds := rfl
theorem sg9 (n : Nat) (ds : List D) : SIG (n + 1) 9 ds = runFun gl (SIG n) Fdirname ds := rfl
theorem sg10 (n : Nat) (ds : List D) : SIG (n + 1) 10 ds = runFun gl (SIG n) F_law_numbers ds := rfl
theorem sg11 (n : Nat) (ds : List D) : SIG (n + 1) 11 ds = runFun gl (SIG n) F_law_items ds := rfl
theorem sg12 (n : Nat) (ds : List D) : SIG (n + 1) 12 ds = runFun gl (SIG n) F_law_tree ds := rfl
theorem sg13 (n : Nat) (ds : List D) : SIG (n + 1) 13 ds = runFun gl (SIG n) F_law_world ds := rfl
theorem sg14 (n : Nat) (ds : List D) : SIG (n + 1) 14 ds = runFun gl (SIG n) F_law_fits ds := rfl
theorem sg15 (n : Nat) (ds : List D) : SIG (n + 1) 15 ds = runFun gl (SIG n) F_law_takes ds := rfl
theorem sg16 (n : Nat) (ds : List D) : SIG (n + 1) 16 ds = runFun gl (SIG n) F_law_listing ds := rfl
theorem sg17 (n : Nat) (ds : List D) : SIG (n + 1) 17 ds = runFun gl (SIG n) F_law_rights ds := rfl
theorem sg18 (n : Nat) (ds : List D) : SIG (n + 1) 18 ds = runFun gl (SIG n) F_law_read ds := rfl
theorem sg19 (n : Nat) (ds : List D) : SIG (n + 1) 19 ds = runFun gl (SIG n) F_law_plain ds := rfl
theorem sg20 (n : Nat) (ds : List D) : SIG (n + 1) 20 ds = runFun gl (SIG n) F_law_due ds := rfl
theorem sg21 (n : Nat) (ds : List D) : SIG (n + 1) 21 ds = runFun gl (SIG n) Flaw ds := rfl
theorem sg7 (n : Nat) (x y : D) : SIG (n + 1) 7 [x, y] = runFun gl (SIG n) Fjoin [x, .tup [y]] := rfl
def natD (p : Nat) : D := .int (p : Int)
theorem okEqs_nat (n : Nat) : ∀ P : List Nat, D.okEqs n (P.map natD) = true
  | [] => by simp [D.okEqs]
  | p :: r => by simp [D.okEqs, D.okEq, natD, okEqs_nat n r]
theorem beqs_nat_nil (P : List Nat) : D.beqs (P.map natD) [] = P.isEmpty := by
  cases P <;> simp [D.beqs]
theorem any_nat (P : List Nat) (k : Nat) : (P.map natD).any (D.beq · (.int k)) = P.contains k := by
  induction P with
  | nil => rfl
  | cons p r ih =>
    simp only [List.map_cons, List.any_cons, ih, List.contains_cons, natD, D.beq]
    congr 1
    rw [Bool.eq_iff_iff]
    simp only [beq_iff_eq]
    omega
abbrev tkS (ps : D) (t P : List Nat) (v : LV) : List LV := [.fz ps, .fz (.str t), .ow (.list (P.map natD)), v]
def noApp : LV → Bool
  | .app _ => false
  | _ => true
theorem kill_of {k : Nat} {v : LV} (h : noApp v = true) : LV.kill k v = v := by
  cases v <;> first | rfl | cases h

def tkBody : PSs := match F_law_takes.body with
  | .cons _ (.cons (.forE _ _ b _) _) => b
  | _ => .nil
theorem tk_body_eq : F_law_takes.body = .cons (.assign 2 (.lst (.cons (.lit (.int 0)) .nil))) (.cons (.forE 3 (.var 0) tkBody .nil) (.cons (.ret (.cmp .isin (.len (.var 1)) (.var 2))) .nil)) := rfl

theorem tk_star {n : Nat} {ps : D} {t P : List Nat} (hl : t.length ≤ 1000) (hP : ∀ p ∈ P, p ≤ t.length) : exSs gl (SIG n) tkBody (tkS ps t P (.fz starD)) = some (.next, tkS ps t (stepP t P none) (.fz starD)) := by
  have h1 : t.length ≤ 1000000 := by omega
  cases P with
  | nil => rfl
  | cons p r =>
    have h2 := hP p (by simp)
    have h3 : ((p : Nat) : Int).natAbs ≤ 1000000 := by omega
    have h4 : (((t.length : Nat) : Int) + 1).natAbs ≤ 1000000 := by omega
    have e : rangeL (p : Int) ((t.length : Int) + 1) = (List.range' p (t.length + 1 - p)).map natD := by
      unfold rangeL
      have : ((t.length : Int) + 1 - (p : Int)).toNat = t.length + 1 - p := by omega
      rw [this, List.range'_eq_map_range, List.map_map]
      apply List.map_congr_left
      intro k _
      simp only [Function.comp, natD]
      congr 1
    have hb : D.okEqs 7 (natD p :: r.map natD) = true := okEqs_nat 7 (p :: r)
    have hw1 : evE gl (SIG n) (.cmp .ne (.var 2) (.lst .nil)) (tkS ps t (p :: r) (.fz starD)) = some (.bool true, .fz) := e_cmp (e_own rfl) (e_lst es_nil) (by
      show (if D.okEqs 7 (natD p :: r.map natD) && true = true then some (!(D.beqs _ [])) else none) = _
      rw [hb]; rfl)
    have hw2 : evE gl (SIG n) (.listRange (.idx (.var 2) (.lit (.int 0))) (.bin .add (.len (.var 1)) (.lit (.int 1)))) (tkS ps t (p :: r) (.fz starD)) = some (.list ((stepP t (p :: r) none).map natD), .fresh) := by
      rw [evE, e_idx (d := natD p) (e_own rfl) (e_lit _) rfl, e_bin (r := (.int ((t.length : Int) + 1), .fz)) (e_len (e_var rfl) (len_str h1)) (e_lit _) rfl]
      show (if _ then _ else _) = _
      rw [if_pos ⟨h3, h4⟩, e]; rfl
    show exSs gl (SIG n) (.cons (.ite _ _ _) .nil) _ = _
    rw [seqN]
    · rfl
    · rw [s_ite (x := true) (by exact (rfl : evE gl (SIG n) (.cmp .eq (.var 3) (.lst (.cons (.lit (.str [115, 116, 97, 114])) .nil))) (tkS ps t (p :: r) (.fz starD)) = some (.bool true, .fz))) rfl, if_pos rfl, seqN (s_fresh (e_ite hw1 rfl (fun _ => hw2) (fun q => by cases q)))]
      rfl
theorem mapE_nat {f : D → Option D} {g : Nat → D} {P : List Nat} (h : ∀ p ∈ P, f (natD p) = some (g p)) : mapE f (P.map natD) = some (P.map g) := by
  induction P with
  | nil => rfl
  | cons p r ih =>
    show (f (natD p)).bind _ = _
    rw [h p (by simp)]
    show (mapE f (r.map natD)).map _ = _
    rw [ih fun q hq => h q (by simp [hq])]; rfl
theorem filterE_nat {f : D → Option Bool} {g : Nat → Bool} {P : List Nat} (h : ∀ p ∈ P, f (natD p) = some (g p)) : filterE f (P.map natD) = some ((P.filter g).map natD) := by
  induction P with
  | nil => rfl
  | cons p r ih =>
    show (f (natD p)).bind _ = _
    rw [h p (by simp)]
    show (filterE f (r.map natD)).map _ = _
    rw [ih fun q hq => h q (by simp [hq])]
    cases e : g p <;> simp [e]
theorem tk_class {n : Nat} {ps : D} {t P : List Nat} {s : List Nat} (hl : t.length ≤ 1000) (hP : ∀ p ∈ P, p ≤ t.length) (hPl : P.length ≤ 1000) (hf : ∀ c ∈ t, SIG n 14 [.str s, .str [c]] = some (.bool (fitB s c))) (hs : s.all (· < 1114112) = true) :
    exSs gl (SIG n) tkBody (tkS ps t P (.fz (.str s))) = some (.next, tkS ps t (stepP t P (some s)) (.fz (.str s))) := by
  have h1 : t.length ≤ 1000000 := by omega
  have h2 : ¬ 1000000 < (P.map natD).length := by rw [List.length_map]; omega
  have hc : ∀ p ∈ P, ((evE gl (SIG n) (.and (.cmp .lt (.var 4) (.len (.var 1))) (.cons (.call 14 (.cons (.var 3) (.cons (.idx (.var 1) (.var 4)) .nil))) .nil)) (tkS ps t P (.fz (.str s)) ++ [.fz (natD p)])).bind fun x => truth x.1) = some (decide (p < t.length) && fitB s (t.getD p 0)) := by
    intro p hp
    have h3 := hP p hp
    by_cases hlt : p < t.length
    · have h4 : ((p : Nat) : Int).natAbs ≤ 1000000 := by omega
      have h5 : ((p : Nat) : Int) < (t.length : Int) := by omega
      have h6 : t[p]? = some t[p] := List.getElem?_eq_getElem hlt
      have h7 := hf t[p] (List.getElem_mem hlt)
      rw [e_andB (p := true) (q := fitB s t[p]) (e_cmp (e_var (d := natD p) rfl) (e_len (e_var (d := .str t) rfl) (len_str h1)) (by show some _ = _; rw [decide_eq_true h5])) (fun _ => e_call2 (x := .str s) (e_var rfl) (e_idx (e_var (d := .str t) rfl) (e_var (d := natD p) rfl) (idx_str h6 (by omega))) h7)]
      simp [truth, hlt]
    · have h5 : ¬ ((p : Nat) : Int) < (t.length : Int) := by omega
      rw [e_andB (p := false) (q := false) (e_cmp (e_var (d := natD p) rfl) (e_len (e_var (d := .str t) rfl) (len_str h1)) (by show some _ = _; rw [decide_eq_false h5])) (fun q => by cases q)]
      simp [truth, hlt]
  have he : ∀ p ∈ P.filter (fun p => decide (p < t.length) && fitB s (t.getD p 0)), (evE gl (SIG n) (.bin .add (.var 4) (.lit (.int 1))) (tkS ps t P (.fz (.str s)) ++ [.fz (natD p)])).bind kept = some (natD (p + 1)) := by
    intro p _
    rfl
  have hcl : evE gl (SIG n) (.compLI (.bin .add (.var 4) (.lit (.int 1))) (.var 2) (.and (.cmp .lt (.var 4) (.len (.var 1))) (.cons (.call 14 (.cons (.var 3) (.cons (.idx (.var 1) (.var 4)) .nil))) .nil))) (tkS ps t P (.fz (.str s))) = some (.list ((stepP t P (some s)).map natD), .fresh) := by
    refine e_compLI (e_own rfl) (by omega) (filterE_nat (f := fun d : D => (evE gl (SIG n) (.and (.cmp .lt (.var 4) (.len (.var 1))) (.cons (.call 14 (.cons (.var 3) (.cons (.idx (.var 1) (.var 4)) .nil))) .nil)) (tkS ps t P (.fz (.str s)) ++ [LV.fz d])).bind fun x => truth x.1) hc) ?_
    rw [mapE_nat (g := fun p => natD (p + 1)) (f := fun d : D => (evE gl (SIG n) (.bin .add (.var 4) (.lit (.int 1))) (tkS ps t P (.fz (.str s)) ++ [LV.fz d])).bind kept) he]
    simp [stepP, List.map_map]
  have hq : evE gl (SIG n) (.cmp .eq (.var 3) (.lst (.cons (.lit (.str [115, 116, 97, 114])) .nil))) (tkS ps t P (.fz (.str s))) = some (.bool false, .fz) := by
    refine e_cmp (e_var rfl) (e_lst (es_cons (e_lit _) rfl es_nil)) ?_
    show (if (s.all (· < 1114112) && D.okEqs 7 [.str [115, 116, 97, 114]]) = true then some false else none) = _
    rw [hs]; rfl
  show exSs gl (SIG n) (.cons (.ite _ _ _) .nil) _ = _
  rw [seqN]
  · rfl
  · rw [s_ite hq rfl, if_neg (by simp), seqN (s_fresh hcl)]
    rfl
theorem asc_len {t P : List Nat} (h : Asc t P) : P.length ≤ t.length + 1 := by
  have hn : P.Nodup := h.1.imp (by intro a b h; omega)
  have := hn.length_le_of_subset (l₂ := List.range (t.length + 1)) (fun p hp => by have := h.2 p hp; simp; omega)
  simpa using this
def tvar : Option (List Nat) → D := partD1
theorem tk_loop {n : Nat} {ps : D} {t : List Nat} (hl : t.length ≤ 999) : ∀ (l : List (Option (List Nat))) (P : List Nat) (v : LV), Asc t P →
    (∀ s, some s ∈ l → s.all (· < 1114112) = true ∧ ∀ c ∈ t, SIG n 14 [.str s, .str [c]] = some (.bool (fitB s c))) →
    ∃ v', forGo (fun d σ => some (σ.set 3 (.fz d))) (fun σ => exSs gl (SIG n) tkBody σ) (l.map partD1) (tkS ps t P v) = some (.next, tkS ps t (foldP t l P) v')
  | [], P, v, _, _ => ⟨v, rfl⟩
  | none :: r, P, v, hP, hs => by
    obtain ⟨v', e⟩ := tk_loop (n := n) (ps := ps) hl r (stepP t P none) (.fz starD) (stepP_asc hP none) (fun s q => hs s (by simp [q]))
    refine ⟨v', ?_⟩
    rw [List.map_cons, forGo_cons (σ₁ := tkS ps t P (.fz starD)) rfl (tk_star (by omega) hP.2), e]; rfl
  | some s :: r, P, v, hP, hs => by
    obtain ⟨v', e⟩ := tk_loop (n := n) (ps := ps) hl r (stepP t P (some s)) (.fz (.str s)) (stepP_asc hP (some s)) (fun s q => hs s (by simp [q]))
    obtain ⟨h1, h2⟩ := hs s (by simp)
    have := asc_len hP
    refine ⟨v', ?_⟩
    rw [List.map_cons, forGo_cons (σ₁ := tkS ps t P (.fz (.str s))) rfl (tk_class (by omega) hP.2 (by omega) h2 h1), e]; rfl
theorem takes_ok {n : Nat} {ps : List (Option (List Nat))} {t : List Nat} (hl : t.length ≤ 999) (hs : ∀ s, some s ∈ ps → s.all (· < 1114112) = true ∧ ∀ c ∈ t, SIG n 14 [.str s, .str [c]] = some (.bool (fitB s c))) : SIG (n + 1) 15 [.list (ps.map partD1), .str t] = some (.bool (mt ps t)) := by
  rw [sg15]
  have ha : Asc t [0] := ⟨by simp, by simp⟩
  obtain ⟨v', e⟩ := tk_loop (n := n) (ps := .list (ps.map partD1)) hl ps [0] .un ha hs
  have hf := fold_ok t ps [0] ha
  refine runFun_of rfl (σ := tkS (.list (ps.map partD1)) t (foldP t ps [0]) v') ?_
  rw [tk_body_eq, seqN (s_fresh (d := .list [.int 0]) rfl), seqN (σ' := tkS (.list (ps.map partD1)) t (foldP t ps [0]) v')]
  · refine seqR (s_ret (t := .fz) (e_cmp (e_len (e_var rfl) (len_str (by omega))) (e_own rfl) ?_))
    show (if (D.okEq 8 (.int (t.length : Int)) && D.okEqs 8 ((foldP t ps [0]).map natD)) = true then some (((foldP t ps [0]).map natD).any (D.beq · (.int (t.length : Int)))) else none) = _
    rw [okEqs_nat, any_nat, hf]
    simp [D.okEq]
  · rw [s_forE (e_var rfl) rfl]
    show (forGo _ _ (ps.map partD1) (tkS (.list (ps.map partD1)) t [0] .un)).bind _ = _
    rw [e]; rfl
end Mine
end
section
set_option autoImplicit false
set_option maxRecDepth 100000
namespace Mine
open PySem PySem.W

def itemD (i : Nat) : D := .tup [.str (patAt i), .str (setAt i)]
theorem slice_tail {α : Type} (x : α) (r : List α) : slice (x :: r) (cut (x :: r).length 1) (x :: r).length = r := by
  unfold slice cut
  rw [if_pos (by decide), List.take_length]
  have : min (1 : Int).toNat (x :: r).length = 1 := by simp
  rw [this]; rfl
theorem slice_drop {α : Type} (l : List α) (k : Nat) (h : k ≤ l.length) : slice l (cut l.length (k : Int)) l.length = l.drop k := by
  unfold slice cut
  rw [if_pos (by omega), List.take_length]
  have : min ((k : Nat) : Int).toNat l.length = k := by omega
  rw [this]
theorem sl_tail (x : D) (r : List D) (h : (x :: r).length ≤ 1000000) : sliceOp (.list (x :: r)) (some 1) none = some (.list r, .fresh) := by
  show (if _ then some (D.list (slice (x :: r) (cut (x :: r).length 1) (x :: r).length), Tag.fresh) else none) = _
  rw [if_pos h, slice_tail]
theorem sl_drop (s : List Nat) (k : Nat) (hk : k ≤ s.length) (h : s.length ≤ 1000000) : sliceOp (.str s) (some (k : Int)) none = some (.str (s.drop k), .fz) := by
  show (if _ then some (D.str (slice s (cut s.length (k : Int)) s.length), Tag.fz) else none) = _
  rw [if_pos h, slice_drop _ _ hk]
theorem okItem {i : Nat} (h : i < 13) : D.okEq 7 (itemD i) = true ∧ (patAt i).all (· < 1114112) = true ∧ (D.beq (.str (patAt i)) (.str [42]) = decide (i = 0)) := by
  match i, h with
  | 0, _ | 1, _ | 2, _ | 3, _ | 4, _ | 5, _ | 6, _ | 7, _ | 8, _ | 9, _ | 10, _ | 11, _ | 12, _ => exact ⟨by decide, by decide, by decide⟩
theorem okItems : ∀ {is : List Nat}, (∀ i ∈ is, i < 13) → D.okEqs 7 (is.map itemD) = true
  | [], _ => by simp [D.okEqs]
  | i :: r, h => by
    have h1 := okItems (is := r) fun j hj => h j (List.mem_cons_of_mem _ hj)
    simp only [List.map_cons, D.okEqs, (okItem (h i (by simp))).1, h1, Bool.and_self]
theorem A7_all {t : List Nat} (h : ∀ c ∈ t, c ∈ A7) : t.all (· < 1114112) = true := by
  rw [List.all_eq_true]
  intro c hc
  have := h c hc
  simp only [A7, List.mem_cons, List.not_mem_nil, or_false] at this
  rcases this with h | h | h | h | h | h | h <;> subst h <;> decide
theorem part_some {i : Nat} (h : i < 13) (h0 : i ≠ 0) : ∃ s, partAt i = some s := by
  match i, h with
  | 0, _ => exact absurd rfl h0
  | 1, _ | 2, _ | 3, _ | 4, _ | 5, _ | 6, _ | 7, _ | 8, _ | 9, _ | 10, _ | 11, _ | 12, _ => exact ⟨_, rfl⟩
theorem rangeL_nat (n : Nat) : rangeL 0 (n : Int) = (List.range n).map natD := by
  unfold rangeL
  have : ((n : Int) - 0).toNat = n := by omega
  rw [this]
  apply List.map_congr_left
  intro k _
  simp [natD]
theorem okEqs_bool {α : Type} (n : Nat) (f : α → Bool) : ∀ l : List α, D.okEqs n (l.map fun k => .bool (f k)) = true
  | [] => by simp [D.okEqs]
  | p :: r => by simp [D.okEqs, D.okEq, okEqs_bool n f r]
theorem any_bool {α : Type} (f : α → Bool) (l : List α) : (l.map fun k => D.bool (f k)).any (D.beq · (.bool true)) = l.any f := by
  rw [List.any_map]
  congr 1
  funext k
  simp [Function.comp, D.beq]
abbrev plS (is t : List Nat) : List LV := [.fz (.list (is.map itemD)), .fz (.str t)]
theorem plain_body : F_law_plain.body = .cons (.ite (.cmp .eq (.var 0) (.lst .nil)) (.cons (.ret (.cmp .eq (.var 1) (.lit (.str [])))) .nil) .nil) (.cons (.ite (.cmp .eq (.idx (.idx (.var 0) (.lit (.int 0))) (.lit (.int 0))) (.lit (.str [42]))) (.cons (.ret (.cmp .isin (.lit (.bool true)) (.compR (.call 19 (.cons (.slFrom (.var 0) (.lit (.int 1))) (.cons (.slFrom (.var 1) (.var 2)) .nil))) (.bin .add (.len (.var 1)) (.lit (.int 1)))))) .nil) .nil) (.cons (.ret (.and (.cmp .ne (.var 1) (.lit (.str []))) (.cons (.cmp .isin (.idx (.var 1) (.lit (.int 0))) (.idx (.idx (.var 0) (.lit (.int 0))) (.lit (.int 1)))) (.cons (.call 19 (.cons (.slFrom (.var 0) (.lit (.int 1))) (.cons (.slFrom (.var 1) (.lit (.int 1))) .nil))) .nil)))) .nil)) := rfl
theorem plain_ok : ∀ (is : List Nat) (n : Nat) (t : List Nat), is.length ≤ 999 → (∀ i ∈ is, i < 13) → (∀ c ∈ t, c ∈ A7) → t.length ≤ 999 → SIG (n + is.length + 1) 19 [.list (is.map itemD), .str t] = some (.bool (mt (is.map partAt) t))
  | [], n, t, _, _, ht, hl => by
    rw [sg19]
    refine runFun_of rfl (σ := plS [] t) ?_
    rw [plain_body, seqR]
    rw [s_ite (x := true) (e_cmp (e_var rfl) (e_lst es_nil) rfl) rfl, if_pos rfl]
    refine seqR (s_ret (t := .fz) (e_cmp (e_var rfl) (e_lit _) ?_))
    show (if (t.all (· < 1114112) && true) = true then some (D.beq (.str t) (.str [])) else none) = _
    rw [A7_all ht]
    cases t <;> rfl
  | i :: r, n, t, h3, hi, ht, hl => by
    have ih : ∀ t', (∀ c ∈ t', c ∈ A7) → t'.length ≤ 999 → SIG (n + r.length + 1) 19 [.list (r.map itemD), .str t'] = some (.bool (mt (r.map partAt) t')) := fun t' a b => plain_ok r n t' (by simp at h3; omega) (fun j hj => hi j (by simp [hj])) a b
    have e1 : n + (i :: r).length + 1 = (n + r.length + 1) + 1 := by simp; omega
    rw [e1, sg19]
    generalize n + r.length + 1 = m at ih
    have hl' : t.length ≤ 1000000 := by omega
    have hr' : (itemD i :: r.map itemD).length ≤ 1000000 := by simp at h3 ⊢; omega
    obtain ⟨k1, k2, k3⟩ := okItem (hi i (by simp))
    have kr := okItems (is := i :: r) hi
    refine runFun_of rfl (σ := plS (i :: r) t) ?_
    rw [plain_body, seqN (σ' := plS (i :: r) t)]
    · have hv : evE gl (SIG m) (.idx (.var 0) (.lit (.int 0))) (plS (i :: r) t) = some (itemD i, .fz) := e_idx (e_var rfl) (e_lit _) rfl
      have hq : evE gl (SIG m) (.cmp .eq (.idx (.idx (.var 0) (.lit (.int 0))) (.lit (.int 0))) (.lit (.str [42]))) (plS (i :: r) t) = some (.bool (decide (i = 0)), .fz) := by
        refine e_cmp (e_idx hv (e_lit _) rfl) (e_lit _) ?_
        show (if ((patAt i).all (· < 1114112) && true) = true then some (D.beq (.str (patAt i)) (.str [42])) else none) = _
        rw [k2, k3]; rfl
      by_cases h0 : i = 0
      · refine seqR ?_
        rw [s_ite hq rfl, if_pos (by simp [h0])]
        refine seqR (s_ret (t := .fz) (e_cmp (e_lit _) (e_compR (r := (List.range (t.length + 1)).map fun k => .bool (mt (r.map partAt) (t.drop k))) (n := ((t.length + 1 : Nat) : Int)) (e_bin (e_len (e_var rfl) (len_str hl')) (e_lit _) rfl) (by omega) ?_) ?_))
        · rw [rangeL_nat]
          refine mapE_nat fun k hk => ?_
          have hk : k ≤ t.length := by simp at hk; omega
          have : evE gl (SIG m) (.call 19 (.cons (.slFrom (.var 0) (.lit (.int 1))) (.cons (.slFrom (.var 1) (.var 2)) .nil))) (plS (i :: r) t ++ [LV.fz (natD k)]) = some (.bool (mt (r.map partAt) (t.drop k)), .fz) := by
            refine e_call (es_cons (e_slFrom (e_var rfl) (e_lit _) (sl_tail (itemD i) (r.map itemD) hr')) rfl (es_cons (e_slFrom (e_var (d := .str t) rfl) (e_var (d := natD k) rfl) (sl_drop t k hk hl')) rfl es_nil)) ?_
            exact ih (t.drop k) (fun c hc => ht c (List.mem_of_mem_drop hc)) (by rw [List.length_drop]; omega)
          rw [this]; rfl
        · show (if (true && D.okEqs 8 ((List.range (t.length + 1)).map fun k => .bool (mt (r.map partAt) (t.drop k)))) = true then some (((List.range (t.length + 1)).map fun k => D.bool (mt (r.map partAt) (t.drop k))).any (D.beq · (.bool true))) else none) = _
          rw [okEqs_bool, any_bool]
          subst h0
          show some _ = some (anyS (mt (r.map partAt)) t)
          have := anyS_drop (mt (r.map partAt)) t 0 (by omega)
          rw [List.drop_zero] at this
          rw [this, List.range_eq_range']; rfl
      · obtain ⟨s, hs⟩ := part_some (hi i (by simp)) h0
        rw [seqN (σ' := plS (i :: r) t) (by rw [s_ite hq rfl, if_neg (by simp [h0])]; rfl)]
        refine seqR (s_ret (t := .fz) ?_)
        show _ = some (D.bool (mt (partAt i :: r.map partAt) t), Tag.fz)
        rw [hs]
        have hne : evE gl (SIG m) (.cmp .ne (.var 1) (.lit (.str []))) (plS (i :: r) t) = some (.bool (!t.isEmpty), .fz) := by
          refine e_cmp (e_var rfl) (e_lit _) ?_
          show (if (t.all (· < 1114112) && true) = true then some (!D.beq (.str t) (.str [])) else none) = _
          rw [A7_all ht]
          cases t <;> rfl
        cases t with
        | nil => exact e_and3 (q := false) (r := false) hne (fun q => by cases q) (fun q => by cases q)
        | cons c t =>
          have hf := (fits_ok (n := 0) (hi i (by simp)) hs (ht c (by simp))).2
          have := e_and3 (G := gl) (Sg := SIG m) (σ := plS (i :: r) (c :: t)) (q := (setAt i).contains c) (r := mt (r.map partAt) t) hne (b := .cmp .isin (.idx (.var 1) (.lit (.int 0))) (.idx (.idx (.var 0) (.lit (.int 0))) (.lit (.int 1)))) (c := .call 19 (.cons (.slFrom (.var 0) (.lit (.int 1))) (.cons (.slFrom (.var 1) (.lit (.int 1))) .nil)))
            (fun _ => e_cmp (x := .str [c]) (e_idx (e_var rfl) (e_lit _) rfl) (e_idx hv (e_lit _) rfl) rfl)
            (fun _ _ => e_call (es_cons (e_slFrom (e_var rfl) (e_lit _) (sl_tail (itemD i) (r.map itemD) hr')) rfl (es_cons (e_slFrom (e_var (d := .str (c :: t)) rfl) (e_lit _) (sl_drop (c :: t) 1 (by simp) hl')) rfl es_nil)) (ih t (fun x hx => ht x (by simp [hx])) (by simp at hl; omega)))
          rw [this, hf]; rfl
    · rw [s_ite (x := false) (e_cmp (e_var rfl) (e_lst es_nil) (r := false) ?_) rfl]
      · rfl
      · show (if (D.okEqs 7 ((i :: r).map itemD) && true) = true then some (D.beqs ((i :: r).map itemD) []) else none) = _
        rw [kr]; rfl
end Mine
end
section
set_option autoImplicit false
set_option maxRecDepth 100000
namespace Mine
open PySem PySem.W

theorem ifmt_ok (n m : Nat) : SIG (n + 1) 0 [.int (m : Int)] = some (.int ((m &&& 61440 : Nat) : Int)) := by
  rw [sg0]
  exact runFun_of rfl (seqR (s_ret (t := .fz) (e_bin (e_var rfl) (e_lit _) rfl)))
theorem isdir_ok (n m : Nat) : SIG (n + 2) 1 [.int (m : Int)] = some (.bool (m &&& 61440 == 16384)) := by
  rw [sg1]
  refine runFun_of rfl (seqR (s_ret (t := .fz) (e_cmp (y := .int 16384) (t' := .fz) (e_call1 (e_var rfl) (ifmt_ok n m)) rfl ?_)))
  show some ((((m &&& 61440 : Nat) : Int) == (16384 : Int))) = _
  congr 1
  rw [Bool.eq_iff_iff]
  simp only [beq_iff_eq]
  omega

def fmTab : List (List (Nat × Nat)) := [[(40960, 108), (49152, 115), (32768, 45), (24576, 98), (16384, 100), (8192, 99), (4096, 112)], [(256, 114)], [(128, 119)], [(2112, 115), (2048, 83), (64, 120)], [(32, 114)], [(16, 119)], [(1032, 115), (1024, 83), (8, 120)], [(4, 114)], [(2, 119)], [(513, 116), (512, 84), (1, 120)]]
def pairD (p : Nat × Nat) : D := .tup [.int (p.1 : Int), .str [p.2]]
def tabD (t : List (Nat × Nat)) : D := .tup (t.map pairD)
theorem gl1P : gl 1 = some (.tup (fmTab.map tabD)) := rfl
def pick (test : Nat → Bool) : List (Nat × Nat) → Option Nat
  | [] => none
  | (b, c) :: r => if test b then some c else pick test r
abbrev fmS (m : Nat) (perm : List D) (i : Int) (tb : D) (v4 v5 : LV) : List LV := [.fz (.int (m : Int)), .ow (.list perm), .fz (.int i), .fz tb, v4, v5]
def fmOuter : PSs := match Ffilemode.body with
  | .cons _ (.cons (.forEnum _ _ _ b) _) => b
  | _ => .nil
def fmInner : PSs := match fmOuter with
  | .cons (.forT _ _ b _) _ => b
  | _ => .nil
def fmElse : PSs := match fmOuter with
  | .cons (.forT _ _ _ b) _ => b
  | _ => .nil
theorem fm_body : Ffilemode.body = .cons (.assign 1 (.lst .nil)) (.cons (.forEnum 2 3 (.glob 1) fmOuter) (.cons (.ret (.meth .join (.lit (.str [])) (.cons (.var 1) .nil))) .nil)) := rfl
theorem fm_outer : fmOuter = .cons (.forT [4, 5] (.var 3) fmInner fmElse) .nil := rfl
theorem fm_inner : fmInner = .cons (.ite (.cmp .eq (.var 2) (.lit (.int 0))) (.cons (.ite (.cmp .eq (.call 0 (.cons (.var 0) .nil)) (.var 4)) (.cons (.appnd 1 (.var 5)) (.cons .brk .nil)) .nil) .nil) (.cons (.ite (.cmp .eq (.bin .band (.var 0) (.var 4)) (.var 4)) (.cons (.appnd 1 (.var 5)) (.cons .brk .nil)) .nil) .nil)) .nil := rfl
theorem fm_else : fmElse = .cons (.ite (.cmp .eq (.var 2) (.lit (.int 0))) (.cons (.appnd 1 (.lit (.str [63]))) .nil) (.cons (.appnd 1 (.lit (.str [45]))) .nil)) .nil := rfl
def fmTest (m i : Nat) (b : Nat) : Bool := if i = 0 then m &&& 61440 == b else m &&& b == b
theorem fm_step {n m i b c : Nat} {perm : List D} {tb : D} (hp : perm.length ≤ 1000) : exSs gl (SIG (n + 1)) fmInner (fmS m perm (i : Int) tb (.fz (.int (b : Int))) (.fz (.str [c]))) = some (if fmTest m i b then (.brk, fmS m (perm ++ [.str [c]]) (i : Int) tb (.fz (.int (b : Int))) (.fz (.str [c]))) else (.next, fmS m perm (i : Int) tb (.fz (.int (b : Int))) (.fz (.str [c])))) := by
  rw [fm_inner]
  have hc : evE gl (SIG (n + 1)) (.cmp .eq (.var 2) (.lit (.int 0))) (fmS m perm (i : Int) tb (.fz (.int (b : Int))) (.fz (.str [c]))) = some (.bool (decide (i = 0)), .fz) := by
    refine e_cmp (e_var rfl) (e_lit _) ?_
    show some (((i : Nat) : Int) == (0 : Int)) = _
    congr 1
    rw [Bool.eq_iff_iff]
    simp only [beq_iff_eq, decide_eq_true_eq]
    omega
  have happ : exSs gl (SIG (n + 1)) (.cons (.appnd 1 (.var 5)) (.cons .brk .nil)) (fmS m perm (i : Int) tb (.fz (.int (b : Int))) (.fz (.str [c]))) = some (.brk, fmS m (perm ++ [.str [c]]) (i : Int) tb (.fz (.int (b : Int))) (.fz (.str [c]))) := by
    rw [seqN (s_appnd (t := .fz) (e_var rfl) rfl rfl (by omega))]
    rfl
  have hs : exS gl (SIG (n + 1)) (.ite (.cmp .eq (.var 2) (.lit (.int 0))) (.cons (.ite (.cmp .eq (.call 0 (.cons (.var 0) .nil)) (.var 4)) (.cons (.appnd 1 (.var 5)) (.cons .brk .nil)) .nil) .nil) (.cons (.ite (.cmp .eq (.bin .band (.var 0) (.var 4)) (.var 4)) (.cons (.appnd 1 (.var 5)) (.cons .brk .nil)) .nil) .nil)) (fmS m perm (i : Int) tb (.fz (.int (b : Int))) (.fz (.str [c]))) = some (if fmTest m i b then (.brk, fmS m (perm ++ [.str [c]]) (i : Int) tb (.fz (.int (b : Int))) (.fz (.str [c]))) else (.next, fmS m perm (i : Int) tb (.fz (.int (b : Int))) (.fz (.str [c])))) := by
    rw [s_ite hc rfl]
    by_cases h0 : i = 0
    · rw [if_pos (by simp [h0])]
      have hq : evE gl (SIG (n + 1)) (.cmp .eq (.call 0 (.cons (.var 0) .nil)) (.var 4)) (fmS m perm (i : Int) tb (.fz (.int (b : Int))) (.fz (.str [c]))) = some (.bool (fmTest m i b), .fz) := by
        refine e_cmp (e_call1 (e_var rfl) (ifmt_ok n m)) (e_var (d := .int (b : Int)) rfl) ?_
        show some (((m &&& 61440 : Nat) : Int) == (b : Int)) = _
        congr 1
        rw [Bool.eq_iff_iff]
        simp only [fmTest, h0, if_true, beq_iff_eq]
        omega
      cases ht : fmTest m i b with
      | true => rw [ht] at hq; rw [seqB (by rw [s_ite hq rfl, if_pos rfl]; exact happ)]; rfl
      | false => rw [ht] at hq; rw [seqN (by rw [s_ite hq rfl, if_neg (by simp)]; rfl)]; rfl
    · rw [if_neg (by simp [h0])]
      have hq : evE gl (SIG (n + 1)) (.cmp .eq (.bin .band (.var 0) (.var 4)) (.var 4)) (fmS m perm (i : Int) tb (.fz (.int (b : Int))) (.fz (.str [c]))) = some (.bool (fmTest m i b), .fz) := by
        refine e_cmp (x := .int ((m &&& b : Nat) : Int)) (t := .fz) (e_bin (x := .int (m : Int)) (y := .int (b : Int)) (e_var rfl) (e_var rfl) rfl) (e_var (d := .int (b : Int)) rfl) ?_
        show some (((m &&& b : Nat) : Int) == (b : Int)) = _
        congr 1
        rw [Bool.eq_iff_iff]
        simp only [fmTest, h0, if_false, beq_iff_eq]
        omega
      cases ht : fmTest m i b with
      | true => rw [ht] at hq; rw [seqB (by rw [s_ite hq rfl, if_pos rfl]; exact happ)]; rfl
      | false => rw [ht] at hq; rw [seqN (by rw [s_ite hq rfl, if_neg (by simp)]; rfl)]; rfl
  cases ht : fmTest m i b with
  | true => rw [ht] at hs; rw [seqB hs]; rfl
  | false => rw [ht] at hs; rw [seqN hs]; rfl
theorem fm_in {n m i : Nat} {perm : List D} {tb : D} (hp : perm.length ≤ 1000) : ∀ (tab : List (Nat × Nat)) (v4 v5 : LV), ∃ w4 w5, forGo (bindT [4, 5]) (fun σ => exSs gl (SIG (n + 1)) fmInner σ) (tab.map pairD) (fmS m perm (i : Int) tb v4 v5) = some (match pick (fmTest m i) tab with
    | some c => (.brk, fmS m (perm ++ [.str [c]]) (i : Int) tb w4 w5)
    | none => (.next, fmS m perm (i : Int) tb w4 w5))
  | [], v4, v5 => ⟨v4, v5, rfl⟩
  | (b, c) :: r, v4, v5 => by
    have hs := fm_step (n := n) (m := m) (i := i) (b := b) (c := c) (tb := tb) hp
    cases ht : fmTest m i b with
    | true =>
      rw [ht] at hs
      refine ⟨.fz (.int (b : Int)), .fz (.str [c]), ?_⟩
      rw [List.map_cons, forGo_brk (σ₁ := fmS m perm (i : Int) tb (.fz (.int (b : Int))) (.fz (.str [c]))) rfl hs]
      simp only [pick, ht, if_true]
    | false =>
      rw [ht] at hs
      obtain ⟨w4, w5, e⟩ := fm_in (n := n) (m := m) (i := i) (tb := tb) hp r (.fz (.int (b : Int))) (.fz (.str [c]))
      refine ⟨w4, w5, ?_⟩
      rw [List.map_cons, forGo_cons (σ₁ := fmS m perm (i : Int) tb (.fz (.int (b : Int))) (.fz (.str [c]))) rfl hs, e]
      simp only [pick, ht, Bool.false_eq_true, if_false]
def fmSign (m i : Nat) (tab : List (Nat × Nat)) : Nat := (pick (fmTest m i) tab).getD (if i = 0 then 63 else 45)
theorem fm_row {n m i : Nat} {perm : List D} {tab : List (Nat × Nat)} (hp : perm.length ≤ 1000) (v4 v5 : LV) : ∃ w4 w5, exSs gl (SIG (n + 1)) fmOuter (fmS m perm (i : Int) (tabD tab) v4 v5) = some (.next, fmS m (perm ++ [.str [fmSign m i tab]]) (i : Int) (tabD tab) w4 w5) := by
  obtain ⟨w4, w5, e⟩ := fm_in (n := n) (m := m) (i := i) (tb := tabD tab) hp tab v4 v5
  refine ⟨w4, w5, ?_⟩
  rw [fm_outer, seqN]
  · rfl
  · rw [s_forT (e_var (d := tabD tab) rfl) (l := tab.map pairD) rfl, e]
    cases ht : pick (fmTest m i) tab with
    | some c => simp only [fmSign, ht]; rfl
    | none =>
      show exSs gl (SIG (n + 1)) fmElse (fmS m perm (i : Int) (tabD tab) w4 w5) = _
      have hc : evE gl (SIG (n + 1)) (.cmp .eq (.var 2) (.lit (.int 0))) (fmS m perm (i : Int) (tabD tab) w4 w5) = some (.bool (decide (i = 0)), .fz) := by
        refine e_cmp (e_var rfl) (e_lit _) ?_
        show some (((i : Nat) : Int) == (0 : Int)) = _
        congr 1
        rw [Bool.eq_iff_iff]
        simp only [beq_iff_eq, decide_eq_true_eq]
        omega
      rw [fm_else]
      by_cases h0 : i = 0
      · rw [seqN]
        · rfl
        · rw [s_ite hc rfl, if_pos (by simp [h0]), seqN (s_appnd (t := .fz) (e_lit _) rfl rfl (by omega))]
          have ef : fmSign m i tab = 63 := by rw [fmSign, ht]; simp [h0]
          rw [ef]; rfl
      · rw [seqN]
        · rfl
        · rw [s_ite hc rfl, if_neg (by simp [h0]), seqN (s_appnd (t := .fz) (e_lit _) rfl rfl (by omega))]
          have ef : fmSign m i tab = 45 := by simp [fmSign, ht, h0]
          rw [ef]; rfl
def fmSigns (m : Nat) : List Nat := fmTab.mapIdx fun i tab => fmSign m i tab
theorem fm_rows {n m : Nat} : ∀ (tabs : List (List (Nat × Nat))) (k : Nat) (perm : List D) (v2 v3 v4 v5 : LV), perm.length + tabs.length ≤ 1000 → ∃ w2 w3 w4 w5,
    forGo (bindT [2, 3]) (fun σ => exSs gl (SIG (n + 1)) fmOuter σ) ((tabs.map tabD).mapIdx fun i d => .tup [.int ((i + k : Nat) : Int), d]) [.fz (.int (m : Int)), .ow (.list perm), v2, v3, v4, v5] = some (.next, [.fz (.int (m : Int)), .ow (.list (perm ++ (tabs.mapIdx fun i tab => .str [fmSign m (i + k) tab]))), w2, w3, w4, w5])
  | [], k, perm, v2, v3, v4, v5, _ => ⟨v2, v3, v4, v5, by simp [forGo]⟩
  | tab :: r, k, perm, v2, v3, v4, v5, hp => by
    have hp : perm.length + (r.length + 1) ≤ 1000 := hp
    obtain ⟨x4, x5, e1⟩ := fm_row (n := n) (m := m) (i := k) (perm := perm) (tab := tab) (by omega) v4 v5
    obtain ⟨w2, w3, w4, w5, e⟩ := fm_rows (n := n) (m := m) r (k + 1) (perm ++ [.str [fmSign m k tab]]) (.fz (.int (k : Int))) (.fz (tabD tab)) x4 x5 (by simp; omega)
    refine ⟨w2, w3, w4, w5, ?_⟩
    rw [List.map_cons, List.mapIdx_cons, forGo_cons (σ₁ := fmS m perm (k : Int) (tabD tab) v4 v5) (by simp only [Nat.zero_add]; rfl) e1]
    have ea : ∀ i : Nat, i + 1 + k = i + (k + 1) := fun i => by omega
    simp only [List.mapIdx_cons, Nat.zero_add, ea]
    rw [e]
    simp
theorem strsOf_signs : ∀ l : List Nat, strsOf (l.map fun c => .str [c]) = some (l.map fun c => [c])
  | [] => rfl
  | c :: r => by
    show (strsOf (r.map fun c => .str [c])).map _ = _
    rw [strsOf_signs r]; rfl
theorem joinL_nil : ∀ l : List (List Nat), joinL [] l = l.flatten
  | [] => rfl
  | [x] => by simp [joinL]
  | x :: y :: r => by
    show x ++ [] ++ joinL [] (y :: r) = _
    rw [joinL_nil (y :: r)]; simp
theorem m_join {s : List Nat} {l : List D} {xs : List (List Nat)} (h : strsOf l = some xs) (h1 : (joinL s xs).length ≤ 1000000) (h2 : xs.length ≤ 100000) (h3 : s.length ≤ 10) : methOp .join (.str s) [.list l] = some (.str (joinL s xs), .fz) := by
  unfold methOp
  simp [h, h1, h2, h3]
theorem fm_ok (n m : Nat) : SIG (n + 2) 2 [.int (m : Int)] = some (.str (fmSigns m)) := by
  rw [sg2]
  obtain ⟨w2, w3, w4, w5, e⟩ := fm_rows (n := n) (m := m) fmTab 0 [] .un .un .un .un (by decide)
  refine runFun_of rfl (σ := [.fz (.int (m : Int)), .ow (.list ((fmSigns m).map fun c => .str [c])), w2, w3, w4, w5]) ?_
  rw [fm_body, seqN (s_fresh (d := .list []) rfl), seqN (σ' := [.fz (.int (m : Int)), .ow (.list ((fmSigns m).map fun c => .str [c])), w2, w3, w4, w5])]
  · refine seqR (s_ret (t := .fz) (e_meth1 (e_lit _) (e_own rfl) ?_))
    rw [m_join (strsOf_signs _)]
    · rw [joinL_nil]; simp [fmSigns, fmTab]
    · rw [joinL_nil]; simp [fmSigns, fmTab]
    · simp [fmSigns, fmTab]
    · simp
  · have : exS gl (SIG (n + 1)) (.forEnum 2 3 (.glob 1) fmOuter) [.fz (.int (m : Int)), .ow (.list []), .un, .un, .un, .un] = (forGo (bindT [2, 3]) (fun σ => exSs gl (SIG (n + 1)) fmOuter σ) ((fmTab.map tabD).mapIdx fun i d => .tup [.int (i : Int), d]) [.fz (.int (m : Int)), .ow (.list []), .un, .un, .un, .un]).bind (behind fun σ => some (.next, σ)) := rfl
    refine this.trans ?_
    simp only [Nat.add_zero] at e
    rw [e]
    simp [behind, fmSigns, fmTab]
end Mine
end
section
set_option autoImplicit false
set_option maxRecDepth 100000
namespace Mine
open PySem PySem.W

def modeOf (kind r : Nat) : Nat := 65536 * (r % 3) + 4096 * kind + r
theorem mode_and {kind r b : Nat} (hr : r < 4096) (hb : b < 4096) : modeOf kind r &&& b = r &&& b := by
  apply Nat.eq_of_testBit_eq
  intro i
  rw [Nat.testBit_and, Nat.testBit_and]
  by_cases hi : i < 12
  · have e : modeOf kind r = 2 ^ 12 * (16 * (r % 3) + kind) + r := by unfold modeOf; omega
    rw [e, Nat.testBit_two_pow_mul_add _ (by omega), if_pos hi]
  · have : b.testBit i = false := Nat.testBit_lt_two_pow (Nat.lt_of_lt_of_le hb (by
      have : 2 ^ 12 ≤ 2 ^ i := Nat.pow_le_pow_right (by omega) (by omega)
      omega))
    rw [this, Bool.and_false, Bool.and_false]
theorem mode_fmt {kind r : Nat} (hk : kind < 16) (hr : r < 4096) : modeOf kind r &&& 61440 = 4096 * kind := by
  apply Nat.eq_of_testBit_eq
  intro i
  have e : modeOf kind r = 2 ^ 12 * (16 * (r % 3) + kind) + r := by unfold modeOf; omega
  have e2 : 61440 = 2 ^ 12 * 15 := rfl
  have e3 : 4096 * kind = 2 ^ 12 * kind := rfl
  rw [Nat.testBit_and, e, e2, e3, Nat.testBit_two_pow_mul_add _ (by omega), Nat.testBit_two_pow_mul, Nat.testBit_two_pow_mul]
  by_cases hi : i < 12
  · simp [hi, show ¬ 12 ≤ i by omega]
  · rw [if_neg hi]
    simp only [show i ≥ 12 by omega, decide_true, Bool.true_and]
    rw [← Nat.testBit_and]
    have : (16 * (r % 3) + kind) &&& 15 = kind := by
      rw [Nat.and_two_pow_sub_one_eq_mod _ 4]; omega
    rw [this]
def kindSign (kind : Nat) : Nat := ([63, 112, 99, 63, 100, 63, 98, 63, 45, 63, 108, 63, 115, 63, 63, 63][kind]?).getD 63
def sgn9 (r : Nat) : List Nat := fmTab.tail.map fun tab => (pick (fun b => r &&& b == b) tab).getD 45
theorem pick_congr {f g : Nat → Bool} : ∀ {tab : List (Nat × Nat)}, (∀ p ∈ tab, f p.1 = g p.1) → pick f tab = pick g tab
  | [], _ => rfl
  | (b, c) :: r, h => by
    simp only [pick, h (b, c) (by simp)]
    rw [pick_congr fun p hp => h p (by simp [hp])]
theorem kind_tab : ∀ kind < 16, (pick (fun b => 4096 * kind == b) (fmTab.headD [])).getD 63 = kindSign kind := by decide
theorem fmSigns_mode {kind r : Nat} (hk : kind < 16) (hr : r < 4096) : fmSigns (modeOf kind r) = kindSign kind :: sgn9 r := by
  have h0 : fmSign (modeOf kind r) 0 (fmTab.headD []) = kindSign kind := by
    rw [← kind_tab kind hk]
    unfold fmSign
    rw [if_pos rfl]
    congr 1
    refine pick_congr fun p _ => ?_
    simp only [fmTest, if_true, mode_fmt hk hr]
  have hs : ∀ (i : Nat) (tab : List (Nat × Nat)), i ≠ 0 → (∀ p ∈ tab, p.1 < 4096) → fmSign (modeOf kind r) i tab = (pick (fun b => r &&& b == b) tab).getD 45 := by
    intro i tab hi ht
    unfold fmSign
    rw [if_neg hi]
    congr 1
    refine pick_congr fun p hp => ?_
    simp only [fmTest, if_neg hi, mode_and hr (ht p hp)]
  show (fmSign (modeOf kind r) 0 (fmTab.headD [])) :: [fmSign (modeOf kind r) 1 _, fmSign (modeOf kind r) 2 _, fmSign (modeOf kind r) 3 _, fmSign (modeOf kind r) 4 _, fmSign (modeOf kind r) 5 _, fmSign (modeOf kind r) 6 _, fmSign (modeOf kind r) 7 _, fmSign (modeOf kind r) 8 _, fmSign (modeOf kind r) 9 _] = _
  rw [h0, hs 1 _ (by decide) (by decide), hs 2 _ (by decide) (by decide), hs 3 _ (by decide) (by decide), hs 4 _ (by decide) (by decide), hs 5 _ (by decide) (by decide), hs 6 _ (by decide) (by decide), hs 7 _ (by decide) (by decide), hs 8 _ (by decide) (by decide), hs 9 _ (by decide) (by decide)]
  rfl

def rS (p : Bool) : Nat := if p then 114 else 45
def wS (p : Bool) : Nat := if p then 119 else 45
def xS (a b n : Nat) (u v : Bool) : Nat := if u && v then a else if u then b else if v then 120 else 45
theorem and_bit (r i : Nat) : (r &&& 2 ^ i == 2 ^ i) = r.testBit i := by
  rw [Bool.eq_iff_iff, beq_iff_eq]
  constructor
  · intro h
    have := congrArg (fun x => Nat.testBit x i) h
    simpa [Nat.testBit_and, Nat.testBit_two_pow_self] using this
  · intro h
    apply Nat.eq_of_testBit_eq
    intro j
    rw [Nat.testBit_and]
    by_cases hj : i = j
    · subst hj; simp [h]
    · simp [Nat.testBit_two_pow_of_ne hj]
theorem and_bits (r i j : Nat) (h : 2 ^ i &&& 2 ^ j = 0) (hij : i ≠ j) : (r &&& (2 ^ i ||| 2 ^ j) == (2 ^ i ||| 2 ^ j)) = (r.testBit i && r.testBit j) := by
  rw [Bool.eq_iff_iff, beq_iff_eq, Bool.and_eq_true]
  constructor
  · intro h
    have h1 := congrArg (fun x => Nat.testBit x i) h
    have h2 := congrArg (fun x => Nat.testBit x j) h
    simp [Nat.testBit_and, Nat.testBit_or, Nat.testBit_two_pow_self] at h1 h2
    exact ⟨h1, h2⟩
  · intro h
    apply Nat.eq_of_testBit_eq
    intro k
    rw [Nat.testBit_and, Nat.testBit_or]
    by_cases hj : i = k
    · subst hj; simp [h.1]
    · by_cases hk : j = k
      · subst hk; simp [h.2]
      · simp [Nat.testBit_two_pow_of_ne hj, Nat.testBit_two_pow_of_ne hk]
theorem sgn9_bits (r : Nat) : sgn9 r = [rS (r.testBit 8), wS (r.testBit 7), xS 115 83 0 (r.testBit 11) (r.testBit 6), rS (r.testBit 5), wS (r.testBit 4), xS 115 83 0 (r.testBit 10) (r.testBit 3), rS (r.testBit 2), wS (r.testBit 1), xS 116 84 0 (r.testBit 9) (r.testBit 0)] := by
  have b0 : (r &&& 1 == 1) = r.testBit 0 := and_bit r 0
  have b1 : (r &&& 2 == 2) = r.testBit 1 := and_bit r 1
  have b2 : (r &&& 4 == 4) = r.testBit 2 := and_bit r 2
  have b3 : (r &&& 8 == 8) = r.testBit 3 := and_bit r 3
  have b4 : (r &&& 16 == 16) = r.testBit 4 := and_bit r 4
  have b5 : (r &&& 32 == 32) = r.testBit 5 := and_bit r 5
  have b6 : (r &&& 64 == 64) = r.testBit 6 := and_bit r 6
  have b7 : (r &&& 128 == 128) = r.testBit 7 := and_bit r 7
  have b8 : (r &&& 256 == 256) = r.testBit 8 := and_bit r 8
  have b9 : (r &&& 512 == 512) = r.testBit 9 := and_bit r 9
  have b10 : (r &&& 1024 == 1024) = r.testBit 10 := and_bit r 10
  have b11 : (r &&& 2048 == 2048) = r.testBit 11 := and_bit r 11
  have c1 : (r &&& 2112 == 2112) = (r.testBit 11 && r.testBit 6) := and_bits r 11 6 rfl (by decide)
  have c2 : (r &&& 1032 == 1032) = (r.testBit 10 && r.testBit 3) := and_bits r 10 3 rfl (by decide)
  have c3 : (r &&& 513 == 513) = (r.testBit 9 && r.testBit 0) := and_bits r 9 0 rfl (by decide)
  simp only [sgn9, fmTab, List.tail_cons, List.map_cons, List.map_nil, pick, b0, b1, b2, b3, b4, b5, b6, b7, b8, b9, b10, b11, c1, c2, c3, rS, wS, xS]
  generalize r.testBit 0 = x0, r.testBit 1 = x1, r.testBit 2 = x2, r.testBit 3 = x3, r.testBit 4 = x4, r.testBit 5 = x5, r.testBit 6 = x6, r.testBit 7 = x7, r.testBit 8 = x8, r.testBit 9 = x9, r.testBit 10 = x10, r.testBit 11 = x11
  congr 1
  · cases x8 <;> rfl
  congr 1
  · cases x7 <;> rfl
  congr 1
  · cases x11 <;> cases x6 <;> rfl
  congr 1
  · cases x5 <;> rfl
  congr 1
  · cases x4 <;> rfl
  congr 1
  · cases x10 <;> cases x3 <;> rfl
  congr 1
  · cases x2 <;> rfl
  congr 1
  · cases x1 <;> rfl
  congr 1
  · cases x9 <;> cases x0 <;> rfl
theorem bits_sum {r : Nat} (h : r < 4096) : r = (r.testBit 0).toNat + 2 * (r.testBit 1).toNat + 4 * (r.testBit 2).toNat + 8 * (r.testBit 3).toNat + 16 * (r.testBit 4).toNat + 32 * (r.testBit 5).toNat + 64 * (r.testBit 6).toNat + 128 * (r.testBit 7).toNat + 256 * (r.testBit 8).toNat + 512 * (r.testBit 9).toNat + 1024 * (r.testBit 10).toNat + 2048 * (r.testBit 11).toNat := by
  have ht : ∀ i, (r.testBit i).toNat = r / 2 ^ i % 2 := by
    intro i
    rw [Nat.testBit_eq_decide_div_mod_eq]
    by_cases q : r / 2 ^ i % 2 = 1
    · simp [q]
    · simp [q]; omega
  simp only [ht]
  omega
end Mine
end
section
set_option autoImplicit false
set_option maxRecDepth 100000
namespace Mine
open PySem PySem.W

def riBody : PSs := match F_law_rights.body with
  | .cons _ (.cons _ (.cons (.forR _ _ _ b) _)) => b
  | _ => .nil
theorem ri_body : F_law_rights.body = .cons (.assign 1 (.lit (.int 0))) (.cons (.assign 2 (.lit (.int 0))) (.cons (.forR 3 (.lit (.int 0)) (.lit (.int 3)) riBody) (.cons (.ret (.bin .add (.bin .mul (.var 1) (.lit (.int 512))) (.var 2))) .nil))) := rfl
theorem ri_eq : riBody = (.cons (.assign 4 (.meth .find (.idx (.lst (.cons (.lit (.str [45, 120, 83, 115])) (.cons (.lit (.str [45, 120, 83, 115])) (.cons (.lit (.str [45, 120, 84, 116])) .nil)))) (.var 3)) (.cons (.idx (.var 0) (.bin .add (.bin .mul (.lit (.int 3)) (.var 3)) (.lit (.int 2)))) .nil)))
    (.cons (.ite (.or (.cmp .lt (.var 4) (.lit (.int 0))) (.cons (.cmp .notin (.idx (.var 0) (.bin .mul (.lit (.int 3)) (.var 3))) (.lit (.str [114, 45]))) (.cons (.cmp .notin (.idx (.var 0) (.bin .add (.bin .mul (.lit (.int 3)) (.var 3)) (.lit (.int 1)))) (.lit (.str [119, 45]))) .nil))) (
      (.cons (.ret (.neg (.lit (.int 1)))) .nil)) .nil)
    (.cons (.assign 1 (.bin .add (.bin .mul (.var 1) (.lit (.int 2))) (.bin .fdiv (.var 4) (.lit (.int 2)))))
    (.cons (.assign 2 (.bin .add (.bin .mul (.var 2) (.lit (.int 8))) (.bin .mod (.var 4) (.lit (.int 2)))))
    (.cons (.ite (.cmp .eq (.idx (.var 0) (.bin .mul (.lit (.int 3)) (.var 3))) (.lit (.str [114]))) (
      (.cons (.aug 2 .add (.lit (.int 4))) .nil)) .nil)
    (.cons (.ite (.cmp .eq (.idx (.var 0) (.bin .add (.bin .mul (.lit (.int 3)) (.var 3)) (.lit (.int 1)))) (.lit (.str [119]))) (
      (.cons (.aug 2 .add (.lit (.int 2))) .nil)) .nil) .nil)))))) := rfl
theorem mul_r (a : Int) (b : Int) (h : small b = true) : binOp .mul (.int a) (.int b) = some (.int (a * b), .fz) := by
  show (if (small a || small b) = true then some (D.int (a * b), Tag.fz) else none) = _
  rw [h, Bool.or_true, if_pos rfl]
abbrev riS (S : List Nat) (sp rt : Int) (k : Nat) (v : LV) : List LV := [.fz (.str S), .fz (.int sp), .fz (.int rt), .fz (.int (k : Int)), v]
def run (u v : Bool) : Int := if u then (if v then 3 else 2) else (if v then 1 else 0)
def bI (b : Bool) : Int := if b then 1 else 0
theorem ri_step {Sg : Sig} {k : Nat} (hk : k = 0 ∨ k = 1 ∨ k = 2) {S : List Nat} {sp rt : Int} {p q u v : Bool} (hr : S[3 * k]? = some (rS p)) (hw : S[3 * k + 1]? = some (wS q)) (hx : S[3 * k + 2]? = some (xS (if k = 2 then 116 else 115) (if k = 2 then 84 else 83) 0 u v)) (v4 : LV) :
    exSs gl Sg riBody (riS S sp rt k v4) = some (.next, riS S (sp * 2 + bI u) (rt * 8 + bI v + (if p then 4 else 0) + (if q then 2 else 0)) k (.fz (.int (run u v)))) := by
  have m3 : binOp .mul (.int 3) (.int (k : Int)) = some (.int ((3 * k : Nat) : Int), .fz) := by rcases hk with rfl | rfl | rfl <;> rfl
  have hk3 : k ≤ 2 := by omega
  have eR : ∀ sp rt v4, evE gl Sg (.idx (.var 0) (.bin .mul (.lit (.int 3)) (.var 3))) (riS S sp rt k v4) = some (.str [rS p], .fz) := fun sp rt v4 => e_idx (e_var rfl) (e_bin (e_lit _) (e_var rfl) m3) (idx_str hr (by omega))
  have eW : ∀ sp rt v4, evE gl Sg (.idx (.var 0) (.bin .add (.bin .mul (.lit (.int 3)) (.var 3)) (.lit (.int 1)))) (riS S sp rt k v4) = some (.str [wS q], .fz) := fun sp rt v4 => e_idx (e_var rfl) (e_bin (r := (.int ((3 * k + 1 : Nat) : Int), .fz)) (e_bin (e_lit _) (e_var rfl) m3) (e_lit _) rfl) (idx_str hw (by omega))
  have eX : evE gl Sg (.idx (.var 0) (.bin .add (.bin .mul (.lit (.int 3)) (.var 3)) (.lit (.int 2)))) (riS S sp rt k v4) = some (.str [xS (if k = 2 then 116 else 115) (if k = 2 then 84 else 83) 0 u v], .fz) := e_idx (e_var rfl) (e_bin (r := (.int ((3 * k + 2 : Nat) : Int), .fz)) (e_bin (e_lit _) (e_var rfl) m3) (e_lit _) rfl) (idx_str hx (by omega))
  rw [ri_eq, seqN (s_assign (d := .int (run u v)) (e_meth1 (x := .str [45, 120, if k = 2 then 84 else 83, if k = 2 then 116 else 115]) (t := .fz) (e_idx (e_lst (es_cons (e_lit _) rfl (es_cons (e_lit _) rfl (es_cons (e_lit _) rfl es_nil)))) (e_var (d := .int (k : Int)) rfl) (by rcases hk with rfl | rfl | rfl <;> rfl)) eX (by
    rcases hk with rfl | rfl | rfl <;> cases u <;> cases v <;> rfl)))]
  show exSs gl Sg _ (riS S sp rt k (.fz (.int (run u v)))) = _
  rw [seqN (σ' := riS S sp rt k (.fz (.int (run u v))))]
  · rw [seqN (s_assign (d := .int (sp * 2 + bI u)) (e_bin (e_bin (e_var rfl) (e_lit _) (mul_r _ _ rfl)) (e_bin (r := (.int (bI u), .fz)) (e_var rfl) (e_lit _) (by cases u <;> cases v <;> rfl)) rfl))]
    show exSs gl Sg _ (riS S (sp * 2 + bI u) rt k (.fz (.int (run u v)))) = _
    rw [seqN (s_assign (d := .int (rt * 8 + bI v)) (e_bin (e_bin (e_var rfl) (e_lit _) (mul_r _ _ rfl)) (e_bin (r := (.int (bI v), .fz)) (e_var rfl) (e_lit _) (by cases u <;> cases v <;> rfl)) rfl))]
    show exSs gl Sg _ (riS S (sp * 2 + bI u) (rt * 8 + bI v) k (.fz (.int (run u v)))) = _
    rw [seqN (σ' := riS S (sp * 2 + bI u) (rt * 8 + bI v + (if p then 4 else 0)) k (.fz (.int (run u v))))]
    · rw [seqN (σ' := riS S (sp * 2 + bI u) (rt * 8 + bI v + (if p then 4 else 0) + (if q then 2 else 0)) k (.fz (.int (run u v))))]
      · rfl
      · rw [s_ite (x := q) (e_cmp (r := q) (eW _ _ _) (e_lit _) (by cases q <;> rfl)) rfl]
        cases q with
        | true => rw [if_pos rfl, seqN (s_aug (d' := .int (rt * 8 + bI v + (if p then 4 else 0) + 2)) rfl (e_lit _) rfl)]; rfl
        | false => rw [if_neg (by decide)]; simp [exSs]
    · rw [s_ite (x := p) (e_cmp (r := p) (eR _ _ _) (e_lit _) (by cases p <;> rfl)) rfl]
      cases p with
      | true => rw [if_pos rfl, seqN (s_aug (d' := .int (rt * 8 + bI v + 4)) rfl (e_lit _) rfl)]; rfl
      | false => rw [if_neg (by decide)]; simp [exSs]
  · rw [s_ite (x := false) (e_or3 (p := false) (q := false) (r := false) (e_cmp (e_var rfl) (e_lit _) (by cases u <;> cases v <;> rfl)) (fun _ => e_cmp (eR _ _ _) (e_lit _) (by cases p <;> rfl)) (fun _ _ => e_cmp (eW _ _ _) (e_lit _) (by cases q <;> rfl))) rfl]
    rfl
theorem bI_nat (b : Bool) : bI b = ((b.toNat : Nat) : Int) := by cases b <;> rfl
theorem b4_nat (b : Bool) : (if b then 4 else 0 : Int) = 4 * ((b.toNat : Nat) : Int) := by cases b <;> rfl
theorem b2_nat (b : Bool) : (if b then 2 else 0 : Int) = 2 * ((b.toNat : Nat) : Int) := by cases b <;> rfl
theorem rights_ok {n r : Nat} (hr : r < 4096) : SIG (n + 1) 17 [.str (sgn9 r)] = some (.int (r : Int)) := by
  rw [sg17, sgn9_bits]
  have hs := bits_sum hr
  generalize r.testBit 0 = x0, r.testBit 1 = x1, r.testBit 2 = x2, r.testBit 3 = x3, r.testBit 4 = x4, r.testBit 5 = x5, r.testBit 6 = x6, r.testBit 7 = x7, r.testBit 8 = x8, r.testBit 9 = x9, r.testBit 10 = x10, r.testBit 11 = x11 at hs ⊢
  generalize hS : [rS x8, wS x7, xS 115 83 0 x11 x6, rS x5, wS x4, xS 115 83 0 x10 x3, rS x2, wS x1, xS 116 84 0 x9 x0] = S
  have r0 := fun v => ri_step (Sg := SIG n) (k := 0) (.inl rfl) (S := S) (sp := 0) (rt := 0) (p := x8) (q := x7) (u := x11) (v := x6) (by rw [← hS]; rfl) (by rw [← hS]; rfl) (by rw [← hS]; rfl) v
  have r1 := fun sp rt v => ri_step (Sg := SIG n) (k := 1) (.inr (.inl rfl)) (S := S) (sp := sp) (rt := rt) (p := x5) (q := x4) (u := x10) (v := x3) (by rw [← hS]; rfl) (by rw [← hS]; rfl) (by rw [← hS]; rfl) v
  have r2 := fun sp rt v => ri_step (Sg := SIG n) (k := 2) (.inr (.inr rfl)) (S := S) (sp := sp) (rt := rt) (p := x2) (q := x1) (u := x9) (v := x0) (by rw [← hS]; rfl) (by rw [← hS]; rfl) (by rw [← hS]; rfl) v
  refine runFun_of rfl (σ := riS S (((0 * 2 + bI x11) * 2 + bI x10) * 2 + bI x9) (((0 * 8 + bI x6 + (if x8 then 4 else 0) + (if x7 then 2 else 0)) * 8 + bI x3 + (if x5 then 4 else 0) + (if x4 then 2 else 0)) * 8 + bI x0 + (if x2 then 4 else 0) + (if x1 then 2 else 0)) 2 (.fz (.int (run x9 x0)))) ?_
  rw [ri_body, seqN (s_assign (e_lit _)), seqN (s_assign (e_lit _)), seqN]
  · exact seqR (s_ret (t := .fz) (e_bin (e_bin (e_var rfl) (e_lit _) (mul_r _ _ rfl)) (e_var rfl) (by
      show some (D.int _, Tag.fz) = some (D.int _, Tag.fz)
      rw [bI_nat, bI_nat, bI_nat, bI_nat, bI_nat, bI_nat, b4_nat, b4_nat, b4_nat, b2_nat, b2_nat, b2_nat]
      congr 3
      omega)))
  · rw [s_forR (i := 0) (j := 3) (e_lit _) (e_lit _) (by decide) (by decide)]
    have hl : rangeL 0 3 = [.int ((0 : Nat) : Int), .int ((1 : Nat) : Int), .int ((2 : Nat) : Int)] := rfl
    rw [hl, forGo_cons (σ₁ := riS S 0 0 0 .un) rfl (r0 _), forGo_cons (σ₁ := riS S _ _ 1 _) rfl (r1 _ _ _), forGo_cons (σ₁ := riS S _ _ 2 _) rfl (r2 _ _ _)]
    rfl
end Mine
end
section
set_option autoImplicit false
set_option maxRecDepth 100000
namespace Mine
open PySem PySem.W

theorem e_andT {G : Nat → Option D} {Sg : Sig} {a b : PE} {σ : List LV} {x : D} {t : Tag} {q : Bool} (ha : evE G Sg a σ = some (x, t)) (ht : truth x = some true) (hb : evE G Sg b σ = some (.bool q, .fz)) : evE G Sg (.and a (.cons b .nil)) σ = some (.bool q, .fz) := by
  show (evE G Sg a σ).bind _ = _
  rw [ha]
  show (truth x).bind _ = _
  rw [ht]
  show (evE G Sg b σ).bind _ = _
  rw [hb]
  cases q <;> rfl
theorem add_str {a b : List Nat} (h : a.length + b.length ≤ 1000000) : binOp .add (.str a) (.str b) = some (.str (a ++ b), .fz) := by
  show (if a.length + b.length ≤ sizeMax then _ else _) = _
  rw [if_pos (by unfold sizeMax; omega)]
theorem same_ok {n : Nat} {a : List Nat} (h : a.length ≤ 1000000) : SIG (n + 1) 5 [.str a] = some (.str a) := by
  rw [sg5]
  refine runFun_of rfl (seqR (s_ret (t := .fz) (e_bin (e_var rfl) (e_lit _) ?_)))
  rw [add_str (by simpa using h), List.append_nil]
theorem sep_ok {n : Nat} {a : List Nat} (h : a.length ≤ 100000) : SIG (n + 1) 6 [.str a] = some (.str [47]) := by
  rw [sg6]
  exact runFun_of rfl (seqR (s_ret (t := .fz) (e_idx (e_bin (e_lit _) (e_var rfl) (add_str (by simp; omega))) (e_lit _) rfl)))
def endS (a : List Nat) : Bool := [47].isSuffixOf a
def preOf (a : List Nat) : List Nat := if a = [] then [] else if endS a then a else a ++ [47]
abbrev joinP (a b : List Nat) : List Nat := preOf a ++ b
theorem cut_nat {n k : Nat} (h : k ≤ n) : cut n (k : Int) = k := by
  unfold cut
  rw [if_pos (by omega)]
  omega
theorem sl_take (s : List Nat) (k : Nat) (hk : k ≤ s.length) (h : s.length ≤ 1000000) : sliceOp (.str s) none (some (k : Int)) = some (.str (s.take k), .fz) := by
  show (if _ then some (D.str (slice s 0 (cut s.length (k : Int))), Tag.fz) else none) = _
  rw [if_pos h, cut_nat hk]; rfl
abbrev jnS (a b : List Nat) (p : D) (v4 : LV) : List LV := [.fz (.str a), .fz (.tup [.str b]), .fz (.str [47]), .fz p, v4]
theorem join_body : Fjoin.body = .cons (.assign 0 (.call 5 (.cons (.var 0) .nil))) (.cons (.assign 2 (.call 6 (.cons (.var 0) .nil))) (.cons (.assign 3 (.var 0)) (.cons (.try_ (.cons (.forE 4 (.var 1) (.cons (.assign 4 (.call 5 (.cons (.var 4) .nil))) (.cons (.ite (.or (.meth .startswith (.var 4) (.cons (.var 2) .nil)) (.cons (.not (.var 3)) .nil)) (.cons (.assign 3 (.var 4)) .nil) (.cons (.ite (.meth .endswith (.var 3) (.cons (.var 2) .nil)) (.cons (.aug 3 .add (.var 4)) .nil) (.cons (.aug 3 .add (.bin .add (.var 2) (.var 4))) .nil)) .nil)) .nil)) .nil) .nil)) (.cons (.ret (.var 3)) .nil)))) := rfl
theorem truth_str {s : List Nat} (h : s.length ≤ 1000000) : truth (.str s) = some (!s.isEmpty) := if_pos h
theorem join_ok {n : Nat} {a b : List Nat} (hb : [47].isPrefixOf b = false) (ha : a.length ≤ 10000) (hl : b.length ≤ 10000) : SIG (n + 2) 7 [.str a, .str b] = some (.str (joinP a b)) := by
  rw [sg7]
  refine runFun_of rfl (σ := jnS a b (.str (joinP a b)) (.fz (.str b))) ?_
  rw [join_body, seqN (s_assign (e_call1 (e_var rfl) (same_ok (n := n) (a := a) (by omega)))), seqN (s_assign (e_call1 (x := .str a) (e_var rfl) (sep_ok (n := n) (a := a) (by omega)))), seqN (s_assign (e_var (d := .str a) rfl))]
  show exSs gl (SIG (n + 1)) _ (jnS a b (.str a) .un) = _
  rw [seqN (σ' := jnS a b (.str (joinP a b)) (.fz (.str b)))]
  · exact seqR (s_ret (e_var rfl))
  · show exSs gl (SIG (n + 1)) _ (jnS a b (.str a) .un) = _
    rw [seqN (σ' := jnS a b (.str (joinP a b)) (.fz (.str b)))]
    · rfl
    · rw [s_forE (e_var rfl) (l := [.str b]) rfl, forGo_cons (σ₁ := jnS a b (.str a) (.fz (.str b))) (σ₂ := jnS a b (.str (joinP a b)) (.fz (.str b))) rfl]
      · rfl
      · rw [seqN (s_assign (e_call1 (x := .str b) (e_var rfl) (same_ok (n := n) (a := b) (by omega))))]
        show exSs gl (SIG (n + 1)) _ (jnS a b (.str a) (.fz (.str b))) = _
        rw [seqN (σ' := jnS a b (.str (joinP a b)) (.fz (.str b)))]
        · rfl
        · have hc : evE gl (SIG (n + 1)) (.or (.meth .startswith (.var 4) (.cons (.var 2) .nil)) (.cons (.not (.var 3)) .nil)) (jnS a b (.str a) (.fz (.str b))) = some (.bool (false || !(!a.isEmpty)), .fz) :=
            e_orB (e_meth1 (x := .str b) (y := .str [47]) (e_var rfl) (e_var rfl) (by show some (D.bool ([47].isPrefixOf b), Tag.fz) = _; rw [hb])) (fun _ => e_not (e_var rfl) (truth_str (by omega)))
          rw [s_ite hc rfl]
          cases a with
          | nil =>
            rw [if_pos (show (false || !!([] : List Nat).isEmpty) = true from rfl), seqN (s_assign (e_var (d := .str b) rfl))]; rfl
          | cons c a =>
            rw [if_neg (by simp)]
            rw [seqN (σ' := jnS (c :: a) b (.str (joinP (c :: a) b)) (.fz (.str b)))]
            · rfl
            · rw [s_ite (x := endS (c :: a)) (e_meth1 (x := .str (c :: a)) (y := .str [47]) (e_var rfl) (e_var rfl) rfl) rfl]
              have hp : preOf (c :: a) = if endS (c :: a) then c :: a else (c :: a) ++ [47] := if_neg (by simp)
              unfold joinP
              rw [hp]
              cases endS (c :: a) with
              | true =>
                simp only [if_true]
                rw [seqN (s_aug (y := .str b) rfl (e_var rfl) (add_str (by omega)))]; rfl
              | false =>
                simp only [Bool.false_eq_true, if_false]
                rw [seqN (s_aug rfl (e_bin (r := (.str (47 :: b), .fz)) (x := .str [47]) (y := .str b) (e_var rfl) (e_var rfl) (add_str (a := [47]) (by simp; omega))) (add_str (by simp at ha ⊢; omega)))]
                simp [exSs]
def EndsS (p : List Nat) : Prop := p = [] ∨ ∃ q, p = q ++ [47]
theorem pre_ends (a : List Nat) : EndsS (preOf a) := by
  unfold preOf
  split
  · exact .inl rfl
  · split
    · rename_i h
      unfold endS at h
      rw [List.isSuffixOf_iff_suffix] at h
      obtain ⟨q, h⟩ := h
      exact .inr ⟨q, h.symm⟩
    · exact .inr ⟨a, rfl⟩
theorem rfind_pre {p b : List Nat} (hp : EndsS p) (hb : 47 ∉ b) : rfindC 47 (p ++ b) + 1 = (p.length : Int) := by
  have hn : b.reverse.findIdx? (· == 47) = none := by
    rw [List.findIdx?_eq_none_iff]
    intro x hx
    simp only [beq_eq_false_iff_ne, ne_eq]
    intro h
    subst h
    exact hb (by simpa using hx)
  unfold rfindC
  rw [List.reverse_append, List.findIdx?_append, hn]
  rcases hp with rfl | ⟨q, rfl⟩
  · simp
  · rw [List.reverse_append]
    have : List.findIdx? (fun x => x == 47) ([47].reverse ++ q.reverse) = some 0 := rfl
    rw [this]
    simp
theorem base_body : Fbasename.body = .cons (.assign 0 (.call 5 (.cons (.var 0) .nil))) (.cons (.assign 1 (.call 6 (.cons (.var 0) .nil))) (.cons (.assign 2 (.bin .add (.meth .rfind (.var 0) (.cons (.var 1) .nil)) (.lit (.int 1)))) (.cons (.ret (.slFrom (.var 0) (.var 2))) .nil))) := rfl
theorem base_ok {n : Nat} {p b : List Nat} (hp : EndsS p) (hb : 47 ∉ b) (hl : (p ++ b).length ≤ 10000) : SIG (n + 2) 8 [.str (p ++ b)] = some (.str b) := by
  rw [sg8]
  refine runFun_of rfl (σ := [.fz (.str (p ++ b)), .fz (.str [47]), .fz (.int (p.length : Int))]) ?_
  rw [base_body, seqN (s_assign (e_call1 (e_var rfl) (same_ok (n := n) (a := p ++ b) (by omega)))), seqN (s_assign (e_call1 (x := .str (p ++ b)) (e_var rfl) (sep_ok (n := n) (a := p ++ b) (by omega)))), seqN (s_assign (d := .int (p.length : Int)) (e_bin (x := .int (rfindC 47 (p ++ b))) (t := .fz) (e_meth1 (x := .str (p ++ b)) (y := .str [47]) (e_var rfl) (e_var rfl) rfl) (e_lit _) ?_))]
  · refine seqR (s_ret (e_slFrom (x := .str (p ++ b)) (j := (p.length : Int)) (e_var rfl) (e_var rfl) (r := (.str b, .fz)) ?_))
    rw [sl_drop _ _ (by simp) (by omega)]
    simp
  · show some (D.int (rfindC 47 (p ++ b) + 1), Tag.fz) = _
    rw [rfind_pre hp hb]
theorem rstrip_ok {s : List Nat} (h : s.length ≤ 1000000) : methOp .rstrip (.str s) [.str [47]] = some (.str (rstrip1 47 s), .fz) := if_pos h
def dirP (p : List Nat) : List Nat := if p = [] ∨ p = List.replicate p.length 47 then p else rstrip1 47 p
theorem dir_body : Fdirname.body = .cons (.assign 0 (.call 5 (.cons (.var 0) .nil))) (.cons (.assign 1 (.call 6 (.cons (.var 0) .nil))) (.cons (.assign 2 (.bin .add (.meth .rfind (.var 0) (.cons (.var 1) .nil)) (.lit (.int 1)))) (.cons (.assign 3 (.slTo (.var 0) (.var 2))) (.cons (.ite (.and (.var 3) (.cons (.cmp .ne (.var 3) (.bin .mul (.var 1) (.len (.var 3)))) .nil)) (.cons (.assign 3 (.meth .rstrip (.var 3) (.cons (.var 1) .nil))) .nil) .nil) (.cons (.ret (.var 3)) .nil))))) := rfl
theorem flat_rep (k : Nat) : (List.replicate k [47]).flatten = List.replicate k 47 := by
  induction k with
  | zero => rfl
  | succ k ih => rw [List.replicate_succ, List.flatten_cons, ih, List.replicate_succ]; rfl
abbrev drS (s : List Nat) (i : Int) (h : List Nat) : List LV := [.fz (.str s), .fz (.str [47]), .fz (.int i), .fz (.str h)]
theorem dir_ok {n : Nat} {p b : List Nat} (hp : EndsS p) (hb : 47 ∉ b) (hl : (p ++ b).length ≤ 10000) (hc : p.all (· < 1114112) = true) : SIG (n + 2) 9 [.str (p ++ b)] = some (.str (dirP p)) := by
  rw [sg9]
  have hpl : p.length ≤ 10000 := by simp at hl; omega
  refine runFun_of rfl (σ := drS (p ++ b) p.length (dirP p)) ?_
  rw [dir_body, seqN (s_assign (e_call1 (e_var rfl) (same_ok (n := n) (a := p ++ b) (by omega)))), seqN (s_assign (e_call1 (x := .str (p ++ b)) (e_var rfl) (sep_ok (n := n) (a := p ++ b) (by omega)))), seqN (s_assign (d := .int (p.length : Int)) (e_bin (x := .int (rfindC 47 (p ++ b))) (t := .fz) (e_meth1 (x := .str (p ++ b)) (y := .str [47]) (e_var rfl) (e_var rfl) rfl) (e_lit _) ?_))]
  · rw [seqN (s_assign (d := .str p) (e_slTo (x := .str (p ++ b)) (j := (p.length : Int)) (e_var rfl) (e_var rfl) ?_))]
    · show exSs gl (SIG (n + 1)) _ (drS (p ++ b) p.length p) = _
      rw [seqN (σ' := drS (p ++ b) p.length (dirP p))]
      · exact seqR (s_ret (e_var rfl))
      · cases p with
        | nil => rfl
        | cons c p =>
          have hm : binOp .mul (.str [47]) (.int ((c :: p).length : Int)) = some (.str (List.replicate (c :: p).length 47), .fz) := by
            show (if _ then some (D.str (List.replicate (((c :: p).length : Nat) : Int).toNat [47]).flatten, Tag.fz) else none) = _
            rw [if_pos ⟨by simp, by omega⟩, flat_rep]; rfl
          have hq : evE gl (SIG (n + 1)) (.and (.var 3) (.cons (.cmp .ne (.var 3) (.bin .mul (.var 1) (.len (.var 3)))) .nil)) (drS ((c :: p) ++ b) ((c :: p).length) (c :: p)) = some (.bool (!((c :: p) == List.replicate (c :: p).length 47)), .fz) := by
            refine e_andT (e_var rfl) (truth_str (by omega)) (e_cmp (x := .str (c :: p)) (t := .fz) (e_var rfl) (e_bin (x := .str [47]) (t := .fz) (e_var rfl) (e_len (x := .str (c :: p)) (t := .fz) (e_var rfl) (len_str (by omega))) hm) ?_)
            show (if ((c :: p).all (· < 1114112) && (List.replicate (c :: p).length 47).all (· < 1114112)) = true then some (!((c :: p) == List.replicate (c :: p).length 47)) else none) = _
            have : (List.replicate (c :: p).length 47).all (· < 1114112) = true := by
              rw [List.all_eq_true]; intro x hx; rw [List.eq_of_mem_replicate hx]; decide
            rw [hc, this]; rfl
          rw [s_ite hq rfl]
          by_cases h : (c :: p) = List.replicate (c :: p).length 47
          · have hb' : ((c :: p) == List.replicate (c :: p).length 47) = true := beq_iff_eq.mpr h
            have hd : dirP (c :: p) = c :: p := by unfold dirP; rw [if_pos (.inr h)]
            rw [hb', hd, if_neg (by simp)]; rfl
          · have hb' : ((c :: p) == List.replicate (c :: p).length 47) = false := beq_eq_false_iff_ne.mpr h
            have hd : dirP (c :: p) = rstrip1 47 (c :: p) := by unfold dirP; rw [if_neg (fun q => q.elim (by simp) h)]
            rw [hb', hd, if_pos (show (!false) = true from rfl), seqN (s_assign (d := .str (rstrip1 47 (c :: p))) (e_meth1 (x := .str (c :: p)) (y := .str [47]) (t := .fz) (t' := .fz) (e_var rfl) (e_var rfl) (rstrip_ok (by omega))))]
            rfl
    · rw [sl_take _ _ (by simp) (by omega)]
      simp
  · show some (D.int (rfindC 47 (p ++ b) + 1), Tag.fz) = _
    rw [rfind_pre hp hb]
/-- a folder's path -/
def VF (a : List Nat) : Prop := a = [] ∨ a = [47] ∨ a = [47, 47] ∨ ∃ q c, a = q ++ [c] ∧ c ≠ 47
theorem dir_pre {a : List Nat} (h : VF a) : dirP (preOf a) = a := by
  rcases h with rfl | rfl | rfl | ⟨q, c, rfl, hc⟩
  · rfl
  · rfl
  · rfl
  · have he : endS (q ++ [c]) = false := by
      unfold endS
      rw [Bool.eq_false_iff]
      intro h
      rw [List.isSuffixOf_iff_suffix] at h
      obtain ⟨t, ht⟩ := h
      have := List.append_inj_right' ht rfl
      simp at this
      exact hc this.symm
    unfold preOf
    rw [if_neg (by simp), he, if_neg (by simp)]
    unfold dirP
    rw [if_neg]
    · unfold rstrip1
      have hcb : (c == 47) = false := beq_eq_false_iff_ne.mpr hc
      simp [List.dropWhile, hcb]
    · rintro (h | h)
      · simp at h
      · have : c ∈ List.replicate (q ++ [c] ++ [47]).length 47 := by rw [← h]; simp
        exact hc (List.eq_of_mem_replicate this)
theorem VF_child {a b : List Nat} (hb : b ≠ []) (hs : 47 ∉ b) : VF (joinP a b) := by
  right; right; right
  refine ⟨preOf a ++ b.dropLast, b.getLast hb, ?_, ?_⟩
  · rw [List.append_assoc, List.dropLast_concat_getLast]
  · intro h
    exact hs (h ▸ List.getLast_mem hb)
/-- a path tells its folder and its name -/
theorem join_inj {a a' b b' : List Nat} (ha : VF a) (ha' : VF a') (hb : 47 ∉ b) (hb' : 47 ∉ b') (h : joinP a b = joinP a' b') : a = a' ∧ b = b' := by
  have h1 := rfind_pre (pre_ends a) hb
  have h2 := rfind_pre (pre_ends a') hb'
  have hl : (preOf a).length = (preOf a').length := by
    have : rfindC 47 (preOf a ++ b) = rfindC 47 (preOf a' ++ b') := congrArg _ h
    omega
  obtain ⟨e1, e2⟩ := List.append_inj h hl
  refine ⟨?_, e2⟩
  rw [← dir_pre ha, ← dir_pre ha', e1]
end Mine
end
section
set_option autoImplicit false
set_option maxRecDepth 100000
namespace Mine
open PySem PySem.W

theorem fdiv_nat (a b : Nat) (hb : 0 < b) (hb2 : b < 1073741824) : binOp .fdiv (natD a) (natD b) = some (natD (a / b), .fz) := by
  show (if (decide (((b : Nat) : Int).natAbs < 1073741824) && ((b : Nat) : Int) != 0) = true then some (D.int (Int.fdiv (a : Int) (b : Int)), Tag.fz) else none) = _
  rw [if_pos]
  · rw [Int.fdiv_eq_ediv_of_nonneg _ (by omega)]; rfl
  · simp; omega
theorem fmod_nat (a b : Nat) (hb : 0 < b) : binOp .mod (natD a) (natD b) = some (natD (a % b), .fz) := by
  show (if (((b : Nat) : Int) != 0) = true then some (D.int (Int.fmod (a : Int) (b : Int)), Tag.fz) else none) = _
  rw [if_pos]
  · rw [Int.fmod_eq_emod_of_nonneg _ (by omega)]; rfl
  · simp; omega
theorem pow_nat (a b : Nat) (ha : a < 1000) (hb : b ≤ 1000) : binOp .pow (natD a) (natD b) = some (natD (a ^ b), .fz) := by
  show (if (small (a : Int) && decide (0 ≤ (b : Int)) && decide ((b : Int) ≤ 1000000)) = true then some (D.int ((a : Int) ^ ((b : Nat) : Int).toNat), Tag.fz) else none) = _
  rw [if_pos]
  · rw [Int.toNat_natCast]
    show some (D.int _, Tag.fz) = some (D.int ((a ^ b : Nat) : Int), Tag.fz)
    rw [Int.natCast_pow]
  · simp [small]; omega
theorem add_nat (a b : Nat) : binOp .add (natD a) (natD b) = some (natD (a + b), .fz) := rfl

def fixedL : List Nat := [86, 128512, 717440, 9228868, 9502676, 150013084, 12582912, 33486052]
def givenL (l : List Int) : List Int := l.take 8 ++ List.replicate (8 - (l.take 8).length) 0
theorem given_len (l : List Int) : (givenL l).length = 8 := by
  unfold givenL
  rw [List.length_append, List.length_replicate, List.length_take]
  omega
def numL (l : List Int) : List Nat := (List.range 8).map fun k => (((givenL l).getD k 0).fmod (10 ^ 12)).toNat + fixedL.getD k 0
theorem num_body : F_law_numbers.body = (.cons (.assign 1 (.bin .add (.slTo (.var 0) (.lit (.int 8))) (.bin .mul (.lst (.cons (.lit (.int 0)) .nil)) (.bin .sub (.lit (.int 8)) (.len (.slTo (.var 0) (.lit (.int 8))))))))
  (.cons (.assign 2 (.lst (.cons (.lit (.int 86)) (.cons (.lit (.int 128512)) (.cons (.lit (.int 717440)) (.cons (.lit (.int 9228868)) (.cons (.lit (.int 9502676)) (.cons (.lit (.int 150013084)) (.cons (.lit (.int 12582912)) (.cons (.lit (.int 33486052)) .nil))))))))))
  (.cons (.ret (.compR (.bin .add (.bin .mod (.idx (.var 1) (.var 3)) (.bin .pow (.lit (.int 10)) (.lit (.int 12)))) (.idx (.var 2) (.var 3))) (.lit (.int 8)))) .nil))) := rfl
theorem numbers_ok (n : Nat) (l : List Int) (hl : l.length ≤ 63) : SIG (n + 1) 10 [.list (l.map .int)] = some (.list ((numL l).map natD)) := by
  rw [sg10]
  have hsl : ∀ σ : List LV, σ[0]? = some (.fz (.list (l.map .int))) → evE gl (SIG n) (.slTo (.var 0) (.lit (.int 8))) σ = some (.list ((l.take 8).map .int), .fresh) := by
    intro σ h
    refine e_slTo (e_var h) (e_lit _) ?_
    show (if _ then some (D.list (slice (l.map .int) 0 (cut (l.map D.int).length 8)), Tag.fresh) else none) = _
    rw [if_pos (by simp; omega)]
    unfold slice cut
    rw [if_pos (by decide)]
    simp only [List.drop_zero, ← List.map_take, List.length_map]
    have e : List.take (min (8 : Int).toNat l.length) l = l.take 8 := by
      have e8 : (8 : Int).toNat = 8 := rfl
      rw [e8]
      by_cases h8 : 8 ≤ l.length
      · rw [Nat.min_eq_left h8]
      · rw [Nat.min_eq_right (by omega), List.take_of_length_le (Nat.le_refl _), List.take_of_length_le (by omega)]
    rw [e]
  have hg : evE gl (SIG n) (.bin .add (.slTo (.var 0) (.lit (.int 8))) (.bin .mul (.lst (.cons (.lit (.int 0)) .nil)) (.bin .sub (.lit (.int 8)) (.len (.slTo (.var 0) (.lit (.int 8))))))) [.fz (.list (l.map .int)), .un, .un] = some (.list ((givenL l).map .int), .fresh) := by
    have h8 : (l.take 8).length ≤ 8 := by rw [List.length_take]; omega
    refine e_bin (hsl _ rfl) (e_bin (y := .int (8 - ((l.take 8).length : Int))) (t' := .fz) (e_lst (es_cons (e_lit _) rfl es_nil)) (e_bin (e_lit _) (e_len (n := ((l.take 8).length : Int)) (hsl _ rfl) (by rw [len_list (by rw [List.length_map]; omega), List.length_map])) rfl) (r := (.list (List.replicate (8 - (l.take 8).length) (.int 0)), .fresh)) ?_) ?_
    · show (if decide (_ ≤ 1000) = true then _ else _) = _
      rw [if_pos (by simp only [decide_eq_true_eq]; omega)]
      have : (8 - ((l.take 8).length : Int)).toNat = 8 - (l.take 8).length := by omega
      rw [this]
    · show (if _ then _ else _) = _
      rw [if_pos (by simp; omega)]
      simp [givenL, List.map_append, List.map_replicate]
  refine runFun_of rfl (σ := [.fz (.list (l.map .int)), .ow (.list ((givenL l).map .int)), .ow (.list (fixedL.map natD))]) ?_
  show exSs gl (SIG n) F_law_numbers.body [.fz (.list (l.map .int)), .un, .un] = _
  rw [num_body, seqN (s_fresh hg), seqN (s_fresh (d := .list (fixedL.map natD)) rfl)]
  refine seqR (s_ret (t := .fresh) (e_compR (n := ((8 : Nat) : Int)) (e_lit _) (by decide) ?_))
  rw [rangeL_nat]
  have := mapE_nat (P := List.range 8) (f := fun d : D => (evE gl (SIG n) (.bin .add (.bin .mod (.idx (.var 1) (.var 3)) (.bin .pow (.lit (.int 10)) (.lit (.int 12)))) (.idx (.var 2) (.var 3))) ([LV.fz (.list (l.map .int)), .ow (.list ((givenL l).map .int)), .ow (.list (fixedL.map natD))] ++ [LV.fz d])).bind kept) (g := fun k => natD ((((givenL l).getD k 0).fmod (10 ^ 12)).toNat + fixedL.getD k 0)) (by
    intro k hk
    have hk : k < 8 := by simpa using hk
    have h1 : ((givenL l).map D.int)[k]? = some (.int ((givenL l).getD k 0)) := by
      rw [List.getElem?_map, List.getD_eq_getElem?_getD, List.getElem?_eq_getElem (by rw [given_len]; omega)]; rfl
    have h2 : (fixedL.map natD)[k]? = some (natD (fixedL.getD k 0)) := by
      rw [List.getElem?_map, List.getD_eq_getElem?_getD, List.getElem?_eq_getElem (by simp [fixedL]; omega)]; rfl
    have hnn : 0 ≤ ((givenL l).getD k 0).fmod (10 ^ 12) := Int.fmod_nonneg_of_pos _ (by decide)
    show ((evE gl (SIG n) _ [LV.fz (.list (l.map .int)), .ow (.list ((givenL l).map .int)), .ow (.list (fixedL.map natD)), LV.fz (natD k)]).bind kept) = _
    rw [e_bin (r := (.int (((givenL l).getD k 0).fmod (10 ^ 12) + ((fixedL.getD k 0 : Nat) : Int)), .fz)) (e_bin (r := (.int (((givenL l).getD k 0).fmod (10 ^ 12)), .fz)) (e_idx (e_own rfl) (e_var (d := natD k) rfl) (idx_nat h1 (by omega))) (e_bin (e_lit _) (e_lit _) rfl) rfl) (e_idx (e_own rfl) (e_var (d := natD k) rfl) (idx_nat h2 (by omega))) rfl]
    show some (D.int _) = some (D.int _)
    congr 2
    omega)
  rw [show (8 : Nat) = 8 from rfl] at this
  refine this.trans ?_
  simp [numL]
end Mine
end
section
set_option autoImplicit false
set_option maxRecDepth 100000
namespace Mine
open PySem PySem.W

theorem stN {G : Nat → Option D} {Sg : Sig} {s : PS} {r : PSs} {σ σ' : List LV} {res : Option (Fl × List LV)} (h : exS G Sg s σ = some (.next, σ')) (h2 : exSs G Sg r σ' = res) : exSs G Sg (.cons s r) σ = res := (seqN h).trans h2
def itBody : PSs := match F_law_items.body with
  | .cons _ (.cons _ (.cons _ (.cons (.forR _ _ _ b) _))) => b
  | _ => .nil
def itTab : PE := match F_law_items.body with
  | .cons (.assign _ e) _ => e
  | _ => .lit .none
theorem it_body : F_law_items.body = .cons (.assign 1 itTab) (.cons (.assign 2 (.bin .fdiv (.var 0) (.lit (.int 24)))) (.cons (.assign 3 (.lst .nil)) (.cons (.forR 4 (.lit (.int 0)) (.bin .mod (.bin .fdiv (.var 0) (.lit (.int 6))) (.lit (.int 4))) itBody) (.cons (.ret (.var 3)) .nil)))) := rfl
theorem it_eq : itBody = .cons (.appnd 3 (.idx (.var 1) (.bin .mod (.bin .fdiv (.var 2) (.bin .pow (.lit (.int 13)) (.var 4))) (.lit (.int 13))))) .nil := rfl
theorem it_tab {Sg : Sig} {σ : List LV} : evE gl Sg itTab σ = some (.list ((List.range 13).map itemD), .fresh) := rfl
theorem tab_at {i : Nat} (h : i < 13) : ((List.range 13).map itemD)[i]? = some (itemD i) := by
  rw [List.getElem?_map, List.getElem?_range h]; rfl
abbrev itS (N : Nat) (is : List Nat) (v : LV) : List LV := [.fz (natD N), .ow (.list ((List.range 13).map itemD)), .fz (natD (N / 24)), .ow (.list (is.map itemD)), v]
theorem items_ok (n N : Nat) : ∃ is : List Nat, is.length ≤ 3 ∧ (∀ i ∈ is, i < 13) ∧ SIG (n + 1) 11 [natD N] = some (.list (is.map itemD)) := by
  rw [sg11]
  have hl : N / 6 % 4 < 4 := Nat.mod_lt _ (by decide)
  obtain ⟨σ', e, is, v, h1, h2, rfl⟩ := forGo_inv (bind := fun d σ => some (σ.set 4 (.fz d))) (body := fun σ => exSs gl (SIG n) itBody σ) (l := (List.range (N / 6 % 4)).map natD)
    (fun i σ => ∃ is v, is.length = i ∧ (∀ j ∈ is, j < 13) ∧ σ = itS N is v) (by
      rintro i hi σ ⟨is, v, h1, h2, rfl⟩
      have hi : i < N / 6 % 4 := by simpa using hi
      have hj : N / 24 / 13 ^ i % 13 < 13 := Nat.mod_lt _ (by decide)
      have hp : 13 ^ i ≤ 13 ^ 3 := Nat.pow_le_pow_right (by decide) (by omega)
      refine ⟨itS N is (.fz (natD i)), itS N (is ++ [N / 24 / 13 ^ i % 13]) (.fz (natD i)), by simp, ?_, is ++ [N / 24 / 13 ^ i % 13], _, by simp [h1], by
        intro j hj
        rcases List.mem_append.mp hj with q | q
        · exact h2 j q
        · simp at q; omega, rfl⟩
      have h3 : 13 ^ 3 = 2197 := rfl
      rw [it_eq]
      refine stN (s_appnd (d := itemD (N / 24 / 13 ^ i % 13)) (t := .fz) (e_idx (e_own rfl) (e_bin (r := (natD (N / 24 / 13 ^ i % 13), .fz)) (e_bin (r := (natD (N / 24 / 13 ^ i), .fz)) (e_var rfl) (e_bin (r := (natD (13 ^ i), .fz)) (e_lit _) (e_var (d := natD i) rfl) (pow_nat 13 i (by omega) (by omega))) (fdiv_nat _ _ (Nat.pow_pos (by decide)) (by omega))) (e_lit _) (fmod_nat _ 13 (by decide))) (idx_nat (tab_at hj) (by omega))) rfl rfl (by rw [List.length_map]; omega)) ?_
      simp [exSs]) (σ := itS N [] .un) ⟨[], .un, rfl, by simp, rfl⟩
  refine ⟨is, by simp at h1; omega, h2, ?_⟩
  refine runFun_of rfl (σ := itS N is v) ?_
  show exSs gl (SIG n) F_law_items.body [.fz (natD N), .un, .un, .un, .un] = _
  rw [it_body]
  refine stN (s_fresh it_tab) (stN (s_assign (d := natD (N / 24)) (e_bin (x := natD N) (e_var rfl) (e_lit _) (fdiv_nat N 24 (by decide) (by decide)))) (stN (s_fresh (e_lst es_nil)) ?_))
  show exSs gl (SIG n) _ (itS N [] .un) = _
  rw [seqN (σ' := itS N is v)]
  · exact seqR (s_ret (e_own rfl))
  · refine (s_forR (i := 0) (j := ((N / 6 % 4 : Nat) : Int)) (t' := .fz) (e_lit _) (e_bin (x := natD (N / 6)) (t := .fz) (e_bin (x := natD N) (e_var rfl) (e_lit _) (fdiv_nat N 6 (by decide) (by decide))) (e_lit _) (fmod_nat (N / 6) 4 (by decide))) (by decide) (by omega)).trans ?_
    rw [rangeL_nat, e]
    rfl
end Mine
end
section
set_option autoImplicit false
set_option maxRecDepth 100000
namespace Mine
open PySem PySem.W

theorem mapE_map {α : Type} {h : α → D} {f : D → Option D} {g : α → D} : ∀ {l : List α}, (∀ p ∈ l, f (h p) = some (g p)) → mapE f (l.map h) = some (l.map g)
  | [], _ => rfl
  | p :: r, hh => by
    show (f (h p)).bind _ = _
    rw [hh p (by simp)]
    show (mapE f (r.map h)).map _ = _
    rw [mapE_map fun q hq => hh q (by simp [hq])]; rfl
theorem filterE_map {α : Type} {h : α → D} {f : D → Option Bool} {g : α → Bool} : ∀ {l : List α}, (∀ p ∈ l, f (h p) = some (g p)) → filterE f (l.map h) = some ((l.filter g).map h)
  | [], _ => rfl
  | p :: r, hh => by
    show (f (h p)).bind _ = _
    rw [hh p (by simp)]
    show (filterE f (r.map h)).map _ = _
    rw [filterE_map fun q hq => hh q (by simp [hq])]
    cases e : g p <;> simp [e]
structure Nd where
  above : Nat
  name : List Nat
  kind : Nat
  rights : Nat
def nodeD (nd : Nd) : D := .tup [natD nd.above, .str nd.name, natD nd.kind, natD nd.rights]
def rootN : Nd := ⟨0, [], 4, 0⟩
structure NodeOK (ns : List Nd) (i : Nat) (nd : Nd) : Prop where
  lt : nd.above < i
  par : ∃ p, ns[nd.above]? = some p ∧ p.kind = 4
  ne : nd.name ≠ []
  abc : ∀ c ∈ nd.name, c ∈ A7
  short : nd.name.length ≤ 20
  kind : nd.kind < 16
  rights : nd.rights < 4096
structure WF (ns : List Nd) : Prop where
  root : ns[0]? = some rootN
  len : ns.length ≤ 8
  node : ∀ i nd, ns[i]? = some nd → 1 ≤ i → NodeOK ns i nd
  sib : ∀ i j a b, ns[i]? = some a → ns[j]? = some b → 1 ≤ i → i < j → a.above = b.above → a.name ≠ b.name
theorem WF.pos {ns : List Nd} (w : WF ns) : 0 < ns.length := by
  have := (List.getElem?_eq_some_iff.mp w.root).1
  exact this
theorem get_app {α : Type} {l : List α} {x y : α} {i : Nat} (h : (l ++ [x])[i]? = some y) : (l[i]? = some y ∧ i < l.length) ∨ (i = l.length ∧ y = x) := by
  by_cases hi : i < l.length
  · rw [List.getElem?_append_left hi] at h; exact .inl ⟨h, hi⟩
  · rw [List.getElem?_append_right (by omega)] at h
    have : i - l.length = 0 := by
      have := (List.getElem?_eq_some_iff.mp h).1
      simp at this; omega
    rw [this] at h
    simp at h
    exact .inr ⟨by omega, h.symm⟩
theorem get_left {α : Type} {l : List α} {x y : α} {i : Nat} (h : l[i]? = some y) : (l ++ [x])[i]? = some y := by
  rw [List.getElem?_append_left (List.getElem?_eq_some_iff.mp h).1]; exact h
theorem WF.app {ns : List Nd} (w : WF ns) {nd : Nd} (hl : ns.length ≤ 7) (h : NodeOK ns ns.length nd) (hs : ∀ i a, ns[i]? = some a → 1 ≤ i → a.above = nd.above → a.name ≠ nd.name) : WF (ns ++ [nd]) where
  root := get_left w.root
  len := by simp; omega
  node := by
    intro i x hx h1
    have up : ∀ {i x}, NodeOK ns i x → NodeOK (ns ++ [nd]) i x := fun o => ⟨o.lt, let ⟨p, e, k⟩ := o.par; ⟨p, get_left e, k⟩, o.ne, o.abc, o.short, o.kind, o.rights⟩
    rcases get_app hx with ⟨q, _⟩ | ⟨rfl, rfl⟩
    · exact up (w.node i x q h1)
    · exact up h
  sib := by
    intro i j a b ha hb h1 hij e
    rcases get_app hb with ⟨q, hj⟩ | ⟨rfl, rfl⟩
    · rcases get_app ha with ⟨q', _⟩ | ⟨rfl, rfl⟩
      · exact w.sib i j a b q' q h1 hij e
      · omega
    · rcases get_app ha with ⟨q', _⟩ | ⟨rfl, rfl⟩
      · exact hs i a q' h1 e
      · omega
theorem WF.one : WF [rootN] where
  root := rfl
  len := by simp
  node := by
    intro i nd h h1
    have := (List.getElem?_eq_some_iff.mp h).1
    simp at this; omega
  sib := by
    intro i j a b ha hb h1 hij e
    have := (List.getElem?_eq_some_iff.mp hb).1
    simp at this; omega

/-- a name grows until it is free -/
theorem while_name {test : List LV → Option Bool} {body : List LV → Option (Fl × List LV)} {σN : List Nat → List LV} {banned : List (List Nat)} {L : Nat} (hL : L ≤ 90) (hb : ∀ b ∈ banned, b.length ≤ L)
    (htest : ∀ s, s.length ≤ 100 → (∀ c ∈ s, c ∈ A7) → test (σN s) = some (banned.contains s)) (hbody : ∀ s, s.length ≤ 100 → body (σN s) = some (.next, σN (s ++ [97]))) :
    ∀ (f : Nat) (s : List Nat), s ≠ [] → s.length ≤ L + 1 → (∀ c ∈ s, c ∈ A7) → L + 1 - s.length < f → ∃ s', whileGo test body f (σN s) = some (.next, σN s') ∧ s' ∉ banned ∧ s'.length ≤ L + 1 ∧ s' ≠ [] ∧ ∀ c ∈ s', c ∈ A7
  | 0, _, _, _, _, h => absurd h (by omega)
  | f + 1, s, h1, h2, h3, h4 => by
    by_cases hc : s ∈ banned
    · have hlt := hb s hc
      obtain ⟨s', e, r⟩ := while_name hL hb htest hbody f (s ++ [97]) (by simp) (by simp; omega) (by
        intro c hc
        rcases List.mem_append.mp hc with q | q
        · exact h3 c q
        · simp at q; subst q; decide) (by simp; omega)
      refine ⟨s', ?_, r⟩
      rw [whileGo_next (by rw [htest s (by omega) h3, List.contains_iff_mem.mpr hc]) (hbody s (by omega)), e]
    · refine ⟨s, ?_, hc, h2, h1, h3⟩
      rw [whileGo_end]
      rw [htest s (by omega) h3]
      congr 1
      rw [Bool.eq_false_iff]
      intro q
      exact hc (List.contains_iff_mem.mp q)
theorem isin_list (s : List Nat) (l : List D) : cmpOp .isin (.str s) (.list l) = if D.okEq 8 (.str s) && D.okEqs 8 l then some (l.any (D.beq · (.str s))) else none := by
  unfold cmpOp
  cases s with
  | nil => rfl
  | cons c t => cases t <;> rfl
theorem okEqs_str {α : Type} (n : Nat) (f : α → List Nat) : ∀ l : List α, (∀ x ∈ l, (f x).all (· < 1114112) = true) → D.okEqs n (l.map fun x => .str (f x)) = true
  | [], _ => by simp [D.okEqs]
  | x :: r, h => by
    have h1 := okEqs_str n f r fun y hy => h y (List.mem_cons_of_mem _ hy)
    have h2 := h x (by simp)
    simp only [List.map_cons, D.okEqs, D.okEq, h2, h1, Bool.and_self]
theorem any_str {α : Type} (f : α → List Nat) (l : List α) (s : List Nat) : (l.map fun x => D.str (f x)).any (D.beq · (.str s)) = (l.map f).contains s := by
  induction l with
  | nil => rfl
  | cons x r ih =>
    simp only [List.map_cons, List.any_cons, ih, List.contains_cons, D.beq]
    congr 1
    rw [Bool.eq_iff_iff]
    simp only [beq_iff_eq]
    exact eq_comm

def teBody : PSs := match F_law_tree.body with
  | .cons _ (.cons _ (.cons (.forE _ _ b _) _)) => b
  | _ => .nil
theorem te_body : F_law_tree.body = .cons (.assign 1 (.lst (.cons (.tup (.cons (.lit (.int 0)) (.cons (.lit (.str [])) (.cons (.lit (.int 4)) (.cons (.lit (.int 0)) .nil))))) .nil))) (.cons (.assign 2 (.lst (.cons (.lit (.int 0)) .nil))) (.cons (.forE 3 (.slFrom (.var 0) (.lit (.int 1))) teBody .nil) (.cons (.ret (.var 1)) .nil))) := rfl
def teTest : PE := .or (.cmp .isin (.var 7) (.lst (.cons (.lit (.str [46])) (.cons (.lit (.str [46, 46])) .nil)))) (.cons (.cmp .isin (.var 7) (.compLI (.idx (.var 9) (.lit (.int 1))) (.slFrom (.var 1) (.lit (.int 1))) (.cmp .eq (.idx (.var 9) (.lit (.int 0))) (.var 6)))) .nil)
def teLet : PSs := .cons (.aug 7 .add (.idx (.lit (.str [97, 98, 46, 45, 91, 58, 32])) (.bin .mod (.bin .fdiv (.bin .fdiv (.var 5) (.lit (.int 2))) (.bin .pow (.lit (.int 7)) (.var 8))) (.lit (.int 7))))) .nil
def teMore : PSs := .cons (.aug 7 .add (.lit (.str [97]))) .nil
theorem te_eq : teBody = .cons (.assign 4 (.ite (.cmp .lt (.bin .mod (.var 3) (.lit (.int 8))) (.lit (.int 4))) (.lit (.int 4)) (.bin .mod (.bin .fdiv (.var 3) (.lit (.int 8))) (.lit (.int 16)))))
    (.cons (.assign 5 (.bin .fdiv (.var 3) (.bin .pow (.lit (.int 2)) (.lit (.int 19)))))
    (.cons (.assign 6 (.idx (.var 2) (.bin .mod (.var 5) (.len (.var 2)))))
    (.cons (.aug 5 .fdiv (.len (.var 2)))
    (.cons (.assign 7 (.lit (.str [])))
    (.cons (.forR 8 (.lit (.int 0)) (.bin .add (.lit (.int 1)) (.bin .mod (.var 5) (.lit (.int 2)))) teLet)
    (.cons (.while_ 1000 teTest teMore)
    (.cons (.ite (.cmp .eq (.var 4) (.lit (.int 4))) (.cons (.appnd 2 (.len (.var 1))) .nil) .nil)
    (.cons (.appnd 1 (.tup (.cons (.var 6) (.cons (.var 7) (.cons (.var 4) (.cons (.bin .mod (.bin .fdiv (.var 3) (.lit (.int 128))) (.lit (.int 4096))) .nil)))))) .nil)))))))) := rfl
abbrev teS (N : D) (ns : List Nd) (fo : List Nat) (v3 v4 v5 v6 v7 v8 : LV) : List LV := [.fz N, .ow (.list (ns.map nodeD)), .ow (.list (fo.map natD)), v3, v4, v5, v6, v7, v8]
theorem te_letters {Sg : Sig} {N : D} {ns : List Nd} {fo : List Nat} {v3 v4 v6 : LV} {x : Nat} (v8 : LV) : ∃ s w8, s ≠ [] ∧ s.length ≤ 2 ∧ (∀ c ∈ s, c ∈ A7) ∧
    exS gl Sg (.forR 8 (.lit (.int 0)) (.bin .add (.lit (.int 1)) (.bin .mod (.var 5) (.lit (.int 2)))) teLet) (teS N ns fo v3 v4 (.fz (natD x)) v6 (.fz (.str [])) v8) = some (.next, teS N ns fo v3 v4 (.fz (natD x)) v6 (.fz (.str s)) w8) := by
  have hl : x % 2 < 2 := Nat.mod_lt _ (by decide)
  obtain ⟨σ', e, s, v, h1, h2, rfl⟩ := forGo_inv (bind := fun d σ => some (σ.set 8 (.fz d))) (body := fun σ => exSs gl Sg teLet σ) (l := (List.range (1 + x % 2)).map natD)
    (fun i σ => ∃ s v, s.length = i ∧ (∀ c ∈ s, c ∈ A7) ∧ σ = teS N ns fo v3 v4 (.fz (natD x)) v6 (.fz (.str s)) v) (by
      rintro i hi σ ⟨s, v, h1, h2, rfl⟩
      have hi : i < 1 + x % 2 := by simpa using hi
      have hj : x / 2 / 7 ^ i % 7 < 7 := Nat.mod_lt _ (by decide)
      have hp : 7 ^ i ≤ 7 ^ 2 := Nat.pow_le_pow_right (by decide) (by omega)
      have hc : A7[x / 2 / 7 ^ i % 7]? = some (A7.getD (x / 2 / 7 ^ i % 7) 0) := by
        rw [List.getD_eq_getElem?_getD, List.getElem?_eq_getElem (by simp [A7]; omega)]; rfl
      refine ⟨teS N ns fo v3 v4 (.fz (natD x)) v6 (.fz (.str s)) (.fz (natD i)), teS N ns fo v3 v4 (.fz (natD x)) v6 (.fz (.str (s ++ [A7.getD (x / 2 / 7 ^ i % 7) 0]))) (.fz (natD i)), by simp, ?_, s ++ [A7.getD (x / 2 / 7 ^ i % 7) 0], _, by simp [h1], by
        intro c hm
        rcases List.mem_append.mp hm with q | q
        · exact h2 c q
        · simp only [List.mem_singleton] at q
          rw [q]
          exact List.mem_of_getElem? hc, rfl⟩
      refine stN (s_aug (d' := .str (s ++ [A7.getD (x / 2 / 7 ^ i % 7) 0])) rfl (e_idx (e_lit _) (e_bin (r := (natD (x / 2 / 7 ^ i % 7), .fz)) (e_bin (r := (natD (x / 2 / 7 ^ i), .fz)) (e_bin (e_var (d := natD x) rfl) (e_lit _) (fdiv_nat x 2 (by decide) (by decide))) (e_bin (r := (natD (7 ^ i), .fz)) (e_lit _) (e_var (d := natD i) rfl) (pow_nat 7 i (by omega) (by omega))) (fdiv_nat _ _ (Nat.pow_pos (by decide)) (by omega))) (e_lit _) (fmod_nat _ 7 (by decide))) (idx_str hc (by omega))) (add_str (by simp; omega))) ?_
      rfl) (σ := teS N ns fo v3 v4 (.fz (natD x)) v6 (.fz (.str [])) v8) ⟨[], v8, rfl, by simp, rfl⟩
  have h1' : s.length = 1 + x % 2 := by simpa using h1
  refine ⟨s, v, fun q => by subst q; simp at h1'; omega, by omega, h2, ?_⟩
  refine (s_forR (i := 0) (j := ((1 + x % 2 : Nat) : Int)) (t' := .fz) (e_lit _) (e_bin (e_lit _) (e_bin (e_var (d := natD x) rfl) (e_lit _) (fmod_nat x 2 (by decide))) (add_nat 1 (x % 2))) (by decide) (by omega)).trans ?_
  rw [rangeL_nat, e]
  rfl
def bannedL (ns : List Nd) (a : Nat) : List (List Nat) := [[46], [46, 46]] ++ ((ns.drop 1).filter fun nd => nd.above == a).map (·.name)
theorem te_test {Sg : Sig} {N : D} {ns : List Nd} {fo : List Nat} {v3 v4 v5 v8 : LV} {a : Nat} {s : List Nat} (w : WF ns) (hs : ∀ c ∈ s, c ∈ A7) : (evE gl Sg teTest (teS N ns fo v3 v4 v5 (.fz (natD a)) (.fz (.str s)) v8)).bind (fun x => truth x.1) = some ((bannedL ns a).contains s) := by
  have hsl : sliceOp (.list (ns.map nodeD)) (some 1) none = some (.list ((ns.drop 1).map nodeD), .fresh) := by
    have := w.pos
    cases ns with
    | nil => simp at this
    | cons x r =>
      have hl := w.len
      exact sl_tail (nodeD x) (r.map nodeD) (by simp at hl ⊢; omega)
  have hok : ∀ nd ∈ ns.drop 1, ∀ c ∈ nd.name, c ∈ A7 := by
    intro nd hm
    obtain ⟨i, hi⟩ := List.getElem?_of_mem hm
    rw [List.getElem?_drop] at hi
    exact (w.node _ _ hi (by omega)).abc
  have h8 : D.okEq 8 (.str s) = true := A7_all hs
  have hA : evE gl Sg (.cmp .isin (.var 7) (.lst (.cons (.lit (.str [46])) (.cons (.lit (.str [46, 46])) .nil)))) (teS N ns fo v3 v4 v5 (.fz (natD a)) (.fz (.str s)) v8) = some (.bool (([[46], [46, 46]] : List (List Nat)).contains s), .fz) := by
    refine e_cmp (e_var rfl) (e_lst (es_cons (e_lit _) rfl (es_cons (e_lit _) rfl es_nil))) ?_
    rw [isin_list, h8]
    show some (([[46], [46, 46]].map fun x => D.str (id x)).any (D.beq · (.str s))) = _
    rw [any_str]; rfl
  have hC : evE gl Sg (.compLI (.idx (.var 9) (.lit (.int 1))) (.slFrom (.var 1) (.lit (.int 1))) (.cmp .eq (.idx (.var 9) (.lit (.int 0))) (.var 6))) (teS N ns fo v3 v4 v5 (.fz (natD a)) (.fz (.str s)) v8) = some (.list (((ns.drop 1).filter fun nd => nd.above == a).map fun nd => .str nd.name), .fresh) := by
    refine e_compLI (e_slFrom (e_own rfl) (e_lit _) hsl) (by have := w.len; simp; omega) (filterE_map (h := nodeD) (g := fun nd => nd.above == a) ?_) (mapE_map (h := nodeD) (g := fun nd => .str nd.name) ?_)
    · intro nd _
      have : evE gl Sg (.cmp .eq (.idx (.var 9) (.lit (.int 0))) (.var 6)) (teS N ns fo v3 v4 v5 (.fz (natD a)) (.fz (.str s)) v8 ++ [LV.fz (nodeD nd)]) = some (.bool (nd.above == a), .fz) := by
        refine e_cmp (x := natD nd.above) (y := natD a) (e_idx (e_var rfl) (e_lit _) rfl) (e_var rfl) ?_
        show some (((nd.above : Int)) == (a : Int)) = _
        congr 1
        rw [Bool.eq_iff_iff]
        simp only [beq_iff_eq]
        omega
      rw [this]; rfl
    · intro nd _
      rfl
  have hB : evE gl Sg (.cmp .isin (.var 7) (.compLI (.idx (.var 9) (.lit (.int 1))) (.slFrom (.var 1) (.lit (.int 1))) (.cmp .eq (.idx (.var 9) (.lit (.int 0))) (.var 6)))) (teS N ns fo v3 v4 v5 (.fz (natD a)) (.fz (.str s)) v8) = some (.bool ((((ns.drop 1).filter fun nd => nd.above == a).map (·.name)).contains s), .fz) := by
    refine e_cmp (e_var rfl) hC ?_
    rw [isin_list, h8, okEqs_str, any_str]
    · rfl
    · intro nd hm
      exact A7_all (hok nd ((List.mem_filter.mp hm).1))
  rw [teTest, e_orB hA (fun _ => hB)]
  show some _ = some _
  congr 1
  rw [bannedL, Bool.eq_iff_iff]
  simp only [Bool.or_eq_true, List.contains_iff_mem, List.mem_append]
end Mine
end
section
set_option autoImplicit false
set_option maxRecDepth 100000
namespace Mine
open PySem PySem.W

structure Grown (i : Nat) (ns : List Nd) (fo : List Nat) : Prop where
  len : ns.length = i + 1
  wf : WF ns
  short : ∀ nd ∈ ns, nd.name.length ≤ ns.length + 1
  fne : fo ≠ []
  flen : fo.length ≤ i + 1
  fok : ∀ f ∈ fo, ∃ p, ns[f]? = some p ∧ p.kind = 4
theorem te_step {n : Nat} {N : D} {ns : List Nd} {fo : List Nat} {i x : Nat} (g : Grown i ns fo) (hi : i < 7) (v4 v5 v6 v7 v8 : LV) : ∃ ns' fo' w4 w5 w6 w7 w8, exSs gl (SIG n) teBody (teS N ns fo (.fz (natD x)) v4 v5 v6 v7 v8) = some (.next, teS N ns' fo' (.fz (natD x)) w4 w5 w6 w7 w8) ∧ Grown (i + 1) ns' fo' := by
  have hfl : 0 < fo.length := List.length_pos_iff.mpr g.fne
  have hfl2 := g.flen
  have hnl := g.len
  have hnl' : (ns.map nodeD).length = ns.length := List.length_map ..
  have hfl' : (fo.map natD).length = fo.length := List.length_map ..
  obtain ⟨kind, hk, hkl⟩ : ∃ kind, evE gl (SIG n) (.ite (.cmp .lt (.bin .mod (.var 3) (.lit (.int 8))) (.lit (.int 4))) (.lit (.int 4)) (.bin .mod (.bin .fdiv (.var 3) (.lit (.int 8))) (.lit (.int 16)))) (teS N ns fo (.fz (natD x)) v4 v5 v6 v7 v8) = some (natD kind, .fz) ∧ kind < 16 := by
    have hc : evE gl (SIG n) (.cmp .lt (.bin .mod (.var 3) (.lit (.int 8))) (.lit (.int 4))) (teS N ns fo (.fz (natD x)) v4 v5 v6 v7 v8) = some (.bool (decide (((x % 8 : Nat) : Int) < 4)), .fz) :=
      e_cmp (e_bin (e_var rfl) (e_lit _) (fmod_nat x 8 (by decide))) (e_lit _) rfl
    by_cases h : ((x % 8 : Nat) : Int) < 4
    · exact ⟨4, e_ite hc rfl (fun _ => rfl) (fun q => absurd h (by simpa using q)), by decide⟩
    · exact ⟨x / 8 % 16, e_ite hc rfl (fun q => absurd (by simpa using q) h) (fun _ => e_bin (e_bin (e_var rfl) (e_lit _) (fdiv_nat x 8 (by decide) (by decide))) (e_lit _) (fmod_nat (x / 8) 16 (by decide))), Nat.mod_lt _ (by decide)⟩
  have ha : x / 524288 % fo.length < fo.length := Nat.mod_lt _ hfl
  generalize ea : fo[x / 524288 % fo.length] = a
  have hfa : (fo.map natD)[x / 524288 % fo.length]? = some (natD a) := by
    rw [List.getElem?_map, List.getElem?_eq_getElem ha, ea]; rfl
  obtain ⟨p, hp, hp4⟩ := g.fok a (ea ▸ List.getElem_mem ha)
  have hap := (List.getElem?_eq_some_iff.mp hp).1
  obtain ⟨s0, w8, hs1, hs2, hs3, hs4⟩ := te_letters (Sg := SIG n) (N := N) (ns := ns) (fo := fo) (v3 := .fz (natD x)) (v4 := .fz (natD kind)) (v6 := .fz (natD a)) (x := x / 524288 / fo.length) v8
  have hban : ∀ b ∈ bannedL ns a, b.length ≤ ns.length + 1 := by
    intro b hb
    rcases List.mem_append.mp hb with q | q
    · simp at q; rcases q with rfl | rfl <;> simp <;> omega
    · obtain ⟨nd, hm, rfl⟩ := List.mem_map.mp q
      exact g.short nd (List.mem_of_mem_drop (List.mem_filter.mp hm).1)
  obtain ⟨s, hw, hs5, hs6, hs7, hs8⟩ := while_name (test := fun σ => (evE gl (SIG n) teTest σ).bind fun x => truth x.1) (body := fun σ => exSs gl (SIG n) teMore σ) (σN := fun s => teS N ns fo (.fz (natD x)) (.fz (natD kind)) (.fz (natD (x / 524288 / fo.length))) (.fz (natD a)) (.fz (.str s)) w8) (banned := bannedL ns a) (L := ns.length + 1) (by omega) hban
    (fun s _ hs => te_test g.wf hs) (fun s hs => stN (s_aug (d' := .str (s ++ [97])) rfl (e_lit _) (add_str (by simp; omega))) rfl) 1000 s0 hs1 (by omega) hs3 (by omega)
  have hr : x / 128 % 4096 < 4096 := Nat.mod_lt _ (by decide)
  have hnd : NodeOK ns ns.length ⟨a, s, kind, x / 128 % 4096⟩ := ⟨hap, ⟨p, hp, hp4⟩, hs7, hs8, by show s.length ≤ 20; omega, hkl, hr⟩
  have wf' := g.wf.app (by omega) hnd (by
    intro i b hb h1 e q
    apply hs5
    rw [bannedL]
    refine List.mem_append.mpr (.inr (List.mem_map.mpr ⟨b, List.mem_filter.mpr ⟨?_, by simpa using e⟩, q⟩))
    have : (ns.drop 1)[i - 1]? = some b := by rw [List.getElem?_drop, ← hb]; congr 1; omega
    exact List.mem_of_getElem? this)
  have hq : ∀ σ : List LV, σ[4]? = some (.fz (natD kind)) → evE gl (SIG n) (.cmp .eq (.var 4) (.lit (.int 4))) σ = some (.bool (decide (kind = 4)), .fz) := by
    intro σ hσ
    refine e_cmp (e_var hσ) (e_lit _) ?_
    show some (((kind : Nat) : Int) == (4 : Int)) = _
    congr 1
    rw [Bool.eq_iff_iff]
    simp only [beq_iff_eq, decide_eq_true_eq]
    omega
  refine ⟨ns ++ [⟨a, s, kind, x / 128 % 4096⟩], if kind = 4 then fo ++ [ns.length] else fo, .fz (natD kind), .fz (natD (x / 524288 / fo.length)), .fz (natD a), .fz (.str s), w8, ?_, ?_⟩
  · rw [te_eq]
    refine stN (s_assign hk) ?_
    refine stN (s_assign (d := natD (x / 524288)) (e_bin (e_var (d := natD x) rfl) (e_bin (r := (natD 524288, .fz)) (e_lit _) (e_lit _) rfl) (fdiv_nat x 524288 (by decide) (by decide)))) ?_
    refine stN (s_assign (d := natD a) (e_idx (e_own rfl) (e_bin (e_var (d := natD (x / 524288)) rfl) (e_len (n := (fo.length : Int)) (e_own rfl) (by rw [len_list (by omega), hfl'])) (fmod_nat (x / 524288) fo.length hfl)) (idx_nat hfa (by omega)))) ?_
    refine stN (s_aug (d := natD (x / 524288)) rfl (e_len (n := (fo.length : Int)) (e_own rfl) (by rw [len_list (by omega), hfl'])) (fdiv_nat (x / 524288) fo.length hfl (by omega))) ?_
    refine stN (s_assign (e_lit _)) ?_
    refine stN hs4 ?_
    refine stN hw ?_
    refine stN (σ' := teS N ns (if kind = 4 then fo ++ [ns.length] else fo) (.fz (natD x)) (.fz (natD kind)) (.fz (natD (x / 524288 / fo.length))) (.fz (natD a)) (.fz (.str s)) w8) ?_ ?_
    · rw [s_ite (hq _ rfl) rfl]
      by_cases h4 : kind = 4
      · rw [if_pos (by simpa using h4), if_pos h4]
        refine stN (s_appnd (d := natD ns.length) (t := .fz) (e_len (n := (ns.length : Int)) (e_own rfl) (by rw [len_list (by omega), hnl'])) rfl rfl (by omega)) ?_
        simp [exSs]
      · rw [if_neg (by simpa using h4), if_neg h4]; rfl
    · refine stN (s_appnd (d := nodeD ⟨a, s, kind, x / 128 % 4096⟩) (t := .fz) (e_tup (es_cons (e_var rfl) rfl (es_cons (e_var rfl) rfl (es_cons (e_var rfl) rfl (es_cons (e_bin (e_bin (e_var (d := natD x) rfl) (e_lit _) (fdiv_nat x 128 (by decide) (by decide))) (e_lit _) (fmod_nat (x / 128) 4096 (by decide))) rfl es_nil))))) rfl rfl (by omega)) ?_
      simp [exSs]
  · have up : ∀ f, (∃ p : Nd, ns[f]? = some p ∧ p.kind = 4) → ∃ p : Nd, (ns ++ [(⟨a, s, kind, x / 128 % 4096⟩ : Nd)])[f]? = some p ∧ p.kind = 4 := fun f ⟨p, h1, h2⟩ => ⟨p, get_left h1, h2⟩
    refine ⟨by simp; omega, wf', ?_, ?_, ?_, ?_⟩
    · intro nd hm
      rcases List.mem_append.mp hm with q | q
      · have := g.short nd q
        simp; omega
      · simp at q
        subst q
        simp; omega
    · split <;> simp [g.fne]
    · split
      · simp only [List.length_append, List.length_singleton]; omega
      · omega
    · intro f hf
      split at hf
      · rename_i h4
        rcases List.mem_append.mp hf with q | q
        · exact up f (g.fok f q)
        · simp at q
          subst q
          exact ⟨⟨a, s, kind, x / 128 % 4096⟩, by simp, h4⟩
      · exact up f (g.fok f hf)
theorem tree_ok (n : Nat) (N : List Nat) (hN : N.length = 8) : ∃ ns, WF ns ∧ SIG (n + 1) 12 [.list (N.map natD)] = some (.list (ns.map nodeD)) := by
  rw [sg12]
  obtain ⟨x0, r, rfl⟩ : ∃ x r, N = x :: r := by cases N with
    | nil => simp at hN
    | cons x r => exact ⟨x, r, rfl⟩
  have hr : r.length = 7 := by simpa using hN
  obtain ⟨σ', e, ns, fo, v3, v4, v5, v6, v7, v8, g, rfl⟩ := forGo_inv (bind := fun d σ => some (σ.set 3 (.fz d))) (body := fun σ => exSs gl (SIG n) teBody σ) (l := r.map natD)
    (fun i σ => ∃ ns fo v3 v4 v5 v6 v7 v8, Grown i ns fo ∧ σ = teS (.list ((x0 :: r).map natD)) ns fo v3 v4 v5 v6 v7 v8) (by
      rintro i hi σ ⟨ns, fo, v3, v4, v5, v6, v7, v8, g, rfl⟩
      have hi : i < r.length := by simpa using hi
      obtain ⟨ns', fo', w4, w5, w6, w7, w8, e, g'⟩ := te_step (n := n) (N := .list ((x0 :: r).map natD)) (x := r[i]) g (by omega) v4 v5 v6 v7 v8
      refine ⟨teS (.list ((x0 :: r).map natD)) ns fo (.fz (natD r[i])) v4 v5 v6 v7 v8, _, ?_, e, ns', fo', _, w4, w5, w6, w7, w8, g', rfl⟩
      simp) (σ := teS (.list ((x0 :: r).map natD)) [rootN] [0] .un .un .un .un .un .un) ⟨[rootN], [0], .un, .un, .un, .un, .un, .un, ⟨rfl, WF.one, by simp [rootN], by simp, by simp, by simp [rootN]⟩, rfl⟩
  refine ⟨ns, g.wf, runFun_of rfl (σ := teS (.list ((x0 :: r).map natD)) ns fo v3 v4 v5 v6 v7 v8) ?_⟩
  show exSs gl (SIG n) F_law_tree.body [.fz (.list ((x0 :: r).map natD)), .un, .un, .un, .un, .un, .un, .un, .un] = _
  rw [te_body]
  refine stN (s_fresh (d := .list [nodeD rootN]) rfl) (stN (s_fresh (d := .list [natD 0]) rfl) ?_)
  refine stN (σ' := teS (.list ((x0 :: r).map natD)) ns fo v3 v4 v5 v6 v7 v8) ?_ ?_
  · refine (s_forE (e_slFrom (e_var rfl) (e_lit _) (sl_tail (natD x0) (r.map natD) (by simp; omega))) rfl).trans ?_
    show (forGo _ _ (r.map natD) (teS (.list ((x0 :: r).map natD)) [rootN] [0] .un .un .un .un .un .un)).bind _ = _
    rw [e]; rfl
  · exact seqR (s_ret (e_own rfl))
end Mine
end
section
set_option autoImplicit false
set_option maxRecDepth 100000
namespace Mine
open PySem PySem.W

def nd (ns : List Nd) (i : Nat) : Nd := ns.getD i rootN
theorem nd_get {ns : List Nd} {i : Nat} (h : i < ns.length) : ns[i]? = some (nd ns i) := by
  unfold nd
  rw [List.getD_eq_getElem?_getD, List.getElem?_eq_getElem h]; rfl
theorem nd_of {ns : List Nd} {i : Nat} {x : Nd} (h : ns[i]? = some x) : nd ns i = x := by
  unfold nd
  rw [List.getD_eq_getElem?_getD, h]; rfl
theorem WF.ok {ns : List Nd} (w : WF ns) {i : Nat} (h1 : 1 ≤ i) (h : i < ns.length) : NodeOK ns i (nd ns i) := w.node i _ (nd_get h) h1
theorem WF.folder {ns : List Nd} (w : WF ns) {i : Nat} (h1 : 1 ≤ i) (h : i < ns.length) : (nd ns (nd ns i).above).kind = 4 := by
  obtain ⟨p, e, k⟩ := (w.ok h1 h).par
  rw [nd_of e, k]
theorem WF.root' {ns : List Nd} (w : WF ns) : nd ns 0 = rootN := nd_of w.root
/-- a thing told down the tree -/
def up {α : Type} (a0 : α) (f : α → Nd → α) (ns : List Nd) : Nat → Nat → α
  | 0, _ => a0
  | k + 1, i => if i = 0 then a0 else f (up a0 f ns k (nd ns i).above) (nd ns i)
def down {α : Type} (a0 : α) (f : α → Nd → α) (ns : List Nd) (i : Nat) : α := up a0 f ns i i
theorem up_fuel {α : Type} {a0 : α} {f : α → Nd → α} {ns : List Nd} (w : WF ns) : ∀ (m k i : Nat), k ≤ m → i ≤ k → i < ns.length → up a0 f ns k i = up a0 f ns i i := by
  intro m
  induction m with
  | zero =>
    intro k i h1 h2 _
    obtain rfl : k = 0 := by omega
    obtain rfl : i = 0 := by omega
    rfl
  | succ m ih =>
    intro k i h1 h2 h3
    cases i with
    | zero =>
      cases k with
      | zero => rfl
      | succ k => rfl
    | succ i =>
      cases k with
      | zero => omega
      | succ k =>
        have hlt := (w.ok (by omega) h3).lt
        show (if i + 1 = 0 then a0 else f (up a0 f ns k (nd ns (i + 1)).above) (nd ns (i + 1))) = (if i + 1 = 0 then a0 else f (up a0 f ns i (nd ns (i + 1)).above) (nd ns (i + 1)))
        rw [if_neg (by omega), if_neg (by omega), ih k _ (by omega) (by omega) (by omega), ih i _ (by omega) (by omega) (by omega)]
theorem down_zero {α : Type} (a0 : α) (f : α → Nd → α) (ns : List Nd) : down a0 f ns 0 = a0 := rfl
theorem down_succ {α : Type} {a0 : α} {f : α → Nd → α} {ns : List Nd} (w : WF ns) {i : Nat} (h1 : 1 ≤ i) (h : i < ns.length) : down a0 f ns i = f (down a0 f ns (nd ns i).above) (nd ns i) := by
  cases i with
  | zero => omega
  | succ i =>
    have hlt := (w.ok (by omega) h).lt
    show (if i + 1 = 0 then a0 else f (up a0 f ns i (nd ns (i + 1)).above) (nd ns (i + 1))) = _
    rw [if_neg (by omega), up_fuel w i i _ (Nat.le_refl _) (by omega) (by omega)]; rfl
/-- what holds of the root and passes down holds of all -/
theorem down_ind {α : Type} {a0 : α} {f : α → Nd → α} {ns : List Nd} (w : WF ns) (I : Nat → α → Prop) (h0 : I 0 a0) (hs : ∀ i, 1 ≤ i → i < ns.length → I (nd ns i).above (down a0 f ns (nd ns i).above) → I i (f (down a0 f ns (nd ns i).above) (nd ns i))) : ∀ i, i < ns.length → I i (down a0 f ns i) := by
  intro i
  induction i using Nat.strongRecOn with
  | _ i ih =>
    intro h
    by_cases h1 : 1 ≤ i
    · rw [down_succ w h1 h]
      have hlt := (w.ok h1 h).lt
      exact hs i h1 h (ih _ hlt (by omega))
    · obtain rfl : i = 0 := by omega
      exact h0

structure BaseOK (b : List Nat) : Prop where
  vf : VF b
  short : b.length ≤ 10
  abc : b.all (· < 1114112) = true
  nl : 10 ∉ b
section
variable {ns : List Nd} {base : List Nat}
def P (base : List Nat) (ns : List Nd) : Nat → List Nat := down base (fun a x => joinP a x.name) ns
def K (ns : List Nd) : Nat → List Nat := down [] (fun a x => a ++ [47] ++ x.name) ns
theorem A7_47 {s : List Nat} (h : ∀ c ∈ s, c ∈ A7) : 47 ∉ s := fun q => absurd (h 47 q) (by decide)
theorem A7_10 {s : List Nat} (h : ∀ c ∈ s, c ∈ A7) : 10 ∉ s := fun q => absurd (h 10 q) (by decide)
theorem pre_all {a : List Nat} (h : a.all (· < 1114112) = true) : (preOf a).all (· < 1114112) = true := by
  unfold preOf
  split
  · rfl
  · split
    · exact h
    · rw [List.all_append, h]; rfl
theorem pre_nl {a : List Nat} (h : 10 ∉ a) : 10 ∉ preOf a := by
  unfold preOf
  split
  · simp
  · split
    · exact h
    · simp [h]
theorem pre_len (a : List Nat) : a.length ≤ (preOf a).length ∧ (preOf a).length ≤ a.length + 1 := by
  unfold preOf
  split
  · rename_i h; subst h; simp
  · split
    · omega
    · simp
structure PathOK (i : Nat) (p : List Nat) : Prop where
  vf : VF p
  short : p.length ≤ 10 + 21 * i
  abc : p.all (· < 1114112) = true
  nl : 10 ∉ p
theorem P_ok (w : WF ns) (b : BaseOK base) : ∀ i, i < ns.length → PathOK i (P base ns i) := by
  refine down_ind w (fun i (p : List Nat) => PathOK i p) ⟨b.vf, by have := b.short; omega, b.abc, b.nl⟩ ?_
  intro i h1 h ih
  have o := w.ok h1 h
  refine ⟨VF_child o.ne (A7_47 o.abc), ?_, ?_, ?_⟩
  · have := (pre_len (P base ns (nd ns i).above)).2
    have hs : (P base ns (nd ns i).above).length ≤ 10 + 21 * (nd ns i).above := ih.short
    have := o.short
    have := o.lt
    show (preOf (P base ns (nd ns i).above) ++ _).length ≤ _
    rw [List.length_append]
    omega
  · show (preOf _ ++ _).all _ = true
    rw [List.all_append, pre_all ih.abc, A7_all o.abc]; rfl
  · show 10 ∉ preOf _ ++ _
    rw [List.mem_append]
    rintro (q | q)
    · exact pre_nl ih.nl q
    · exact A7_10 o.abc q
theorem P_succ (w : WF ns) {i : Nat} (h1 : 1 ≤ i) (h : i < ns.length) : P base ns i = preOf (P base ns (nd ns i).above) ++ (nd ns i).name := down_succ w h1 h
theorem K_succ (w : WF ns) {i : Nat} (h1 : 1 ≤ i) (h : i < ns.length) : K ns i = K ns (nd ns i).above ++ [47] ++ (nd ns i).name := down_succ w h1 h
theorem P_len (w : WF ns) {i : Nat} (h1 : 1 ≤ i) (h : i < ns.length) : base.length < (P base ns i).length := by
  have : ∀ i, i < ns.length → base.length ≤ (P base ns i).length ∧ (1 ≤ i → base.length < (P base ns i).length) := by
    refine down_ind w (fun i (p : List Nat) => base.length ≤ p.length ∧ (1 ≤ i → base.length < p.length)) ⟨Nat.le_refl _, by omega⟩ ?_
    intro i h1 h ih
    have o := w.ok h1 h
    have hn := List.length_pos_iff.mpr o.ne
    have hp := (pre_len (down base (fun a x => joinP a x.name) ns (nd ns i).above)).1
    have := ih.1
    have : base.length < (joinP (down base (fun a x => joinP a x.name) ns (nd ns i).above) (nd ns i).name).length := by
      show _ < (preOf _ ++ _).length
      rw [List.length_append]; omega
    exact ⟨by omega, fun _ => this⟩
  exact (this i h).2 h1
theorem same_node (w : WF ns) {i j : Nat} (h1 : 1 ≤ i) (hi : i < ns.length) (h2 : 1 ≤ j) (hj : j < ns.length) (ha : (nd ns i).above = (nd ns j).above) (hn : (nd ns i).name = (nd ns j).name) : i = j := by
  by_cases h : i < j
  · exact absurd hn (w.sib i j _ _ (nd_get hi) (nd_get hj) h1 h ha)
  · by_cases h' : j < i
    · exact absurd hn.symm (w.sib j i _ _ (nd_get hj) (nd_get hi) h2 h' ha.symm)
    · omega
theorem P_inj (w : WF ns) (b : BaseOK base) : ∀ i j, i < ns.length → j < ns.length → P base ns i = P base ns j → i = j := by
  intro i
  induction i using Nat.strongRecOn with
  | _ i ih =>
    intro j hi hj e
    by_cases h1 : 1 ≤ i
    · by_cases h2 : 1 ≤ j
      · have oi := w.ok h1 hi
        have oj := w.ok h2 hj
        have li := oi.lt
        have lj := oj.lt
        rw [P_succ w h1 hi, P_succ w h2 hj] at e
        obtain ⟨e1, e2⟩ := join_inj (P_ok w b _ (by omega)).vf (P_ok w b _ (by omega)).vf (A7_47 oi.abc) (A7_47 oj.abc) e
        exact same_node w h1 hi h2 hj (ih _ li _ (by omega) (by omega) e1) e2
      · obtain rfl : j = 0 := by omega
        have := P_len (base := base) w h1 hi
        rw [e] at this
        have e0 : P base ns 0 = base := rfl
        rw [e0] at this; omega
    · obtain rfl : i = 0 := by omega
      by_cases h2 : 1 ≤ j
      · have := P_len (base := base) w h2 hj
        rw [← e] at this
        have e0 : P base ns 0 = base := rfl
        rw [e0] at this; omega
      · omega
theorem K_inj (w : WF ns) : ∀ i j, i < ns.length → j < ns.length → K ns i = K ns j → i = j := by
  intro i
  induction i using Nat.strongRecOn with
  | _ i ih =>
    intro j hi hj e
    by_cases h1 : 1 ≤ i
    · by_cases h2 : 1 ≤ j
      · have oi := w.ok h1 hi
        have oj := w.ok h2 hj
        have li := oi.lt
        have lj := oj.lt
        rw [K_succ w h1 hi, K_succ w h2 hj] at e
        have r1 := rfind_pre (p := K ns (nd ns i).above ++ [47]) (.inr ⟨_, rfl⟩) (A7_47 oi.abc)
        have r2 := rfind_pre (p := K ns (nd ns j).above ++ [47]) (.inr ⟨_, rfl⟩) (A7_47 oj.abc)
        rw [e, r2] at r1
        obtain ⟨e1, e2⟩ := List.append_inj e (by omega)
        have e3 := List.append_cancel_right e1
        exact same_node w h1 hi h2 hj (ih _ li _ (by omega) (by omega) e3) e2
      · obtain rfl : j = 0 := by omega
        rw [K_succ w h1 hi] at e
        have e0 : K ns 0 = [] := rfl
        rw [e0] at e; simp at e
    · obtain rfl : i = 0 := by omega
      by_cases h2 : 1 ≤ j
      · rw [K_succ w h2 hj] at e
        have e0 : K ns 0 = [] := rfl
        rw [e0] at e; simp at e
      · omega
theorem K_ok (w : WF ns) : ∀ i, i < ns.length → (K ns i).all (· < 1114112) = true ∧ (K ns i).length ≤ 21 * i := by
  refine down_ind w (fun i (p : List Nat) => p.all (· < 1114112) = true ∧ p.length ≤ 21 * i) ⟨rfl, by simp⟩ ?_
  intro i h1 h ih
  have o := w.ok h1 h
  have := o.short
  have := o.lt
  refine ⟨?_, ?_⟩
  · rw [List.all_append, List.all_append, ih.1, A7_all o.abc]; rfl
  · rw [List.length_append, List.length_append, List.length_singleton]
    have := ih.2
    omega
end
end Mine
end
section
set_option autoImplicit false
set_option maxRecDepth 100000
namespace Mine
open PySem PySem.W

section
variable {ns : List Nd} {base : List Nat}
theorem len_pos (w : WF ns) : 1 ≤ ns.length ∧ ns.length ≤ 8 := ⟨w.pos, w.len⟩
theorem nodes_tail (w : WF ns) : sliceOp (.list (ns.map nodeD)) (some 1) none = some (.list ((ns.drop 1).map nodeD), .fresh) := by
  have := w.pos
  cases ns with
  | nil => simp at this
  | cons x r =>
    have hl := w.len
    exact sl_tail (nodeD x) (r.map nodeD) (by simp at hl ⊢; omega)
theorem drop_get {i : Nat} (h : i < ((ns.drop 1).map nodeD).length) : ((ns.drop 1).map nodeD)[i] = nodeD (nd ns (i + 1)) ∧ i + 1 < ns.length := by
  have h' : i + 1 < ns.length := by simp at h; omega
  refine ⟨?_, h'⟩
  apply Option.some.inj
  rw [← List.getElem?_eq_getElem, List.getElem?_map, List.getElem?_drop, Nat.add_comm 1 i, nd_get h']; rfl
def entry (base : List Nat) (ns : List Nd) (j : Nat) : List Nat × D := (P base ns j, natD (modeOf (nd ns j).kind (nd ns j).rights))
def entries (base : List Nat) (ns : List Nd) (i : Nat) : List (List Nat × D) := (List.range' 1 i).map (entry base ns)
def pathsD (base : List Nat) (ns : List Nd) (i : Nat) : List D := (List.range (i + 1)).map fun j => .str (P base ns j)
theorem range_get (f : Nat → D) {a i : Nat} (h : a < i) : ((List.range i).map f)[a]? = some (f a) := by
  rw [List.getElem?_map, List.getElem?_range h]; rfl
theorem range_app (f : Nat → D) (i : Nat) : (List.range i).map f ++ [f i] = (List.range (i + 1)).map f := by
  rw [List.range_succ, List.map_append]; rfl
theorem range1_app {α : Type} (f : Nat → α) (i : Nat) : (List.range' 1 i).map f ++ [f (i + 1)] = (List.range' 1 (i + 1)).map f := by
  rw [List.range'_1_concat, List.map_append, Nat.add_comm 1 i]; rfl
theorem putD_new {l : List (List Nat × D)} {k : List Nat} {d : D} (h : ∀ p ∈ l, p.1 ≠ k) : putD l k d = l ++ [(k, d)] := by
  unfold putD
  rw [if_neg]
  intro q
  rw [List.any_eq_true] at q
  obtain ⟨p, hp, e⟩ := q
  exact h p hp (by simpa using e)
theorem mul_l (a : Int) (b : Int) (h : small a = true) : binOp .mul (.int a) (.int b) = some (.int (a * b), .fz) := by
  show (if (small a || small b) = true then some (D.int (a * b), Tag.fz) else none) = _
  rw [h, Bool.true_or, if_pos rfl]
def woBody : PSs := .cons (.appnd 2 (.call 7 (.cons (.idx (.var 2) (.var 4)) (.cons (.var 5) .nil)))) (.cons (.setD 3 (.idx (.var 2) (.neg (.lit (.int 1)))) (.bin .add (.bin .add (.bin .mul (.lit (.int 65536)) (.bin .mod (.var 7) (.lit (.int 3)))) (.bin .mul (.lit (.int 4096)) (.var 6))) (.var 7))) .nil)
theorem wo_body : F_law_world.body = .cons (.assign 2 (.lst (.cons (.var 0) .nil))) (.cons (.assignD 3) (.cons (.forT [4, 5, 6, 7] (.slFrom (.var 1) (.lit (.int 1))) woBody .nil) (.cons (.ret (.var 3)) .nil))) := rfl
abbrev woS (base : List Nat) (ns : List Nd) (i : Nat) (v4 v5 v6 v7 : LV) : List LV := [.fz (.str base), .fz (.list (ns.map nodeD)), .ow (.list (pathsD base ns i)), .ow (.dict (entries base ns i)), v4, v5, v6, v7]
theorem world_ok (n : Nat) (w : WF ns) (b : BaseOK base) : SIG (n + 3) 13 [.str base, .list (ns.map nodeD)] = some (.dict (entries base ns (ns.length - 1))) := by
  rw [sg13]
  have hl := len_pos w
  obtain ⟨σ', e, v4, v5, v6, v7, rfl⟩ := forGo_inv (bind := bindT [4, 5, 6, 7]) (body := fun σ => exSs gl (SIG (n + 2)) woBody σ) (l := (ns.drop 1).map nodeD)
    (fun i σ => ∃ v4 v5 v6 v7, σ = woS base ns i v4 v5 v6 v7) (by
      rintro i hi σ ⟨v4, v5, v6, v7, rfl⟩
      obtain ⟨e1, hi'⟩ := drop_get hi
      have o := w.ok (i := i + 1) (by omega) hi'
      have p := P_ok w b (nd ns (i + 1)).above (by have := o.lt; omega)
      refine ⟨woS base ns i (.fz (natD (nd ns (i + 1)).above)) (.fz (.str (nd ns (i + 1)).name)) (.fz (natD (nd ns (i + 1)).kind)) (.fz (natD (nd ns (i + 1)).rights)), woS base ns (i + 1) (.fz (natD (nd ns (i + 1)).above)) (.fz (.str (nd ns (i + 1)).name)) (.fz (natD (nd ns (i + 1)).kind)) (.fz (natD (nd ns (i + 1)).rights)), by rw [e1]; rfl, ?_, _, _, _, _, rfl⟩
      have hlt := o.lt
      have hpl : (pathsD base ns i).length = i + 1 := by simp [pathsD]
      have hjn : SIG (n + 2) 7 [.str (P base ns (nd ns (i + 1)).above), .str (nd ns (i + 1)).name] = some (.str (P base ns (i + 1))) := by
        rw [P_succ w (by omega) hi']
        have h1 := p.short
        have h2 := o.short
        refine join_ok (n := n) ?_ (by omega) (by omega)
        cases hn : (nd ns (i + 1)).name with
        | nil => rfl
        | cons c t =>
          have h47 := A7_47 o.abc
          rw [hn] at h47
          have : ¬ (47 : Nat) = c := fun q => h47 (by simp [q])
          simp [List.isPrefixOf, this]
      refine stN (s_appnd (d := .str (P base ns (i + 1))) (t := .fz) (e_call (es_cons (e_idx (e_own rfl) (e_var (d := natD (nd ns (i + 1)).above) rfl) (idx_nat (range_get _ (by omega)) (by omega))) rfl (es_cons (e_var rfl) rfl es_nil)) hjn) rfl rfl (by omega)) ?_
      refine stN (s_setD (d := natD (modeOf (nd ns (i + 1)).kind (nd ns (i + 1)).rights)) (t := .fz) (key := P base ns (i + 1)) (l := entries base ns i) (e_bin (e_bin (e_bin (r := (natD (65536 * ((nd ns (i + 1)).rights % 3)), .fz)) (e_lit _) (e_bin (e_var (d := natD (nd ns (i + 1)).rights) rfl) (e_lit _) (fmod_nat _ 3 (by decide))) (mul_l _ _ rfl)) (e_bin (r := (natD (4096 * (nd ns (i + 1)).kind), .fz)) (e_lit _) (e_var (d := natD (nd ns (i + 1)).kind) rfl) (mul_l _ _ rfl)) rfl) (e_var (d := natD (nd ns (i + 1)).rights) rfl) rfl) rfl (e_idx (e_own rfl) (e_neg (e_lit _)) (idx_last _ _)) rfl (by simp [entries]; omega)) ?_
      rw [putD_new]
      · have e2 : entries base ns i ++ [(P base ns (i + 1), natD (modeOf (nd ns (i + 1)).kind (nd ns (i + 1)).rights))] = entries base ns (i + 1) := range1_app (entry base ns) i
        have e3 : pathsD base ns i ++ [.str (P base ns (i + 1))] = pathsD base ns (i + 1) := range_app (fun j => .str (P base ns j)) (i + 1)
        rw [e2, e3]; rfl
      · intro q hq
        obtain ⟨j, hj, rfl⟩ := List.mem_map.mp hq
        have hj := List.mem_range'_1.mp hj
        intro e
        have := P_inj w b j (i + 1) (by omega) hi' e
        omega) (σ := woS base ns 0 .un .un .un .un) ⟨_, _, _, _, rfl⟩
  have hdl : ((ns.drop 1).map nodeD).length = ns.length - 1 := by simp
  rw [hdl] at e
  refine runFun_of rfl (σ := woS base ns (ns.length - 1) v4 v5 v6 v7) ?_
  show exSs gl (SIG (n + 2)) F_law_world.body [.fz (.str base), .fz (.list (ns.map nodeD)), .un, .un, .un, .un, .un, .un] = _
  rw [wo_body]
  refine stN (s_fresh (e_lst (es_cons (e_var rfl) rfl es_nil))) ?_
  refine stN (s := .assignD 3) (σ' := woS base ns 0 .un .un .un .un) rfl ?_
  refine stN (σ' := woS base ns (ns.length - 1) v4 v5 v6 v7) ?_ ?_
  · refine (s_forT (e_slFrom (e_var rfl) (e_lit _) (nodes_tail w)) rfl).trans ?_
    rw [e]; rfl
  · exact seqR (s_ret (e_own rfl))

/-- what is due -/
def okN (is : List Nat) (x : Nd) : Bool := !mt (is.map partAt) x.name
def KE (is : List Nat) (ns : List Nd) : Nat → Bool := down true (fun a x => a && okN is x) ns
theorem KE_succ {is : List Nat} (w : WF ns) {i : Nat} (h1 : 1 ≤ i) (h : i < ns.length) : KE is ns i = (KE is ns (nd ns i).above && okN is (nd ns i)) := down_succ w h1 h
def fileD (ns : List Nd) (j : Nat) : D := .tup [.str (K ns j), .str [kindSign (nd ns j).kind], natD (nd ns j).rights]
def keysD (ns : List Nd) (i : Nat) : List D := (List.range (i + 1)).map fun j => .str (K ns j)
def keptD (is : List Nat) (ns : List Nd) (i : Nat) : List D := (List.range (i + 1)).map fun j => .bool (KE is ns j)
def filesD (is : List Nat) (ns : List Nd) (i : Nat) : List D := ((List.range' 1 i).filter (KE is ns)).map (fileD ns)
def headsD (is : List Nat) (ns : List Nd) : List D := ((List.range ns.length).filter fun i => KE is ns i && (nd ns i).kind == 4).map fun j => .str (K ns j)
def duBody : PSs := .cons (.appnd 2 (.bin .add (.bin .add (.idx (.var 2) (.var 5)) (.lit (.str [47]))) (.var 6))) (.cons (.appnd 3 (.and (.idx (.var 3) (.var 5)) (.cons (.not (.call 19 (.cons (.var 1) (.cons (.var 6) .nil)))) .nil))) (.cons (.ite (.idx (.var 3) (.neg (.lit (.int 1)))) (.cons (.appnd 4 (.tup (.cons (.idx (.var 2) (.neg (.lit (.int 1)))) (.cons (.idx (.lit (.str [63, 112, 99, 63, 100, 63, 98, 63, 45, 63, 108, 63, 115, 63, 63, 63])) (.var 7)) (.cons (.var 8) .nil))))) .nil) .nil) .nil))
theorem du_body : F_law_due.body = .cons (.assign 2 (.lst (.cons (.lit (.str [])) .nil))) (.cons (.assign 3 (.lst (.cons (.lit (.bool true)) .nil))) (.cons (.assign 4 (.lst .nil)) (.cons (.forT [5, 6, 7, 8] (.slFrom (.var 0) (.lit (.int 1))) duBody .nil) (.cons (.assign 9 (.compRI (.idx (.var 2) (.var 10)) (.len (.var 0)) (.and (.idx (.var 3) (.var 10)) (.cons (.cmp .eq (.idx (.idx (.var 0) (.var 10)) (.lit (.int 2))) (.lit (.int 4))) .nil)))) (.cons (.ret (.tup (.cons (.sorted (.var 9)) (.cons (.sorted (.var 4)) .nil)))) .nil))))) := rfl
abbrev duS (is : List Nat) (ns : List Nd) (i : Nat) (v5 v6 v7 v8 v9 : LV) : List LV := [.fz (.list (ns.map nodeD)), .fz (.list (is.map itemD)), .ow (.list (keysD ns i)), .ow (.list (keptD is ns i)), .ow (.list (filesD is ns i)), v5, v6, v7, v8, v9]
theorem plain_at {is : List Nat} {m : Nat} {t : List Nat} (hm : 4 ≤ m) (h3 : is.length ≤ 3) (hi : ∀ i ∈ is, i < 13) (ht : ∀ c ∈ t, c ∈ A7) (hl : t.length ≤ 999) : SIG m 19 [.list (is.map itemD), .str t] = some (.bool (mt (is.map partAt) t)) := by
  have := plain_ok is (m - is.length - 1) t (by omega) hi ht hl
  have e : m - is.length - 1 + is.length + 1 = m := by omega
  rw [e] at this
  exact this
theorem kind_at {k : Nat} (h : k < 16) : ([63, 112, 99, 63, 100, 63, 98, 63, 45, 63, 108, 63, 115, 63, 63, 63] : List Nat)[k]? = some (kindSign k) := by
  unfold kindSign
  rw [List.getElem?_eq_getElem (by simpa using h)]; rfl
theorem due_ok {is : List Nat} (n : Nat) (w : WF ns) (h3 : is.length ≤ 3) (hi : ∀ i ∈ is, i < 13) {a b : List D} (ha : sortOp (headsD is ns) = some a) (hb : sortOp (filesD is ns (ns.length - 1)) = some b) : SIG (n + 5) 20 [.list (ns.map nodeD), .list (is.map itemD)] = some (.tup [.list a, .list b]) := by
  rw [sg20]
  have hl := len_pos w
  obtain ⟨σ', e, v5, v6, v7, v8, ⟨k5, k6, k7, k8⟩, rfl⟩ := forGo_inv (bind := bindT [5, 6, 7, 8]) (body := fun σ => exSs gl (SIG (n + 4)) duBody σ) (l := (ns.drop 1).map nodeD)
    (fun i σ => ∃ v5 v6 v7 v8, (LV.kill 9 v5 = v5 ∧ LV.kill 9 v6 = v6 ∧ LV.kill 9 v7 = v7 ∧ LV.kill 9 v8 = v8) ∧ σ = duS is ns i v5 v6 v7 v8 .un) (by
      rintro i hi' σ ⟨v5, v6, v7, v8, _, rfl⟩
      obtain ⟨e1, hi'⟩ := drop_get hi'
      have o := w.ok (i := i + 1) (by omega) hi'
      refine ⟨duS is ns i (.fz (natD (nd ns (i + 1)).above)) (.fz (.str (nd ns (i + 1)).name)) (.fz (natD (nd ns (i + 1)).kind)) (.fz (natD (nd ns (i + 1)).rights)) .un, duS is ns (i + 1) (.fz (natD (nd ns (i + 1)).above)) (.fz (.str (nd ns (i + 1)).name)) (.fz (natD (nd ns (i + 1)).kind)) (.fz (natD (nd ns (i + 1)).rights)) .un, by rw [e1]; rfl, ?_, _, _, _, _, ⟨rfl, rfl, rfl, rfl⟩, rfl⟩
      have hlt := o.lt
      have hkl : (keysD ns i).length = i + 1 := by simp [keysD]
      have hpl : (keptD is ns i).length = i + 1 := by simp [keptD]
      have hfl : (filesD is ns i).length ≤ i := by
        have := List.length_filter_le (KE is ns) (List.range' 1 i)
        simp [filesD] at this ⊢; omega
      have hK := (K_ok w (nd ns (i + 1)).above (by omega)).2
      have hs := o.short
      have e2 : keysD ns i ++ [.str (K ns (i + 1))] = keysD ns (i + 1) := range_app (fun j => .str (K ns j)) (i + 1)
      have e3 : keptD is ns i ++ [.bool (KE is ns (i + 1))] = keptD is ns (i + 1) := range_app (fun j => .bool (KE is ns j)) (i + 1)
      refine stN (s_appnd (d := .str (K ns (i + 1))) (t := .fz) ?_ rfl rfl (by omega)) ?_
      · rw [K_succ w (by omega) hi']
        exact e_bin (e_bin (e_idx (e_own rfl) (e_var (d := natD (nd ns (i + 1)).above) rfl) (idx_nat (range_get _ (by omega)) (by omega))) (e_lit _) (add_str (by simp; omega))) (e_var rfl) (add_str (by simp; omega))
      refine stN (s_appnd (d := .bool (KE is ns (i + 1))) (t := .fz) ?_ rfl rfl (by omega)) ?_
      · rw [KE_succ w (by omega) hi']
        exact e_andB (e_idx (e_own rfl) (e_var (d := natD (nd ns (i + 1)).above) rfl) (idx_nat (range_get _ (by omega)) (by omega))) (fun _ => e_not (e_call2 (e_var rfl) (e_var rfl) (plain_at (by omega) h3 hi o.abc (by omega))) rfl)
      have hc : ∀ σ : List LV, σ[3]? = some (.ow (.list (keptD is ns i ++ [.bool (KE is ns (i + 1))]))) → evE gl (SIG (n + 4)) (.idx (.var 3) (.neg (.lit (.int 1)))) σ = some (.bool (KE is ns (i + 1)), .fz) := fun σ h => e_idx (e_own h) (e_neg (e_lit _)) (idx_last _ _)
      refine stN (σ' := duS is ns (i + 1) (.fz (natD (nd ns (i + 1)).above)) (.fz (.str (nd ns (i + 1)).name)) (.fz (natD (nd ns (i + 1)).kind)) (.fz (natD (nd ns (i + 1)).rights)) .un) ?_ rfl
      refine (s_ite (hc _ rfl) rfl).trans ?_
      have e4 : filesD is ns (i + 1) = if KE is ns (i + 1) then filesD is ns i ++ [fileD ns (i + 1)] else filesD is ns i := by
        unfold filesD
        rw [List.range'_1_concat, List.filter_append, List.map_append, Nat.add_comm 1 i]
        cases hke : KE is ns (i + 1) <;> simp [hke]
      cases hke : KE is ns (i + 1) with
      | true =>
        rw [if_pos rfl]
        refine stN (s_appnd (d := fileD ns (i + 1)) (t := .fz) (e_tup (es_cons (e_idx (e_own rfl) (e_neg (e_lit _)) (idx_last _ _)) rfl (es_cons (e_idx (e_lit _) (e_var (d := natD (nd ns (i + 1)).kind) rfl) (idx_str (kind_at o.kind) (by have := o.kind; omega))) rfl (es_cons (e_var (d := natD (nd ns (i + 1)).rights) rfl) rfl es_nil)))) rfl rfl (by omega)) ?_
        rw [hke, if_pos rfl] at e4
        rw [hke] at e3
        unfold duS
        rw [e2, e3, e4]; rfl
      | false =>
        rw [if_neg (by decide)]
        rw [hke, if_neg (by decide)] at e4
        rw [hke] at e3
        unfold duS
        rw [e2, e3, e4]; rfl) (σ := duS is ns 0 .un .un .un .un .un) ⟨_, _, _, _, ⟨rfl, rfl, rfl, rfl⟩, rfl⟩
  have hdl : ((ns.drop 1).map nodeD).length = ns.length - 1 := by simp
  rw [hdl] at e
  refine runFun_of rfl (σ := duS is ns (ns.length - 1) v5 v6 v7 v8 (.ow (.list (headsD is ns)))) ?_
  show exSs gl (SIG (n + 4)) F_law_due.body [.fz (.list (ns.map nodeD)), .fz (.list (is.map itemD)), .un, .un, .un, .un, .un, .un, .un, .un] = _
  rw [du_body]
  refine stN (s_fresh (e_lst (es_cons (e_lit _) rfl es_nil))) (stN (s_fresh (e_lst (es_cons (e_lit _) rfl es_nil))) (stN (s_fresh (e_lst es_nil)) ?_))
  show exSs gl (SIG (n + 4)) _ (duS is ns 0 .un .un .un .un .un) = _
  refine stN (σ' := duS is ns (ns.length - 1) v5 v6 v7 v8 .un) ?_ ?_
  · refine (s_forT (e_slFrom (e_var rfl) (e_lit _) (nodes_tail w)) rfl).trans ?_
    rw [e]; rfl
  · have hlast : ns.length - 1 + 1 = ns.length := by omega
    refine stN (σ' := duS is ns (ns.length - 1) v5 v6 v7 v8 (.ow (.list (headsD is ns)))) ?_ ?_
    · refine (s_fresh (d := .list (headsD is ns)) (e_compRI (n := (ns.length : Int)) (l := ((List.range ns.length).filter fun i => KE is ns i && (nd ns i).kind == 4).map natD) (e_len (x := .list (ns.map nodeD)) (e_var rfl) (by rw [len_list (by rw [List.length_map]; omega), List.length_map])) (by omega) ?_ ?_)).trans ?_
      · rw [rangeL_nat]
        refine filterE_map (h := natD) fun i hi => ?_
        have hi : i < ns.length := by simpa using hi
        have : evE gl (SIG (n + 4)) (.and (.idx (.var 3) (.var 10)) (.cons (.cmp .eq (.idx (.idx (.var 0) (.var 10)) (.lit (.int 2))) (.lit (.int 4))) .nil)) (duS is ns (ns.length - 1) v5 v6 v7 v8 .un ++ [LV.fz (natD i)]) = some (.bool (KE is ns i && (nd ns i).kind == 4), .fz) := by
          refine e_andB (e_idx (e_own rfl) (e_var (d := natD i) rfl) (idx_nat (range_get _ (by omega)) (by omega))) (fun _ => e_cmp (x := natD (nd ns i).kind) (e_idx (e_idx (e_var rfl) (e_var (d := natD i) rfl) (idx_nat (d := nodeD (nd ns i)) (by rw [List.getElem?_map, nd_get hi]; rfl) (by omega))) (e_lit _) rfl) (e_lit _) ?_)
          show some ((((nd ns i).kind : Nat) : Int) == (4 : Int)) = _
          congr 1
          rw [Bool.eq_iff_iff]
          simp only [beq_iff_eq]
          omega
        rw [this]; rfl
      · refine mapE_map (h := natD) fun i hi => ?_
        have hi : i < ns.length := by simpa using (List.mem_filter.mp hi).1
        have : evE gl (SIG (n + 4)) (.idx (.var 2) (.var 10)) (duS is ns (ns.length - 1) v5 v6 v7 v8 .un ++ [LV.fz (natD i)]) = some (.str (K ns i), .fz) := e_idx (e_own rfl) (e_var (d := natD i) rfl) (idx_nat (range_get (fun j => .str (K ns j)) (by omega)) (by omega))
        rw [this]; rfl
      · show some (Fl.next, [_, _, _, _, _, LV.kill 9 v5, LV.kill 9 v6, LV.kill 9 v7, LV.kill 9 v8, _]) = _
        rw [k5, k6, k7, k8]; rfl
    · exact seqR (s_ret (t := .fz) (e_tup (es_cons (e_sorted (e_own rfl) ha) rfl (es_cons (e_sorted (e_own rfl) hb) rfl es_nil))))
end
end Mine
end
section
set_option autoImplicit false
set_option maxRecDepth 100000
namespace Mine
open PySem PySem.W

section
variable {is : List Nat} {ns : List Nd} {base : List Nat}
theorem collapse_mem {x : Option (List Nat)} : ∀ {l : List (Option (List Nat))}, x ∈ collapse l → x ∈ l
  | [], h => h
  | none :: none :: r, h => by
    rw [collapse] at h
    exact List.mem_cons_of_mem _ (collapse_mem h)
  | none :: some p :: r, h => by
    have e : collapse (none :: some p :: r) = none :: collapse (some p :: r) := by rw [collapse]; simp
    rw [e] at h
    rcases List.mem_cons.mp h with q | q
    · rw [q]; simp
    · exact List.mem_cons_of_mem _ (collapse_mem q)
  | [none], h => h
  | some p :: r, h => by
    have e : collapse (some p :: r) = some p :: collapse r := by rw [collapse]; simp
    rw [e] at h
    rcases List.mem_cons.mp h with q | q
    · rw [q]; simp
    · exact List.mem_cons_of_mem _ (collapse_mem q)
theorem part_all {i : Nat} (h : i < 13) {s : List Nat} (hs : partAt i = some s) : s.all (· < 1114112) = true := by
  match i, h with
  | 0, _ | 1, _ | 2, _ | 3, _ | 4, _ | 5, _ | 6, _ | 7, _ | 8, _ | 9, _ | 10, _ | 11, _ | 12, _ => cases hs <;> decide
theorem takes_at {n : Nat} {t : List Nat} (hi : ∀ i ∈ is, i < 13) (ht : ∀ c ∈ t, c ∈ A7) (hl : t.length ≤ 999) : SIG (n + 2) 15 [.list ((collapse (is.map partAt)).map partD1), .str t] = some (.bool (mt (is.map partAt) t)) := by
  rw [takes_ok hl, mt_collapse]
  intro s hs
  obtain ⟨i, him, he⟩ := List.mem_map.mp (collapse_mem hs)
  exact ⟨part_all (hi i him) he, fun c hc => (fits_ok (hi i him) he (ht c hc)).1⟩
theorem dict_get (w : WF ns) (b : BaseOK base) {j : Nat} (h1 : 1 ≤ j) (hj : j < ns.length) : idxOp (.dict (entries base ns (ns.length - 1))) (.str (P base ns j)) = some (natD (modeOf (nd ns j).kind (nd ns j).rights)) := by
  have key : ∀ l : List Nat, (∀ i ∈ l, i < ns.length) → j ∈ l → (l.map (entry base ns)).find? (·.1 == P base ns j) = some (entry base ns j) := by
    intro l
    induction l with
    | nil => intro _ h; cases h
    | cons i r ih =>
      intro ha hm
      rw [List.map_cons, List.find?_cons]
      by_cases e : i = j
      · subst e
        have : ((entry base ns i).1 == P base ns i) = true := beq_iff_eq.mpr rfl
        rw [this]
      · have : ((entry base ns i).1 == P base ns j) = false := by
          rw [beq_eq_false_iff_ne]
          exact fun q => e (P_inj w b i j (ha i (by simp)) hj q)
        rw [this]
        exact ih (fun x hx => ha x (by simp [hx])) (by
          rcases List.mem_cons.mp hm with q | q
          · exact absurd q.symm e
          · exact q)
  show ((entries base ns (ns.length - 1)).find? (·.1 == P base ns j)).map (·.2) = _
  rw [entries, key _ (fun i hi => by have := List.mem_range'_1.mp hi; omega) (List.mem_range'_1.mpr (by omega))]
  rfl
def kidB (is : List Nat) (ns : List Nd) (w j : Nat) : Bool := (nd ns j).above == w && okN is (nd ns j)
def dirB (ns : List Nd) (j : Nat) : Bool := (nd ns j).kind == 4
def kidsTo (is : List Nat) (ns : List Nd) (w i : Nat) : List Nat := (List.range' 1 i).filter (kidB is ns w)
def kids (is : List Nat) (ns : List Nd) (w : Nat) : List Nat := kidsTo is ns w (ns.length - 1)
def dirs (is : List Nat) (ns : List Nd) (w : Nat) : List Nat := (kids is ns w).filter (dirB ns)
def rowT (ns : List Nd) (j : Nat) : List Nat := kindSign (nd ns j).kind :: (sgn9 (nd ns j).rights ++ (32 :: (nd ns j).name))
def block (is : List Nat) (ns : List Nd) (base : List Nat) (w : Nat) : List (List Nat) := (P base ns w ++ [58]) :: ((kids is ns w).map (rowT ns) ++ [[]])
theorem sgn9_len (r : Nat) : (sgn9 r).length = 9 := rfl
def liIn : PSs := .cons (.assign 9 (.call 8 (.cons (.var 8) .nil)))
      (.cons (.ite (.and (.cmp .eq (.call 9 (.cons (.var 8) .nil)) (.var 6)) (.cons (.not (.call 15 (.cons (.var 3) (.cons (.var 9) .nil)))) .nil)) (
        (.cons (.appnd 4 (.bin .add (.bin .add (.call 2 (.cons (.idx (.var 1) (.var 8)) .nil)) (.lit (.str [32]))) (.var 9)))
        (.cons (.ite (.call 1 (.cons (.idx (.var 1) (.var 8)) .nil)) (
          (.cons (.appnd 7 (.var 8)) .nil)) .nil) .nil))) .nil) .nil)
def liOut : PSs := .cons (.assign 6 (.idx (.var 5) (.lit (.int 0))))
    (.cons (.appnd 4 (.bin .add (.var 6) (.lit (.str [58]))))
    (.cons (.assign 7 (.lst .nil))
    (.cons (.forE 8 (.var 1) liIn .nil)
    (.cons (.appnd 4 (.lit (.str [])))
    (.cons (.assign 5 (.bin .add (.var 7) (.slFrom (.var 5) (.lit (.int 1))))) .nil)))))
theorem li_body : F_law_listing.body = .cons (.assign 3 (.call 4 (.cons (.var 2) (.cons (.lst (.cons (.lit (.str [115, 116, 97, 114])) .nil)) (.cons (.lit (.str [46])) .nil)))))
  (.cons (.assign 4 (.lst .nil))
  (.cons (.assign 5 (.lst (.cons (.var 0) .nil)))
  (.cons (.while_ 1000 (.cmp .ne (.var 5) (.lst .nil)) liOut)
  (.cons (.ret (.meth .join (.lit (.str [10])) (.cons (.var 4) .nil))) .nil)))) := rfl
def strsD (l : List (List Nat)) : List D := l.map .str
def pathD (base : List Nat) (ns : List Nd) (l : List Nat) : List D := l.map fun j => .str (P base ns j)
abbrev liS (is : List Nat) (ns : List Nd) (base pat : List Nat) (R : List (List Nat)) (W : List Nat) (v6 v7 v8 v9 : LV) : List LV := [.fz (.str base), .fz (.dict (entries base ns (ns.length - 1))), .fz (.str pat), .fz (.list ((collapse (is.map partAt)).map partD1)), .ow (.list (strsD R)), .ow (.list (pathD base ns W)), v6, v7, v8, v9]
theorem li_in {n : Nat} (w : WF ns) (b : BaseOK base) (hi : ∀ i ∈ is, i < 13) {pat : List Nat} {R : List (List Nat)} {W : List Nat} {x : Nat} (hx : x < ns.length) (hR : R.length ≤ 1000) (v8 v9 : LV) (n8 : noApp v8 = true) (n9 : noApp v9 = true) : ∃ w8 w9, noApp w8 = true ∧ noApp w9 = true ∧
    forGo (fun d σ => some (σ.set 8 (.fz d))) (fun σ => exSs gl (SIG (n + 4)) liIn σ) ((entries base ns (ns.length - 1)).map fun p => .str p.1) (liS is ns base pat R W (.fz (.str (P base ns x))) (.ow (.list [])) v8 v9) = some (.next, liS is ns base pat (R ++ (kids is ns x).map (rowT ns)) W (.fz (.str (P base ns x))) (.ow (.list (pathD base ns (dirs is ns x)))) w8 w9) := by
  have hl := len_pos w
  obtain ⟨σ', e, w8, w9, m8, m9, rfl⟩ := forGo_inv (bind := fun d σ => some (σ.set 8 (.fz d))) (body := fun σ => exSs gl (SIG (n + 4)) liIn σ) (l := (entries base ns (ns.length - 1)).map fun p => .str p.1)
    (fun i σ => ∃ v8 v9, noApp v8 = true ∧ noApp v9 = true ∧ σ = liS is ns base pat (R ++ (kidsTo is ns x i).map (rowT ns)) W (.fz (.str (P base ns x))) (.ow (.list (pathD base ns ((kidsTo is ns x i).filter (dirB ns))))) v8 v9) (by
      rintro i hi' σ ⟨v8, v9, _, _, rfl⟩
      have hi' : i < ns.length - 1 := by simpa [entries] using hi'
      have e1 : ((entries base ns (ns.length - 1)).map fun p => D.str p.1)[i]? = some (.str (P base ns (i + 1))) := by
        rw [entries, List.map_map, List.getElem?_map, List.getElem?_range' hi']
        show some (D.str (P base ns (1 + 1 * i))) = _
        rw [Nat.one_mul, Nat.add_comm]
      have e1' : ((entries base ns (ns.length - 1)).map fun p => D.str p.1)[i]'(by simpa [entries] using hi') = .str (P base ns (i + 1)) := by
        apply Option.some.inj
        rw [← List.getElem?_eq_getElem, e1]
      generalize hj : i + 1 = j at *
      have hj1 : 1 ≤ j := by omega
      have hjl : j < ns.length := by omega
      have o := w.ok hj1 hjl
      have hlt := o.lt
      have p := P_ok w b j hjl
      have pa := P_ok w b (nd ns j).above (by omega)
      have px := P_ok w b x hx
      have hpl := p.short
      have hpj : P base ns j = preOf (P base ns (nd ns j).above) ++ (nd ns j).name := P_succ w hj1 hjl
      have hb1 : SIG (n + 4) 8 [.str (P base ns j)] = some (.str (nd ns j).name) := by
        rw [hpj] at hpl ⊢
        exact base_ok (n := n + 2) (pre_ends _) (A7_47 o.abc) (by omega)
      have hd1 : SIG (n + 4) 9 [.str (P base ns j)] = some (.str (P base ns (nd ns j).above)) := by
        rw [hpj] at hpl ⊢
        rw [dir_ok (n := n + 2) (pre_ends _) (A7_47 o.abc) (by omega) (pre_all pa.abc), dir_pre pa.vf]
      have hs := o.short
      have ht := takes_at (n := n + 2) hi o.abc (by omega : (nd ns j).name.length ≤ 999)
      have hkl : (kidsTo is ns x i).length ≤ i := by
        have := List.length_filter_le (kidB is ns x) (List.range' 1 i)
        simpa [kidsTo] using this
      have hk : kidsTo is ns x j = if kidB is ns x j then kidsTo is ns x i ++ [j] else kidsTo is ns x i := by
        subst hj
        unfold kidsTo
        rw [List.range'_1_concat, List.filter_append, Nat.add_comm 1 i]
        cases h : kidB is ns x (i + 1) <;> simp [h]
      refine ⟨liS is ns base pat (R ++ (kidsTo is ns x i).map (rowT ns)) W (.fz (.str (P base ns x))) (.ow (.list (pathD base ns ((kidsTo is ns x i).filter (dirB ns))))) (.fz (.str (P base ns j))) v9, liS is ns base pat (R ++ (kidsTo is ns x j).map (rowT ns)) W (.fz (.str (P base ns x))) (.ow (.list (pathD base ns ((kidsTo is ns x j).filter (dirB ns))))) (.fz (.str (P base ns j))) (.fz (.str (nd ns j).name)), by rw [e1']; rfl, ?_, _, _, rfl, rfl, rfl⟩
      refine stN (s_assign (e_call1 (e_var rfl) hb1)) ?_
      have hc : evE gl (SIG (n + 4)) (.and (.cmp .eq (.call 9 (.cons (.var 8) .nil)) (.var 6)) (.cons (.not (.call 15 (.cons (.var 3) (.cons (.var 9) .nil)))) .nil)) (liS is ns base pat (R ++ (kidsTo is ns x i).map (rowT ns)) W (.fz (.str (P base ns x))) (.ow (.list (pathD base ns ((kidsTo is ns x i).filter (dirB ns))))) (.fz (.str (P base ns j))) (.fz (.str (nd ns j).name))) = some (.bool (kidB is ns x j), .fz) := by
        refine e_andB (p := (nd ns j).above == x) (q := okN is (nd ns j)) (e_cmp (e_call1 (e_var rfl) hd1) (e_var rfl) ?_) (fun _ => e_not (e_call2 (e_var rfl) (e_var rfl) ht) rfl)
        show (if ((P base ns (nd ns j).above).all (· < 1114112) && (P base ns x).all (· < 1114112)) = true then some (P base ns (nd ns j).above == P base ns x) else none) = _
        rw [pa.abc, px.abc]
        show some _ = some _
        congr 1
        rw [Bool.eq_iff_iff]
        simp only [beq_iff_eq]
        exact ⟨fun q => P_inj w b _ _ (by omega) hx q, fun q => by rw [q]⟩
      refine stN (σ' := liS is ns base pat (R ++ (kidsTo is ns x j).map (rowT ns)) W (.fz (.str (P base ns x))) (.ow (.list (pathD base ns ((kidsTo is ns x j).filter (dirB ns))))) (.fz (.str (P base ns j))) (.fz (.str (nd ns j).name))) ?_ rfl
      refine (s_ite hc rfl).trans ?_
      cases hkb : kidB is ns x j with
      | false =>
        rw [if_neg (by decide)]
        rw [hkb, if_neg (by decide)] at hk
        rw [hk]; rfl
      | true =>
        rw [if_pos rfl]
        rw [hkb, if_pos rfl] at hk
        have hrow : fmSigns (modeOf (nd ns j).kind (nd ns j).rights) ++ [32] ++ (nd ns j).name = rowT ns j := by
          rw [fmSigns_mode o.kind o.rights]
          simp [rowT]
        have hg := dict_get w b hj1 hjl
        have hml : (fmSigns (modeOf (nd ns j).kind (nd ns j).rights)).length = 10 := rfl
        have hRl : (strsD (R ++ (kidsTo is ns x i).map (rowT ns))).length ≤ 1000000 := by
          simp [strsD]; omega
        refine stN (s_appnd (d := .str (rowT ns j)) (t := .fz) ?_ rfl rfl hRl) ?_
        · rw [← hrow]
          exact e_bin (e_bin (e_call1 (e_idx (e_var rfl) (e_var rfl) hg) (fm_ok (n + 2) _)) (e_lit _) (add_str (by rw [hml]; simp))) (e_var rfl) (add_str (by simp [hml]; omega))
        · have hdir : SIG (n + 4) 1 [natD (modeOf (nd ns j).kind (nd ns j).rights)] = some (.bool (dirB ns j)) := by
            have := isdir_ok (n + 2) (modeOf (nd ns j).kind (nd ns j).rights)
            rw [mode_fmt o.kind o.rights] at this
            refine this.trans ?_
            congr 2
            rw [Bool.eq_iff_iff]
            simp only [dirB, beq_iff_eq]
            omega
          have eR : strsD (R ++ (kidsTo is ns x i).map (rowT ns)) ++ [.str (rowT ns j)] = strsD (R ++ (kidsTo is ns x j).map (rowT ns)) := by
            rw [hk]; simp [strsD]
          rw [eR]
          refine stN (σ' := liS is ns base pat (R ++ (kidsTo is ns x j).map (rowT ns)) W (.fz (.str (P base ns x))) (.ow (.list (pathD base ns ((kidsTo is ns x j).filter (dirB ns))))) (.fz (.str (P base ns j))) (.fz (.str (nd ns j).name))) ?_ rfl
          refine (s_ite (e_call1 (e_idx (e_var rfl) (e_var rfl) hg) hdir) rfl).trans ?_
          have hdl : ((kidsTo is ns x i).filter (dirB ns)).length ≤ i := Nat.le_trans (List.length_filter_le _ _) hkl
          cases hdb : dirB ns j with
          | true =>
            rw [if_pos rfl]
            refine stN (s_appnd (d := .str (P base ns j)) (t := .fz) (e_var rfl) rfl rfl (by simp [pathD]; omega)) ?_
            have eD : pathD base ns ((kidsTo is ns x i).filter (dirB ns)) ++ [.str (P base ns j)] = pathD base ns ((kidsTo is ns x j).filter (dirB ns)) := by
              rw [hk]; simp [pathD, hdb]
            rw [eD]; rfl
          | false =>
            rw [if_neg (by decide)]
            have eD : (kidsTo is ns x i).filter (dirB ns) = (kidsTo is ns x j).filter (dirB ns) := by
              rw [hk]; simp [hdb]
            rw [eD]; rfl) (σ := liS is ns base pat R W (.fz (.str (P base ns x))) (.ow (.list [])) v8 v9) ⟨v8, v9, n8, n9, by simp [kidsTo, pathD]⟩
  refine ⟨w8, w9, m8, m9, ?_⟩
  rw [e]
  have : ((entries base ns (ns.length - 1)).map fun p => D.str p.1).length = ns.length - 1 := by simp [entries]
  rw [this]; rfl
end
end Mine
end
section
set_option autoImplicit false
set_option maxRecDepth 100000
namespace Mine
open PySem PySem.W

/-- the walk of the listing: what waits, what is visited from here on -/
inductive WalkR (is : List Nat) (ns : List Nd) : List Nat → List Nat → Prop
  | nil : WalkR is ns [] []
  | cons {w : Nat} {ws V : List Nat} (h : WalkR is ns (dirs is ns w ++ ws) V) : WalkR is ns (w :: ws) (w :: V)
section
variable {is : List Nat} {ns : List Nd} {base : List Nat}
theorem kids_lt {x j : Nat} (w : WF ns) (h : j ∈ kids is ns x) : 1 ≤ j ∧ j < ns.length ∧ (nd ns j).above = x ∧ okN is (nd ns j) = true := by
  have hl := len_pos w
  obtain ⟨h1, h2⟩ := List.mem_filter.mp h
  have h1 := List.mem_range'_1.mp h1
  unfold kidB at h2
  simp only [Bool.and_eq_true, beq_iff_eq] at h2
  exact ⟨by omega, by omega, h2.1, h2.2⟩
theorem kids_len (w : WF ns) (x : Nat) : (kids is ns x).length ≤ 7 := by
  have hl := len_pos w
  have := List.length_filter_le (kidB is ns x) (List.range' 1 (ns.length - 1))
  have : (kids is ns x).length ≤ ns.length - 1 := by simpa [kids, kidsTo] using this
  omega
theorem dirs_kids {x j : Nat} (h : j ∈ dirs is ns x) : j ∈ kids is ns x ∧ (nd ns j).kind = 4 := by
  obtain ⟨h1, h2⟩ := List.mem_filter.mp h
  exact ⟨h1, by simpa [dirB] using h2⟩
theorem block_len (w : WF ns) (x : Nat) : (block is ns base x).length ≤ 9 := by
  have := kids_len (is := is) w x
  simp [block]; omega
theorem okPaths (w : WF ns) (b : BaseOK base) {W : List Nat} (h : ∀ x ∈ W, x < ns.length) (n : Nat) : D.okEqs n (pathD base ns W) = true := okEqs_str n (P base ns) W fun x hx => (P_ok w b x (h x hx)).abc
theorem li_test {Sg : Sig} (w : WF ns) (b : BaseOK base) {pat : List Nat} {R : List (List Nat)} {W : List Nat} (h : ∀ x ∈ W, x < ns.length) (v6 v7 v8 v9 : LV) : (evE gl Sg (.cmp .ne (.var 5) (.lst .nil)) (liS is ns base pat R W v6 v7 v8 v9)).bind (fun x => truth x.1) = some (!W.isEmpty) := by
  have : evE gl Sg (.cmp .ne (.var 5) (.lst .nil)) (liS is ns base pat R W v6 v7 v8 v9) = some (.bool (!W.isEmpty), .fz) := by
    refine e_cmp (e_own rfl) (e_lst es_nil) ?_
    show (if (D.okEqs 7 (pathD base ns W) && true) = true then some (!D.beqs (pathD base ns W) []) else none) = _
    rw [okPaths w b h]
    cases W <;> rfl
  rw [this]; rfl
theorem li_out {n : Nat} (w : WF ns) (b : BaseOK base) (hi : ∀ i ∈ is, i < 13) {pat : List Nat} {R : List (List Nat)} {x : Nat} {W : List Nat} (hx : ∀ y ∈ x :: W, y < ns.length) (hWl : W.length ≤ 100) (hR : R.length ≤ 500) (v6 v7 v8 v9 : LV) (n6 : noApp v6 = true) (n8 : noApp v8 = true) (n9 : noApp v9 = true) : ∃ w6 w7 w8 w9, noApp w6 = true ∧ noApp w8 = true ∧ noApp w9 = true ∧
    exSs gl (SIG (n + 4)) liOut (liS is ns base pat R (x :: W) v6 v7 v8 v9) = some (.next, liS is ns base pat (R ++ block is ns base x) (dirs is ns x ++ W) w6 w7 w8 w9) := by
  have hxl := hx x (by simp)
  have px := P_ok w b x hxl
  have hps := px.short
  have hl := len_pos w
  have hkl := kids_len (is := is) w x
  obtain ⟨w8, w9, m8, m9, e⟩ := li_in (n := n) w b hi (pat := pat) (R := R ++ [P base ns x ++ [58]]) (W := x :: W) hxl (by simp; omega) v8 v9 n8 n9
  have hRl : (strsD R).length ≤ 500 := by simpa [strsD] using hR
  refine ⟨.fz (.str (P base ns x)), .ow (.list (pathD base ns (dirs is ns x))), w8, w9, rfl, m8, m9, ?_⟩
  unfold liOut
  refine stN (s_assign (d := .str (P base ns x)) (e_idx (e_own rfl) (e_lit _) rfl)) ?_
  refine stN (s_appnd (d := .str (P base ns x ++ [58])) (t := .fz) (e_bin (e_var rfl) (e_lit _) (add_str (by simp; omega))) rfl rfl (by omega)) ?_
  have eR : strsD R ++ [.str (P base ns x ++ [58])] = strsD (R ++ [P base ns x ++ [58]]) := by simp [strsD]
  rw [eR]
  refine stN (σ' := liS is ns base pat (R ++ [P base ns x ++ [58]]) (x :: W) (.fz (.str (P base ns x))) (.ow (.list [])) v8 v9) ?_ ?_
  · refine (s_fresh (e_lst es_nil)).trans ?_
    show some (Fl.next, [_, _, _, _, _, _, _, _, LV.kill 7 v8, LV.kill 7 v9]) = _
    rw [kill_of n8, kill_of n9]; rfl
  refine stN (σ' := liS is ns base pat (R ++ [P base ns x ++ [58]] ++ (kids is ns x).map (rowT ns)) (x :: W) (.fz (.str (P base ns x))) (.ow (.list (pathD base ns (dirs is ns x)))) w8 w9) ?_ ?_
  · refine (s_forE (e_var rfl) (l := (entries base ns (ns.length - 1)).map fun p => .str p.1) rfl).trans ?_
    rw [e]; rfl
  refine stN (s_appnd (d := .str []) (t := .fz) (e_lit _) rfl rfl (by simp [strsD]; omega)) ?_
  have eB : strsD (R ++ [P base ns x ++ [58]] ++ (kids is ns x).map (rowT ns)) ++ [.str []] = strsD (R ++ block is ns base x) := by simp [strsD, block]
  rw [eB]
  have hdl : (dirs is ns x).length ≤ 7 := Nat.le_trans (List.length_filter_le _ _) hkl
  refine stN (σ' := liS is ns base pat (R ++ block is ns base x) (dirs is ns x ++ W) (.fz (.str (P base ns x))) (.ow (.list (pathD base ns (dirs is ns x)))) w8 w9) ?_ rfl
  refine (s_fresh (d := .list (pathD base ns (dirs is ns x ++ W))) (e_bin (e_own rfl) (e_slFrom (e_own rfl) (e_lit _) (sl_tail (.str (P base ns x)) (pathD base ns W) (by simp [pathD]; omega))) ?_)).trans ?_
  · show (if (pathD base ns (dirs is ns x)).length + (pathD base ns W).length ≤ 1000000 then some (D.list (pathD base ns (dirs is ns x) ++ pathD base ns W), Tag.fresh) else none) = _
    rw [if_pos (by simp [pathD]; omega)]
    simp [pathD]
  · show some (Fl.next, [_, _, _, _, _, _, _, _, LV.kill 5 w8, LV.kill 5 w9]) = _
    rw [kill_of m8, kill_of m9]; rfl
theorem li_run {n : Nat} (w : WF ns) (b : BaseOK base) (hi : ∀ i ∈ is, i < 13) {pat : List Nat} {W V : List Nat} (hV : WalkR is ns W V) : ∀ (R : List (List Nat)) (f : Nat), (∀ y ∈ W, y < ns.length) → W.length + 8 * V.length ≤ 100 → R.length + 9 * V.length ≤ 500 → V.length < f → ∀ (v6 v7 v8 v9 : LV), noApp v6 = true → noApp v8 = true → noApp v9 = true → ∃ w6 w7 w8 w9,
    whileGo (fun σ => (evE gl (SIG (n + 4)) (.cmp .ne (.var 5) (.lst .nil)) σ).bind fun x => truth x.1) (fun σ => exSs gl (SIG (n + 4)) liOut σ) f (liS is ns base pat R W v6 v7 v8 v9) = some (.next, liS is ns base pat (R ++ V.flatMap (block is ns base)) [] w6 w7 w8 w9) := by
  induction hV with
  | nil =>
    intro R f _ _ _ hf v6 v7 v8 v9 _ _ _
    cases f with
    | zero => omega
    | succ f =>
      refine ⟨v6, v7, v8, v9, ?_⟩
      rw [whileGo_end (li_test w b (by simp) _ _ _ _)]
      simp
  | @cons x ws V h ih =>
    intro R f hW hWl hR hf v6 v7 v8 v9 n6 n8 n9
    cases f with
    | zero => omega
    | succ f =>
      simp only [List.length_cons] at hWl hR hf
      obtain ⟨x6, x7, x8, x9, m6, m8, m9, e⟩ := li_out (n := n) w b hi (pat := pat) (R := R) hW (by omega) (by omega) v6 v7 v8 v9 n6 n8 n9
      have hbl := block_len (is := is) (base := base) w x
      have hdl : (dirs is ns x).length ≤ 7 := Nat.le_trans (List.length_filter_le _ _) (kids_len w x)
      obtain ⟨w6, w7, w8, w9, e'⟩ := ih (R ++ block is ns base x) f (by
        intro y hy
        rcases List.mem_append.mp hy with q | q
        · exact (kids_lt w (dirs_kids q).1).2.1
        · exact hW y (by simp [q])) (by simp; omega) (by simp; omega) (by omega) x6 x7 x8 x9 m6 m8 m9
      refine ⟨w6, w7, w8, w9, ?_⟩
      rw [whileGo_next (li_test w b hW _ _ _ _) e, e']
      simp
theorem joinL_len {s : List Nat} {B : Nat} : ∀ l : List (List Nat), (∀ x ∈ l, x.length ≤ B) → (joinL s l).length ≤ l.length * (B + s.length)
  | [], _ => by simp [joinL]
  | [x], h => by
    have := h x (by simp)
    simp [joinL]; omega
  | x :: y :: r, h => by
    have h1 := h x (by simp)
    have h2 := joinL_len (s := s) (y :: r) (fun z hz => h z (List.mem_cons_of_mem _ hz))
    show (x ++ s ++ joinL s (y :: r)).length ≤ (r.length + 1 + 1) * _
    rw [List.length_append, List.length_append, Nat.succ_mul]
    simp only [List.length_cons] at h2
    omega
theorem strsOf_strsD : ∀ l : List (List Nat), strsOf (strsD l) = some l
  | [] => rfl
  | x :: r => by
    show (strsOf (strsD r)).map _ = _
    rw [strsOf_strsD r]; rfl
theorem block_row (w : WF ns) (b : BaseOK base) {x : Nat} (hx : x < ns.length) : ∀ r ∈ block is ns base x, r.length ≤ 200 ∧ 10 ∉ r := by
  intro r hr
  have p := P_ok w b x hx
  have hl := len_pos w
  unfold block at hr
  rcases List.mem_cons.mp hr with q | q
  · have := p.short
    have hn := p.nl
    subst q
    exact ⟨by simp; omega, by simp [hn]⟩
  · rcases List.mem_append.mp q with q | q
    · obtain ⟨j, hj, rfl⟩ := List.mem_map.mp q
      obtain ⟨h1, h2, _, _⟩ := kids_lt w hj
      have o := w.ok h1 h2
      have hs := o.short
      have hn := A7_10 o.abc
      refine ⟨by simp [rowT, sgn9_len]; omega, ?_⟩
      have hk : ∀ k < 16, kindSign k ≠ 10 := by decide
      have h9 : 10 ∉ sgn9 (nd ns j).rights := by
        rw [sgn9_bits]
        have a1 : ∀ p, rS p ≠ 10 := by decide
        have a2 : ∀ p, wS p ≠ 10 := by decide
        have a3 : ∀ p q, xS 115 83 0 p q ≠ 10 := by decide
        have a4 : ∀ p q, xS 116 84 0 p q ≠ 10 := by decide
        simp only [List.mem_cons, List.not_mem_nil, or_false, not_or]
        exact ⟨(a1 _).symm, (a2 _).symm, (a3 _ _).symm, (a1 _).symm, (a2 _).symm, (a3 _ _).symm, (a1 _).symm, (a2 _).symm, (a4 _ _).symm⟩
      simp only [rowT, List.mem_cons, List.mem_append, not_or]
      exact ⟨(hk _ o.kind).symm, h9, by decide, hn⟩
    · simp at q
      subst q
      exact ⟨by simp, by simp⟩
theorem rows_len (w : WF ns) (V : List Nat) : (V.flatMap (block is ns base)).length ≤ 9 * V.length := by
  induction V with
  | nil => simp
  | cons x r ih =>
    have := block_len (is := is) (base := base) w x
    rw [List.flatMap_cons, List.length_append, List.length_cons]; omega
theorem rows_row (w : WF ns) (b : BaseOK base) {V : List Nat} (hV : ∀ x ∈ V, x < ns.length) : ∀ r ∈ V.flatMap (block is ns base), r.length ≤ 200 ∧ 10 ∉ r := by
  intro r hr
  obtain ⟨x, hx, hm⟩ := List.mem_flatMap.mp hr
  exact block_row w b (hV x hx) r hm
theorem listing_ok {n : Nat} (w : WF ns) (b : BaseOK base) (h3 : is.length ≤ 3) (hi : ∀ i ∈ is, i < 13) {V : List Nat} (hV : WalkR is ns [0] V) (hVl : V.length ≤ 8) (hVm : ∀ x ∈ V, x < ns.length) : SIG (n + 5) 16 [.str base, .dict (entries base ns (ns.length - 1)), .str (is.map patAt).flatten] = some (.str (joinL [10] (V.flatMap (block is ns base)))) := by
  rw [sg16]
  have hl := len_pos w
  obtain ⟨w6, w7, w8, w9, e⟩ := li_run (n := n) w b hi (pat := (is.map patAt).flatten) hV [] 1000 (by simp; omega) (by simp; omega) (by simp; omega) (by omega) .un .un .un .un rfl rfl rfl
  have hrl := rows_len (is := is) (base := base) w V
  refine runFun_of rfl (σ := liS is ns base (is.map patAt).flatten (V.flatMap (block is ns base)) [] w6 w7 w8 w9) ?_
  rw [li_body]
  refine stN (s_assign (e_call (es_cons (e_var rfl) rfl (es_cons (e_lst (es_cons (e_lit _) rfl es_nil)) rfl (es_cons (e_lit _) rfl es_nil))) (tr_of h3 hi (n + 2)))) ?_
  refine stN (s_fresh (e_lst es_nil)) ?_
  refine stN (s_fresh (e_lst (es_cons (e_var rfl) rfl es_nil))) ?_
  refine stN (σ' := liS is ns base (is.map patAt).flatten (V.flatMap (block is ns base)) [] w6 w7 w8 w9) e ?_
  refine seqR (s_ret (t := .fz) (e_meth1 (e_lit _) (e_own rfl) (m_join (strsOf_strsD _) ?_ (by omega) (by simp))))
  have := joinL_len (s := [10]) (V.flatMap (block is ns base)) (B := 200) (fun r hr => (rows_row w b hVm r hr).1)
  simp only [List.length_singleton] at this
  omega
end
end Mine
end
section
set_option autoImplicit false
set_option maxRecDepth 100000
namespace Mine
open PySem PySem.W

section
variable {is : List Nat} {ns : List Nd}
/-- the walk's state: V visited, W waiting -/
structure Walking (is : List Nat) (ns : List Nd) (V W : List Nat) : Prop where
  nodup : (V ++ W).Nodup
  lt : ∀ x ∈ V ++ W, x < ns.length
  fold : ∀ x ∈ V ++ W, (nd ns x).kind = 4
  par : ∀ x ∈ V ++ W, x = 0 ∨ (1 ≤ x ∧ (nd ns x).above ∈ V ∧ okN is (nd ns x) = true)
  clos : ∀ v ∈ V, ∀ j ∈ dirs is ns v, j ∈ V ++ W
  zero : 0 ∈ V ++ W
theorem kids_nodup (x : Nat) : (kids is ns x).Nodup := by
  have : (List.range' 1 (ns.length - 1)).Nodup := List.nodup_range'
  exact List.Pairwise.filter _ this
theorem dirs_nodup (x : Nat) : (dirs is ns x).Nodup := List.Pairwise.filter _ (kids_nodup x)
theorem Walking.step (w : WF ns) {V W : List Nat} {x : Nat} (h : Walking is ns V (x :: W)) : Walking is ns (V ++ [x]) (dirs is ns x ++ W) := by
  have mem : ∀ y, y ∈ V ++ [x] ++ (dirs is ns x ++ W) ↔ y ∈ V ++ x :: W ∨ y ∈ dirs is ns x := by
    intro y
    simp only [List.mem_append, List.mem_cons, List.not_mem_nil, or_false]
    constructor
    · rintro ((q | q) | (q | q))
      · exact .inl (.inl q)
      · exact .inl (.inr (.inl q))
      · exact .inr q
      · exact .inl (.inr (.inr q))
    · rintro ((q | (q | q)) | q)
      · exact .inl (.inl q)
      · exact .inl (.inr q)
      · exact .inr (.inr q)
      · exact .inr (.inl q)
  obtain ⟨a1, a2, a3⟩ := List.nodup_append.mp h.nodup
  have hxV : x ∉ V := fun q => a3 x q x (by simp) rfl
  have fresh : ∀ y ∈ dirs is ns x, y ∉ V ++ x :: W := by
    intro y hy q
    obtain ⟨k1, k2, k3, k4⟩ := kids_lt w (dirs_kids hy).1
    rcases h.par y q with e | ⟨_, e, _⟩
    · omega
    · rw [k3] at e; exact hxV e
  refine ⟨?_, ?_, ?_, ?_, ?_, ?_⟩
  · rw [List.append_assoc]
    refine List.nodup_append.mpr ⟨a1, ?_, ?_⟩
    · show (x :: (dirs is ns x ++ W)).Nodup
      obtain ⟨b1, b2⟩ := List.nodup_cons.mp a2
      refine List.nodup_cons.mpr ⟨?_, List.nodup_append.mpr ⟨dirs_nodup x, b2, ?_⟩⟩
      · intro q
        rcases List.mem_append.mp q with q | q
        · exact fresh x q (by simp)
        · exact b1 q
      · intro a ha c hc e
        subst e
        exact fresh a ha (by simp [hc])
    · intro a ha c hc e
      subst e
      rcases List.mem_cons.mp hc with q | q
      · exact hxV (q ▸ ha)
      · have q : a ∈ dirs is ns x ++ W := q
        rcases List.mem_append.mp q with q | q
        · exact fresh a q (by simp [ha])
        · exact a3 a ha a (by simp [q]) rfl
  · intro y hy
    rcases (mem y).mp hy with q | q
    · exact h.lt y q
    · exact (kids_lt w (dirs_kids q).1).2.1
  · intro y hy
    rcases (mem y).mp hy with q | q
    · exact h.fold y q
    · exact (dirs_kids q).2
  · intro y hy
    rcases (mem y).mp hy with q | q
    · rcases h.par y q with e | ⟨e1, e2, e3⟩
      · exact .inl e
      · exact .inr ⟨e1, by simp [e2], e3⟩
    · obtain ⟨k1, k2, k3, k4⟩ := kids_lt w (dirs_kids q).1
      exact .inr ⟨k1, by simp [k3], k4⟩
  · intro v hv j hj
    rw [mem]
    rcases List.mem_append.mp hv with q | q
    · exact .inl (h.clos v q j hj)
    · simp at q
      subst q
      exact .inr hj
  · rw [mem]; exact .inl h.zero
theorem nodup_len {V : List Nat} {n : Nat} (h : V.Nodup) (hl : ∀ x ∈ V, x < n) : V.length ≤ n := by
  have := h.length_le_of_subset (l₂ := List.range n) (fun x hx => by simpa using hl x hx)
  simpa using this
theorem walk_run (w : WF ns) : ∀ (k : Nat) (V W : List Nat), Walking is ns V W → ns.length - V.length ≤ k → ∃ V', WalkR is ns W V' ∧ Walking is ns (V ++ V') []
  | k, V, [], h, _ => ⟨[], .nil, by rw [List.append_nil]; exact h⟩
  | 0, V, x :: W, h, hk => by
    have := nodup_len h.nodup h.lt
    simp at this; omega
  | k + 1, V, x :: W, h, hk => by
    have := nodup_len h.nodup h.lt
    simp at this
    obtain ⟨V', h1, h2⟩ := walk_run w k (V ++ [x]) (dirs is ns x ++ W) (h.step w) (by simp; omega)
    exact ⟨x :: V', .cons h1, by rw [List.append_assoc] at h2; exact h2⟩
theorem walk_total (w : WF ns) : ∃ V, WalkR is ns [0] V ∧ V.Nodup ∧ V.length ≤ 8 ∧ (∀ x ∈ V, x < ns.length) ∧ ∀ x, x ∈ V ↔ (x < ns.length ∧ (nd ns x).kind = 4 ∧ KE is ns x = true) := by
  have hl := len_pos w
  obtain ⟨V, h1, h2⟩ := walk_run (is := is) w ns.length [] [0] ⟨by simp, by simp; omega, by simp [w.root', rootN], by simp, by simp, by simp⟩ (by omega)
  simp only [List.nil_append] at h2
  have e : V ++ [] = V := List.append_nil V
  have hn := h2.nodup
  have hlt := h2.lt
  have hf := h2.fold
  have hp := h2.par
  have hc := h2.clos
  have hz := h2.zero
  rw [e] at hn hlt hf hp hz
  simp only [e] at hc
  have hlen := nodup_len hn hlt
  refine ⟨V, h1, hn, by omega, hlt, ?_⟩
  intro x
  induction x using Nat.strongRecOn with
  | _ x ih =>
    by_cases hx1 : 1 ≤ x
    · constructor
      · intro hx
        have hxl := hlt x hx
        refine ⟨hxl, hf x hx, ?_⟩
        rw [KE_succ w hx1 hxl]
        rcases hp x hx with q | ⟨_, q, ok⟩
        · omega
        · have := (ih _ (w.ok hx1 hxl).lt).mp q
          rw [this.2.2, ok]; rfl
      · rintro ⟨hxl, h4, hk⟩
        rw [KE_succ w hx1 hxl, Bool.and_eq_true] at hk
        have hlt' := (w.ok hx1 hxl).lt
        have ha := (ih _ hlt').mpr ⟨by omega, w.folder hx1 hxl, hk.1⟩
        refine hc _ ha x (List.mem_filter.mpr ⟨List.mem_filter.mpr ⟨List.mem_range'_1.mpr (by omega), ?_⟩, ?_⟩)
        · simp [kidB, hk.2]
        · simp [dirB, h4]
    · obtain rfl : x = 0 := by omega
      exact ⟨fun _ => ⟨by omega, by rw [w.root']; rfl, rfl⟩, fun _ => hz⟩
theorem heads_perm (w : WF ns) {V : List Nat} (hn : V.Nodup) (hV : ∀ x, x ∈ V ↔ (x < ns.length ∧ (nd ns x).kind = 4 ∧ KE is ns x = true)) : V.Perm ((List.range ns.length).filter fun i => KE is ns i && (nd ns i).kind == 4) := by
  refine (List.perm_ext_iff_of_nodup hn (List.Pairwise.filter _ List.nodup_range)).mpr fun x => ?_
  rw [hV, List.mem_filter, List.mem_range, Bool.and_eq_true, beq_iff_eq]
  exact ⟨fun ⟨a, b, c⟩ => ⟨a, c, b⟩, fun ⟨a, c, b⟩ => ⟨a, b, c⟩⟩
theorem files_perm (w : WF ns) {V : List Nat} (hn : V.Nodup) (hV : ∀ x, x ∈ V ↔ (x < ns.length ∧ (nd ns x).kind = 4 ∧ KE is ns x = true)) : (V.flatMap (kids is ns)).Perm ((List.range' 1 (ns.length - 1)).filter (KE is ns)) := by
  have hl := len_pos w
  refine (List.perm_ext_iff_of_nodup ?_ (List.Pairwise.filter _ List.nodup_range')).mpr fun x => ?_
  · refine List.pairwise_flatMap.mpr ⟨fun a _ => kids_nodup a, ?_⟩
    refine List.Pairwise.imp ?_ hn
    intro a b hab x hx y hy e
    subst e
    exact hab ((kids_lt w hx).2.2.1.symm.trans (kids_lt w hy).2.2.1)
  · rw [List.mem_flatMap, List.mem_filter, List.mem_range'_1]
    constructor
    · rintro ⟨v, hv, hx⟩
      obtain ⟨k1, k2, k3, k4⟩ := kids_lt w hx
      refine ⟨by omega, ?_⟩
      rw [KE_succ w k1 k2, k3, ((hV v).mp hv).2.2, k4]; rfl
    · rintro ⟨hx, hk⟩
      have hxl : x < ns.length := by omega
      rw [KE_succ w hx.1 hxl, Bool.and_eq_true] at hk
      refine ⟨(nd ns x).above, (hV _).mpr ⟨by have := (w.ok hx.1 hxl).lt; omega, w.folder hx.1 hxl, hk.1⟩, List.mem_filter.mpr ⟨List.mem_range'_1.mpr hx, ?_⟩⟩
      simp [kidB, hk.2]

/-- sorting -/
theorem ltL_irr : ∀ a : List Nat, ltL a a = false
  | [] => rfl
  | a :: x => by simp [ltL, ltL_irr x]
theorem ltL_asym : ∀ a b : List Nat, ltL a b = true → ltL b a = false
  | [], [], h => by cases h
  | [], _ :: _, _ => rfl
  | _ :: _, [], h => by cases h
  | a :: x, b :: y, h => by
    unfold ltL at h ⊢
    by_cases h1 : a < b
    · rw [if_neg (by omega), if_pos h1]
    · rw [if_neg h1] at h
      by_cases h2 : b < a
      · rw [if_pos h2] at h; cases h
      · rw [if_neg h2] at h
        rw [if_neg h2, if_neg h1]
        exact ltL_asym x y h
theorem ltL_tri : ∀ a b : List Nat, ltL a b = false → ltL b a = false → a = b
  | [], [], _, _ => rfl
  | [], _ :: _, h, _ => by cases h
  | _ :: _, [], _, h => by cases h
  | a :: x, b :: y, h, h' => by
    unfold ltL at h h'
    by_cases h1 : a < b
    · rw [if_pos h1] at h; cases h
    · by_cases h2 : b < a
      · rw [if_pos h2] at h'; cases h'
      · rw [if_neg h1, if_neg h2] at h
        rw [if_neg h2, if_neg h1] at h'
        rw [ltL_tri x y h h', show a = b by omega]
theorem ltL_trans : ∀ a b c : List Nat, ltL a b = true → ltL b c = true → ltL a c = true
  | [], [], _, h, _ => by cases h
  | [], _ :: _, [], _, h => by cases h
  | [], _ :: _, _ :: _, _, _ => rfl
  | _ :: _, [], _, h, _ => by cases h
  | _ :: _, _ :: _, [], _, h => by cases h
  | a :: x, b :: y, c :: z, h, h' => by
    unfold ltL at h h' ⊢
    by_cases h1 : a < b
    · by_cases h2 : b < c
      · rw [if_pos (by omega)]
      · rw [if_neg h2] at h'
        by_cases h3 : c < b
        · rw [if_pos h3] at h'; cases h'
        · rw [if_pos (by omega)]
    · rw [if_neg h1] at h
      by_cases h3 : b < a
      · rw [if_pos h3] at h; cases h
      · rw [if_neg h3] at h
        have : a = b := by omega
        subst this
        by_cases h2 : a < c
        · rw [if_pos h2]
        · rw [if_neg h2] at h' ⊢
          by_cases h4 : c < a
          · rw [if_pos h4] at h'; cases h'
          · rw [if_neg h4] at h' ⊢
            exact ltL_trans x y z h h'
/-- x may stand ahead of y -/
def leK (a b : List Nat) : Bool := !ltL b a
theorem leK_total (a b : List Nat) : leK a b = true ∨ leK b a = true := by
  unfold leK
  cases h : ltL b a with
  | false => exact .inl rfl
  | true => rw [ltL_asym _ _ h]; exact .inr rfl
theorem leK_anti {a b : List Nat} (h : leK a b = true) (h' : leK b a = true) : a = b := by
  unfold leK at h h'
  exact ltL_tri a b (by simpa using h') (by simpa using h)
theorem leK_trans {a b c : List Nat} (h : leK a b = true) (h' : leK b c = true) : leK a c = true := by
  unfold leK at h h' ⊢
  have h : ltL b a = false := by simpa using h
  have h' : ltL c b = false := by simpa using h'
  cases e : ltL c a with
  | false => rfl
  | true =>
    cases e2 : ltL b c with
    | true => rw [ltL_trans _ _ _ e2 e] at h; cases h
    | false =>
      have := ltL_tri b c e2 h'
      subst this
      rw [e] at h; cases h
/-- two things that may change places in an insertion sort -/
theorem ins_comm {x y : D} (tot : leD x y = true ∨ leD y x = true) (anti : leD x y = true → leD y x = true → x = y) (trx : ∀ z, leD x y = true → leD y z = true → leD x z = true) (try' : ∀ z, leD y x = true → leD x z = true → leD y z = true) : ∀ l, insD y (insD x l) = insD x (insD y l)
  | [] => by
    simp only [insD]
    cases h1 : leD x y <;> cases h2 : leD y x <;> simp
    · rcases tot with q | q
      · rw [h1] at q; cases q
      · rw [h2] at q; cases q
    · have := anti h1 h2
      simp [this]
  | z :: r => by
    have ih := ins_comm tot anti trx try' r
    simp only [insD]
    cases hx : leD x z <;> cases hy : leD y z <;> simp only [if_true, if_false, insD, hx, hy, Bool.false_eq_true]
    · rw [ih]
    · cases h1 : leD x y with
      | true => rw [trx z h1 hy] at hx; cases hx
      | false => simp
    · cases h2 : leD y x with
      | true => rw [try' z h2 hx] at hy; cases hy
      | false => simp
    · cases h1 : leD x y <;> cases h2 : leD y x <;> simp
      · rcases tot with q | q
        · rw [h1] at q; cases q
        · rw [h2] at q; cases q
      · have := anti h1 h2
        simp [this]
theorem strs_comm (a b : List Nat) (l : List D) : insD (.str b) (insD (.str a) l) = insD (.str a) (insD (.str b) l) := by
  have tr : ∀ (a b : List Nat) (z : D), leD (.str a) (.str b) = true → leD (.str b) z = true → leD (.str a) z = true := by
    intro a b z h h'
    cases z with
    | str c => exact leK_trans (a := a) (b := b) (c := c) h h'
    | _ => cases h'
  exact ins_comm (x := .str a) (y := .str b) (leK_total a b) (fun h h' => by rw [leK_anti (a := a) (b := b) h h']) (tr a b) (tr b a) l
theorem rows_comm (a b : List Nat) (x y : List D) (hab : a ≠ b) (l : List D) : insD (.tup (.str b :: y)) (insD (.tup (.str a :: x)) l) = insD (.tup (.str a :: x)) (insD (.tup (.str b :: y)) l) := by
  have tr : ∀ (a b : List Nat) (x y : List D) (z : D), leD (.tup (.str a :: x)) (.tup (.str b :: y)) = true → leD (.tup (.str b :: y)) z = true → leD (.tup (.str a :: x)) z = true := by
    intro a b x y z h h'
    cases z with
    | tup t =>
      cases t with
      | nil => cases h'
      | cons c t =>
        cases c with
        | str c => exact leK_trans (a := a) (b := b) (c := c) h h'
        | _ => cases h'
    | _ => cases h'
  exact ins_comm (x := .tup (.str a :: x)) (y := .tup (.str b :: y)) (leK_total a b) (fun h h' => absurd (leK_anti (a := a) (b := b) h h') hab) (tr a b x y) (tr b a y x) l
end
end Mine
end
section
set_option autoImplicit false
set_option maxRecDepth 100000
namespace Mine
open PySem PySem.W

section
variable {is : List Nat} {ns : List Nd} {base : List Nat}
theorem notin_dict (s : List Nat) (l : List (List Nat × D)) : cmpOp .notin (.str s) (.dict l) = some (!l.any (·.1 == s)) := by
  unfold cmpOp
  cases s with
  | nil => rfl
  | cons c t => cases t <;> rfl
theorem split_word {x : List Nat} (h : 10 ∉ x) : split1 10 x = [x] := by
  induction x with
  | nil => rfl
  | cons a t ih =>
    have h1 : (a == 10) = false := beq_eq_false_iff_ne.mpr fun q => h (by simp [q])
    have h2 := ih fun q => h (by simp [q])
    unfold split1
    rw [h1, h2]; rfl
theorem split_cons {x r : List Nat} (h : 10 ∉ x) : split1 10 (x ++ [10] ++ r) = x :: split1 10 r := by
  induction x with
  | nil => rfl
  | cons a t ih =>
    have h1 : (a == 10) = false := beq_eq_false_iff_ne.mpr fun q => h (by simp [q])
    have h2 := ih fun q => h (by simp [q])
    show (if (a == 10) = true then [] :: split1 10 (t ++ [10] ++ r) else match split1 10 (t ++ [10] ++ r) with
      | w :: r => (a :: w) :: r
      | [] => [[a]]) = _
    rw [h1, h2]; rfl
theorem split_join : ∀ l : List (List Nat), l ≠ [] → (∀ x ∈ l, 10 ∉ x) → split1 10 (joinL [10] l) = l
  | [], h, _ => absurd rfl h
  | [x], _, h => split_word (h x (by simp))
  | x :: y :: r, _, h => by
    show split1 10 (x ++ [10] ++ joinL [10] (y :: r)) = _
    rw [split_cons (h x (by simp)), split_join (y :: r) (by simp) fun z hz => h z (List.mem_cons_of_mem _ hz)]
theorem forGo_app {bind : D → List LV → Option (List LV)} {body : List LV → Option (Fl × List LV)} : ∀ {l l' : List D} {σ σ' : List LV}, forGo bind body l σ = some (.next, σ') → forGo bind body (l ++ l') σ = forGo bind body l' σ'
  | [], l', σ, σ', h => by cases h; rfl
  | d :: r, l', σ, σ', h => by
    obtain ⟨σ₁, h1, h⟩ := Option.bind_eq_some_iff.mp h
    obtain ⟨⟨fl, σ₂⟩, h2, h⟩ := Option.bind_eq_some_iff.mp h
    cases fl with
    | next =>
      rw [List.cons_append, forGo_cons h1 h2]
      exact forGo_app h
    | brk => cases h
    | ret d => cases h
theorem put_find (l : List (List Nat × D)) (k : List Nat) (d : D) : (putD l k d).find? (·.1 == k) = some (k, d) := by
  unfold putD
  by_cases h : l.any (·.1 == k) = true
  · rw [if_pos h]
    induction l with
    | nil => cases h
    | cons p r ih =>
      rw [List.map_cons, List.find?_cons]
      by_cases e : (p.1 == k) = true
      · rw [if_pos e]
        have : ((k, d).1 == k) = true := beq_iff_eq.mpr rfl
        rw [this]
      · rw [if_neg e]
        have e' : (p.1 == k) = false := by simpa using e
        rw [e']
        rw [List.any_cons, e', Bool.false_or] at h
        exact ih h
  · rw [if_neg h, List.find?_append]
    have : l.find? (·.1 == k) = none := by
      rw [List.find?_eq_none]
      intro p hp q
      exact h (List.any_eq_true.mpr ⟨p, hp, q⟩)
    rw [this]
    simp
theorem put_other (l : List (List Nat × D)) {k k' : List Nat} (hk : k' ≠ k) (d : D) : (putD l k d).find? (·.1 == k') = l.find? (·.1 == k') := by
  unfold putD
  by_cases h : l.any (·.1 == k) = true
  · rw [if_pos h]
    clear h
    induction l with
    | nil => rfl
    | cons p r ih =>
      rw [List.map_cons, List.find?_cons, List.find?_cons, ih]
      by_cases e : (p.1 == k) = true
      · rw [if_pos e]
        have e1 : ((k, d).1 == k') = false := beq_eq_false_iff_ne.mpr (Ne.symm hk)
        have e2 : (p.1 == k') = false := by rw [eq_of_beq e]; exact beq_eq_false_iff_ne.mpr (Ne.symm hk)
        rw [e1, e2]
      · rw [if_neg e]
  · rw [if_neg h, List.find?_append]
    have e1 : ((k, d).1 == k') = false := beq_eq_false_iff_ne.mpr (Ne.symm hk)
    simp [List.find?_cons, e1]
theorem put_len (l : List (List Nat × D)) (k : List Nat) (d : D) : (putD l k d).length ≤ l.length + 1 := by
  unfold putD
  split <;> simp

def KN (base : List Nat) (ns : List Nd) (l : List (List Nat × D)) (W : List Nat) : Prop := ∀ x ∈ W, x < ns.length ∧ l.find? (·.1 == P base ns x) = some (P base ns x, .str (K ns x))
theorem KN.idx {l : List (List Nat × D)} {W : List Nat} {x : Nat} (h : KN base ns l W) (hx : x ∈ W) : idxOp (.dict l) (.str (P base ns x)) = some (.str (K ns x)) := by
  show (l.find? (·.1 == P base ns x)).map (·.2) = _
  rw [(h x hx).2]; rfl
theorem KN.put {l : List (List Nat × D)} {W : List Nat} {j : Nat} (w : WF ns) (b : BaseOK base) (h : KN base ns l W) (hj : j < ns.length) : KN base ns (putD l (P base ns j) (.str (K ns j))) (W ++ [j]) := by
  intro x hx
  by_cases e : x = j
  · subst e
    exact ⟨hj, put_find _ _ _⟩
  · have hx : x ∈ W := by
      rcases List.mem_append.mp hx with q | q
      · exact q
      · simp at q; exact absurd q e
    obtain ⟨h1, h2⟩ := h x hx
    exact ⟨h1, by rw [put_other _ (fun q => e (P_inj w b x j h1 hj q)), h2]⟩
theorem KN.sub {l : List (List Nat × D)} {W W' : List Nat} (h : KN base ns l W) (hs : ∀ x ∈ W', x ∈ W) : KN base ns l W' := fun x hx => h x (hs x hx)

def rdKid : PSs := .cons (.assign 8 (.bin .add (.bin .add (.idx (.var 2) (.var 5)) (.lit (.str [47]))) (.slFrom (.var 7) (.lit (.int 11)))))
        (.cons (.appnd 4 (.tup (.cons (.var 8) (.cons (.idx (.var 7) (.lit (.int 0))) (.cons (.call 17 (.cons (.sl (.var 7) (.lit (.int 1)) (.lit (.int 10))) .nil)) .nil)))))
        (.cons (.ite (.cmp .eq (.idx (.var 7) (.lit (.int 0))) (.lit (.str [100]))) (
          (.cons (.setD 2 (.bin .add (.bin .add (.var 5) (.ite (.or (.cmp .eq (.var 5) (.lit (.str []))) (.cons (.cmp .eq (.idx (.var 5) (.neg (.lit (.int 1)))) (.lit (.str [47]))) .nil)) (.lit (.str [])) (.lit (.str [47])))) (.slFrom (.var 7) (.lit (.int 11)))) (.var 8)) .nil)) .nil) .nil))
def rdBody : PSs := .cons (.ite (.var 6) (
      (.cons (.assign 5 (.slTo (.var 7) (.neg (.lit (.int 1)))))
      (.cons (.ite (.or (.cmp .ne (.slFrom (.var 7) (.neg (.lit (.int 1)))) (.lit (.str [58]))) (.cons (.cmp .notin (.var 5) (.var 2)) .nil)) (
        (.cons (.ret (.tup (.cons (.lst .nil) (.cons (.lst .nil) .nil)))) .nil)) .nil)
      (.cons (.appnd 3 (.idx (.var 2) (.var 5)))
      (.cons (.assign 6 (.lit (.bool false))) .nil))))) (
      (.cons (.ite (.cmp .eq (.var 7) (.lit (.str []))) (
        (.cons (.assign 6 (.lit (.bool true))) .nil)) (
        (.cons (.ite (.or (.cmp .lt (.len (.var 7)) (.lit (.int 12))) (.cons (.cmp .ne (.idx (.var 7) (.lit (.int 10))) (.lit (.str [32]))) .nil)) (
          (.cons (.ret (.tup (.cons (.lst .nil) (.cons (.lst .nil) .nil)))) .nil)) .nil)
        rdKid))) .nil))) .nil
theorem rd_body : F_law_read.body = .cons (.assignD1 2 (.var 0) (.lit (.str [])))
  (.cons (.assign 3 (.lst .nil))
  (.cons (.assign 4 (.lst .nil))
  (.cons (.assign 5 (.var 0))
  (.cons (.assign 6 (.lit (.bool true)))
  (.cons (.forE 7 (.meth .split (.var 1) (.cons (.lit (.str [10])) .nil)) rdBody .nil)
  (.cons (.ret (.tup (.cons (.sorted (.var 3)) (.cons (.sorted (.var 4)) .nil)))) .nil)))))) := rfl
abbrev rdS (base text : List Nat) (kn : List (List Nat × D)) (H F : List D) (fo : List Nat) (op : Bool) (v7 v8 : LV) : List LV := [.fz (.str base), .fz (.str text), .ow (.dict kn), .ow (.list H), .ow (.list F), .fz (.str fo), .fz (.bool op), v7, v8]
theorem sl_back {s : List Nat} {c : Nat} (h : (s ++ [c]).length ≤ 1000000) : sliceOp (.str (s ++ [c])) none (some (-1)) = some (.str s, .fz) ∧ sliceOp (.str (s ++ [c])) (some (-1)) none = some (.str [c], .fz) := by
  have hc : cut (s ++ [c]).length (-1) = s.length := by
    unfold cut
    rw [if_neg (by decide)]
    simp only [List.length_append, List.length_singleton]; omega
  constructor
  · show (if _ then some (D.str (slice (s ++ [c]) 0 (cut (s ++ [c]).length (-1))), Tag.fz) else none) = _
    rw [if_pos h, hc]
    simp [slice]
  · show (if _ then some (D.str (slice (s ++ [c]) (cut (s ++ [c]).length (-1)) (s ++ [c]).length), Tag.fz) else none) = _
    rw [if_pos h, hc, slice, List.take_length, List.drop_left]
theorem idx_back (s : List Nat) (c : Nat) : idxOp (.str (s ++ [c])) (.int (-1)) = some (.str [c]) := by
  show (item (s ++ [c]) (-1)).map _ = _
  unfold item
  rw [if_neg (by decide), if_pos (by simp; omega)]
  have : (((s ++ [c]).length : Int) + -1).toNat = s.length := by
    simp only [List.length_append, List.length_singleton]; omega
  rw [this]; simp
theorem eq_str {a b : List Nat} (ha : a.all (· < 1114112) = true) (hb : b.all (· < 1114112) = true) : cmpOp .eq (.str a) (.str b) = some (a == b) := by
  show (if (a.all (· < 1114112) && b.all (· < 1114112)) = true then some (a == b) else none) = _
  rw [ha, hb]; rfl
theorem ne_str {a b : List Nat} (ha : a.all (· < 1114112) = true) (hb : b.all (· < 1114112) = true) : cmpOp .ne (.str a) (.str b) = some (!(a == b)) := by
  show (if (a.all (· < 1114112) && b.all (· < 1114112)) = true then some (!(a == b)) else none) = _
  rw [ha, hb]; rfl
theorem rd_head {n : Nat} {text : List Nat} {kn : List (List Nat × D)} {H F : List D} {W : List Nat} {x : Nat} (w : WF ns) (b : BaseOK base) (hk : KN base ns kn W) (hx : x ∈ W) (hH : H.length ≤ 1000) (fo : List Nat) (v8 : LV) :
    exSs gl (SIG (n + 1)) rdBody (rdS base text kn H F fo true (.fz (.str (P base ns x ++ [58]))) v8) = some (.next, rdS base text kn (H ++ [.str (K ns x)]) F (P base ns x) false (.fz (.str (P base ns x ++ [58]))) v8) := by
  have hxl := (hk x hx).1
  have p := P_ok w b x hxl
  have hps := p.short
  have hl := len_pos w
  obtain ⟨s1, s2⟩ := sl_back (s := P base ns x) (c := 58) (by simp; omega)
  unfold rdBody
  refine stN ?_ rfl
  refine (s_ite (e_var rfl) rfl).trans ?_
  rw [if_pos rfl]
  refine stN (s_assign (e_slTo (e_var rfl) (e_neg (e_lit _)) s1)) ?_
  refine stN (σ' := rdS base text kn H F (P base ns x) true (.fz (.str (P base ns x ++ [58]))) v8) ?_ ?_
  · refine (s_ite (e_orB (p := false) (q := false) (e_cmp (e_slFrom (e_var rfl) (e_neg (e_lit _)) s2) (e_lit _) (ne_str (by decide) (by decide))) (fun _ => e_cmp (e_var rfl) (e_own rfl) ?_)) rfl).trans ?_
    · rw [notin_dict]
      have : kn.any (·.1 == P base ns x) = true := by
        rw [List.any_eq_true]
        exact ⟨_, List.mem_of_find?_eq_some (hk x hx).2, beq_iff_eq.mpr rfl⟩
      rw [this]; rfl
    · rfl
  refine stN (s_appnd (d := .str (K ns x)) (t := .fz) (e_idx (e_own rfl) (e_var rfl) (hk.idx hx)) rfl rfl (by omega)) ?_
  exact stN (s_assign (e_lit _)) rfl
theorem rd_end {n : Nat} {text : List Nat} {kn : List (List Nat × D)} {H F : List D} (fo : List Nat) (v8 : LV) :
    exSs gl (SIG (n + 1)) rdBody (rdS base text kn H F fo false (.fz (.str [])) v8) = some (.next, rdS base text kn H F fo true (.fz (.str [])) v8) := rfl
theorem kind_d : ∀ k < 16, (kindSign k == 100) = (k == 4) ∧ kindSign k < 1114112 := by decide
theorem row_all {j : Nat} (o : NodeOK ns j (nd ns j)) : (rowT ns j).all (· < 1114112) = true := by
  have h9 : (sgn9 (nd ns j).rights).all (· < 1114112) = true := by
    rw [sgn9_bits]
    have a1 : ∀ p, rS p < 1114112 := by decide
    have a2 : ∀ p, wS p < 1114112 := by decide
    have a3 : ∀ p q, xS 115 83 0 p q < 1114112 := by decide
    have a4 : ∀ p q, xS 116 84 0 p q < 1114112 := by decide
    simp [a1, a2, a3, a4]
  unfold rowT
  rw [List.all_cons, List.all_append, List.all_cons, h9, A7_all o.abc]
  simp [(kind_d _ o.kind).2]
theorem rd_kid {n : Nat} {text : List Nat} {kn : List (List Nat × D)} {H F : List D} {W : List Nat} {x j : Nat} (w : WF ns) (b : BaseOK base) (hk : KN base ns kn W) (hx : x ∈ W) (hj : j ∈ kids is ns x) (hF : F.length ≤ 1000) (hn : kn.length ≤ 1000) (v8 : LV) :
    ∃ w8, exSs gl (SIG (n + 1)) rdBody (rdS base text kn H F (P base ns x) false (.fz (.str (rowT ns j))) v8) = some (.next, rdS base text (if dirB ns j then putD kn (P base ns j) (.str (K ns j)) else kn) H (F ++ [fileD ns j]) (P base ns x) false (.fz (.str (rowT ns j))) w8) := by
  have hxl := (hk x hx).1
  have p := P_ok w b x hxl
  have hps := p.short
  have hl := len_pos w
  obtain ⟨k1, k2, k3, _⟩ := kids_lt w hj
  have o := w.ok k1 k2
  have hs := o.short
  have hK := (K_ok w x hxl).2
  have hnl := List.length_pos_iff.mpr o.ne
  have hrl : (rowT ns j).length = 11 + (nd ns j).name.length := by
    simp [rowT, sgn9_len]; omega
  have hall := row_all o
  have hKj : K ns j = K ns x ++ [47] ++ (nd ns j).name := by rw [K_succ w k1 k2, k3]
  have hPj : P base ns j = preOf (P base ns x) ++ (nd ns j).name := by rw [P_succ w k1 k2, k3]
  have h0 : idxOp (.str (rowT ns j)) (.int 0) = some (.str [kindSign (nd ns j).kind]) := rfl
  have h10 : idxOp (.str (rowT ns j)) (.int 10) = some (.str [32]) := rfl
  have h11 : sliceOp (.str (rowT ns j)) (some 11) none = some (.str (nd ns j).name, .fz) := by
    rw [show (11 : Int) = ((11 : Nat) : Int) from rfl, sl_drop _ 11 (by omega) (by omega)]; rfl
  have h19 : sliceOp (.str (rowT ns j)) (some 1) (some 10) = some (.str (sgn9 (nd ns j).rights), .fz) := by
    show (if _ then some (D.str (slice (rowT ns j) (cut (rowT ns j).length ((1 : Nat) : Int)) (cut (rowT ns j).length ((10 : Nat) : Int))), Tag.fz) else none) = _
    rw [if_pos (by omega), cut_nat (by omega), cut_nat (by omega)]; rfl
  refine ⟨.fz (.str (K ns j)), ?_⟩
  unfold rdBody
  refine stN ?_ rfl
  refine (s_ite (e_var rfl) rfl).trans ?_
  rw [if_neg (by decide)]
  refine stN ?_ rfl
  refine (s_ite (e_cmp (e_var rfl) (e_lit _) (eq_str hall rfl)) rfl).trans ?_
  rw [if_neg (by rw [beq_iff_eq]; intro q; rw [q] at hrl; simp at hrl; omega)]
  refine stN (σ' := rdS base text kn H F (P base ns x) false (.fz (.str (rowT ns j))) v8) ?_ ?_
  · refine (s_ite (e_orB (p := false) (q := false) (e_cmp (e_len (e_var rfl) (len_str (by omega))) (e_lit _) ?_) (fun _ => e_cmp (e_idx (e_var rfl) (e_lit _) h10) (e_lit _) rfl)) rfl).trans ?_
    · show some (decide (((rowT ns j).length : Int) < 12)) = _
      rw [decide_eq_false (by omega)]
    · rfl
  unfold rdKid
  refine stN (s_assign (d := .str (K ns j)) ?_) ?_
  · rw [hKj]
    exact e_bin (e_bin (e_idx (e_own rfl) (e_var rfl) (hk.idx hx)) (e_lit _) (add_str (by simp; omega))) (e_slFrom (e_var rfl) (e_lit _) h11) (add_str (by simp; omega))
  refine stN (s_appnd (d := fileD ns j) (t := .fz) (e_tup (es_cons (e_var rfl) rfl (es_cons (e_idx (e_var rfl) (e_lit _) h0) rfl (es_cons (e_call1 (e_sl (e_var rfl) (e_lit _) (e_lit _) h19) (rights_ok o.rights)) rfl es_nil)))) rfl rfl (by omega)) ?_
  refine stN ?_ rfl
  have hd : ([kindSign (nd ns j).kind] == [100]) = dirB ns j := by
    have := (kind_d _ o.kind).1
    unfold dirB
    rw [← this, Bool.eq_iff_iff]
    simp
  refine (s_ite (e_cmp (e_idx (e_var rfl) (e_lit _) h0) (e_lit _) (eq_str (by simp [(kind_d _ o.kind).2]) rfl)) rfl).trans ?_
  rw [hd]
  cases hdb : dirB ns j with
  | false => rw [if_neg (by decide), if_neg (by decide)]; rfl
  | true =>
    rw [if_pos rfl, if_pos rfl]
    have hsep : evE gl (SIG (n + 1)) (.bin .add (.var 5) (.ite (.or (.cmp .eq (.var 5) (.lit (.str []))) (.cons (.cmp .eq (.idx (.var 5) (.neg (.lit (.int 1)))) (.lit (.str [47]))) .nil)) (.lit (.str [])) (.lit (.str [47])))) (rdS base text kn H (F ++ [fileD ns j]) (P base ns x) false (.fz (.str (rowT ns j))) (.fz (.str (K ns j)))) = some (.str (preOf (P base ns x)), .fz) := by
      by_cases he : P base ns x = []
      · rw [he]; rfl
      · obtain ⟨q, c, hq⟩ : ∃ q c, P base ns x = q ++ [c] := ⟨_, _, (List.dropLast_concat_getLast he).symm⟩
        have pa := p.abc
        have hc1 : cmpOp .eq (.str (P base ns x)) (.str []) = some false := by
          rw [eq_str pa rfl, hq]
          congr 1
          rw [beq_eq_false_iff_ne]; simp
        have hca : [c].all (· < 1114112) = true := by
          rw [hq, List.all_append, Bool.and_eq_true] at pa; exact pa.2
        have hend : endS (P base ns x) = (c == 47) := by
          rw [hq]
          unfold endS
          rw [Bool.eq_iff_iff, List.isSuffixOf_iff_suffix, beq_iff_eq]
          constructor
          · rintro ⟨t, ht⟩
            have := List.append_inj_right' ht rfl
            simp at this
            exact this.symm
          · rintro rfl
            exact ⟨q, rfl⟩
        have hor : evE gl (SIG (n + 1)) (.or (.cmp .eq (.var 5) (.lit (.str []))) (.cons (.cmp .eq (.idx (.var 5) (.neg (.lit (.int 1)))) (.lit (.str [47]))) .nil)) (rdS base text kn H (F ++ [fileD ns j]) (P base ns x) false (.fz (.str (rowT ns j))) (.fz (.str (K ns j)))) = some (.bool (false || endS (P base ns x)), .fz) := by
          refine e_orB (e_cmp (e_var rfl) (e_lit _) hc1) (fun _ => e_cmp (e_idx (d := .str [c]) (e_var rfl) (e_neg (e_lit _)) (by rw [hq]; exact idx_back q c)) (e_lit _) ?_)
          rw [eq_str hca rfl, hend]
          congr 1
          rw [Bool.eq_iff_iff]
          simp
        unfold preOf
        rw [if_neg he]
        cases hen : endS (P base ns x) with
        | true =>
          rw [hen] at hor
          refine e_bin (e_var rfl) (e_ite (r := (.str [], .fz)) hor rfl (fun _ => e_lit _) (fun q => by cases q)) ?_
          rw [add_str (by simp; omega)]; simp
        | false =>
          rw [hen] at hor
          refine e_bin (e_var rfl) (e_ite (r := (.str [47], .fz)) hor rfl (fun q => by cases q) (fun _ => e_lit _)) ?_
          rw [add_str (by simp; omega)]; simp
    refine stN (s_setD (d := .str (K ns j)) (t := .fz) (t' := .fz) (key := P base ns j) (l := kn) (e_var rfl) rfl ?_ rfl hn) rfl
    rw [hPj]
    have := (pre_len (P base ns x)).2
    exact e_bin hsep (e_slFrom (e_var rfl) (e_lit _) h11) (add_str (by omega))
end
end Mine
end
section
set_option autoImplicit false
set_option maxRecDepth 100000
namespace Mine
open PySem PySem.W

section
variable {is : List Nat} {ns : List Nd} {base : List Nat}
abbrev rdGo (n : Nat) (l : List (List Nat)) (σ : List LV) : Option (Fl × List LV) := forGo (fun d σ => some (σ.set 7 (.fz d))) (fun σ => exSs gl (SIG (n + 1)) rdBody σ) (strsD l) σ
theorem rd_kids {n : Nat} {text : List Nat} {H : List D} {x : Nat} (w : WF ns) (b : BaseOK base) : ∀ (l : List Nat) (kn : List (List Nat × D)) (F : List D) (W : List Nat), KN base ns kn W → x ∈ W → (∀ j ∈ l, j ∈ kids is ns x) → F.length + l.length ≤ 1000 → kn.length + l.length ≤ 1000 → ∀ v7 v8, ∃ kn' w7 w8,
    rdGo n (l.map (rowT ns)) (rdS base text kn H F (P base ns x) false v7 v8) = some (.next, rdS base text kn' H (F ++ l.map (fileD ns)) (P base ns x) false w7 w8) ∧ KN base ns kn' (W ++ l.filter (dirB ns)) ∧ kn'.length ≤ kn.length + l.length
  | [], kn, F, W, hk, hx, _, _, _, v7, v8 => ⟨kn, v7, v8, by simp [rdGo, strsD, forGo], by simpa using hk, by simp⟩
  | j :: l, kn, F, W, hk, hx, hl, hF, hn, v7, v8 => by
    simp only [List.length_cons] at hF hn
    have hj := hl j (by simp)
    obtain ⟨x8, e⟩ := rd_kid (n := n) (text := text) (H := H) (F := F) w b hk hx hj (by omega) (by omega) v8
    have hjl := (kids_lt w hj).2.1
    have hk' : KN base ns (if dirB ns j then putD kn (P base ns j) (.str (K ns j)) else kn) (W ++ [j].filter (dirB ns)) := by
      cases hd : dirB ns j with
      | true => simp only [List.filter_cons, hd, if_true, List.filter_nil]; exact hk.put w b hjl
      | false => simpa [hd] using hk
    have hn' : (if dirB ns j then putD kn (P base ns j) (.str (K ns j)) else kn).length ≤ kn.length + 1 := by
      split
      · exact put_len _ _ _
      · omega
    obtain ⟨kn', w7, w8, e', hk2, hn2⟩ := rd_kids (n := n) (text := text) (H := H) (x := x) w b l _ (F ++ [fileD ns j]) (W ++ [j].filter (dirB ns)) hk' (by simp [hx]) (fun y hy => hl y (by simp [hy])) (by simp; omega) (by omega) (.fz (.str (rowT ns j))) x8
    refine ⟨kn', w7, w8, ?_, ?_, ?_⟩
    · have : rdGo n ((j :: l).map (rowT ns)) (rdS base text kn H F (P base ns x) false v7 v8) = rdGo n (l.map (rowT ns)) (rdS base text (if dirB ns j then putD kn (P base ns j) (.str (K ns j)) else kn) H (F ++ [fileD ns j]) (P base ns x) false (.fz (.str (rowT ns j))) x8) := forGo_cons (σ₁ := rdS base text kn H F (P base ns x) false (.fz (.str (rowT ns j))) v8) rfl e
      rw [this, e']
      simp
    · have : W ++ [j].filter (dirB ns) ++ l.filter (dirB ns) = W ++ (j :: l).filter (dirB ns) := by
        rw [List.append_assoc, ← List.filter_append]; rfl
      rw [← this]; exact hk2
    · simp only [List.length_cons]; omega
theorem rd_block {n : Nat} {text : List Nat} {kn : List (List Nat × D)} {H F : List D} {x : Nat} {W : List Nat} (w : WF ns) (b : BaseOK base) (hk : KN base ns kn (x :: W)) (hH : H.length ≤ 900) (hF : F.length ≤ 900) (hn : kn.length ≤ 900) (fo : List Nat) (v7 v8 : LV) : ∃ kn' fo' w7 w8,
    rdGo n (block is ns base x) (rdS base text kn H F fo true v7 v8) = some (.next, rdS base text kn' (H ++ [.str (K ns x)]) (F ++ (kids is ns x).map (fileD ns)) fo' true w7 w8) ∧ KN base ns kn' (dirs is ns x ++ W) ∧ kn'.length ≤ kn.length + 7 := by
  have hkl := kids_len (is := is) w x
  obtain ⟨kn', w7, w8, e, hk', hn'⟩ := rd_kids (n := n) (text := text) (H := H ++ [.str (K ns x)]) (x := x) w b (kids is ns x) kn F (x :: W) hk (by simp) (fun j hj => hj) (by omega) (by omega) (.fz (.str (P base ns x ++ [58]))) v8
  refine ⟨kn', P base ns x, .fz (.str []), w8, ?_, hk'.sub ?_, by omega⟩
  · have h1 : rdGo n (block is ns base x) (rdS base text kn H F fo true v7 v8) = rdGo n ((kids is ns x).map (rowT ns) ++ [[]]) (rdS base text kn (H ++ [.str (K ns x)]) F (P base ns x) false (.fz (.str (P base ns x ++ [58]))) v8) :=
      forGo_cons (σ₁ := rdS base text kn H F fo true (.fz (.str (P base ns x ++ [58]))) v8) rfl (rd_head w b hk (by simp) (by omega) fo v8)
    rw [h1]
    have h2 : strsD ((kids is ns x).map (rowT ns) ++ [[]]) = strsD ((kids is ns x).map (rowT ns)) ++ [.str []] := by simp [strsD]
    show forGo _ _ (strsD ((kids is ns x).map (rowT ns) ++ [[]])) _ = _
    rw [h2, forGo_app e]
    exact (forGo_cons (σ₁ := rdS base text kn' (H ++ [.str (K ns x)]) (F ++ (kids is ns x).map (fileD ns)) (P base ns x) false (.fz (.str [])) w8) rfl (rd_end (n := n) (text := text) (P base ns x) w8)).trans rfl
  · intro y hy
    rcases List.mem_append.mp hy with q | q
    · exact List.mem_append.mpr (.inr q)
    · exact List.mem_append.mpr (.inl (by simp [q]))
theorem rd_run {n : Nat} {text : List Nat} (w : WF ns) (b : BaseOK base) {W V : List Nat} (hV : WalkR is ns W V) : ∀ (kn : List (List Nat × D)) (H F : List D), KN base ns kn W → H.length + V.length ≤ 800 → F.length + 7 * V.length ≤ 800 → kn.length + 7 * V.length ≤ 800 → ∀ (fo : List Nat) (v7 v8 : LV), ∃ kn' fo' w7 w8,
    rdGo n (V.flatMap (block is ns base)) (rdS base text kn H F fo true v7 v8) = some (.next, rdS base text kn' (H ++ V.map fun j => .str (K ns j)) (F ++ (V.flatMap (kids is ns)).map (fileD ns)) fo' true w7 w8) := by
  induction hV with
  | nil =>
    intro kn H F _ _ _ _ fo v7 v8
    exact ⟨kn, fo, v7, v8, by simp [rdGo, strsD, forGo]⟩
  | @cons x ws V h ih =>
    intro kn H F hk hH hF hn fo v7 v8
    simp only [List.length_cons] at hH hF hn
    have hkl := kids_len (is := is) w x
    obtain ⟨kn1, fo1, x7, x8, e1, hk1, hn1⟩ := rd_block (is := is) (n := n) (text := text) (H := H) (F := F) w b hk (by omega) (by omega) (by omega) fo v7 v8
    obtain ⟨kn2, fo2, w7, w8, e2⟩ := ih kn1 (H ++ [.str (K ns x)]) (F ++ (kids is ns x).map (fileD ns)) hk1 (by simp; omega) (by simp; omega) (by omega) fo1 x7 x8
    refine ⟨kn2, fo2, w7, w8, ?_⟩
    have h2 : strsD ((x :: V).flatMap (block is ns base)) = strsD (block is ns base x) ++ strsD (V.flatMap (block is ns base)) := by simp [strsD]
    show forGo _ _ (strsD ((x :: V).flatMap (block is ns base))) _ = _
    rw [h2, forGo_app e1]
    refine Eq.trans e2 ?_
    simp
theorem split_ok {s : List Nat} (h : s.length ≤ 1000000) : methOp .split (.str s) [.str [10]] = some (.list ((split1 10 s).map .str), .fresh) := if_pos h
theorem read_ok {n : Nat} (w : WF ns) (b : BaseOK base) {V : List Nat} (hV : WalkR is ns [0] V) (hVl : V.length ≤ 8) (hVm : ∀ x ∈ V, x < ns.length) {a c : List D} (ha : sortOp (V.map fun j => .str (K ns j)) = some a) (hc : sortOp ((V.flatMap (kids is ns)).map (fileD ns)) = some c) : SIG (n + 2) 18 [.str base, .str (joinL [10] (V.flatMap (block is ns base)))] = some (.tup [.list a, .list c]) := by
  rw [sg18]
  have hl := len_pos w
  have hrl := rows_len (is := is) (base := base) w V
  have hrow := rows_row (is := is) w b hVm
  have hjl := joinL_len (s := [10]) (V.flatMap (block is ns base)) (B := 200) (fun r hr => (hrow r hr).1)
  simp only [List.length_singleton] at hjl
  have hne : V.flatMap (block is ns base) ≠ [] := by
    cases hV with
    | cons h => simp [block]
  have hsp := split_join _ hne (fun r hr => (hrow r hr).2)
  generalize hT : joinL [10] (V.flatMap (block is ns base)) = text at *
  obtain ⟨kn, fo, w7, w8, e⟩ := rd_run (is := is) (n := n) (text := text) w b hV [(base, .str [])] [] [] (by
    intro x hx
    simp at hx
    subst hx
    exact ⟨by omega, by
      show List.find? (·.1 == base) [(base, D.str [])] = some (base, .str [])
      simp⟩) (by simp; omega) (by simp; omega) (by simp; omega) base .un .un
  refine runFun_of rfl (σ := rdS base text kn (V.map fun j => .str (K ns j)) ((V.flatMap (kids is ns)).map (fileD ns)) fo true w7 w8) ?_
  rw [rd_body]
  refine stN (s := .assignD1 2 (.var 0) (.lit (.str []))) (σ' := [.fz (.str base), .fz (.str text), .ow (.dict [(base, .str [])]), .un, .un, .un, .un, .un, .un]) rfl ?_
  refine stN (s_fresh (e_lst es_nil)) (stN (s_fresh (e_lst es_nil)) (stN (s_assign (e_var (d := .str base) rfl)) (stN (s_assign (e_lit _)) ?_)))
  refine stN (σ' := rdS base text kn (V.map fun j => .str (K ns j)) ((V.flatMap (kids is ns)).map (fileD ns)) fo true w7 w8) ?_ ?_
  · refine (s_forE (d := .list ((split1 10 text).map .str)) (t := .fresh) (e_meth1 (x := .str text) (t := .fz) (y := .str [10]) (t' := .fz) (e_var rfl) (e_lit _) (split_ok (by omega))) rfl).trans ?_
    rw [hsp]
    show (rdGo n (V.flatMap (block is ns base)) (rdS base text [(base, .str [])] [] [] base true .un .un)).bind _ = _
    rw [e]
    simp [behind, exSs]
  · exact seqR (s_ret (t := .fz) (e_tup (es_cons (e_sorted (e_own rfl) ha) rfl (es_cons (e_sorted (e_own rfl) hc) rfl es_nil))))

/-- equal sorts -/
theorem okEqs_all (n : Nat) : ∀ l : List D, D.okEqs n l = l.all (D.okEq n)
  | [] => by simp [D.okEqs]
  | d :: r => by simp only [D.okEqs, okEqs_all n r, List.all_cons]
theorem ins_all (p : D → Bool) (x : D) : ∀ l : List D, (insD x l).all p = (p x && l.all p)
  | [] => by simp [insD]
  | y :: r => by
    unfold insD
    split
    · simp
    · rw [List.all_cons, ins_all p x r, List.all_cons]
      cases p x <;> cases p y <;> simp
theorem sort_all (p : D → Bool) : ∀ l : List D, (l.foldr insD []).all p = l.all p
  | [] => rfl
  | x :: r => by rw [List.foldr_cons, ins_all, sort_all p r, List.all_cons]
theorem okEq_refl (n : Nat) : (∀ d : D, D.okEq n d = true → D.beq d d = true) := by
  induction n with
  | zero =>
    intro d h
    cases d <;> simp_all [D.okEq, D.beq]
  | succ n ih =>
    have hl : ∀ l : List D, D.okEqs n l = true → D.beqs l l = true := by
      intro l
      induction l with
      | nil => intro _; simp [D.beqs]
      | cons d r ihr =>
        intro h
        simp only [D.okEqs, Bool.and_eq_true] at h
        simp only [D.beqs, ih d h.1, ihr h.2, Bool.and_self]
    intro d h
    cases d <;> simp_all [D.okEq, D.beq]
theorem heads_sort {V L : List Nat} (hp : V.Perm L) (hl : V.length ≤ 8) (hK : ∀ x ∈ V, (K ns x).all (· < 1114112) = true) : ∃ a, sortOp (V.map fun j => .str (K ns j)) = some a ∧ sortOp (L.map fun j => .str (K ns j)) = some a ∧ D.okEqs 6 a = true := by
  have one : ∀ U : List Nat, U.length ≤ 8 → (∀ x ∈ U, (K ns x).all (· < 1114112) = true) → sortOp (U.map fun j => .str (K ns j)) = some ((U.map fun j => D.str (K ns j)).foldr insD []) := by
    intro U hU hk
    unfold sortOp
    rw [if_pos]
    refine ⟨by simp; omega, okEqs_str 8 (K ns) U hk, .inl ?_⟩
    simp [isStrD]
  have hL : L.length ≤ 8 := by rw [← hp.length_eq]; exact hl
  have hKL : ∀ x ∈ L, (K ns x).all (· < 1114112) = true := fun x hx => hK x (hp.mem_iff.mpr hx)
  refine ⟨_, one V hl hK, ?_, ?_⟩
  · rw [one L hL hKL]
    congr 1
    refine ((hp.map fun j => D.str (K ns j)).foldr_eq' ?_ []).symm
    intro x hx y hy z
    obtain ⟨i, _, rfl⟩ := List.mem_map.mp hx
    obtain ⟨j, _, rfl⟩ := List.mem_map.mp hy
    exact strs_comm _ _ _
  · rw [okEqs_all, sort_all, ← okEqs_all]
    exact okEqs_str 6 (K ns) V hK
theorem fileD_ok {j : Nat} (w : WF ns) (h1 : 1 ≤ j) (hj : j < ns.length) (n : Nat) : D.okEq (n + 1) (fileD ns j) = true := by
  have hk := (kind_d _ (w.ok h1 hj).kind).2
  have hK := (K_ok w j hj).1
  simp only [fileD, D.okEq, D.okEqs, hK, natD]
  simp [hk]
theorem files_sort {V L : List Nat} (w : WF ns) (hp : V.Perm L) (hnd : V.Nodup) (hl : V.length ≤ 8) (hV : ∀ x ∈ V, 1 ≤ x ∧ x < ns.length) : ∃ a, sortOp (V.map (fileD ns)) = some a ∧ sortOp (L.map (fileD ns)) = some a ∧ D.okEqs 6 a = true := by
  have ok : ∀ U : List Nat, (∀ x ∈ U, 1 ≤ x ∧ x < ns.length) → ∀ n, D.okEqs (n + 1) (U.map (fileD ns)) = true := by
    intro U hU n
    rw [okEqs_all, List.all_eq_true]
    intro d hd
    obtain ⟨j, hj, rfl⟩ := List.mem_map.mp hd
    exact fileD_ok w (hU j hj).1 (hU j hj).2 n
  have one : ∀ U : List Nat, U.length ≤ 8 → U.Nodup → (∀ x ∈ U, 1 ≤ x ∧ x < ns.length) → sortOp (U.map (fileD ns)) = some ((U.map (fileD ns)).foldr insD []) := by
    intro U hU hn hm
    unfold sortOp
    rw [if_pos]
    refine ⟨by simp; omega, ok U hm 7, .inr ⟨by simp [isRowD, fileD, natD], ?_⟩⟩
    have : (U.map (fileD ns)).map keyD = U.map (K ns) := by simp [fileD, keyD]
    rw [this]
    refine List.pairwise_map.mpr (List.Pairwise.imp_of_mem ?_ hn)
    intro i j hi hj hij e
    exact hij (K_inj w i j (hm i hi).2 (hm j hj).2 e)
  have hL : L.length ≤ 8 := by rw [← hp.length_eq]; exact hl
  have hVL : ∀ x ∈ L, 1 ≤ x ∧ x < ns.length := fun x hx => hV x (hp.mem_iff.mpr hx)
  refine ⟨_, one V hl hnd hV, ?_, ?_⟩
  · rw [one L hL (hp.nodup_iff.mp hnd) hVL]
    congr 1
    refine ((hp.map (fileD ns)).foldr_eq' ?_ []).symm
    intro x hx y hy z
    obtain ⟨i, hi, rfl⟩ := List.mem_map.mp hx
    obtain ⟨j, hj, rfl⟩ := List.mem_map.mp hy
    by_cases e : i = j
    · subst e; rfl
    · exact rows_comm _ _ _ _ (fun q => e (K_inj w i j (hV i hi).2 (hV j hj).2 q)) z
  · rw [okEqs_all, sort_all, ← okEqs_all]
    exact ok V hV 5
end
end Mine
end
section
set_option autoImplicit false
set_option maxRecDepth 100000
namespace Mine
open PySem PySem.W

def baseL : List (List Nat) := [[47], [], [116], [47, 47], [46, 47, 116], [116, 47, 97]]
theorem base_of {k : Nat} (h : k < 6) : ∃ b, (strsD baseL)[k]? = some (.str b) ∧ BaseOK b := by
  match k, h with
  | 0, _ => exact ⟨_, rfl, .inr (.inl rfl), by decide, by decide, by decide⟩
  | 1, _ => exact ⟨_, rfl, .inl rfl, by decide, by decide, by decide⟩
  | 2, _ => exact ⟨_, rfl, .inr (.inr (.inr ⟨[], 116, rfl, by decide⟩)), by decide, by decide, by decide⟩
  | 3, _ => exact ⟨_, rfl, .inr (.inr (.inl rfl)), by decide, by decide, by decide⟩
  | 4, _ => exact ⟨_, rfl, .inr (.inr (.inr ⟨[46, 47], 116, rfl, by decide⟩)), by decide, by decide, by decide⟩
  | 5, _ => exact ⟨_, rfl, .inr (.inr (.inr ⟨[116, 47], 97, rfl, by decide⟩)), by decide, by decide, by decide⟩
theorem law_body : Flaw.body = (.cons (.assign 1 (.call 10 (.cons (.var 0) .nil)))
  (.cons (.assign 2 (.idx (.lst (.cons (.lit (.str [47])) (.cons (.lit (.str [])) (.cons (.lit (.str [116])) (.cons (.lit (.str [47, 47])) (.cons (.lit (.str [46, 47, 116])) (.cons (.lit (.str [116, 47, 97])) .nil))))))) (.bin .mod (.idx (.var 1) (.lit (.int 0))) (.lit (.int 6)))))
  (.cons (.assign 3 (.call 11 (.cons (.idx (.var 1) (.lit (.int 0))) .nil)))
  (.cons (.assign 4 (.call 12 (.cons (.var 1) .nil)))
  (.cons (.assign 5 (.meth .join (.lit (.str [])) (.cons (.compL (.idx (.var 7) (.lit (.int 0))) (.var 3)) .nil)))
  (.cons (.assign 6 (.call 16 (.cons (.var 2) (.cons (.call 13 (.cons (.var 2) (.cons (.var 4) .nil))) (.cons (.var 5) .nil)))))
  (.cons (.ret (.cmp .eq (.call 18 (.cons (.var 2) (.cons (.var 6) .nil))) (.call 20 (.cons (.var 4) (.cons (.var 3) .nil))))) .nil))))))) := rfl
theorem strsOf_pat : ∀ is : List Nat, strsOf (is.map fun i => .str (patAt i)) = some (is.map patAt)
  | [] => rfl
  | x :: r => by
    show (strsOf (r.map fun i => .str (patAt i))).map _ = _
    rw [strsOf_pat r]; rfl
theorem pure_law (l : List Int) (hl : l.length ≤ 63) : SIG 13 21 [intsD l] = some (.bool true) := by
  rw [sg21]
  obtain ⟨N0, r, hN⟩ : ∃ N0 r, numL l = N0 :: r := ⟨_, _, rfl⟩
  have h10 := numbers_ok 11 l hl
  obtain ⟨is, h3, hi, h11⟩ := items_ok 11 N0
  obtain ⟨ns, w, h12⟩ := tree_ok 11 (numL l) (by simp [numL])
  obtain ⟨base, hb, b⟩ := base_of (Nat.mod_lt N0 (by decide : 0 < 6))
  obtain ⟨V, hV, hVn, hVl, hVm, hVe⟩ := walk_total (is := is) w
  have hl' := len_pos w
  have h16 := listing_ok (n := 7) w b h3 hi hV hVl hVm
  have h13 := world_ok 9 w b
  have hhp := heads_perm w hVn hVe
  have hfp := files_perm w hVn hVe
  obtain ⟨a, ha1, ha2, ha3⟩ := heads_sort hhp hVl (fun x hx => (K_ok w x (hVm x hx)).1)
  have hkm : ∀ x ∈ V.flatMap (kids is ns), 1 ≤ x ∧ x < ns.length := by
    intro x hx
    obtain ⟨v, _, hm⟩ := List.mem_flatMap.mp hx
    obtain ⟨k1, k2, _, _⟩ := kids_lt w hm
    exact ⟨k1, k2⟩
  have hfn : (V.flatMap (kids is ns)).Nodup := hfp.nodup_iff.mpr (List.Pairwise.filter _ List.nodup_range')
  have hfl : (V.flatMap (kids is ns)).length ≤ 8 := by
    have := nodup_len hfn (fun x hx => (hkm x hx).2)
    omega
  obtain ⟨c, hc1, hc2, hc3⟩ := files_sort w hfp hfn hfl hkm
  have h18 := read_ok (n := 10) w b hV hVl hVm ha1 hc1
  have h20 := due_ok 7 w h3 hi ha2 hc2
  have hpl : (is.map patAt).flatten.length ≤ 1000 := by
    have : ∀ js : List Nat, js.length ≤ 3 → (∀ i ∈ js, i < 13) → (js.map patAt).flatten.length ≤ 6 * js.length := by
      intro js
      induction js with
      | nil => simp
      | cons j r ih =>
        intro h1 h2
        have := pat_len (h2 j (by simp))
        have := ih (by simp at h1; omega) (fun i hi => h2 i (by simp [hi]))
        rw [List.map_cons, List.flatten_cons, List.length_append, List.length_cons]
        omega
    have := this is h3 hi
    omega
  have hpat : joinL [] (is.map patAt) = (is.map patAt).flatten := joinL_nil _
  refine runFun_of rfl (σ := [.fz (intsD l), .fz (.list ((numL l).map natD)), .fz (.str base), .fz (.list (is.map itemD)), .fz (.list (ns.map nodeD)), .fz (.str (is.map patAt).flatten), .fz (.str (joinL [10] (V.flatMap (block is ns base))))]) ?_
  show exSs gl (SIG 12) Flaw.body [.fz (intsD l), .un, .un, .un, .un, .un, .un] = _
  rw [law_body]
  have e0 : ∀ σ : List LV, σ[1]? = some (.fz (.list ((numL l).map natD))) → evE gl (SIG 12) (.idx (.var 1) (.lit (.int 0))) σ = some (natD N0, .fz) := by
    intro σ h
    refine e_idx (e_var h) (e_lit _) ?_
    rw [hN]; rfl
  refine stN (s_assign (e_call1 (e_var rfl) h10)) ?_
  refine stN (s_assign (e_idx (x := .list (strsD baseL)) (t := .fresh) rfl (e_bin (e0 _ rfl) (e_lit _) (fmod_nat N0 6 (by decide))) (idx_nat hb (by omega)))) ?_
  refine stN (s_assign (e_call1 (e0 _ rfl) h11)) ?_
  refine stN (s_assign (e_call1 (e_var rfl) h12)) ?_
  refine stN (s_assign (d := .str (is.map patAt).flatten) (e_meth1 (e_lit _) (e_compL (r := is.map fun i => .str (patAt i)) (e_var rfl) (by simp; omega) (mapE_map (h := itemD) fun i _ => rfl)) ?_)) ?_
  · rw [m_join (strsOf_pat is) (by rw [hpat]; omega) (by simp; omega) (by simp), hpat]
  refine stN (s_assign (e_call (es_cons (e_var rfl) rfl (es_cons (e_call2 (e_var rfl) (e_var rfl) h13) rfl (es_cons (e_var rfl) rfl es_nil))) h16)) ?_
  refine seqR (s_ret (t := .fz) (e_cmp (e_call2 (e_var rfl) (e_var rfl) h18) (e_call2 (e_var rfl) (e_var rfl) h20) ?_))
  have hok : D.okEq 8 (.tup [.list a, .list c]) = true := by
    simp only [D.okEq, D.okEqs, ha3, hc3, Bool.and_self]
  show (if (D.okEq 8 (.tup [.list a, .list c]) && D.okEq 8 (.tup [.list a, .list c])) = true then some (D.beq (.tup [.list a, .list c]) (.tup [.list a, .list c])) else none) = _
  rw [hok, okEq_refl 8 _ hok]; rfl
end Mine
end

theorem PySem.Challenge.cw_in0236_01_holds : PySem.Challenge.rw_in0236_01.Holds := by
  exact Mine.join_law Mine.pure_law
