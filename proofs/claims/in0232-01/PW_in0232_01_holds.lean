import PyProof.Rows.All
import Wide.All
import OpenK.AllK
import Wide.FinOn
import PySem.Challenge.RW_in0232_01
set_option Elab.async false
set_option linter.all false
section
open PySem
set_option maxRecDepth 100000
set_option genInjectivity false
set_option genSizeOf false
set_option backward.match.sparseCases false
namespace Mine
noncomputable def nmL : List Nat → Nat
  | [] => 0
  | c :: t => c + 256 * nmL t
noncomputable def nm (x : Str) : Nat := nmL x.cps.toList
noncomputable abbrev N (s : String) : Nat := nm (Str.ofString s)
noncomputable def okB (x : Str) : Bool := x.cps.toList.all fun c => Nat.ble 1 c && Nat.blt c 256
noncomputable def nmS (x : Str) : Nat := bif okB x then nm x else 0
noncomputable def scOk (sc : Scope) : Bool := sc.names.all fun p => okB p.1
inductive V where
  | none
  | bool (b : Bool)
  | int (i : Int)
  | str (s : List Nat)
  | tup (l : List V)
  | lst (l : List V)
  | dct (ks vs : List V)
  | atm (k : Nat)
  | inst (v : V)
  | hole
inductive Fl where
  | next
  | brk
  | ret (v : V)
inductive En where
  | no
  | val (v : V)
  | ml (l : List V)
  | md (ks vs : List V)
  | mr (l : List (List Nat × List V))
  | ap (x : Nat)
abbrev VEnv := List (Nat × En)
abbrev Ks := List (Nat × NameKind)
noncomputable def optW {α : Type} (o : Option α) (k : α → Prop) : Prop := match o with
  | some a => k a
  | none => False
noncomputable def brW (b : Bool) (x y : Prop) : Prop := match b with
  | true => x
  | false => y
abbrev gd (b : Bool) (p : Prop) : Prop := brW b p False
noncomputable def bnd {α β : Type} (o : Option α) (k : α → Option β) : Option β := match o with
  | some a => k a
  | none => none
noncomputable def look {α : Type} (x : Nat) : List (Nat × α) → Option α
  | [] => none
  | (y, a) :: r => bif Nat.beq y x then some a else look x r
noncomputable def lookE (x : Nat) : VEnv → En
  | [] => .no
  | (y, a) :: r => bif Nat.beq y x then a else lookE x r
noncomputable def putE (x : Nat) (v : En) : VEnv → VEnv
  | [] => []
  | (y, a) :: r => bif Nat.beq y x then (x, v) :: r else (y, a) :: putE x v r
noncomputable def kindsOf (sc : Scope) : Ks := sc.names.map fun p => (nm p.1, p.2)
noncomputable def relab1 (outer : Ks) (n : Nat) (k : NameKind) : NameKind := match k with
  | .free => match look n outer with
    | some .cell => .cell
    | _ => .free
  | k => k
noncomputable def relabK (ks outer : Ks) : Ks := ks.map fun p => (p.1, relab1 outer p.1 p.2)
noncomputable def idx (n : Nat) (i : Int) : Option Nat := match i with
  | .ofNat k => bif Nat.blt k n then some k else none
  | .negSucc k => bif Nat.blt k n then some (n - (k + 1)) else none
noncomputable def lit (n : Nat) (i : Int) : Nat := match i with
  | .ofNat k => min k n
  | .negSucc k => n - (k + 1)
noncomputable def loAt (n : Nat) (o : Option Int) : Nat := match o with
  | none => 0
  | some i => lit n i
noncomputable def hiAt (n : Nat) (o : Option Int) : Nat := match o with
  | none => n
  | some i => lit n i
noncomputable def cut {α : Type} (l : List α) (lo hi : Option Int) : List α := (l.take (hiAt l.length hi)).drop (loAt l.length lo)
noncomputable def Fits (i : Int) : Bool := match i with
  | .ofNat n => Nat.blt n 4611686018427387904
  | .negSucc n => Nat.blt n 4611686018427387903
noncomputable def intOf (v : V) : Option Int := match v with
  | .int i => some i
  | _ => none
noncomputable def strOf (v : V) : Option (List Nat) := match v with
  | .str s => some s
  | _ => none
noncomputable def tupOf (v : V) : Option (List V) := match v with
  | .tup s => some s
  | _ => none
noncomputable def lstOf (v : V) : Option (List V) := match v with
  | .lst s => some s
  | _ => none
noncomputable def dctOf (v : V) : Option (List V × List V) := match v with
  | .dct a b => some (a, b)
  | _ => none
noncomputable def bolOf (v : V) : Option Bool := match v with
  | .bool b => some b
  | _ => none
noncomputable def atmOf (v : V) : Option Nat := match v with
  | .atm b => some b
  | _ => none
noncomputable def instOf (v : V) : Option V := match v with
  | .inst v => some v
  | _ => none
noncomputable def selV (v : V) (fi : Int → Prop) (fs : List Nat → Prop) (ft fl : List V → Prop) : Prop := match v with
  | .int i => fi i
  | .str s => fs s
  | .tup l => ft l
  | .lst l => fl l
  | _ => False
noncomputable def noW {α : Type} (_ : α) : Prop := False
noncomputable def oneL {α : Type} (l : List α) : Option α := match l with
  | [x] => some x
  | _ => none
noncomputable def twoL {α : Type} (l : List α) : Option (α × α) := match l with
  | [x, y] => some (x, y)
  | _ => none
noncomputable def threeL {α : Type} (l : List α) : Option (α × α × α) := match l with
  | [x, y, z] => some (x, y, z)
  | _ => none
noncomputable def natI (i : Int) : Option Nat := match i with
  | .ofNat n => some n
  | .negSucc _ => none
noncomputable def chrW (v : V) (k : Nat → Prop) : Prop := optW (strOf v) fun s => optW (oneL s) k
noncomputable def natW (v : V) (k : Nat → Prop) : Prop := optW (intOf v) fun i => optW (natI i) k
noncomputable def int2 (x y : V) (k : Int → Int → Prop) : Prop := optW (intOf x) fun a => optW (intOf y) fun b => k a b
noncomputable def allStr : List V → Option (List (List Nat))
  | [] => some []
  | x :: r => bnd (strOf x) fun s => bnd (allStr r) fun l => some (s :: l)
noncomputable def allInt : List V → Option (List Int)
  | [] => some []
  | x :: r => bnd (intOf x) fun s => bnd (allInt r) fun l => some (s :: l)
noncomputable def strIn (c : Nat) : List Nat → Bool
  | [] => false
  | d :: r => bif Nat.beq c d then true else strIn c r
noncomputable def keyW (key : List Nat) : List V → Nat → (Nat → Prop) → Prop → Prop
  | [], _, _, n => n
  | x :: r, i, y, n => optW (strOf x) fun x => brW (decide (x = key)) (y i) (keyW key r (i + 1) y n)
noncomputable def pr2 (l : List V) : Option (List Nat × Int) := bnd (twoL l) fun p => bnd (strOf p.1) fun s => bnd (intOf p.2) fun i => some (s, i)
noncomputable def noAtms (f : V → Bool) : List V → Bool
  | [] => true
  | v :: r => f v && noAtms f r
noncomputable def noAtm1 (f : V → Bool) (v : V) : Bool := match v with
  | .bool _ => true
  | .int _ => true
  | .str _ => true
  | .tup l => noAtms f l
  | .lst l => noAtms f l
  | .dct _ b => noAtms f b
  | _ => false
noncomputable def noAtm : Nat → V → Bool
  | 0 => fun _ => false
  | n + 1 => noAtm1 (noAtm n)
noncomputable def sm {α : Type} (l : List α) : Bool := Nat.blt l.length 65536
noncomputable def sm2 {α : Type} (a b : List α) : Bool := Nat.blt (a.length + b.length) 65536
noncomputable def digit (i : Int) : Option (List Nat) := bif decide (0 ≤ i) && decide (i < 10) then some [48 + i.toNat] else none
noncomputable def fmt1 (vs : List V) : Option (List Nat) := bnd (oneL vs) fun v => bnd (strOf v) fun s => some (123 :: (s ++ [125]))
noncomputable def fmt3 (vs : List V) : Option (List Nat) := bnd (threeL vs) fun p => bnd (strOf p.1) fun a => bnd (intOf p.2.1) fun i => bnd (digit i) fun d => bnd (strOf p.2.2) fun c => some (a ++ (58 :: (d ++ (40 :: (c ++ [41])))))
noncomputable def modS (f : List Nat) (y : V) (k : V → Prop) : Prop :=
  brW (decide (f = [123, 37, 115, 125])) (optW (strOf y) fun s => gd (Nat.blt s.length 65000) (k (.str (123 :: (s ++ [125])))))
    (gd (decide (f = [37, 115, 58, 37, 100, 40, 37, 115, 41])) (optW (tupOf y) fun vs => optW (fmt3 vs) fun r => gd (Nat.blt r.length 65536) (k (.str r))))
noncomputable def addI (k : V → Prop) (a b : Int) : Prop := k (.int (a + b))
noncomputable def addS (k : V → Prop) (a b : List Nat) : Prop := brW (sm2 a b) (k (.str (a ++ b))) False
noncomputable def addT (k : V → Prop) (a b : List V) : Prop := brW (sm2 a b && !a.isEmpty && !b.isEmpty) (k (.tup (a ++ b))) False
noncomputable def addL (k : V → Prop) (a b : List V) : Prop := brW (sm2 a b) (k (.lst (a ++ b))) False
noncomputable def addW (x y : V) (k : V → Prop) : Prop := selV x (fun a => optW (intOf y) (addI k a)) (fun a => optW (strOf y) (addS k a)) (fun a => optW (tupOf y) (addT k a)) (fun a => optW (lstOf y) (addL k a))
noncomputable def modW (x y : V) (k : V → Prop) : Prop := selV x
  (fun a => optW (intOf y) fun b => brW (decide (b = 0)) False (k (.int (a.fmod b)))) (fun f => modS f y k) noW noW
noncomputable def binW (op : Operator) (x y : V) (k : V → Prop) : Prop := match op with
  | .Add => addW x y k
  | .Sub => int2 x y fun a b => k (.int (a - b))
  | .Mult => int2 x y fun a b => brW (Fits a) (k (.int (a * b))) False
  | .FloorDiv => int2 x y fun a b => brW (decide (b = 0) || !Fits b) False (k (.int (a.fdiv b)))
  | .Mod => modW x y k
  | _ => False
noncomputable def eqW (x y : V) (k : Bool → Prop) : Prop := match bolOf y with
  | some b => optW (bolOf x) fun a => k (a == b)
  | none => selV x (fun a => optW (intOf y) fun b => k (decide (a = b))) (fun a => optW (strOf y) fun b => k (decide (a = b))) (fun a => optW (pr2 a) fun p => optW (tupOf y) fun b => optW (pr2 b) fun q => k (decide (p.1 = q.1) && decide (p.2 = q.2))) (fun a => (y = .lst a ∧ noAtm 9 y = true) ∧ k true)
noncomputable def neW (x y : V) (k : Bool → Prop) : Prop := selV x (fun a => optW (intOf y) fun b => k (!decide (a = b))) (fun a => optW (strOf y) fun b => k (!decide (a = b))) noW noW
noncomputable def isDct (v : V) : Bool := (dctOf v).isSome
noncomputable def isAtm (v : V) : Bool := (atmOf v).isSome
noncomputable def inS (s : List Nat) (y : V) (k : Bool → Prop) : Prop := brW (isDct y) (optW (dctOf y) fun p => brW (allStr p.1).isSome (keyW s p.1 0 (fun _ => k true) (k false)) False)
  (selV y noW (fun t => optW (oneL s) fun c => k (strIn c t)) (fun l => optW (allStr l) fun l => k (l.any fun x => decide (x = s))) noW)
noncomputable def inW (x y : V) (k : Bool → Prop) : Prop := selV x (fun i => optW (lstOf y) fun l => optW (allInt l) fun l => k (l.any fun x => decide (x = i))) (fun s => inS s y k) noW noW
noncomputable def isW (x y : V) (k : Bool → Prop) : Prop := optW (atmOf y) fun b => brW (isAtm x) (optW (atmOf x) fun a => k (Nat.beq a b)) (optW (strOf x) fun _ => k false)
noncomputable def cmpW (op : CmpOp) (x y : V) (k : Bool → Prop) : Prop := match op with
  | .Lt => int2 x y fun a b => k (decide (a < b))
  | .LtE => int2 x y fun a b => k (decide (a ≤ b))
  | .Gt => selV x (fun a => optW (intOf y) fun b => k (decide (b < a))) (fun a => optW (oneL a) fun a => chrW y fun b => k (decide (b < a))) noW noW
  | .GtE => int2 x y fun a b => k (decide (b ≤ a))
  | .Eq => eqW x y k
  | .NotEq => neW x y k
  | .In => inW x y k
  | .NotIn => chrW x fun c => optW (strOf y) fun t => k (!strIn c t)
  | .Is => isW x y k
  | .IsNot => isW x y fun b => k (!b)
noncomputable def truthW (v : V) (k : Bool → Prop) : Prop := match bolOf v with
  | some b => k b
  | none => selV v (fun i => k (!decide (i = 0))) (fun s => brW (sm s) (k (!s.isEmpty)) False) noW (fun l => brW (sm l) (k (!l.isEmpty)) False)
noncomputable def getI {α : Type} (l : List α) (i : Int) : Option α := match idx l.length i with
  | some j => l[j]?
  | none => none
noncomputable def getW {α : Type} (l : List α) (i : Int) (k : α → Prop) : Prop := brW (Fits i) (optW (getI l i) k) False
noncomputable def itemW (b i : V) (k : V → Prop) : Prop := match strOf i with
  | some key => optW (dctOf b) fun p => keyW key p.1 0 (fun j => optW (p.2[j]?) k) False
  | none => optW (intOf i) fun i => selV b noW (fun s => getW s i fun c => k (.str [c])) (fun l => getW l i k) (fun l => getW l i k)
noncomputable def sliceW (v : V) (lo hi : Option Int) (k : V → Prop) : Prop := selV v noW
  (fun s => brW (sm s) (k (.str (cut s lo hi))) False)
  (fun l => gd lo.isNone (optW hi fun h => optW (natI h) fun n => brW (Nat.blt n l.length && sm l) (k (.tup (l.take n))) False))
  (fun s => brW (sm s) (k (.lst (cut s lo hi))) False)
noncomputable def insertAt {α : Type} (x : α) : Nat → List α → List α
  | 0, l => x :: l
  | _, [] => [x]
  | n + 1, y :: l => y :: insertAt x n l
noncomputable def minL : List Int → Int → Int
  | [], a => a
  | b :: r, a => minL r (bif decide (b < a) then b else a)
noncomputable def sumL : List Int → Int → Int
  | [], a => a
  | b :: r, a => sumL r (a + b)
noncomputable def ltL : List Int → List Int → Bool
  | [], [] => false
  | [], _ :: _ => true
  | _ :: _, [] => false
  | a :: r, b :: q => bif decide (a = b) then ltL r q else decide (a < b)
noncomputable def insL (x : List Int) : List (List Int) → List (List Int)
  | [] => [x]
  | y :: r => bif ltL x y then x :: y :: r else y :: insL x r
noncomputable def sortL : List (List Int) → List (List Int)
  | [] => []
  | x :: r => insL x (sortL r)
noncomputable def tupInts : List V → Option (List (List Int))
  | [] => some []
  | x :: r => bnd (tupOf x) fun l => bnd (allInt l) fun a => bnd (tupInts r) fun b => some (a :: b)
inductive BI where
  | len
  | list
  | tuple
  | sum
  | min
  | str
  | isinstance
  | sorted
noncomputable def biTab : List (Nat × BI) := [(N "len", .len), (N "list", .list), (N "tuple", .tuple), (N "sum", .sum), (N "min", .min), (N "str", .str), (N "isinstance", .isinstance), (N "sorted", .sorted)]
noncomputable def lenW (v : V) (k : V → Prop) : Prop := selV v noW (fun s => brW (sm s) (k (.int s.length)) False) noW (fun s => brW (sm s) (k (.int s.length)) False)
noncomputable def sumV (l : List V) : Option Int := bnd (allInt l) fun l => some (sumL l 0)
noncomputable def minI (l : List Int) : Option Int := match l with
  | a :: l => some (minL l a)
  | _ => none
noncomputable def minV (l : List V) : Option Int := bnd (allInt l) minI
noncomputable def sumW (v : V) (k : V → Prop) : Prop := optW (lstOf v) fun l => optW (sumV l) fun i => k (.int i)
noncomputable def minW (v : V) (k : V → Prop) : Prop := optW (lstOf v) fun l => optW (minV l) fun i => k (.int i)
noncomputable def strW (v : V) (k : V → Prop) : Prop := optW (intOf v) fun i => optW (digit i) fun s => k (.str s)
noncomputable def tupleW (v : V) (k : V → Prop) : Prop := optW (lstOf v) fun l => brW (sm l) (k (.tup l)) False
noncomputable def sortOk (t : List (List Int)) : Bool := Nat.blt t.length 4 && t.all (fun x => Nat.beq x.length 4)
noncomputable def sortW (v : V) (k : V → Prop) : Prop := optW (lstOf v) fun l => optW (tupInts l) fun t => brW (sortOk t) (k (.lst ((sortL t).map fun t => .tup (t.map .int)))) False
noncomputable def isiW (b : Nat) (v : V) (k : V → Prop) : Prop := selV v (fun _ => gd (Nat.beq b (N "tuple")) (k (.bool false))) (fun _ => gd (Nat.beq b (N "str")) (k (.bool true))) (fun _ => gd (Nat.beq b (N "tuple")) (k (.bool true))) noW
noncomputable def special : List Nat := [40, 41, 91, 93, 123, 125, 63, 42, 43, 45, 124, 94, 36, 92, 46, 38, 126, 35, 32, 9, 10, 13, 11, 12]
inductive MI where
  | startswith
  | endswith
  | replace
  | find
  | index
noncomputable def methTab : List (Nat × MI) := [(N "startswith", .startswith), (N "endswith", .endswith), (N "replace", .replace), (N "find", .find), (N "index", .index)]
noncomputable abbrev toS (s : List Nat) : Str := ⟨s.toArray⟩
noncomputable def startM (s : List Nat) (as : List V) (k : V → Prop) : Prop := optW (oneL as) fun c => optW (strOf c) fun c => k (.bool (Txt.startswith (toS s) (toS c)))
noncomputable def endM (s : List Nat) (as : List V) (k : V → Prop) : Prop := optW (oneL as) fun c => optW (strOf c) fun c => k (.bool (Txt.endswith (toS s) (toS c)))
noncomputable def noneIn (s c : List Nat) : Bool := (Builtin.Str.occurrences (toS s) (toS c) 0 (toS s).length ((toS s).length + 1)).isEmpty
noncomputable def replM (s : List Nat) (as : List V) (k : V → Prop) : Prop := optW (twoL as) fun p => optW (strOf p.1) fun c => optW (strOf p.2) fun _ => gd (noneIn s c) (k (.str s))
noncomputable def findI (l : List Nat) : Int := match l with
  | i :: _ => i
  | [] => -1
noncomputable def findM (s : List Nat) (as : List V) (k : V → Prop) : Prop := optW (threeL as) fun p => optW (strOf p.1) fun c => int2 p.2.1 p.2.2 fun i j =>
  k (.int (findI (Builtin.Str.occurrences (toS s) (toS c) (fromIndex (toS s).length i) (min (fromIndex (toS s).length j) (toS s).length) 1)))
noncomputable def indexM (s : List Nat) (as : List V) (k : V → Prop) : Prop := optW (twoL as) fun p => optW (strOf p.1) fun c => optW (intOf p.2) fun i =>
  optW (Builtin.Str.occurrences (toS s) (toS c) (fromIndex (toS s).length i) (toS s).length 1).head? fun i => k (.int i)
noncomputable def callM (s : List Nat) (m : MI) (as : List V) (k : V → Prop) : Prop := match m with
  | .startswith => startM s as k
  | .endswith => endM s as k
  | .replace => replM s as k
  | .find => findM s as k
  | .index => indexM s as k
noncomputable def cntV (l : List V) (c : List Nat) : Option Nat := bnd (allStr l) fun l => some (l.filter fun x => decide (x = c)).length
noncomputable def joinOk' (sp : List Nat) (l : List (List Nat)) : Bool := Nat.ble (((l.map toS).map fun x => x.length).sum + (l.map toS).length * (toS sp).length) 16777216
noncomputable def joinT (sp : List Nat) (l : List (List Nat)) (k : V → Prop) : Prop := gd (joinOk' sp l) (k (.str (Txt.join (toS sp) (l.map toS)).cps.toList))
noncomputable def joinW (sp : List Nat) (v : V) (k : V → Prop) : Prop := optW (lstOf v) fun l => optW (allStr l) fun l => joinT sp l k
inductive GV where
  | fn (n : Nat)
  | bi (n : Nat)
noncomputable def biNames : List Nat := [N "len", N "range", N "list", N "tuple", N "sum", N "min", N "sorted", N "str", N "isinstance", N "object", N "_special_chars_map", N "_twin_re_1", N "zip"]
noncomputable def fnNames : List Nat := [N "translate", N "escape", N "_translate", N "_join_translated_parts", N "func_std_string", N "add_func_stats", N "add_callers", N "TupleComp",
  N "_law_in", N "_law_field", N "_law_rule", N "_law_entry", N "_law_counts", N "_law_runs", N "_law_fits", N "_law_in_order", N "_law_report", N "_law_shown", N "_law_takes",
  N "_law_built_in", N "_law_means", N "_law_due", N "_law_told", N "_law_numbers"]
noncomputable def glob (x : Nat) : Option GV := bif biNames.any (Nat.beq x) then some (.bi x) else bif fnNames.any (Nat.beq x) then some (.fn x) else none
noncomputable def nameFine (x : Str) : Bool := okB x && !(Nat.beq (nm x) (N "__debug__")) && !(Nat.beq (nm x) (N "__classdict__"))
noncomputable def isVar (k : Option NameKind) : Bool := match k with
  | some .local => true
  | some .cell => true
  | some .free => true
  | _ => false
noncomputable def isSt (k : Option NameKind) : Bool := match k with
  | some .local => true
  | some .cell => true
  | _ => false
noncomputable def isFar (k : Option NameKind) : Bool := match k with
  | some .cell => true
  | some .free => true
  | _ => false
noncomputable def isLocK (k : Option NameKind) : Bool := match k with
  | some .local => true
  | _ => false
noncomputable def isGl (k : Option NameKind) : Bool := match k with
  | some .globalImplicit => true
  | _ => false
noncomputable def entOf (ks : Ks) (x : Str) (env : VEnv) : En := bif nameFine x && isVar (look (nm x) ks) then lookE (nm x) env else .no
noncomputable def kSt (ks : Ks) (x : Str) : Bool := okB x && isSt (look (nm x) ks)
noncomputable def headN (ks : Ks) (x : Str) : Option GV := bif nameFine x && isGl (look (nm x) ks) then glob (nm x) else none
noncomputable def isBi (g : GV) (s : Nat) : Bool := match g with
  | .bi b => Nat.beq b s
  | .fn _ => false
noncomputable def biIs (ks : Ks) (x : Str) (s : Nat) : Bool := match headN ks x with
  | some g => isBi g s
  | none => false
noncomputable def nameS (e : PySem.Expr) : Option { r : Str × Pos // e = .Name r.1 r.2 } := match e with
  | .Name x p => some ⟨(x, p), rfl⟩
  | _ => none
noncomputable def nameX (e : PySem.Expr) : Option (Str × Pos) := (nameS e).map (·.1)
inductive EV where
  | const (c : Const) (k : Nat) (p : Pos)
  | name (x : Str) (p : Pos)
  | bin (l : PySem.Expr) (op : Operator) (r : PySem.Expr) (p : Pos)
  | cmp (l : PySem.Expr) (op : CmpOp) (r : PySem.Expr) (p : Pos)
  | and (es : List PySem.Expr) (p : Pos)
  | or (es : List PySem.Expr) (p : Pos)
  | not (e : PySem.Expr) (p : Pos)
  | neg (e : PySem.Expr) (p : Pos)
  | ite (t b o : PySem.Expr) (p : Pos)
  | tup (es : List PySem.Expr) (k : Nat) (p : Pos)
  | lst (es : List PySem.Expr) (p : Pos)
  | dct0 (p : Pos)
  | dct1 (k v : PySem.Expr) (p : Pos)
  | slc (o : PySem.Expr) (lo hi : Option PySem.Expr) (p q : Pos)
  | sub (o i : PySem.Expr) (p : Pos)
  | attr (o : Str) (op : Pos) (n : Str) (p : Pos)
  | meth (o : PySem.Expr) (n : Str) (ap : Pos) (as : List PySem.Expr) (p : Pos)
  | call (f : Str) (fp : Pos) (as : List PySem.Expr) (p : Pos)
  | comp (elt tgt it : PySem.Expr) (ifs : List PySem.Expr) (sc : Scope) (p : Pos)
  | fstr (es : List PySem.Expr) (p : Pos)
  | bad
noncomputable def vCmp (l : PySem.Expr) (ops : List CmpOp) (rs : List PySem.Expr) (p : Pos) : EV := match ops, rs with
  | [op], [r] => .cmp l op r p
  | _, _ => .bad
noncomputable def vDict (ks : List (Option PySem.Expr)) (vs : List PySem.Expr) (p : Pos) : EV := match ks, vs with
  | [], [] => .dct0 p
  | [some k], [v] => .dct1 k v p
  | _, _ => .bad
noncomputable def sliceS (e : PySem.Expr) : Option { r : Option PySem.Expr × Option PySem.Expr × Pos // e = .Slice r.1 r.2.1 none r.2.2 } := match e with
  | .Slice lo hi none p => some ⟨(lo, hi, p), rfl⟩
  | _ => none
noncomputable def sliceX (e : PySem.Expr) : Option (Option PySem.Expr × Option PySem.Expr × Pos) := (sliceS e).map (·.1)
noncomputable def vSub (o i : PySem.Expr) (p : Pos) : EV := match sliceX i with
  | some x => .slc o x.1 x.2.1 x.2.2 p
  | none => .sub o i p
noncomputable def vCall (f : PySem.Expr) (as : List PySem.Expr) (kw : List Keyword) (p : Pos) : EV := match kw with
  | [] => match f with
    | .Attribute o n ap => .meth o n ap as p
    | .Name x fp => .call x fp as p
    | _ => .bad
  | _ => .bad
noncomputable def vComp (elt : PySem.Expr) (gs : List Comprehension) (sc : Scope) (p : Pos) : EV := match gs with
  | [⟨tgt, it, ifs, 0⟩] => .comp elt tgt it ifs sc p
  | _ => .bad
noncomputable def view (e : PySem.Expr) : EV := match e with
  | .Constant c k p => .const c k p
  | .Name x p => .name x p
  | .BinOp l op r p => .bin l op r p
  | .Compare l ops rs p => vCmp l ops rs p
  | .BoolOp op es p => match op with
    | .And => .and es p
    | .Or => .or es p
  | .UnaryOp op e p => match op with
    | .Not => .not e p
    | .USub => .neg e p
    | _ => .bad
  | .IfExp t b o p => .ite t b o p
  | .Tuple es k p => .tup es k p
  | .List es p => .lst es p
  | .Dict ks vs p => vDict ks vs p
  | .Subscript o i p => vSub o i p
  | .Attribute e n p => match nameX e with
    | some x => .attr x.1 x.2 n p
    | none => .bad
  | .Call f as kw p => vCall f as kw p
  | .ListComp elt gs sc p => vComp elt gs sc p
  | .JoinedStr es p => .fstr es p
  | _ => .bad
inductive SV where
  | asgN (x : Str) (p : Pos) (e : PySem.Expr) (q : Pos)
  | asgT (es : List PySem.Expr) (k : Nat) (p : Pos) (e : PySem.Expr) (q : Pos)
  | asgS (x : Str) (xp : Pos) (i : PySem.Expr) (p : Pos) (e : PySem.Expr) (q : Pos)
  | augN (x : Str) (p : Pos) (e : PySem.Expr) (q : Pos)
  | augS (o : Str) (op : Pos) (x : Str) (xp p : Pos) (e : PySem.Expr) (q : Pos)
  | expr (e : PySem.Expr) (q : Pos)
  | ret (e : PySem.Expr) (q : Pos)
  | ite (t : PySem.Expr) (b o : List PySem.Stmt) (q : Pos)
  | whl (t : PySem.Expr) (b : List PySem.Stmt) (q : Pos)
  | for_ (t it : PySem.Expr) (b : List PySem.Stmt) (q : Pos)
  | asrt (t : PySem.Expr) (q : Pos)
  | brk (q : Pos)
  | del (x : Str) (xp : Pos) (i : PySem.Expr) (p q : Pos)
  | bad
noncomputable def sAsg (ts : List PySem.Expr) (e : PySem.Expr) (q : Pos) : SV := match ts with
  | [t] => match t with
    | .Name x p => .asgN x p e q
    | .Tuple es k p => .asgT es k p e q
    | .Subscript o i p => match nameX o with
      | some x => .asgS x.1 x.2 i p e q
      | none => .bad
    | _ => .bad
  | _ => .bad
noncomputable def sAug (t : PySem.Expr) (op : Operator) (e : PySem.Expr) (q : Pos) : SV := match op with
  | .Add => match t with
    | .Name x p => .augN x p e q
    | .Subscript o i p => match nameX o with
      | some o => match nameX i with
        | some x => .augS o.1 o.2 x.1 x.2 p e q
        | none => .bad
      | none => .bad
    | _ => .bad
  | _ => .bad
noncomputable def sDel (ts : List PySem.Expr) (q : Pos) : SV := match ts with
  | [.Subscript (.Name x xp) i p] => .del x xp i p q
  | _ => .bad
noncomputable def sview (s : PySem.Stmt) : SV := match s with
  | .Assign ts e q => sAsg ts e q
  | .AugAssign t op e q => sAug t op e q
  | .Expr e q => .expr e q
  | .Return e q => match e with
    | some e => .ret e q
    | none => .bad
  | .If t b o q => .ite t b o q
  | .While t b o q => match o with
    | [] => .whl t b q
    | _ => .bad
  | .For t it b o q => match o with
    | [] => .for_ t it b q
    | _ => .bad
  | .Assert t m q => match m with
    | none => .asrt t q
    | some _ => .bad
  | .Break q => .brk q
  | .Delete ts q => sDel ts q
  | _ => .bad
inductive AV where
  | gen (elt : PySem.Expr) (g : Comprehension) (sc : Scope) (p : Pos)
  | lam (as : Arguments) (b : PySem.Expr) (sc : Scope) (p : Pos) (e : PySem.Expr)
  | plain
noncomputable def aGen (gs : List Comprehension) (elt : PySem.Expr) (sc : Scope) (p : Pos) : AV := match gs with
  | [g] => .gen elt g sc p
  | _ => .plain
noncomputable def aview (as : List PySem.Expr) : AV := match as with
  | [e] => match e with
    | .GeneratorExp elt gs sc p => aGen gs elt sc p
    | _ => .plain
  | [e, e'] => match e with
    | .Lambda as b sc p => .lam as b sc p e'
    | _ => .plain
  | _ => .plain
noncomputable def plainArgs (as : List PySem.Expr) : Bool := match aview as with
  | .plain => true
  | _ => false
inductive FP where
  | text (s : Str) (k : Nat) (p : Pos)
  | val (e : PySem.Expr) (p : Pos)
  | bad
noncomputable def fConst (c : Const) (k : Nat) (p : Pos) : FP := match c with
  | .str s => .text s k p
  | _ => .bad
noncomputable def fView (e : PySem.Expr) : FP := match e with
  | .Constant c k p => fConst c k p
  | .FormattedValue e cv sp p => match sp with
    | none => bif decide (cv = -1) then .val e p else .bad
    | some _ => .bad
  | _ => .bad
noncomputable def noStar (e : PySem.Expr) : Bool := match e with
  | .Starred .. => false
  | _ => true
noncomputable def noSet (e : PySem.Expr) : Bool := match e with
  | .Set .. => false
  | _ => true
noncomputable def isTup (e : PySem.Expr) : Bool := match e with
  | .Tuple .. => true
  | _ => false
noncomputable def plainBase (e : PySem.Expr) : Bool := match e with
  | .Call _ [] _ _ => false
  | _ => true
noncomputable def notComp (e : PySem.Expr) : Bool := match e with
  | .ListComp .. => false
  | .SetComp .. => false
  | .DictComp .. => false
  | _ => true
noncomputable def plainT (e : PySem.Expr) : Bool := match e with
  | .Constant .. => true
  | .Name .. => true
  | .BinOp .. => true
  | .Subscript .. => true
  | .Call .. => true
  | _ => false
noncomputable def nilS (e : PySem.Expr) : Option { p : Pos // e = .List [] p } := match e with
  | .List [] p => some ⟨p, rfl⟩
  | _ => none
noncomputable def isNil (e : PySem.Expr) : Bool := (nilS e).isSome
noncomputable def isEq (op : CmpOp) : Bool := match op with
  | .Eq => true
  | _ => false
noncomputable def isIn (op : CmpOp) : Bool := match op with
  | .In => true
  | _ => false
noncomputable def tupS (e : PySem.Expr) : Option { r : List PySem.Expr // ∃ k p, e = .Tuple r k p } := match e with
  | .Tuple es _ _ => some ⟨es, _, _, rfl⟩
  | _ => none
noncomputable def tupX (e : PySem.Expr) : Option (List PySem.Expr) := (tupS e).map (·.1)
noncomputable def addS' (e : PySem.Expr) : Option { r : PySem.Expr × PySem.Expr × Pos // e = .BinOp r.1 .Add r.2.1 r.2.2 } := match e with
  | .BinOp l .Add r p => some ⟨(l, r, p), rfl⟩
  | _ => none
noncomputable def addX (e : PySem.Expr) : Option (PySem.Expr × PySem.Expr × Pos) := (addS' e).map (·.1)
noncomputable def strS (e : PySem.Expr) : Option { r : Str // ∃ k p, e = .Constant (.str r) k p } := match e with
  | .Constant (.str s) _ _ => some ⟨s, _, _, rfl⟩
  | _ => none
noncomputable def strX (e : PySem.Expr) : Option Str := (strS e).map (·.1)
noncomputable def isFn (sc : Scope) : Bool := match sc.kind with
  | .function => true
  | _ => false
noncomputable def isTr (ks : Ks) : Bool := isLocK (look (N "QUESTION_MARK") ks)
noncomputable def isAc (ks : Ks) : Bool := isLocK (look (N "new_callers") ks)
noncomputable def localOk (ks : Ks) (n : Nat) (k : NameKind) : Bool := match k with
  | .local => isLocK (look n ks)
  | _ => true
noncomputable def localsOk (ks : Ks) : Bool := (ks.all fun p => localOk ks p.1 p.2) && !isTr ks && !isAc ks
noncomputable def nmOf (e : PySem.Expr) : Nat := match nameX e with
  | some x => nm x.1
  | none => 0
noncomputable def okX (e : PySem.Expr) : Bool := match nameX e with
  | some x => okB x.1
  | none => false
noncomputable def kindFit (ks : Ks) (x : Nat) (p : Nat × NameKind) : Bool := match p.2 with
  | .local => Nat.beq p.1 x || Nat.beq p.1 (N ".0")
  | .cell => Nat.beq p.1 x
  | .free => isFar (look p.1 ks)
  | .globalImplicit => true
  | _ => false
noncomputable def compOk (ks : Ks) (sc : Scope) (tgt : PySem.Expr) (ifs : List PySem.Expr) (it : PySem.Expr) : Bool :=
  scOk sc && okX tgt && isFn sc && localsOk (kindsOf sc) && Nat.blt ifs.length 2 && noSet it && isSt (look (nmOf tgt) (kindsOf sc)) && isLocK (look (N ".0") (kindsOf sc)) && !Nat.beq (nmOf tgt) (N ".0") && (kindsOf sc).all (kindFit ks (nmOf tgt))
noncomputable def allLoc (sc : Scope) : Bool := isFn sc && !sc.isCoroutine && sc.names.all (fun p => isLocK (some p.2)) && isLocK (sc.names.lookup (Str.ofString ".0"))
noncomputable def isVarOf (x : Str) (e : PySem.Expr) : Bool := match nameX e with
  | some y => x == y.1 && !(y.1 == Str.ofString "__debug__")
  | none => false
noncomputable def twoStr (as : List PySem.Expr) : Option Str := bnd (twoL as) fun p => bnd (strX p.1) fun s => bnd (strX p.2) fun _ => some s
noncomputable def isMeth (n : Nat) (e : EV) : Option (PySem.Expr × Str × List PySem.Expr) := match e with
  | .meth o m ap as p => bif Nat.beq (nmS m) n && Nat.beq ap.endLine p.line then some (o, m, as) else none
  | _ => none
noncomputable def isRepl (x : Str) (e : PySem.Expr) : Bool := (bnd (isMeth (N "replace") (view e)) fun p => bnd (isMeth (N "replace") (view p.1)) fun q => bnd (twoStr p.2.2) fun c => bnd (twoStr q.2.2) fun a =>
  some (isVarOf x q.1 && decide (a.cps.toList = [92]) && decide (c.cps.toList = [45]))) == some true
noncomputable def gView (g : Comprehension) : Option (PySem.Expr × PySem.Expr) := match g.ifs with
  | [] => bif decide (g.is_async = 0) then some (g.target, g.iter) else none
  | _ => none
noncomputable def joinFit (elt : PySem.Expr) (g : Comprehension) (sc : Scope) : Bool := (bnd (gView g) fun p => bnd (nameX p.1) fun x => bnd (nameX p.2) fun _ => some (allLoc sc && isLocK (sc.names.lookup x.1) && isRepl x.1 elt)) == some true
noncomputable def lamFit (as : Arguments) (sc : Scope) : Bool := as.defaults.isEmpty && as.kw_defaults.isEmpty && sc.names.all (fun p => isLocK (some p.2))
noncomputable def subIn (s : List Nat) : Bool := decide (s = [33, 98]) || decide (s = [97]) || decide (s = [97, 98])
noncomputable def zipL : List V → List V → List V
  | a :: r, b :: q => .tup [a, b] :: zipL r q
  | _, _ => []
noncomputable def addAll : List Int → List Int → List V
  | a :: r, b :: q => .int (a + b) :: addAll r q
  | _, _ => []
noncomputable def zipSum (p q : List V) : Option (List V) := bnd (allInt p) fun a => bnd (allInt q) fun b => bif sm a && sm b then some (addAll a b) else none
noncomputable def zipFits (elt : PySem.Expr) (g : Comprehension) (sc : Scope) : Bool := (bnd (gView g) fun p => bnd (tupX p.1) fun es => bnd (twoL es) fun t => bnd (nameX t.1) fun x => bnd (nameX t.2) fun y => bnd (addX elt) fun z =>
  some (allLoc sc && isLocK (sc.names.lookup x.1) && isLocK (sc.names.lookup y.1) && !(x.1 == y.1) && isVarOf x.1 z.1 && isVarOf y.1 z.2.1)) == some true
noncomputable def zipX (e : PySem.Expr) : Option (Str × Pos × PySem.Expr × PySem.Expr) := match view e with
  | .call z zp as _ => bnd (twoL as) fun p => some (z, zp, p.1, p.2)
  | _ => none
noncomputable def intish (v : V) : Bool := match v with
  | .tup l => l.all fun w => match w with
    | .tup q => (allInt q).isSome
    | _ => false
  | _ => false
noncomputable def rngL : Nat → Int → List V
  | 0, _ => []
  | n + 1, a => .int a :: rngL n (a + 1)
noncomputable def rngD : Nat → Int → List V
  | 0, _ => []
  | n + 1, a => .int a :: rngD n (a - 1)
structure KEv where
  e : Ks → PySem.Expr → VEnv → (V → Prop) → Prop
  t : Ks → PySem.Expr → VEnv → (Bool → Prop) → Prop
  x : Ks → List Nat → PySem.Stmt → VEnv → (Fl → VEnv → Prop) → Prop
section
variable (cl : Nat → List V → (V → Prop) → Prop) (ih : KEv)
noncomputable def enW (en : En) (k : V → Prop) : Prop := match en with
  | .val v => k v
  | .ml l => k (.lst l)
  | .md a b => k (.dct a b)
  | _ => False
noncomputable def cW (ks : Ks) (e : PySem.Expr) (env : VEnv) (k : V → Prop) : Prop := match nameX e with
  | some x => enW (entOf ks x.1 env) k
  | none => ih.e ks e env k
noncomputable def evsW (ks : Ks) : List PySem.Expr → VEnv → (List V → Prop) → Prop
  | [], _, k => k []
  | e :: r, env, k => ih.e ks e env fun v => evsW ks r env fun vs => k (v :: vs)
noncomputable def evsN (ks : Ks) (as : List PySem.Expr) (env : VEnv) (k : List V → Prop) : Prop := gd (as.all noStar) (evsW ih ks as env k)
noncomputable def rangeW (vs : List V) (k : List V → Prop) : Prop := match vs with
  | [x] => optW (intOf x) fun n => brW (Fits n && Nat.blt n.toNat 4000) (k (rngL n.toNat 0)) False
  | [x, y] => int2 x y fun a n => brW (Fits n && Fits a && Nat.blt (n - a).toNat 4000) (k (rngL (n - a).toNat a)) False
  | [x, y, z] => int2 x y fun a n => optW (intOf z) fun c => brW (Fits n && Fits a && decide (c = -1) && Nat.blt (a - n).toNat 4000) (k (rngD (a - n).toNat a)) False
  | _ => False
noncomputable def tAllW (ks : Ks) : List PySem.Expr → VEnv → (Bool → Prop) → Prop
  | [], _, k => k true
  | e :: r, env, k => ih.t ks e env fun b => brW b (tAllW ks r env k) (k false)
noncomputable def tAnyW (ks : Ks) : List PySem.Expr → VEnv → (Bool → Prop) → Prop
  | [], _, k => k false
  | e :: r, env, k => ih.t ks e env fun b => brW b (k true) (tAnyW ks r env k)
noncomputable def andW (ks : Ks) : List PySem.Expr → VEnv → (V → Prop) → Prop
  | [], _, _ => False
  | [e], env, k => ih.e ks e env k
  | e :: r, env, k => ih.e ks e env fun v => truthW v fun b => brW b (andW ks r env k) (k v)
noncomputable def orW (ks : Ks) : List PySem.Expr → VEnv → (V → Prop) → Prop
  | [], _, _ => False
  | [e], env, k => ih.e ks e env k
  | e :: r, env, k => ih.e ks e env fun v => truthW v fun b => brW b (k v) (orW ks r env k)
noncomputable def evOW (ks : Ks) (e : Option PySem.Expr) (env : VEnv) (k : Option Int → Prop) : Prop := match e with
  | none => k none
  | some e => ih.e ks e env fun v => optW (intOf v) fun i => k (some i)
noncomputable def fPartsW (ks : Ks) (env : VEnv) : List PySem.Expr → List Nat → (List Nat → Prop) → Prop
  | [], acc, k => k acc
  | e :: r, acc, k => match fView e with
    | .text s _ _ => gd (sm (acc ++ s.cps.toList)) (fPartsW ks env r (acc ++ s.cps.toList) k)
    | .val e _ => ih.e ks e env fun v => optW (strOf v) fun s => gd (sm s && sm (acc ++ s)) (fPartsW ks env r (acc ++ s) k)
    | .bad => False
noncomputable def seqW (v : V) (k : List V → Prop) : Prop := selV v noW noW (fun l => brW (Nat.blt l.length 4000) (k l) False) (fun l => brW (Nat.blt l.length 4000) (k l) False)
noncomputable def enI (c : Bool) (en : En) (k : List V → Prop) : Prop := match en with
  | .val v => seqW v k
  | .ml l => gd (c || l.isEmpty) (brW (Nat.blt l.length 4000) (k l) False)
  | .mr l => gd c (brW (Nat.blt l.length 4000) (k (l.map fun p => .tup [.str p.1, .hole])) False)
  | _ => False
noncomputable def iterW (ks : Ks) (c tt : Bool) (e : PySem.Expr) (env : VEnv) (k : List V → Prop) : Prop := match view e with
  | .name x _ => enI c (entOf ks x env) k
  | .meth o n ap as p => gd (tt && as.isEmpty && plainBase o && Nat.beq ap.endLine p.line && Nat.beq (nmS n) (N "items")) (ih.e ks o env fun v => optW (dctOf v) fun d =>
      brW (Nat.blt d.1.length 4000 && Nat.beq d.1.length d.2.length && (allStr d.1).isSome) (k (zipL d.1 d.2)) False)
  | .call f _ as _ => bif Nat.beq (nm f) (N "range") then gd (biIs ks f (N "range") && plainArgs as) (evsN ih ks as env fun vs => rangeW vs k)
    else ih.e ks e env fun v => seqW v k
  | _ => ih.e ks e env fun v => seqW v k
noncomputable def pushT (ks : Ks) (tgt : PySem.Expr) (v : V) (env : VEnv) : Option VEnv := bnd (nameX tgt) fun x => bif kSt ks x.1 then some ((nm x.1, .val v) :: env) else none
noncomputable def compLoopW (ks : Ks) (tgt : PySem.Expr) (ifs : List PySem.Expr) (elt : PySem.Expr) (env : VEnv) : List V → List V → (List V → Prop) → Prop
  | [], acc, k => k acc
  | v :: r, acc, k => optW (pushT ks tgt v env) fun env' => tAllW ih ks ifs env' fun b => brW b (ih.e ks elt env' fun y => compLoopW ks tgt ifs elt env r (acc ++ [y]) k) (compLoopW ks tgt ifs elt env r acc k)
noncomputable def compW (ks : Ks) (elt tgt it : PySem.Expr) (ifs : List PySem.Expr) (sc : Scope) (env : VEnv) (k : List V → Prop) : Prop :=
  gd (compOk ks sc tgt ifs it) (iterW ih ks true false it env fun l => compLoopW ih (relabK (kindsOf sc) ks) tgt ifs elt ((N ".0", .no) :: env) l [] k)
noncomputable def zipW (ks : Ks) (f : Str) (elt : PySem.Expr) (g : Comprehension) (sc : Scope) (env : VEnv) (k : V → Prop) : Prop := optW (zipX g.iter) fun w =>
  gd (biIs ks f (N "tuple") && biIs ks w.1 (N "zip") && isAc ks && zipFits elt g sc && noStar w.2.2.1 && noStar w.2.2.2)
    (ih.e ks w.2.2.1 env fun p => optW (tupOf p) fun p => ih.e ks w.2.2.2 env fun q => optW (tupOf q) fun q => optW (zipSum p q) fun vs => k (.tup vs))
noncomputable def isRng (e : PySem.Expr) : Bool := match view e with
  | .call f _ _ _ => Nat.beq (nm f) (N "range")
  | _ => false
noncomputable def oneA (as : List PySem.Expr) (k : PySem.Expr → Prop) : Prop := optW (oneL as) fun e => gd (noStar e) (k e)
noncomputable def callBW (ks : Ks) (t : BI) (as : List PySem.Expr) (env : VEnv) (k : V → Prop) : Prop := match t with
  | .len => oneA as fun e => cW ih ks e env fun v => lenW v k
  | .list => oneA as fun e => gd (isRng e) (iterW ih ks false false e env fun l => k (.lst l))
  | .tuple => oneA as fun e => cW ih ks e env fun v => tupleW v k
  | .sum => oneA as fun e => cW ih ks e env fun v => sumW v k
  | .min => oneA as fun e => cW ih ks e env fun v => minW v k
  | .str => oneA as fun e => ih.e ks e env fun v => strW v k
  | .sorted => oneA as fun e => cW ih ks e env fun v => sortW v k
  | .isinstance => optW (twoL as) fun p => optW (nameX p.2) fun z => optW (headN ks z.1) fun g => gd (noStar p.1 && (isBi g (N "tuple") || isBi g (N "str"))) (ih.e ks p.1 env fun v => isiW (nm z.1) v k)
noncomputable def mkW (as : List PySem.Expr) (ks : Ks) (env : VEnv) (k : V → Prop) : Prop := oneA as fun e => ih.e ks e env fun v => brW (intish v) (k (.inst v)) False
noncomputable def callW (ks : Ks) (f : Str) (as : List PySem.Expr) (env : VEnv) (k : V → Prop) : Prop := match aview as with
  | .gen elt g sc _ => zipW ih ks f elt g sc env k
  | .lam .. => False
  | .plain => optW (headN ks f) fun g => match g with
    | .bi b => optW (look b biTab) fun t => callBW ih ks t as env k
    | .fn n => brW (Nat.beq n (N "TupleComp")) (mkW ih as ks env k) (evsN ih ks as env fun vs => cl n vs k)
noncomputable def joinAns (sep : List Nat) (l : List V) (k : V → Prop) : Prop := optW (allStr l) fun l => gd ((l.all fun t => noneIn t [92] && noneIn t [45]) && sm l) (joinT sep l k)
noncomputable def joinGen (ks : Ks) (o : PySem.Expr) (n : Nat) (elt : PySem.Expr) (g : Comprehension) (sc : Scope) (env : VEnv) (k : V → Prop) : Prop :=
  gd (Nat.beq n (N "join") && isTr ks && joinFit elt g sc) (ih.e ks o env fun o => optW (strOf o) fun sep => cW ih ks g.iter env fun x => optW (lstOf x) fun l => joinAns sep l k)
noncomputable def subRe (ks : Ks) (o : PySem.Expr) (n : Nat) (as : Arguments) (sc : Scope) (e : PySem.Expr) (env : VEnv) (k : V → Prop) : Prop :=
  optW (nameX o) fun x => gd (biIs ks x.1 (N "_twin_re_1") && Nat.beq n (N "sub") && isTr ks && lamFit as sc && noStar e) (ih.e ks e env fun v => optW (strOf v) fun s => gd (subIn s) (k (.str s)))
noncomputable def transW (ks : Ks) (s : List Nat) (as : List PySem.Expr) (k : V → Prop) : Prop := optW (oneL s) fun c => optW (oneL as) fun e => optW (nameX e) fun x => gd (biIs ks x.1 (N "_special_chars_map")) (k (.str (bif strIn c special then [92, c] else [c])))
noncomputable def methS (ks : Ks) (s : List Nat) (n : Nat) (as : List PySem.Expr) (env : VEnv) (k : V → Prop) : Prop :=
  brW (Nat.beq n (N "join")) (oneA as fun e => cW ih ks e env fun v => joinW s v k)
    (brW (Nat.beq n (N "translate")) (transW ks s as k) (optW (look n methTab) fun m => evsN ih ks as env fun vs => callM s m vs k))
noncomputable def methL (ks : Ks) (l : List V) (n : Nat) (as : List PySem.Expr) (env : VEnv) (k : V → Prop) : Prop :=
  gd (Nat.beq n (N "count")) (evsN ih ks as env fun vs => optW (oneL vs) fun c => optW (strOf c) fun c => optW (cntV l c) fun m => k (.int m))
noncomputable def methP (ks : Ks) (o : PySem.Expr) (n : Nat) (as : List PySem.Expr) (env : VEnv) (k : V → Prop) : Prop := ih.e ks o env fun v => match instOf v with
  | some w => gd (Nat.beq n (N "compare")) (evsN ih ks as env fun vs => cl n (.inst w :: vs) k)
  | none => selV v noW (fun s => methS ih ks s n as env k) noW (fun l => methL ih ks l n as env k)
noncomputable def methW (ks : Ks) (o : PySem.Expr) (n : Nat) (as : List PySem.Expr) (env : VEnv) (k : V → Prop) : Prop := match aview as with
  | .gen elt g sc _ => joinGen ih ks o n elt g sc env k
  | .lam as _ sc _ e => subRe ih ks o n as sc e env k
  | .plain => methP cl ih ks o n as env k
noncomputable def comp2W (ks : Ks) (l : PySem.Expr) (op : CmpOp) (r : PySem.Expr) (env : VEnv) (k : Bool → Prop) : Prop :=
  brW (behindInMarks op r) False (brW (isNil r) (gd (isEq op) (cW ih ks l env fun v => optW (lstOf v) fun l => k l.isEmpty))
    (brW (isIn op) (ih.e ks l env fun x => cW ih ks r env fun y => inW x y k) (ih.e ks l env fun x => ih.e ks r env fun y => cmpW op x y k)))
noncomputable def constV (c : Const) : Option V := match c with
  | .int i => some (.int i)
  | .str s => some (.str s.cps.toList)
  | .bool b => some (.bool b)
  | _ => none
noncomputable def enV (en : En) : Option V := match en with
  | .val v => some v
  | _ => none
noncomputable def stepV (ks : Ks) (e : EV) (env : VEnv) (k : V → Prop) : Prop := match e with
  | .const c _ _ => optW (constV c) k
  | .name x _ => optW (enV (entOf ks x env)) k
  | .bin l op r _ => ih.e ks l env fun x => ih.e ks r env fun y => binW op x y k
  | .cmp l op r _ => comp2W ih ks l op r env fun b => k (.bool b)
  | .and es _ => andW ih ks es env k
  | .or es _ => orW ih ks es env k
  | .not e _ => ih.e ks e env fun v => truthW v fun b => k (.bool (!b))
  | .neg e _ => ih.e ks e env fun v => optW (intOf v) fun i => k (.int (-i))
  | .ite t b o _ => ih.t ks t env fun c => brW c (ih.e ks b env k) (ih.e ks o env k)
  | .tup es _ _ => brW (Nat.blt 65536 es.length) False (evsN ih ks es env fun vs => k (.tup vs))
  | .lst es _ => brW (Nat.blt 65536 es.length) False (evsN ih ks es env fun vs => k (.lst vs))
  | .dct0 _ => k (.dct [] [])
  | .dct1 kx v _ => ih.e ks kx env fun kv => optW (strOf kv) fun s => ih.e ks v env fun v => k (.dct [.str s] [v])
  | .slc o lo hi _ _ => ih.e ks o env fun v => evOW ih ks lo env fun lo => evOW ih ks hi env fun hi => sliceW v lo hi k
  | .sub o i _ => cW ih ks o env fun v => ih.e ks i env fun i => itemW v i k
  | .attr o _ n _ => optW (enV (entOf ks o env)) fun v => optW (instOf v) fun w => gd (Nat.beq (nmS n) (N "comp_select_list") && (tupOf w).isSome) (k w)
  | .meth o n ap as p => gd (plainBase o && Nat.beq ap.endLine p.line && Nat.blt as.length 30 && as.all noStar) (methW cl ih ks o (nmS n) as env k)
  | .call f _ as _ => callW cl ih ks f as env k
  | .comp elt tgt it ifs sc _ => compW ih ks elt tgt it ifs sc env fun vs => k (.lst vs)
  | .fstr es _ => gd (!Nat.blt es.length 2) (fPartsW ih ks env es [] fun s => gd (sm s) (k (.str s)))
  | .bad => False
noncomputable def stepE (ks : Ks) (e : PySem.Expr) (env : VEnv) (k : V → Prop) : Prop := stepV cl ih ks (view e) env k
inductive TV where
  | not (e : PySem.Expr) (p : Pos)
  | and (es : List PySem.Expr) (p : Pos)
  | or (es : List PySem.Expr) (p : Pos)
  | cmp (l : PySem.Expr) (op : CmpOp) (r : PySem.Expr) (p : Pos)
  | val
noncomputable def tOf (e : EV) : TV := match e with
  | .not e p => .not e p
  | .and es p => .and es p
  | .or es p => .or es p
  | .cmp l op r p => .cmp l op r p
  | _ => .val
noncomputable def stepT (ks : Ks) (e : PySem.Expr) (env : VEnv) (k : Bool → Prop) : Prop := match tOf (view e) with
  | .not e _ => ih.t ks e env fun b => k (!b)
  | .and es _ => tAllW ih ks es env k
  | .or es _ => tAnyW ih ks es env k
  | .cmp l op r _ => comp2W ih ks l op r env k
  | .val => gd (plainT e) (cW ih ks e env fun v => truthW v k)
noncomputable def xsW (ks : Ks) (ow : List Nat) : List PySem.Stmt → VEnv → (Fl → VEnv → Prop) → Prop
  | [], env, k => k .next env
  | s :: r, env, k => ih.x ks ow s env fun fl env => match fl with
    | .next => xsW ks ow r env k
    | .brk => k .brk env
    | .ret v => k (.ret v) env
noncomputable def putGo (ks : Ks) : List PySem.Expr → List V → VEnv → Option VEnv
  | [], [], env => some env
  | e :: r, v :: q, env => bnd (nameX e) fun x => bif kSt ks x.1 then putGo ks r q (putE (nm x.1) (.val v) env) else none
  | _, _, _ => none
noncomputable def putT (ks : Ks) (tgt : PySem.Expr) (v : V) (env : VEnv) : Option VEnv := match tgt with
  | .Name x _ => bif kSt ks x then some (putE (nm x) (.val v) env) else none
  | .Tuple es _ _ => bnd (tupOf v) fun l => putGo ks es l env
  | _ => none
noncomputable def forW (ks : Ks) (ow : List Nat) (tgt : PySem.Expr) (b : List PySem.Stmt) : List V → VEnv → (Fl → VEnv → Prop) → Prop
  | [], env, k => k .next env
  | v :: r, env, k => optW (putT ks tgt v env) fun env => xsW ih ks ow b env fun fl env => match fl with
      | .next => forW ks ow tgt b r env k
      | .brk => k .next env
      | .ret v => k (.ret v) env
noncomputable def whileW (ks : Ks) (ow : List Nat) (t : PySem.Expr) (b : List PySem.Stmt) : Nat → VEnv → (Fl → VEnv → Prop) → Prop
  | 0, _, _ => False
  | n + 1, env, k => ih.t ks t env fun c => brW c (xsW ih ks ow b env fun fl env => match fl with
      | .next => whileW ks ow t b n env k
      | .brk => k .next env
      | .ret v => k (.ret v) env) (k .next env)
noncomputable def tokN (x : Nat) : Bool := Nat.beq x (N "star") || Nat.beq x (N "mark") || Nat.beq x (N "STAR")
noncomputable def isNo (e : En) : Bool := match e with
  | .no => true
  | _ => false
noncomputable def hasE (x : Nat) : VEnv → Bool
  | [] => false
  | (y, _) :: r => bif Nat.beq y x then true else hasE x r
noncomputable def tokE (x : Nat) (env : VEnv) : Bool := tokN x && isNo (lookE x env) && hasE x env
noncomputable def apN (x : Nat) : Bool := Nat.beq x (N "res")
noncomputable def newN (x : Nat) (env : VEnv) : Bool := !apN x || isNo (lookE x env)
inductive RV where
  | nil (p : Pos)
  | comp (elt tgt it : PySem.Expr) (ifs : List PySem.Expr) (sc : Scope) (p : Pos)
  | dct0 (p : Pos)
  | row (s : PySem.Expr) (k : Nat) (p q r : Pos)
  | bound (x : Str) (xp : Pos) (n : Str) (p : Pos)
  | obj (f : Str) (fp p : Pos)
  | other
noncomputable def rowS (e : PySem.Expr) : Option { r : PySem.Expr × Nat × Pos × Pos // e = .Tuple [r.1, .List [] r.2.2.2] r.2.1 r.2.2.1 } := match e with
  | .Tuple [s, .List [] q] k p => some ⟨(s, k, p, q), rfl⟩
  | _ => none
noncomputable def rowX (e : PySem.Expr) : Option (PySem.Expr × Nat × Pos × Pos) := (rowS e).map (·.1)
noncomputable def rRow (e : PySem.Expr) (r : Pos) : RV := match rowX e with
  | some x => .row x.1 x.2.1 x.2.2.1 x.2.2.2 r
  | none => .other
noncomputable def rLst (own : Bool) (es : List PySem.Expr) (p : Pos) : RV := match es with
  | [] => .nil p
  | [e] => bif own then rRow e p else .other
  | _ => .other
noncomputable def rCall (f : Str) (fp : Pos) (as : List PySem.Expr) (p : Pos) : RV := match as with
  | [] => bif Nat.beq (nm f) (N "object") then .obj f fp p else .other
  | _ => .other
noncomputable def rOf (own : Bool) (e : EV) : RV := match e with
  | .lst es p => rLst own es p
  | .comp elt tgt it ifs sc p => .comp elt tgt it ifs sc p
  | .dct0 p => bif own then .dct0 p else .other
  | .attr x xp n p => bif Nat.beq (nmS n) (N "append") then .bound x xp n p else .other
  | .call f fp as p => rCall f fp as p
  | _ => .other
noncomputable def asgR (ks : Ks) (own : Bool) (x : Nat) (r : RV) (e : PySem.Expr) (env : VEnv) (k : En → Prop) : Prop := match r with
  | .nil _ => brW (tokN x) (gd (own && tokE x env) (k (.val (.atm x)))) (gd (newN x env) (k (.ml [])))
  | .comp elt tgt it ifs sc _ => compW ih ks elt tgt it ifs sc env fun vs => brW own (gd (newN x env) (k (.ml vs))) (k (.val (.lst vs)))
  | .dct0 _ => k (.md [] [])
  | .row s _ _ _ _ => gd (noStar s) (ih.e ks s env fun v => optW (strOf v) fun s => k (.mr [(s, [])]))
  | .bound y _ _ _ => match entOf ks y env with
    | .ml _ => gd (apN (nm y)) (k (.ap (nm y)))
    | _ => False
  | .obj f _ _ => gd (own && tokE x env && biIs ks f (N "object")) (k (.val (.atm x)))
  | .other => gd (!own && notComp e) (ih.e ks e env fun v => k (.val v))
noncomputable def asgW (ks : Ks) (own : Bool) (x : Nat) (e : PySem.Expr) (env : VEnv) (k : En → Prop) : Prop := asgR ih ks own x (rOf own (view e)) e env k
structure T2 where
  x : Str
  y : Str
  p : Pos
  q : Pos
  e1 : PySem.Expr
  e2 : PySem.Expr
noncomputable def t2Of (es : List PySem.Expr) (e : PySem.Expr) : Option T2 := bnd (twoL es) fun t => bnd (nameX t.1) fun x => bnd (nameX t.2) fun y => bnd (tupX e) fun es => bnd (twoL es) fun z => some ⟨x.1, y.1, x.2, y.2, z.1, z.2⟩
noncomputable def t2Ok (ks : Ks) (t : T2) : Bool := noStar t.e1 && noStar t.e2 && okB t.x && isLocK (look (nm t.x) ks) && okB t.y && isLocK (look (nm t.y) ks) && Nat.beq t.p.line t.q.line && !Nat.beq (nm t.x) (nm t.y) && !(foldedForSure 8 t.e1 && foldedForSure 8 t.e2) && !(constantsAlone 8 t.e1 && constantsAlone 8 t.e2)
noncomputable def asgT (ks : Ks) (es : List PySem.Expr) (e : PySem.Expr) (env : VEnv) (k : VEnv → Prop) : Prop := match t2Of es e with
  | some t => gd (t2Ok ks t) (ih.e ks e env fun l => optW (tupOf l) fun l => optW (twoL l) fun v => k (putE (nm t.x) (.val v.1) (putE (nm t.y) (.val v.2) env)))
  | none => gd (notComp e && !isTup e) (ih.e ks e env fun v => optW (tupOf v) fun l => optW (putGo ks es l env) k)
noncomputable def isOwn (en : En) : Bool := match en with
  | .ml _ => true
  | .md _ _ => true
  | _ => false
noncomputable def setW (en : En) (iv v : V) (k : En → Prop) : Prop := match en with
  | .ml l => optW (intOf iv) fun i => brW (Fits i) (optW (idx l.length i) fun j => k (.ml (l.set j v))) False
  | .md ks vs => optW (strOf iv) fun key => brW ((allStr ks).isSome && Nat.blt ks.length 60000) (keyW key ks 0 (fun j => k (.md ks (vs.set j v))) (k (.md (ks ++ [.str key]) (vs ++ [v])))) False
  | _ => False
noncomputable def mlOf (en : En) : Option (List V) := match en with
  | .ml l => some l
  | _ => none
noncomputable def mdOf (en : En) : Option (List V × List V) := match en with
  | .md a b => some (a, b)
  | _ => none
noncomputable def mrOf (en : En) : Option (List (List Nat × List V)) := match en with
  | .mr a => some a
  | _ => none
noncomputable def apOf (en : En) : Option Nat := match en with
  | .ap x => some x
  | _ => none
noncomputable def intAt (l : List V) (j : Nat) : Option Int := bnd l[j]? intOf
structure TX where
  f : Str
  fp : Pos
  e : PySem.Expr
  y : Str
  yp : Pos
  lp : Pos
  bp : Pos
  cp : Pos
noncomputable def lst1S (e : PySem.Expr) : Option { r : (Str × Pos) × Pos // e = .List [.Name r.1.1 r.1.2] r.2 } := match e with
  | .List [.Name y yp] lp => some ⟨((y, yp), lp), rfl⟩
  | _ => none
noncomputable def lst1X (e : PySem.Expr) : Option ((Str × Pos) × Pos) := (lst1S e).map (·.1)
noncomputable def call1S (e : PySem.Expr) : Option { r : (Str × Pos) × PySem.Expr × Pos // e = .Call (.Name r.1.1 r.1.2) [r.2.1] [] r.2.2 } := match e with
  | .Call (.Name f fp) [a] [] cp => some ⟨((f, fp), a, cp), rfl⟩
  | _ => none
noncomputable def call1X (e : PySem.Expr) : Option ((Str × Pos) × PySem.Expr × Pos) := (call1S e).map (·.1)
noncomputable def tX (e : PySem.Expr) : Option TX := bnd (call1X e) fun c => bnd (addX c.2.1) fun b => bnd (lst1X b.2.1) fun z => some ⟨c.1.1, c.1.2, b.1, z.1.1, z.1.2, z.2, b.2.2, c.2.2⟩
noncomputable def mdY (ks : Ks) (t : TX) (env : VEnv) : Option (List V × List V) := bif biIs ks t.f (N "tuple") && !tokN (nm t.y) && !apN (nm t.y) then mdOf (entOf ks t.y env) else none
noncomputable def growL (ks : Ks) (x : Nat) (l : List V) (e : PySem.Expr) (env : VEnv) (k : VEnv → Prop) : Prop := match tX e with
  | some t => match mdY ks t env with
    | some d => ih.e ks t.e env fun v => optW (lstOf v) fun es => brW (Nat.blt (es.length + 1) 65536) (brW (sm l) (k (putE x (.ml (l ++ [.tup (es ++ [.dct d.1 d.2])])) (putE (nm t.y) .no env))) False) False
    | none => ih.e ks e env fun v => brW (sm l) (k (putE x (.ml (l ++ [v])) env)) False
  | none => ih.e ks e env fun v => brW (sm l) (k (putE x (.ml (l ++ [v])) env)) False
noncomputable def growW (ks : Ks) (x : Nat) (en : En) (n : Nat) (as : List PySem.Expr) (env : VEnv) (k : VEnv → Prop) : Prop := match mlOf en with
  | some l => brW (Nat.beq n (N "append")) (oneA as fun e => growL ih ks x l e env k)
      (gd (Nat.beq n (N "insert")) (optW (twoL as) fun p => gd (noStar p.1 && noStar p.2) (ih.e ks p.1 env fun i => ih.e ks p.2 env fun v => natW i fun i =>
        brW (sm l && Nat.blt i 65536) (k (putE x (.ml (insertAt v i l)) env)) False)))
  | none => optW (mrOf en) fun l => gd (Nat.beq n (N "append")) (optW (oneL as) fun e => optW (rowX e) fun r => gd (noStar r.1) (ih.e ks r.1 env fun v => optW (strOf v) fun s => gd (sm l) (k (putE x (.mr (l ++ [(s, [])])) env))))
noncomputable def lastS (e : PySem.Expr) : Option { r : (Str × Pos) × PySem.Expr × PySem.Expr × Pos × Pos // e = .Subscript (.Subscript (.Name r.1.1 r.1.2) r.2.1 r.2.2.2.1) r.2.2.1 r.2.2.2.2 } := match e with
  | .Subscript (.Subscript (.Name x xp) i p) j q => some ⟨((x, xp), i, j, p, q), rfl⟩
  | _ => none
noncomputable def lastX (e : PySem.Expr) : Option ((Str × Pos) × PySem.Expr × PySem.Expr × Pos × Pos) := (lastS e).map (·.1)
noncomputable def addLast (v : V) : List (List Nat × List V) → Option (List (List Nat × List V))
  | [] => none
  | [(s, l)] => bif sm l then some [(s, l ++ [v])] else none
  | p :: r => bnd (addLast v r) fun q => some (p :: q)
noncomputable def growR (ks : Ks) (o : PySem.Expr) (n : Nat) (as : List PySem.Expr) (env : VEnv) (k : VEnv → Prop) : Prop := optW (lastX o) fun w => optW (mrOf (entOf ks w.1.1 env)) fun l =>
  gd (Nat.beq n (N "append") && sm l && !l.isEmpty && (sliceX w.2.1).isNone && (sliceX w.2.2.1).isNone) (ih.e ks w.2.1 env fun i => optW (intOf i) fun i => gd (decide (i = -1)) (ih.e ks w.2.2.1 env fun j => optW (intOf j) fun j => gd (decide (j = 1))
    (oneA as fun e => ih.e ks e env fun v => optW (addLast v l) fun l => k (putE (nm w.1.1) (.mr l) env))))
noncomputable def stepG (ks : Ks) (e : PySem.Expr) (env : VEnv) (k : VEnv → Prop) : Prop := match view e with
  | .meth o n ap as p => gd (Nat.beq ap.endLine p.line && Nat.blt as.length 30 && plainArgs as && as.all noStar) (match nameX o with
      | some x => growW ih ks (nm x.1) (entOf ks x.1 env) (nmS n) as env k
      | none => growR ih ks o (nmS n) as env k)
  | .call f _ as _ => optW (apOf (entOf ks f env)) fun y => optW (mlOf (lookE y env)) fun l => oneA as fun e => ih.e ks e env fun v => brW (sm l) (k (putE y (.ml (l ++ [v])) env)) False
  | _ => False
noncomputable def enR (en : En) (k : V → Prop) : Prop := match en with
  | .val v => k v
  | .ml l => k (.lst l)
  | .md a b => k (.dct a b)
  | .mr l => k (.lst (l.map fun p => .tup [.str p.1, .lst p.2]))
  | _ => False
noncomputable def retW (ks : Ks) (e : PySem.Expr) (env : VEnv) (k : V → Prop) : Prop := match nameX e with
  | some x => enR (entOf ks x.1 env) k
  | none => ih.e ks e env k
noncomputable def delW (l : List V) (i : Int) (k : List V → Prop) : Prop := gd (Fits i) (optW (idx l.length i) fun j => gd (sm l) (k (l.eraseIdx j)))
noncomputable def stepS (ks : Ks) (ow : List Nat) (s : SV) (env : VEnv) (k : Fl → VEnv → Prop) : Prop := match s with
  | .asgN x _ e _ => gd (kSt ks x) (asgW ih ks (ow.any (Nat.beq (nm x))) (nm x) e env fun en => k .next (putE (nm x) en env))
  | .asgT es _ _ e _ => asgT ih ks es e env (k .next)
  | .asgS x _ i _ e _ => gd (notComp e && isOwn (entOf ks x env)) (ih.e ks e env fun v => ih.e ks i env fun iv => setW (entOf ks x env) iv v fun en => k .next (putE (nm x) en env))
  | .augN x _ e _ => gd (kSt ks x) (optW (enV (entOf ks x env)) fun v => optW (intOf v) fun i => ih.e ks e env fun w => optW (intOf w) fun j => k .next (putE (nm x) (.val (.int (i + j))) env))
  | .augS o _ x _ _ e _ => optW (mdOf (entOf ks o env)) fun d => optW (enV (entOf ks x env)) fun kv => optW (strOf kv) fun key => brW ((allStr d.1).isSome && Nat.blt d.1.length 60000)
      (keyW key d.1 0 (fun j => optW (intAt d.2 j) fun i => ih.e ks e env fun v => optW (intOf v) fun m => k .next (putE (nm o) (.md d.1 (d.2.set j (.int (i + m)))) env)) False) False
  | .expr e _ => gd (notComp e) (stepG ih ks e env fun env => k .next env)
  | .ret e _ => retW ih ks e env fun v => k (.ret v) env
  | .ite t b o _ => ih.t ks t env fun c => brW c (xsW ih ks ow b env k) (xsW ih ks ow o env k)
  | .whl t b _ => whileW ih ks ow t b 4096 env k
  | .for_ t it b _ => gd (noSet it) (iterW ih ks false (isTup t) it env fun l => forW ih ks ow t b l env k)
  | .asrt t _ => ih.t ks t env fun c => gd c (k .next env)
  | .brk _ => k .brk env
  | .del x _ i _ _ => optW (mlOf (entOf ks x env)) fun l => ih.e ks i env fun iv => optW (intOf iv) fun i => delW l i fun l => k .next (putE (nm x) (.ml l) env)
  | .bad => False
noncomputable def stepX (ks : Ks) (ow : List Nat) (s : PySem.Stmt) (env : VEnv) (k : Fl → VEnv → Prop) : Prop := stepS ih ks ow (sview s) env k
end
noncomputable def kev0 : KEv := ⟨fun _ _ _ _ => False, fun _ _ _ _ => False, fun _ _ _ _ _ => False⟩
noncomputable def stepK (cl : Nat → List V → (V → Prop) → Prop) (ih : KEv) : KEv := ⟨stepE cl ih, stepT ih, stepX ih⟩
@[irreducible] noncomputable def kev (cl : Nat → List V → (V → Prop) → Prop) (n : Nat) : KEv := Nat.rec kev0 (fun _ ih => stepK cl ih) n
structure Df where
  params : List Str
  body : List PySem.Stmt
  scope : Scope
  owns : List Nat
  lv : Nat
  lw : Nat
noncomputable def env0 : Ks → VEnv
  | [] => []
  | (x, _) :: r => (x, .no) :: env0 r
noncomputable def bindW (ks : Ks) : List Str → List V → VEnv → Option VEnv
  | [], [], env => some env
  | p :: ps, v :: vs, env => bif kSt ks p then bindW ks ps vs (putE (nm p) (.val v) env) else none
  | _, _, _ => none
noncomputable def isLC (k : NameKind) : Bool := match k with
  | .local => true
  | .cell => true
  | _ => false
noncomputable def kindsL (sc : Scope) : Ks := (kindsOf sc).filter fun p => isLC p.2
noncomputable def fnKind (p : Nat × NameKind) : Bool := match p.2 with
  | .free => false
  | _ => true
noncomputable def lvOf (f : Nat) : Nat := bif Nat.beq f (N "translate") then 1 else bif Nat.beq f (N "_law_in_order") || Nat.beq f (N "_law_report") || Nat.beq f (N "law") then 0 else 2
noncomputable def lwOf (f : Nat) : Nat := bif Nat.beq f (N "_law_in_order") then 1 else bif Nat.beq f (N "_law_report") || Nat.beq f (N "law") then 0 else 2
noncomputable def clF (lw : Nat) (cl : Nat → List V → (V → Prop) → Prop) (f : Nat) (as : List V) (k : V → Prop) : Prop := brW (Nat.ble lw (lvOf f)) (cl f as k) False
noncomputable def tokFit (lv lw x : Nat) : Bool := !tokN x || ((Nat.beq lv 0 || (Nat.beq lv 1 && Nat.beq x (N "STAR"))) && (Nat.beq lw 2 || (Nat.beq lw 1 && !Nat.beq x (N "STAR"))))
noncomputable def runW (cl : Nat → List V → (V → Prop) → Prop) (d : Df) (as : List V) (k : V → Prop) : Prop :=
  gd (scOk d.scope && isFn d.scope && (kindsOf d.scope).all fnKind && d.owns.all (tokFit d.lv d.lw) && Nat.ble d.lv d.lw) (optW (bindW (kindsOf d.scope) d.params as (env0 (kindsL d.scope))) fun env =>
    xsW (kev (clF d.lw cl) 40) (kindsOf d.scope) d.owns d.body env fun fl _ => match fl with
      | .ret v => brW (Nat.beq d.lv d.lw || noAtm 9 v) (k v) False
      | _ => False)
noncomputable def ownsOf (f : Nat) : List Nat :=
  bif Nat.beq f (N "_law_runs") then [N "runs"]
  else bif Nat.beq f (N "_law_in_order") then [N "star", N "mark"]
  else bif Nat.beq f (N "translate") then [N "STAR"]
  else bif Nat.beq f (N "_law_report") then [N "sums"]
  else bif Nat.beq f (N "_law_told") then [N "callers"]
  else bif Nat.beq f (N "add_callers") then [N "new_callers"]
  else []
noncomputable def dfsOf : List PySem.Stmt → List (Nat × Df)
  | [] => []
  | .FunctionDef n a b _ _ _ sc _ _ _ :: r => (nm n, ⟨a.args.map (·.arg), b, sc, ownsOf (nm n), lvOf (nm n), lwOf (nm n)⟩) :: dfsOf r
  | _ :: r => dfsOf r
noncomputable def clsDfs : List PySem.Stmt → List (Nat × Df)
  | [] => []
  | .ClassDef _ _ _ b _ _ _ _ _ _ _ :: r => dfsOf b ++ clsDfs r
  | _ :: r => clsDfs r
noncomputable def dfs : List (Nat × Df) := dfsOf PySem.Challenge.pw_in0232_01.main.body ++ clsDfs PySem.Challenge.pw_in0232_01.main.body
@[irreducible] noncomputable def clN : Nat → Nat → List V → (V → Prop) → Prop
  | 0 => fun _ _ _ => False
  | n + 1 => fun f as k => optW (look f dfs) fun d => runW (clN n) d as k
theorem clN_z {f : Nat} {as : List V} {k : V → Prop} : clN 0 f as k = False := by kernel_rfl
theorem clN_s {n f : Nat} {as : List V} {k : V → Prop} : clN (n + 1) f as k = optW (look f dfs) fun d => runW (clN n) d as k := by kernel_rfl
end Mine
end
section
open PySem PySem.W PyProof.Rows
set_option maxRecDepth 100000
set_option genInjectivity false
set_option genSizeOf false
set_option backward.match.sparseCases false
namespace Mine
def okN (x : Str) : Prop := ∀ c ∈ x.cps.toList, 1 ≤ c ∧ c < 256
theorem nm_mod {c n : Nat} (h : c < 256) : (c + 256 * n) % 256 = c := (Nat.add_mul_mod_self_left ..).trans (Nat.mod_eq_of_lt h)
theorem nm_ne {c n : Nat} (h : 1 ≤ c) : c + 256 * n ≠ 0 := fun e => absurd (Nat.eq_zero_of_add_eq_zero_right e) (Nat.ne_of_gt h)
theorem nmL_inj {l : List Nat} : ∀ {k : List Nat}, (∀ c ∈ l, 1 ≤ c ∧ c < 256) → (∀ c ∈ k, 1 ≤ c ∧ c < 256) → nmL l = nmL k → l = k := by
  induction l with
  | nil =>
    intro k _ h e
    cases k with
    | nil => rfl
    | cons d k => exact absurd e.symm (nm_ne (h d (.head _)).1)
  | cons c l ih =>
    intro k h h' e
    cases k with
    | nil => exact absurd e (nm_ne (h c (.head _)).1)
    | cons d k =>
      have e1 : c = d := (nm_mod (h c (.head _)).2).symm.trans ((congrArg (· % 256) e).trans (nm_mod (h' d (.head _)).2))
      subst e1
      exact congrArg (c :: ·) (ih (fun x hx => h x (.tail _ hx)) (fun x hx => h' x (.tail _ hx)) (Nat.eq_of_mul_eq_mul_left (by decide) (Nat.add_left_cancel e)))
theorem nm_inj {x y : Str} (hx : okN x) (hy : okN y) (e : nm x = nm y) : x = y :=
  congrArg (fun l : List Nat => (⟨l.toArray⟩ : Str)) (nmL_inj hx hy e)
theorem beqN {a b : Nat} : Nat.beq a b = true ↔ a = b := Nat.beq_eq ▸ Iff.rfl
theorem beqN_false {a b : Nat} (h : a ≠ b) : Nat.beq a b = false := Bool.eq_false_iff.mpr fun e => h (beqN.mp e)
theorem bleN {a b : Nat} : Nat.ble a b = true ↔ a ≤ b := Nat.ble_eq ▸ Iff.rfl
theorem bltN {a b : Nat} : Nat.blt a b = true ↔ a < b := bleN
theorem okB_iff {x : Str} : okB x = true ↔ okN x :=
  List.all_eq_true.trans (forall_congr' fun _ => forall_congr' fun _ => (Bool.and_eq_true_iff).trans (and_congr bleN bltN))
theorem okB_i {x : Str} (h : okB x = true) : okN x := okB_iff.mp h
theorem nmS_is {x : Str} {t : String} (ht : okB (Str.ofString t) = true) (hz : nm (Str.ofString t) ≠ 0) (h : nmS x = N t) : x = Str.ofString t := by
  unfold nmS at h
  cases hx : okB x with
  | true => rw [hx] at h; exact nm_inj (okB_i hx) (okB_i ht) h
  | false => rw [hx] at h; exact absurd h.symm hz
theorem nm_is {x : Str} {t : String} (hx : okN x) (ht : okB (Str.ofString t) = true) (h : nm x = N t) : x = Str.ofString t := nm_inj hx (okB_i ht) h
theorem optW_e {α : Type} {o : Option α} {k : α → Prop} {P : Prop} (h : optW o k) (c : ∀ a, o = some a → k a → P) : P := by
  cases o with
  | none => exact h.elim
  | some a => exact c a rfl h
theorem gd_e {b : Bool} {p P : Prop} (h : brW b p False) (c : b = true → p → P) : P := by
  cases b with
  | false => exact h.elim
  | true => exact c rfl h
theorem gn_e {b : Bool} {p P : Prop} (h : brW b False p) (c : b = false → p → P) : P := by
  cases b with
  | true => exact h.elim
  | false => exact c rfl h
theorem sub_i {α : Type} {p : α → Prop} {o : Option { r // p r }} {r : α} (h : o.map (·.1) = some r) : p r := by
  cases o with
  | none => first | exact none_i h | exact ff_i h | exact nomatch h
  | some x => exact Option.some.inj h ▸ x.2
theorem none_i {α : Type} {a : α} {P : Prop} (h : none = some a) : P := nomatch h
theorem ff_i {P : Prop} (h : false = true) : P := nomatch h
theorem br_e {b : Bool} {p q P : Prop} (h : brW b p q) (c : b = true → p → P) (d : b = false → q → P) : P := by
  cases b with
  | false => exact d rfl h
  | true => exact c rfl h
theorem bnd_e {α β : Type} {o : Option α} {k : α → Option β} {r : β} {P : Prop} (h : bnd o k = some r) (c : ∀ a, o = some a → k a = some r → P) : P := by
  cases o with
  | none => first | exact none_i h | exact ff_i h | exact nomatch h
  | some a => exact c a rfl h
theorem bf_e {β : Type} {b : Bool} {o : Option β} {r : β} {P : Prop} (h : (bif b then o else none) = some r) (c : b = true → o = some r → P) : P := by
  cases b with
  | false => first | exact none_i h | exact ff_i h | exact nomatch h
  | true => exact c rfl h
theorem and_e {a b : Bool} {P : Prop} (h : (a && b) = true) (c : a = true → b = true → P) : P := c (Bool.and_eq_true_iff.mp h).1 (Bool.and_eq_true_iff.mp h).2
structure GI where
  prog : Program
  w : World
  hB : Heap
  mg : Str → Option Value
  mb : Str → Option Value
  C : Addr
  cmpv : Value
def GI.gval (G : GI) (x : Str) : Option Value := match G.mg x with
  | some v => some v
  | none => G.mb x
abbrev GI.M (G : GI) : Model := model G.prog G.w
abbrev GI.knd (G : GI) : KeyKind G.prog G.w Str := PySem.strKind G.prog G.w
structure Cx where
  G : GI
  A : Around
  os : OsState
  lw : Nat
  tk0 : Nat → Option Addr
  tn : Nat → Bool
abbrev Do {α : Type} (X : Cx) (t : Sem α) (Q : α → Shared → Prop) (s : Shared) : Prop := wpAny X.G.M X.A t Q (fun _ _ => False) s
inductive Role where
  | fz (o : Obj)
  | hd (o : Obj)
  | fr (t j : Nat) (o : Obj)
def Role.ob (r : Role) : Obj := match r with
  | .fz o => o
  | .hd o => o
  | .fr _ _ o => o
def Role.fix (r : Role) : Bool := match r with
  | .fr _ _ _ => false
  | _ => true
structure Wd where
  rl : Addr → Option Role
  tk : Nat → Option Addr
def Wd.fz (W : Wd) (a : Addr) (o : Obj) : Prop := W.rl a = some (.fz o) ∧ a ≠ sysModules
def Wd.on (W : Wd) (a : Addr) (o : Obj) : Prop := (∃ r, W.rl a = some r ∧ r.ob = o) ∧ a ≠ sysModules
theorem Wd.fz.on {W : Wd} {a : Addr} {o : Obj} (h : W.fz a o) : W.on a o := ⟨⟨_, h.1, rfl⟩, h.2⟩
abbrev seqO (c : String) (vs : List Value) (n : Nat) : Obj := { cls := .type c, data := .seq vs.toArray n }
def NsO (o : Obj) (m : Str → Option Value) : Prop := ∃ es ep, o.data = .dict es ep ∧ StrKeys es ∧ ∀ x, nsFind es x = m x
def DictO (G : GI) (o : Obj) (kvs : List (Str × Value)) : Prop := ∃ es ep, o.ExactDict ∧ o.data = .dict es ep ∧ KeysOf G.knd es ∧ Pairs G.knd es.toList kvs ∧ (kvs.map (·.1)).Nodup
theorem NsO.at {h : Heap} {a : Addr} {o : Obj} {m : Str → Option Value} (n : NsO o m) (e : h.get? a = some o) : h.Ns a m := by
  obtain ⟨es, ep, r⟩ := n; exact ⟨o, es, ep, e, r⟩
theorem NsO.of {h : Heap} {a : Addr} {m : Str → Option Value} (n : h.Ns a m) {P : Prop} (c : ∀ o, h.get? a = some o → NsO o m → P) : P := by
  obtain ⟨o, es, ep, e, r⟩ := n; exact c o e ⟨es, ep, r⟩
theorem DictO.at {G : GI} {h : Heap} {a : Addr} {o : Obj} {kvs : List (Str × Value)} (n : DictO G o kvs) (e : h.get? a = some o) : h.DictOf G.knd a kvs := by
  obtain ⟨es, ep, r⟩ := n; exact ⟨o, es, ep, e, r⟩
theorem DictO.of {G : GI} {h : Heap} {a : Addr} {kvs : List (Str × Value)} (n : h.DictOf G.knd a kvs) {P : Prop} (c : ∀ o, h.get? a = some o → DictO G o kvs → P) : P := by
  obtain ⟨o, es, ep, e, r⟩ := n; exact c o e ⟨es, ep, r⟩
def keysV (kvs : List (Str × Value)) : List V := kvs.map fun p => V.str p.1.cps.toList
def All2 (P : V → Value → Prop) : List V → List Value → Prop
  | [], us => us = []
  | x :: l, us => ∃ u r, us = u :: r ∧ P x u ∧ All2 P l r
def InstO (o : Obj) (u : Value) : Prop := o.cls = .type "dict" ∧ ∃ m, NsO o m ∧ (∀ y, y ≠ Str.ofString "comp_select_list" → m y = none) ∧ m (Str.ofString "comp_select_list") = some u
def Top (G : GI) (W : Wd) (g : Addr → Obj → Prop) (P : V → Value → Prop) (x : V) (u : Value) : Prop := match x with
  | .none => u = .none
  | .bool b => u = .bool b
  | .int i => ∃ t, u = .int i t
  | .str s => ∃ t, u = .str ⟨s.toArray⟩ t
  | .tup l => ∃ a vs n, u = .ref a ∧ g a (seqO "tuple" vs n) ∧ All2 P l vs
  | .lst l => ∃ a vs n, u = .ref a ∧ g a (seqO "list" vs n) ∧ All2 P l vs
  | .dct ks vs => ∃ a o kvs, u = .ref a ∧ g a o ∧ DictO G o kvs ∧ ks = keysV kvs ∧ All2 P vs (kvs.map (·.2))
  | .atm k => ∃ a, u = .ref a ∧ W.tk k = some a
  | .inst v => ∃ a d o w, u = .ref a ∧ W.fz a (instObj G.C d) ∧ W.fz d o ∧ InstO o w ∧ P v w
  | .hole => True
structure Le (W W' : Wd) : Prop where
  fz : ∀ a o, W.rl a = some (.fz o) → W'.rl a = some (.fz o)
  tk : ∀ k a, W.tk k = some a → W'.tk k = some a
theorem Le.f {W W' : Wd} (h : Le W W') {a : Addr} {o : Obj} (x : W.fz a o) : W'.fz a o := ⟨h.fz _ _ x.1, x.2⟩
theorem All2.mono {P Q : V → Value → Prop} (h : ∀ x u, P x u → Q x u) {l : List V} : ∀ {us : List Value}, All2 P l us → All2 Q l us := by
  induction l with
  | nil => exact id
  | cons x l ih =>
    intro us k
    obtain ⟨u, r, e, a, b⟩ := k
    exact ⟨u, r, e, h _ _ a, ih b⟩
theorem Top.mono {G : GI} {W W' : Wd} {g g' : Addr → Obj → Prop} {P P' : V → Value → Prop} (L : Le W W') (hg : ∀ a o, g a o → g' a o) (hP : ∀ x u, P x u → P' x u) {x : V} {u : Value} (h : Top G W g P x u) : Top G W' g' P' x u := by
  cases x with
  | tup l => obtain ⟨a, vs, n, e, h1, h2⟩ := h; exact ⟨a, vs, n, e, hg _ _ h1, h2.mono hP⟩
  | lst l => obtain ⟨a, vs, n, e, h1, h2⟩ := h; exact ⟨a, vs, n, e, hg _ _ h1, h2.mono hP⟩
  | dct ks vs => obtain ⟨a, o, kvs, e, h1, h2, h3, h4⟩ := h; exact ⟨a, o, kvs, e, hg _ _ h1, h2, h3, h4.mono hP⟩
  | atm k => obtain ⟨a, e, h1⟩ := h; exact ⟨a, e, L.tk _ _ h1⟩
  | inst v => obtain ⟨a, d, o, w, e, h1, h2, h3, h4⟩ := h; exact ⟨a, d, o, w, e, L.f h1, L.f h2, h3, hP _ _ h4⟩
  | _ => exact h
def Rel (G : GI) (W : Wd) (x : V) (u : Value) : Prop := ∀ P : V → Value → Prop, (∀ y w, Top G W W.fz P y w → P y w) → P x u
abbrev Rels (G : GI) (W : Wd) (l : List V) (us : List Value) : Prop := All2 (Rel G W) l us
abbrev RelO (G : GI) (W : Wd) (x : V) (u : Value) : Prop := Top G W W.on (Rel G W) x u
theorem Le.refl (W : Wd) : Le W W := ⟨fun _ _ h => h, fun _ _ h => h⟩
section
variable {G : GI} {W W' : Wd} {x : V} {u : Value}
theorem Rel.mk (h : Top G W W.fz (Rel G W) x u) : Rel G W x u := fun P c => c _ _ (h.mono (Le.refl W) (fun _ _ k => k) fun _ _ r => r P c)
theorem Rel.un (h : Rel G W x u) : Top G W W.fz (Rel G W) x u := h (Top G W W.fz (Rel G W)) fun _ _ t => t.mono (Le.refl W) (fun _ _ k => k) fun _ _ r => Rel.mk r
theorem Rel.o (h : Rel G W x u) : RelO G W x u := h.un.mono (Le.refl W) (fun _ _ k => k.on) fun _ _ r => r
theorem Rel.le (L : Le W W') (h : Rel G W x u) : Rel G W' x u := fun P c => h P fun _ _ t => c _ _ (t.mono L (fun _ _ k => L.f k) fun _ _ r => r)
theorem Rels.le (L : Le W W') {l : List V} {us : List Value} (h : Rels G W l us) : Rels G W' l us := h.mono fun _ _ r => r.le L
end
section
variable {P : V → Value → Prop}
theorem All2.len {l : List V} : ∀ {us : List Value}, All2 P l us → us.length = l.length := by
  induction l with
  | nil => exact fun e => congrArg List.length e
  | cons x l ih => intro us h; obtain ⟨u, r, rfl, a, b⟩ := h; exact congrArg Nat.succ (ih b)
theorem All2.get {l : List V} : ∀ {us : List Value} {k : Nat} {x : V}, All2 P l us → l[k]? = some x → ∃ u, us[k]? = some u ∧ P x u := by
  induction l with
  | nil => exact fun _ e => nomatch e
  | cons y l ih =>
    intro us k x h e
    obtain ⟨u, r, rfl, a, b⟩ := h
    cases k with
    | zero => exact ⟨u, rfl, Option.some.inj e ▸ a⟩
    | succ k => exact ih (k := k) b e
theorem All2.app {l k : List V} {ws : List Value} (hk : All2 P k ws) : ∀ {us : List Value}, All2 P l us → All2 P (l ++ k) (us ++ ws) := by
  induction l with
  | nil => intro us e; rw [show us = [] from e]; exact hk
  | cons y l ih => intro us h; obtain ⟨u, r, rfl, a, b⟩ := h; exact ⟨u, r ++ ws, rfl, a, ih b⟩
theorem All2.one {x : V} {u : Value} (h : P x u) : All2 P [x] [u] := ⟨u, [], rfl, h, rfl⟩
theorem All2.take (n : Nat) : ∀ {l : List V} {us : List Value}, All2 P l us → All2 P (l.take n) (us.take n) := by
  induction n with
  | zero => intro l us _; rw [List.take_zero, List.take_zero]; exact rfl
  | succ n ih =>
    intro l us h
    cases l with
    | nil => rw [show us = [] from h]; exact rfl
    | cons x l => exact let ⟨u, r, e, a, b⟩ := h; ⟨u, r.take n, congrArg (List.take (n + 1)) e, a, ih b⟩
theorem All2.drop (n : Nat) : ∀ {l : List V} {us : List Value}, All2 P l us → All2 P (l.drop n) (us.drop n) := by
  induction n with
  | zero => intro l us h; exact h
  | succ n ih =>
    intro l us h
    cases l with
    | nil => rw [show us = [] from h]; exact rfl
    | cons x l => exact let ⟨u, r, e, a, b⟩ := h; (congrArg (List.drop (n + 1)) e).symm ▸ ih b
theorem All2.set {x : V} {u : Value} (hx : P x u) {l : List V} : ∀ {us : List Value} (n : Nat), All2 P l us → All2 P (l.set n x) (us.set n u) := by
  induction l with
  | nil => intro us n e; rw [show us = [] from e]; exact rfl
  | cons y l ih =>
    intro us n h
    obtain ⟨w, r, rfl, a, b⟩ := h
    cases n with
    | zero => exact ⟨u, r, rfl, hx, b⟩
    | succ n => exact ⟨w, r.set n u, rfl, a, ih n b⟩
theorem All2.one_e {Pm : List Value → Prop} {x : V} {us : List Value} (h : All2 P [x] us) (c : ∀ u, P x u → Pm [u]) : Pm us := by
  obtain ⟨u, r, rfl, a, rfl⟩ := h
  exact c u a
theorem All2.two_e {Pm : List Value → Prop} {x y : V} {us : List Value} (h : All2 P [x, y] us) (c : ∀ u w, P x u → P y w → Pm [u, w]) : Pm us := by
  obtain ⟨u, r, rfl, a, b⟩ := h
  exact b.one_e (Pm := fun r => Pm (u :: r)) fun w hw => c u w a hw
theorem All2.three_e {Pm : List Value → Prop} {x y z : V} {us : List Value} (h : All2 P [x, y, z] us) (c : ∀ u w q, P x u → P y w → P z q → Pm [u, w, q]) : Pm us := by
  obtain ⟨u, r, rfl, a, b⟩ := h
  exact b.two_e (Pm := fun r => Pm (u :: r)) fun w q hw hq => c u w q a hw hq
end
def codesOf : List (Addr × Addr) := [(61, 57), (117, 113)]
def LvOk (lw : Nat) (W : Wd) : Prop := (lw = 0 → ∀ k, W.tk k = none) ∧ (lw = 1 → W.tk (N "STAR") = none)
structure J (X : Cx) (W : Wd) (s : Shared) : Prop where
  rl : ∀ a r, W.rl a = some r → s.heap.get? a = some r.ob
  base : ∀ a o, X.G.hB.get? a = some o → W.rl a = some (.fz o)
  tk : ∀ k a, W.tk k = some a → ∃ o, W.rl a = some (.fz o) ∧ o.cls ≠ .type "tuple"
  inj : ∀ k j a, W.tk k = some a → W.tk j = some a → k = j
  lv : LvOk X.lw W
  tab : ∀ q ∈ codesOf, W.rl q.2 = none ∧ ∃ ps, s.heap.get? q.2 = some (tabObj ps) ∧ TriplesOk ps.toList
  sys : ∃ a o, X.G.hB.get? a = some o ∧ sysModules ≤ a
  os : s.os = X.os
  gens : AllBare s.gens
  t0 : ∀ z, X.tn z = false → W.tk z = X.tk0 z
structure Ex (W W' : Wd) : Prop where
  rl : ∀ a r, W.rl a = some r → W'.rl a = some r
  tk : W'.tk = W.tk
structure Sx (W W' : Wd) : Prop where
  rl : ∀ a r, W.rl a = some r → r.fix = true → W'.rl a = some r
  tk : ∀ k a, W.tk k = some a → W'.tk k = some a
def Wd.upd (W : Wd) (a : Addr) (r : Role) : Wd := { W with rl := fun b => if b = a then some r else W.rl b }
theorem Wd.upd_self {W : Wd} {a : Addr} {r : Role} : (W.upd a r).rl a = some r := if_pos rfl
theorem Wd.upd_ne {W : Wd} {a b : Addr} {r : Role} (h : b ≠ a) : (W.upd a r).rl b = W.rl b := if_neg h
theorem Wd.upd_e {W : Wd} {a b : Addr} {r q : Role} {P : Prop} (h : (W.upd a r).rl b = some q) (c : b = a → r = q → P) (d : b ≠ a → W.rl b = some q → P) : P := by
  by_cases e : b = a
  · exact c e (Option.some.inj ((if_pos e).symm.trans h))
  · exact d e ((if_neg e).symm.trans h)
section
variable {X : Cx} {W W' W'' : Wd} {s : Shared}
theorem Ex.refl (W : Wd) : Ex W W := ⟨fun _ _ h => h, rfl⟩
theorem Ex.trans (h : Ex W W') (k : Ex W' W'') : Ex W W'' := ⟨fun a r e => k.rl a r (h.rl a r e), k.tk.trans h.tk⟩
theorem Ex.le (h : Ex W W') : Le W W' := ⟨fun _ _ e => h.rl _ _ e, fun _ _ e => h.tk ▸ e⟩
theorem Ex.sx (h : Ex W W') : Sx W W' := ⟨fun a r e _ => h.rl a r e, fun _ _ e => h.tk ▸ e⟩
theorem Sx.refl (W : Wd) : Sx W W := ⟨fun _ _ h _ => h, fun _ _ h => h⟩
theorem Sx.trans (h : Sx W W') (k : Sx W' W'') : Sx W W'' := ⟨fun a r e f => k.rl a r (h.rl a r e f) f, fun i a e => k.tk i a (h.tk i a e)⟩
theorem Sx.le (h : Sx W W') : Le W W' := ⟨fun _ _ e => h.rl _ _ e rfl, fun _ _ e => h.tk _ _ e⟩
theorem Ex.upd {a : Addr} {r : Role} (h : W.rl a = none) : Ex W (W.upd a r) := ⟨fun b q e => (if_neg fun z => by rw [z, h] at e; exact nomatch e).trans e, rfl⟩
theorem Sx.upd {a : Addr} {r : Role} (h : ∀ q, W.rl a = some q → q.fix = false) : Sx W (W.upd a r) :=
  ⟨fun b q e f => (Wd.upd_ne fun z => by rw [h q (z ▸ e)] at f; exact Bool.false_ne_true f).trans e, fun _ _ e => e⟩
theorem J.lt (I : J X W s) {a : Addr} {r : Role} (h : W.rl a = some r) : a < s.heap.objs.size := Heap.lt_size (I.rl a r h)
theorem J.new (I : J X W s) : W.rl s.heap.objs.size = none := Option.eq_none_iff_forall_ne_some.mpr fun _ h => absurd (I.lt h) (Nat.lt_irrefl _)
theorem J.ne_sys (I : J X W s) : s.heap.objs.size ≠ sysModules := I.sys.elim fun a h => h.elim fun o h => Nat.ne_of_gt (Nat.lt_of_le_of_lt h.2 (I.lt (I.base a o h.1)))
theorem J.on (I : J X W s) {a : Addr} {o : Obj} (h : W.on a o) : s.heap.get? a = some o := by
  obtain ⟨⟨r, h1, rfl⟩, _⟩ := h; exact I.rl a r h1
theorem J.fz (I : J X W s) {a : Addr} {o : Obj} (h : W.fz a o) : s.heap.get? a = some o := I.rl a _ h.1
theorem J.keep (I : J X W s) {h' : Heap} {tk : Nat} (k : ∀ a o, s.heap.get? a = some o → h'.get? a = some o) : J X W { s with heap := h', toks := tk } :=
  ⟨fun a r e => k a _ (I.rl a r e), I.base, I.tk, I.inj, I.lv, fun q hq => (I.tab q hq).imp id fun e => e.imp fun _ e => e.imp (k _ _) id, I.sys, I.os, I.gens, I.t0⟩
theorem J.toks (I : J X W s) (tk : Nat) : J X W { s with toks := tk } := ⟨I.rl, I.base, I.tk, I.inj, I.lv, I.tab, I.sys, I.os, I.gens, I.t0⟩
theorem J.gen (I : J X W s) {h' : Heap} {tk : Nat} (hr : ∀ a r, W'.rl a = some r → h'.get? a = some r.ob) (hf : ∀ a o, W.rl a = some (.fz o) → W'.rl a = some (.fz o)) (ht : W'.tk = W.tk) (hq : ∀ q ∈ codesOf, W'.rl q.2 = none ∧ ∀ o, s.heap.get? q.2 = some o → h'.get? q.2 = some o) :
    J X W' { s with heap := h', toks := tk } :=
  ⟨hr, fun a o e => hf a o (I.base a o e), fun k a e => (I.tk k a (ht ▸ e)).imp fun o e => e.imp (hf a o) id, fun k j a e f => I.inj k j a (ht ▸ e) (ht ▸ f), ⟨fun e k => ht ▸ I.lv.1 e k, fun e => ht ▸ I.lv.2 e⟩,
    fun q m => ⟨(hq q m).1, (I.tab q m).2.imp fun _ e => e.imp ((hq q m).2 _) id⟩, I.sys, I.os, I.gens, fun z h => (congrFun ht z).trans (I.t0 z h)⟩
theorem J.tab_ne (I : J X W s) {a : Addr} {r : Role} (e : W.rl a = some r) {q : Addr × Addr} (m : q ∈ codesOf) : q.2 ≠ a := fun z => nomatch ((I.tab q m).1.symm.trans (congrArg W.rl z)).trans e
theorem J.tab_lt (I : J X W s) {q : Addr × Addr} (m : q ∈ codesOf) : q.2 ≠ s.heap.objs.size := fun z => (I.tab q m).2.elim fun _ h => absurd (Heap.lt_size h.1) (z ▸ Nat.lt_irrefl _)
theorem J.put (I : J X W s) {a : Addr} {r : Role} {h' : Heap} {tk : Nat} (k : Heap.ExtBut a s.heap h') (hr : h'.get? a = some r.ob) (hf : ∀ o, W.rl a ≠ some (.fz o)) (hq : ∀ q ∈ codesOf, q.2 ≠ a) : J X (W.upd a r) { s with heap := h', toks := tk } :=
  I.gen (fun b q e => Wd.upd_e e (fun h1 h2 => h1 ▸ h2 ▸ hr) fun h1 h2 => k b _ h1 (I.rl b q h2)) (fun b o e => (Wd.upd_ne fun z : b = a => hf o (z ▸ e)).trans e) rfl fun q m => ⟨(Wd.upd_ne (hq q m)).trans (I.tab q m).1, fun _ => k _ _ (hq q m)⟩
theorem J.push (I : J X W s) {o : Obj} (r : Role) (e : r.ob = o) (f : o.isFreed = false) (tk : Nat) : J X (W.upd s.heap.objs.size r) { s with heap := s.heap.push o, toks := tk } :=
  I.put (fun _ _ _ h => Heap.get?_push_of_some _ h) ((Heap.get?_push_size _ f).trans (congrArg some e.symm)) (fun _ h => nomatch I.new.symm.trans h)
    fun _ m => I.tab_lt m
theorem J.set (I : J X W s) {a : Addr} {q : Role} (r : Role) {h' : Heap} {tk : Nat} (ha : W.rl a = some q) (hn : ∀ o, q ≠ .fz o) (k : Heap.ExtBut a s.heap h') (hr : h'.get? a = some r.ob) :
    J X (W.upd a r) { s with heap := h', toks := tk } :=
  I.put k hr (fun o e => hn o (Option.some.inj (ha.symm.trans e))) fun _ m => I.tab_ne ha m
theorem J.role (I : J X W s) {a : Addr} {q : Role} (r : Role) (ha : W.rl a = some q) (hn : ∀ o, q ≠ .fz o) (hr : r.ob = q.ob) : J X (W.upd a r) s :=
  I.set r (h' := s.heap) (tk := s.toks) ha hn (Heap.ExtBut.refl _ _) ((I.rl a q ha).trans (congrArg some hr.symm))
end
end Mine
end
section
open PySem PySem.W PyProof.Rows
set_option maxRecDepth 100000
set_option genInjectivity false
set_option genSizeOf false
set_option backward.match.sparseCases false
namespace Mine
def CellS (W : Wd) (env : Env) (x : Str) (sv : Option Value) : Prop := ∃ c r, env.cells.lookup x = some c ∧ W.rl c = some r ∧ r.ob.data = .cell sv
def LocS (W : Wd) (env : Env) (x : Str) (sv : Option Value) : Prop := ∃ r m, W.rl env.locals = some r ∧ NsO r.ob m ∧ m x = sv
def Slot (W : Wd) (ks : Ks) (env : Env) (x : Str) (sv : Option Value) : Prop := match look (nm x) ks with
  | some .local => LocS W env x sv
  | some .cell => CellS W env x sv
  | some .free => CellS W env x sv
  | _ => False
def OwnL (W : Wd) (t j : Nat) (a : Addr) (vs : List Value) : Prop := a ≠ sysModules ∧ ∃ n, W.rl a = some (.fr t j (seqO "list" vs n))
abbrev bappO (l : Addr) : Obj := { cls := .type "builtin_function_or_method", data := .fields #[.builtin "list.append", .ref l] }
def RowsR (G : GI) (W : Wd) (j : Nat) : Nat → List (List Nat × List V) → List Value → Prop
  | _, [], us => us = []
  | i, p :: l, us => ∃ a b t n vs r, us = .ref a :: r ∧ W.fz a (seqO "tuple" [.str ⟨p.1.toArray⟩ t, .ref b] n) ∧ OwnL W (3 + i) j b vs ∧ Rels G W p.2 vs ∧ RowsR G W j (i + 1) l r
def ApR (S : Str → Option Value → Prop) (E : VEnv) (y : Nat) (b : Addr) : Prop := apN y = true ∧ isNo (lookE y E) = false ∧ ∀ z l, okN z → nm z = y → lookE y E = .ml l → S z (some (.ref b))
def EntR (G : GI) (W : Wd) (S : Str → Option Value → Prop) (x : Str) (en : En) : Prop := match en with
  | .no => ∃ sv, S x sv
  | .val v => ∃ u, S x (some u) ∧ Rel G W v u
  | .ml l => ∃ a vs, S x (some (.ref a)) ∧ OwnL W 2 (nm x) a vs ∧ Rels G W l vs
  | .md ks vs => ∃ a o kvs, S x (some (.ref a)) ∧ a ≠ sysModules ∧ W.rl a = some (.fr 2 (nm x) o) ∧ DictO G o kvs ∧ ks = keysV kvs ∧ Rels G W vs (kvs.map (·.2))
  | .mr l => ∃ a vs, S x (some (.ref a)) ∧ OwnL W 2 (nm x) a vs ∧ RowsR G W (nm x) 0 l vs
  | .ap _ => ∃ sv, S x sv
def ApF (W : Wd) (S : Str → Option Value → Prop) (E : VEnv) (x : Str) (y : Nat) : Prop := ∃ a b, S x (some (.ref a)) ∧ W.fz a (bappO b) ∧ ApR S E y b
structure EnvR (G : GI) (W : Wd) (ks : Ks) (E : VEnv) (env : Env) : Prop where
  kind : env.scope.kind = .function
  glob : env.globals = mainGlobals
  blt : env.builtins = builtinsNs
  kinds : ∀ x, okN x → look (nm x) ks = env.kindOf x
  ent : ∀ x, okN x → isVar (look (nm x) ks) = true → EntR G W (Slot W ks env) x (lookE (nm x) E)
  tr : isTr ks = true → env.code = .ref 61
  ac : isAc ks = true → env.code = .ref 117
structure FrR (G : GI) (W : Wd) (ks : Ks) (ow : List Nat) (E : VEnv) (env : Env) : Prop extends EnvR G W ks E env where
  loc : ∃ o, W.rl env.locals = some (.fr 0 0 o)
  cel : ∀ x, okN x → look (nm x) ks = some .cell → ∃ c o, env.cells.lookup x = some c ∧ W.rl c = some (.fr 1 (nm x) o)
  ap : ∀ x y, okN x → isVar (look (nm x) ks) = true → lookE (nm x) E = .ap y → ApF W (Slot W ks env) E x y
  tok : ∀ x, ow.any (Nat.beq x) = true → tokN x = true → isNo (lookE x E) = true → W.tk x = none
  nf : ∀ x, look x ks ≠ some .free
section
variable {G : GI} {W W' : Wd} {ks : Ks} {ow : List Nat} {E E' : VEnv} {env : Env} {x : Str} {S S' : Str → Option Value → Prop}
theorem slot_e {sv : Option Value} {P : Prop} (h : Slot W ks env x sv) (c : look (nm x) ks = some .local → LocS W env x sv → P) (d : look (nm x) ks = some .cell ∨ look (nm x) ks = some .free → CellS W env x sv → P) : P := by
  unfold Slot at h
  generalize look (nm x) ks = o at h c d
  cases o with
  | none => exact h.elim
  | some k =>
    cases k with
    | «local» => exact c rfl h
    | cell => exact d (.inl rfl) h
    | free => exact d (.inr rfl) h
    | _ => exact h.elim
theorem slot_loc {sv : Option Value} (e : look (nm x) ks = some .local) (h : LocS W env x sv) : Slot W ks env x sv := by unfold Slot; rw [e]; exact h
theorem slot_cell {sv : Option Value} (e : look (nm x) ks = some .cell ∨ look (nm x) ks = some .free) (h : CellS W env x sv) : Slot W ks env x sv := by
  unfold Slot; rcases e with e | e <;> rw [e] <;> exact h
theorem Slot.mono (h : ∀ a r, W.rl a = some r → W'.rl a = some r) {sv : Option Value} (k : Slot W ks env x sv) : Slot W' ks env x sv :=
  slot_e k (fun e k => slot_loc e (k.imp fun _ k => k.imp fun _ k => k.imp (h _ _) id)) fun e k => slot_cell e (k.imp fun _ k => k.imp fun _ k => k.imp id fun k => k.imp (h _ _) id)
theorem RowsR.mono (L : Le W W') {j : Nat} {l : List (List Nat × List V)} : ∀ {i : Nat} {us : List Value}, (∀ q a o, q < l.length → W.rl a = some (.fr (3 + (i + q)) j o) → W'.rl a = some (.fr (3 + (i + q)) j o)) → RowsR G W j i l us → RowsR G W' j i l us := by
  induction l with
  | nil => exact fun _ e => e
  | cons p l ih =>
    intro i us hO h
    obtain ⟨a, b, t, n, vs, r, e, h1, ⟨h2, m, h3⟩, h4, h5⟩ := h
    exact ⟨a, b, t, n, vs, r, e, L.f h1, ⟨h2, m, hO 0 _ _ (Nat.succ_pos _) h3⟩, h4.le L, ih (fun q a o hq e => by
      have z : 3 + (i + 1 + q) = 3 + (i + (q + 1)) := congrArg (3 + ·) (Nat.add_right_comm i 1 q)
      rw [z] at e ⊢
      exact hO (q + 1) a o (Nat.succ_lt_succ hq) e) h5⟩
theorem EntR.mono {en : En} (L : Le W W') (hS : ∀ sv, S x sv → S' x sv) (hO : ∀ t a o, 2 ≤ t → W.rl a = some (.fr t (nm x) o) → W'.rl a = some (.fr t (nm x) o)) (h : EntR G W S x en) : EntR G W' S' x en := by
  cases en with
  | val v => obtain ⟨u, h1, h2⟩ := h; exact ⟨u, hS _ h1, h2.le L⟩
  | ml l => obtain ⟨a, vs, h1, ⟨h2, n, h3⟩, h4⟩ := h; exact ⟨a, vs, hS _ h1, ⟨h2, n, hO _ _ _ (Nat.le_refl _) h3⟩, h4.le L⟩
  | md ks vs => obtain ⟨a, o, kvs, h1, h2, h3, h4, h5, h6⟩ := h; exact ⟨a, o, kvs, hS _ h1, h2, hO _ _ _ (Nat.le_refl _) h3, h4, h5, h6.le L⟩
  | mr l => obtain ⟨a, vs, h1, ⟨h2, n, h3⟩, h4⟩ := h; exact ⟨a, vs, hS _ h1, ⟨h2, n, hO _ _ _ (Nat.le_refl _) h3⟩, h4.mono L fun _ a o _ => hO _ a o (Nat.le_trans (by decide) (Nat.le_add_right 3 _))⟩
  | _ => exact h.imp hS
theorem EntR.some {en : En} (h : EntR G W S x en) : ∃ sv, S x sv := by
  cases en with
  | val v => obtain ⟨u, h1, _⟩ := h; exact ⟨_, h1⟩
  | ml l => obtain ⟨a, vs, h1, _⟩ := h; exact ⟨_, h1⟩
  | md ks vs => obtain ⟨a, o, kvs, h1, _⟩ := h; exact ⟨_, h1⟩
  | mr l => obtain ⟨a, vs, h1, _⟩ := h; exact ⟨_, h1⟩
  | _ => exact h
theorem EnvR.ex (R : EnvR G W ks E env) (h : Ex W W') : EnvR G W' ks E env :=
  ⟨R.kind, R.glob, R.blt, R.kinds, fun x hx hv => (R.ent x hx hv).mono h.le (fun _ k => k.mono h.rl) fun _ _ _ _ e => h.rl _ _ e, R.tr, R.ac⟩
theorem ApR.mono {y : Nat} {b : Addr} (h : ∀ z sv, okN z → S z sv → S' z sv) (k : ApR S E y b) : ApR S' E y b := ⟨k.1, k.2.1, fun z l a e f => h _ _ a (k.2.2 z l a e f)⟩
theorem FrR.ex (R : FrR G W ks ow E env) (h : Ex W W') : FrR G W' ks ow E env :=
  ⟨R.toEnvR.ex h, R.loc.imp fun _ e => h.rl _ _ e, fun x a b => (R.cel x a b).imp fun _ q => q.imp fun _ q => q.imp id (h.rl _ _),
    fun x y a b c => (R.ap x y a b c).imp fun _ q => q.imp fun _ q => ⟨q.1.mono h.rl, h.le.f q.2.1, q.2.2.mono fun _ _ _ k => k.mono h.rl⟩, fun x a b c => h.tk ▸ R.tok x a b c, R.nf⟩
theorem var_fine {k : Option NameKind} (h : isVar k = true) {P : Prop} (c : ∀ n, k = some n → P) : P := by
  cases k with
  | none => first | exact none_i h | exact ff_i h | exact nomatch h
  | some n => exact c n rfl
theorem entOf_e {en : En} {P : Prop} (h : entOf ks x E = en) (hn : en ≠ .no) (c : nameFine x = true → isVar (look (nm x) ks) = true → lookE (nm x) E = en → P) : P := by
  unfold entOf at h
  cases hb : (nameFine x && isVar (look (nm x) ks)) with
  | false => rw [hb] at h; exact absurd h.symm hn
  | true => rw [hb] at h; exact and_e hb fun h1 h2 => c h1 h2 h
theorem fine_ok (h : nameFine x = true) : okN x := and_e h fun h _ => and_e h fun h _ => okB_i h
theorem fine_ne (h : nameFine x = true) : (x == "__debug__") = false ∧ (x == "__classdict__") = false := by
  refine and_e h fun h h2 => and_e h fun _ h1 => ⟨?_, ?_⟩
  · refine beq_eq_false_iff_ne.mpr fun e => ?_
    rw [e, show Nat.beq (nm ("__debug__" : Str)) (N "__debug__") = true from Nat.beq_refl _] at h1
    exact Bool.false_ne_true h1
  · refine beq_eq_false_iff_ne.mpr fun e => ?_
    rw [e, show Nat.beq (nm ("__classdict__" : Str)) (N "__classdict__") = true from Nat.beq_refl _] at h2
    exact Bool.false_ne_true h2
theorem ent_at {en : En} {P : Prop} (R : EnvR G W ks E env) (h : entOf ks x E = en) (hn : en ≠ .no) (c : nameFine x = true → isVar (look (nm x) ks) = true → lookE (nm x) E = en → EntR G W (Slot W ks env) x en → P) : P :=
  entOf_e h hn fun h1 h2 h3 => c h1 h2 h3 (h3 ▸ R.ent x (fine_ok h1) h2)
variable {X : Cx} {s : Shared}
theorem load_slot {u : Value} {Q : Value → Shared → Prop} (I : J X W s) (R : EnvR X.G W ks E env) (hf : nameFine x = true) (h : Slot W ks env x (some u)) (hQ : Q u s) : Do X (loadName env x) Q s := by
  have hk := R.kinds x (fine_ok hf)
  refine slot_e h (fun e h => ?_) fun e h => ?_
  · obtain ⟨r, m, h1, h2, h3⟩ := h
    exact wpAny_loadName_local R.kind (hk.symm.trans e) (h2.at (I.rl _ _ h1)) h3 hQ
  · obtain ⟨c, r, h1, h2, h3⟩ := h
    rcases e with e | e
    · exact wpAny_loadName_cell R.kind (hk.symm.trans e) h1 ⟨_, I.rl _ _ h2, h3⟩ hQ
    · exact wpAny_loadName_free R.kind (hk.symm.trans e) h1 ⟨_, I.rl _ _ h2, h3⟩ hQ (fine_ne hf).2
structure GOk (G : GI) : Prop where
  g : G.hB.Ns mainGlobals G.mg
  b : G.hB.Ns builtinsNs G.mb
  nolim : G.hB.NoLimit
  bm : ∃ bm o, G.mg "__builtins__" = some (.ref bm) ∧ bm ≠ builtinsNs ∧ bm ≠ mainGlobals ∧ G.hB.get? bm = some o ∧ o.cls = .type "module" ∧ o.dict = some builtinsNs ∧ o.data = .plain
theorem J.hB (I : J X W s) {a : Addr} {o : Obj} (e : X.G.hB.get? a = some o) : s.heap.get? a = some o := I.rl a _ (I.base a o e)
theorem isGl_i {k : Option NameKind} (h : isGl k = true) : k = some .globalImplicit := by
  cases k with
  | none => first | exact none_i h | exact ff_i h | exact nomatch h
  | some k => cases k <;> first | rfl | exact none_i h | exact ff_i h | exact nomatch h
theorem headN_e {g : GV} {P : Prop} (h : headN ks x = some g) (c : nameFine x = true → look (nm x) ks = some .globalImplicit → glob (nm x) = some g → P) : P :=
  bf_e h fun hb h => and_e hb fun h1 h2 => c h1 (isGl_i h2) h
theorem load_glob {u : Value} {Q : Value → Shared → Prop} (O : GOk X.G) (I : J X W s) (R : EnvR X.G W ks E env) (hf : nameFine x = true) (hk : look (nm x) ks = some .globalImplicit) (hu : X.G.gval x = some u) (hQ : Q u s) :
    Do X (loadName env x) Q s := by
  refine ks_loadName_global R.kind ((R.kinds x (fine_ok hf)).symm.trans hk) ?_
  have ng : s.heap.Ns env.globals X.G.mg := R.glob ▸ O.g.keeps fun _ _ => I.hB
  have nb : s.heap.Ns env.builtins X.G.mb := R.blt ▸ O.b.keeps fun _ _ => I.hB
  unfold GI.gval at hu
  cases hm : X.G.mg x with
  | some z =>
    rw [hm] at hu
    exact Calls.loadGlobal_global ng hm (Option.some.inj hu ▸ hQ)
  | none =>
    rw [hm] at hu
    exact Calls.loadGlobal_builtin ng hm nb hu hQ
theorem lookE_ne {m : VEnv} {x : Nat} {v : En} {y : Nat} (h : y ≠ x) : lookE y (putE x v m) = lookE y m := by
  induction m with
  | nil => rfl
  | cons p r ih =>
    obtain ⟨z, a⟩ := p
    show lookE y (bif Nat.beq z x then (x, v) :: r else (z, a) :: putE x v r) = (bif Nat.beq z y then a else lookE y r)
    cases hz : Nat.beq z x with
    | true =>
      rw [beqN.mp hz]
      show (bif Nat.beq x y then v else lookE y r) = (bif Nat.beq x y then a else lookE y r)
      rw [beqN_false (Ne.symm h)]; rfl
    | false =>
      show (bif Nat.beq z y then a else lookE y (putE x v r)) = _
      rw [ih]
theorem lookE_at {m : VEnv} {x : Nat} {v : En} : lookE x (putE x v m) = v ∨ (lookE x (putE x v m) = .no ∧ lookE x m = .no) := by
  induction m with
  | nil => exact .inr ⟨rfl, rfl⟩
  | cons p r ih =>
    obtain ⟨z, a⟩ := p
    show lookE x (bif Nat.beq z x then (x, v) :: r else (z, a) :: putE x v r) = v ∨ (lookE x (bif Nat.beq z x then (x, v) :: r else (z, a) :: putE x v r) = .no ∧ (bif Nat.beq z x then a else lookE x r) = .no)
    cases hz : Nat.beq z x with
    | true =>
      left
      show (bif Nat.beq x x then v else lookE x r) = v
      rw [Nat.beq_refl]; rfl
    | false =>
      show (bif Nat.beq z x then a else lookE x (putE x v r)) = v ∨ ((bif Nat.beq z x then a else lookE x (putE x v r)) = .no ∧ _)
      rw [hz]; exact ih
theorem lookE_has {m : VEnv} {x : Nat} {v : En} (h : hasE x m = true) : lookE x (putE x v m) = v := by
  induction m with
  | nil => first | exact none_i h | exact ff_i h | exact nomatch h
  | cons p r ih =>
    obtain ⟨z, a⟩ := p
    have h : (bif Nat.beq z x then true else hasE x r) = true := h
    show lookE x (bif Nat.beq z x then (x, v) :: r else (z, a) :: putE x v r) = v
    cases hz : Nat.beq z x with
    | true =>
      show (bif Nat.beq x x then v else lookE x r) = v
      rw [Nat.beq_refl]; rfl
    | false =>
      rw [hz] at h
      show (bif Nat.beq z x then a else lookE x (putE x v r)) = v
      rw [hz]; exact ih h
theorem isNo_i {e : En} (h : isNo e = true) : e = .no := by cases e <;> first | rfl | exact none_i h | exact ff_i h | exact nomatch h
theorem kSt_e {P : Prop} (h : kSt ks x = true) (c : okN x → look (nm x) ks = some .local ∨ look (nm x) ks = some .cell → P) : P := by
  refine and_e h fun h1 h2 => c (okB_i h1) ?_
  cases hk : look (nm x) ks with
  | none => rw [hk] at h2; exact nomatch h2
  | some k => rw [hk] at h2; cases k <;> first | exact .inl rfl | exact .inr rfl | exact nomatch h2
structure Chg (W W' : Wd) (ks : Ks) (env : Env) (x : Str) : Prop where
  sx : Sx W W'
  slot : ∀ y sv, okN y → y ≠ x → Slot W ks env y sv → Slot W' ks env y sv
  own : ∀ t j a o, j ≠ nm x → 2 ≤ t → W.rl a = some (.fr t j o) → W'.rl a = some (.fr t j o)
  loc : ∀ o, W.rl env.locals = some (.fr 0 0 o) → ∃ o, W'.rl env.locals = some (.fr 0 0 o)
  cel : ∀ z c o, W.rl c = some (.fr 1 z o) → ∃ o, W'.rl c = some (.fr 1 z o)
structure NewE (G : GI) (W W' : Wd) (ks : Ks) (E : VEnv) (env : Env) (x : Str) (en : En) : Prop where
  ne : isNo en = false
  ml : ∀ l, en = .ml l → newN (nm x) E = true ∨ (∃ k, lookE (nm x) E = .ml k) ∧ ∀ sv, Slot W ks env x sv → Slot W' ks env x sv
  ent : EntR G W' (Slot W' ks env) x en
  ap : ∀ y, en = .ap y → ApF W' (Slot W' ks env) (putE (nm x) en E) x y
  tk : ∀ z, tokN z = true → W'.tk z = W.tk z ∨ (z = nm x ∧ hasE z E = true)
theorem ApR.chg (ok : okN x) (H : Chg W W' ks env x) {en : En} (N : NewE G W W' ks E env x en) {y : Nat} {b : Addr} (h : ApR (Slot W ks env) E y b) : ApR (Slot W' ks env) (putE (nm x) en E) y b := by
  obtain ⟨h1, h2, h3⟩ := h
  by_cases q : y = nm x
  · subst q
    have ee : lookE (nm x) (putE (nm x) en E) = en := lookE_at.elim id fun q => by rw [q.2] at h2; exact nomatch h2
    refine ⟨h1, (congrArg isNo ee).trans N.ne, fun z l hz e2 e3 => ?_⟩
    rcases N.ml l (ee.symm.trans e3) with q | ⟨⟨k, q⟩, q'⟩
    · unfold newN at q
      rw [h1, h2] at q; exact nomatch q
    · rw [nm_inj hz ok e2]
      exact q' _ (h3 x k ok rfl q)
  · rw [ApR, lookE_ne q]
    exact ⟨h1, h2, fun w l hw e2 e3 => H.slot w _ hw (fun q' => q (q' ▸ e2.symm)) (h3 w l hw e2 e3)⟩
theorem FrR.chg (R : FrR G W ks ow E env) (ok : okN x) (H : Chg W W' ks env x) {en : En} (N : NewE G W W' ks E env x en) : FrR G W' ks ow (putE (nm x) en E) env := by
  refine ⟨⟨R.kind, R.glob, R.blt, R.kinds, fun y hy hv => ?_, R.tr, R.ac⟩, R.loc.elim H.loc, fun y hy hk => (R.cel y hy hk).elim fun c h => h.elim fun o h => (H.cel _ _ _ h.2).elim fun o' h' => ⟨c, o', h.1, h'⟩, fun y z hy hv e => ?_, fun z how hz hno => ?_, R.nf⟩
  · by_cases e : y = x
    · subst e
      rcases lookE_at (m := E) (x := nm y) (v := en) with e | e
      · rw [e]; exact N.ent
      · rw [e.1]; exact N.ent.some
    · have en1 : nm y ≠ nm x := fun q => e (nm_inj hy ok q)
      rw [lookE_ne en1]
      exact (R.ent y hy hv).mono H.sx.le (fun sv => H.slot y sv hy e) fun t a o ht => H.own t _ a o en1 ht
  · by_cases e' : y = x
    · subst e'
      rcases lookE_at (m := E) (x := nm y) (v := en) with q | q
      · exact N.ap z (q.symm.trans e)
      · exact nomatch q.1.symm.trans e
    · rw [lookE_ne fun q => e' (nm_inj hy ok q)] at e
      exact (R.ap y z hy hv e).imp fun _ q => q.imp fun _ q => ⟨H.slot y _ hy e' q.1, H.sx.le.f q.2.1, q.2.2.chg ok H N⟩
  · rcases N.tk z hz with e | e
    · by_cases q : z = nm x
      · subst q
        rcases lookE_at (m := E) (x := nm x) (v := en) with e' | e'
        · rw [e', N.ne] at hno; exact nomatch hno
        · rw [e]; exact R.tok _ how hz (by rw [e'.2]; rfl)
      · rw [lookE_ne q] at hno
        rw [e]; exact R.tok z how hz hno
    · rw [e.1, lookE_has (e.1 ▸ e.2), N.ne] at hno; exact nomatch hno
def Role.with (r : Role) (o : Obj) : Role := match r with
  | .fz _ => .fz o
  | .hd _ => .hd o
  | .fr t j _ => .fr t j o
theorem Role.with_ob {r : Role} {o : Obj} : (r.with o).ob = o := by cases r <;> rfl
def Role.nfz (r : Role) : Bool := match r with
  | .fz _ => false
  | _ => true
theorem nfz_ne {r : Role} (h : r.nfz = true) : ∀ o, r ≠ .fz o := fun o e => by rw [e] at h; exact nomatch h
def Place (W : Wd) (ks : Ks) (env : Env) (x : Str) (a : Addr) : Prop := (look (nm x) ks = some .local ∧ a = env.locals ∨ look (nm x) ks = some .cell ∧ env.cells.lookup x = some a) ∧ ∃ r, W.rl a = some r ∧ r.nfz = true
theorem store_slot {u : Value} {a : Addr} {Q : Unit → Shared → Prop} (I : J X W s) (R : EnvR X.G W ks E env) (hp : Place W ks env x a) (hs : ∃ sv, Slot W ks env x sv) (hne : ∀ y, okN y → y ≠ x → env.cells.lookup y = some a → look (nm y) ks ≠ some .cell ∧ look (nm y) ks ≠ some .free) (ok : okN x)
    (P : ∀ r o h' tk, W.rl a = some r → r.nfz = true → J X (W.upd a (r.with o)) { s with heap := h', toks := tk } → (∀ y sv, okN y → y ≠ x → Slot W ks env y sv → Slot (W.upd a (r.with o)) ks env y sv) → Slot (W.upd a (r.with o)) ks env x (some u) → Q () { s with heap := h', toks := tk }) :
    Do X (storeName env x u) Q s := by
  obtain ⟨sv, hs⟩ := hs
  obtain ⟨hp, r, hr, hn⟩ := hp
  have hk := R.kinds x ok
  have cellO : ∀ {c : Addr} {q : Role} {v : Option Value} {o : Obj} {m : Str → Option Value}, W.rl c = some q → q.ob.data = .cell v → W.rl a = some r → NsO r.ob m → c ≠ a := fun h1 h2 h3 h4 e => by
    subst e
    obtain ⟨es, ep, e, _⟩ := h4
    rw [Option.some.inj (h1.symm.trans h3)] at h2
    exact nomatch h2.symm.trans e
  rcases hp with ⟨hl, rfl⟩ | ⟨hl, hc⟩
  · refine slot_e hs (fun _ h => ?_) fun e => by rw [hl] at e; rcases e with e | e <;> exact nomatch e
    obtain ⟨q, m, h1, h2, _⟩ := h
    have e := Option.some.inj (h1.symm.trans hr)
    subst e
    refine wpAny_storeName_local (hk.symm.trans hl) (h2.at (I.rl _ _ h1)) (fun h' hn' hs' => ?_) (by rw [R.kind]; rfl)
    refine NsO.of hn' fun o ho hno => P q o h' _ h1 hn (I.set (q.with o) h1 (nfz_ne hn) hs'.extBut (Role.with_ob (r := q) ▸ ho)) (fun y sv hy hyx k => ?_) ?_
    · refine slot_e k (fun e k => slot_loc e ?_) fun e k => slot_cell e ?_
      · obtain ⟨q', m', k1, k2, k3⟩ := k
        refine ⟨_, _, Wd.upd_self, (Role.with_ob (r := q) (o := o)).symm ▸ hno, ?_⟩
        have e := Option.some.inj (k1.symm.trans h1)
        subst e
        obtain ⟨es, ep, e1, _, e2⟩ := h2
        obtain ⟨es', ep', e1', _, e2'⟩ := k2
        rw [e1] at e1'
        show (if y = x then some u else m y) = sv
        rw [if_neg hyx, ← e2, ← k3, ← e2']
        exact congrArg (fun d => match d with | Data.dict es _ => nsFind es y | _ => none) e1'
      · obtain ⟨c, q', k1, k2, k3⟩ := k
        exact ⟨c, q', k1, (Wd.upd_ne (cellO (o := o) k2 k3 hr h2)).trans k2, k3⟩
    · exact slot_loc hl ⟨_, _, Wd.upd_self, (Role.with_ob (r := q) (o := o)).symm ▸ hno, if_pos rfl⟩
  · refine slot_e hs (fun e => by rw [hl] at e; exact nomatch e) fun e h => ?_
    obtain ⟨c, q, h0, h1, h2⟩ := h
    have e0 := Option.some.inj (h0.symm.trans hc)
    subst e0
    have e := Option.some.inj (h1.symm.trans hr)
    subst e
    refine wpAny_storeName_cell R.kind (hk.symm.trans hl) h0 ⟨_, I.rl _ _ h1, h2⟩ fun h' hc' hs' => ?_
    obtain ⟨o, ho, hd⟩ := hc'
    refine P q o h' s.toks h1 hn (I.set (q.with o) h1 (nfz_ne hn) hs'.extBut (Role.with_ob (r := q) ▸ ho)) (fun y sv hy hyx k => ?_) ?_
    · refine slot_e k (fun e k => slot_loc e ?_) fun e k => slot_cell e ?_
      · obtain ⟨q', m', k1, k2, k3⟩ := k
        refine ⟨q', m', (Wd.upd_ne fun z => ?_).trans k1, k2, k3⟩
        obtain ⟨es, ep, e1, _⟩ := k2
        rw [z] at k1
        rw [Option.some.inj (k1.symm.trans h1)] at e1
        exact nomatch h2.symm.trans e1
      · obtain ⟨c', q', k1, k2, k3⟩ := k
        refine ⟨c', q', k1, (Wd.upd_ne fun z => ?_).trans k2, k3⟩
        have z' := hne y hy hyx (z ▸ k1)
        rcases e with e | e
        · exact z'.1 e
        · exact z'.2 e
    · exact slot_cell (.inl hl) ⟨c, _, h0, Wd.upd_self, (congrArg Obj.data (Role.with_ob (r := q))).trans hd⟩
end
end Mine
end
section
open PySem PySem.W PyProof.Rows
set_option maxRecDepth 100000
set_option genInjectivity false
set_option genSizeOf false
set_option backward.match.sparseCases false
namespace Mine
def Post (X : Cx) (W : Wd) (v : V) (Q : Value → Shared → Prop) : Prop := ∀ u W' s', Ex W W' → J X W' s' → Rel X.G W' v u → Q u s'
abbrev PK (X : Cx) (W : Wd) (k : V → Prop) (Q : Value → Shared → Prop) : Prop := ∀ v, k v → Post X W v Q
section
variable {G : GI} {W : Wd}
theorem rInt (i : Int) (t : Tok) : Rel G W (.int i) (.int i t) := .mk ⟨t, rfl⟩
theorem rStr (s : List Nat) (t : Tok) : Rel G W (.str s) (.str ⟨s.toArray⟩ t) := .mk ⟨t, rfl⟩
theorem rBool (b : Bool) : Rel G W (.bool b) (.bool b) := .mk rfl
theorem relTup {l : List V} {vs : List Value} {a : Addr} {n : Nat} (h : W.fz a (seqO "tuple" vs n)) (r : Rels G W l vs) : Rel G W (.tup l) (.ref a) := .mk ⟨a, vs, n, rfl, h, r⟩
theorem relLst {l : List V} {vs : List Value} {a : Addr} {n : Nat} (h : W.fz a (seqO "list" vs n)) (r : Rels G W l vs) : Rel G W (.lst l) (.ref a) := .mk ⟨a, vs, n, rfl, h, r⟩
end
section
variable {X : Cx} {W : Wd} {s : Shared} {v : V} {u : Value} {Q : Value → Shared → Prop}
theorem Post.tok (P : Post X W v Q) (I : J X W s) (h : Rel X.G W v u) (k : Nat) : Q u { s with toks := k } := P u W _ (Ex.refl W) (I.toks k) h
theorem Post.same (P : Post X W v Q) (I : J X W s) (h : Rel X.G W v u) : Q u s := P u W s (Ex.refl W) I h
theorem Post.bool {b c : Bool} (P : Post X W (.bool b) Q) (I : J X W s) (e : c = b) : Q (.bool c) s := e ▸ P.same I (rBool b)
theorem Post.new (P : Post X W v Q) (I : J X W s) {o : Obj} (f : o.isFreed = false) (h : ∀ W', Ex W W' → W'.fz s.heap.objs.size o → Rel X.G W' v (.ref s.heap.objs.size)) (k : Nat) : Q (.ref s.heap.objs.size) { s with heap := s.heap.push o, toks := k } :=
  P _ _ _ (Ex.upd I.new) (I.push (.fz o) rfl f k) (h _ (Ex.upd I.new) ⟨Wd.upd_self, I.ne_sys⟩)
theorem Post.list {l : List V} {vs : List Value} (P : Post X W (.lst l) Q) (I : J X W s) (h : Rels X.G W l vs) (k : Nat) : Q (.ref s.heap.objs.size) { s with heap := s.heap.push (seqO "list" vs 0), toks := k } :=
  P.new I rfl (fun _ e z => relLst z (h.le e.le)) k
theorem Post.tuple {l : List V} {vs : List Value} (P : Post X W (.tup l) Q) (I : J X W s) (h : Rels X.G W l vs) (k : Nat) : Q (.ref s.heap.objs.size) { s with heap := s.heap.push (seqO "tuple" vs 0), toks := k } :=
  P.new I rfl (fun _ e z => relTup z (h.le e.le)) k
variable {x y : V} {w : Value} {Pm : Value → Prop}
@[elab_as_elim] theorem int_e {f : Int → Prop} (hx : RelO X.G W x u) (h : optW (intOf x) f) (c : ∀ i t, f i → Pm (.int i t)) : Pm u := by
  cases x with
  | int i => obtain ⟨t, rfl⟩ := hx; exact c i t h
  | _ => exact h.elim
@[elab_as_elim] theorem str_e {f : List Nat → Prop} (hx : RelO X.G W x u) (h : optW (strOf x) f) (c : ∀ i t, f i → Pm (.str ⟨i.toArray⟩ t)) : Pm u := by
  cases x with
  | str i => obtain ⟨t, rfl⟩ := hx; exact c i t h
  | _ => exact h.elim
@[elab_as_elim] theorem bol_e {f : Bool → Prop} (hx : RelO X.G W x u) (h : optW (bolOf x) f) (c : ∀ i, f i → Pm (.bool i)) : Pm u := by
  cases x with
  | bool i => rw [show u = .bool i from hx]; exact c i h
  | _ => exact h.elim
@[elab_as_elim] theorem lst_e {f : List V → Prop} (I : J X W s) (hx : RelO X.G W x u) (h : optW (lstOf x) f) (c : ∀ l a vs n, s.heap.get? a = some (seqO "list" vs n) → Rels X.G W l vs → f l → Pm (.ref a)) : Pm u := by
  cases x with
  | lst l => obtain ⟨a, vs, n, rfl, h1, h2⟩ := hx; exact c l a vs n (I.on h1) h2 h
  | _ => exact h.elim
@[elab_as_elim] theorem tup_e {f : List V → Prop} (I : J X W s) (hx : RelO X.G W x u) (h : optW (tupOf x) f) (c : ∀ l a vs n, s.heap.get? a = some (seqO "tuple" vs n) → Rels X.G W l vs → f l → Pm (.ref a)) : Pm u := by
  cases x with
  | tup l => obtain ⟨a, vs, n, rfl, h1, h2⟩ := hx; exact c l a vs n (I.on h1) h2 h
  | _ => exact h.elim
@[elab_as_elim] theorem dct_e {f : List V × List V → Prop} (I : J X W s) (hx : RelO X.G W x u) (h : optW (dctOf x) f) (c : ∀ a kvs vs, (a == sysModules) = false → s.heap.DictOf X.G.knd a kvs → Rels X.G W vs (kvs.map (·.2)) → f (keysV kvs, vs) → Pm (.ref a)) : Pm u := by
  cases x with
  | dct ks vs => obtain ⟨a, o, kvs, rfl, h1, h2, rfl, h3⟩ := hx; exact c a kvs vs (beq_eq_false_iff_ne.mpr h1.2) (h2.at (I.on h1)) h3 h
  | _ => exact h.elim
@[elab_as_elim] theorem atm_e {f : Nat → Prop} (hx : RelO X.G W x u) (h : optW (atmOf x) f) (c : ∀ k a, W.tk k = some a → f k → Pm (.ref a)) : Pm u := by
  cases x with
  | atm k => obtain ⟨a, rfl, h1⟩ := hx; exact c k a h1 h
  | _ => exact h.elim
@[elab_as_elim] theorem oneL_e {α : Type} {l : List α} {f : α → Prop} {P : List α → Prop} (h : optW (oneL l) f) (c : ∀ x, f x → P [x]) : P l := by
  cases l with
  | nil => exact h.elim
  | cons x l =>
    cases l with
    | nil => exact c x h
    | cons y l => exact h.elim
@[elab_as_elim] theorem twoL_e {α : Type} {l : List α} {f : α × α → Prop} {P : List α → Prop} (h : optW (twoL l) f) (c : ∀ x y, f (x, y) → P [x, y]) : P l := by
  cases l with
  | nil => exact h.elim
  | cons x l =>
    cases l with
    | nil => exact h.elim
    | cons y l =>
      cases l with
      | nil => exact c x y h
      | cons z l => exact h.elim
@[elab_as_elim] theorem threeL_e {α : Type} {l : List α} {f : α × α × α → Prop} {P : List α → Prop} (h : optW (threeL l) f) (c : ∀ x y z, f (x, y, z) → P [x, y, z]) : P l := by
  cases l with
  | nil => exact h.elim
  | cons x l =>
    cases l with
    | nil => exact h.elim
    | cons y l =>
      cases l with
      | nil => exact h.elim
      | cons z l =>
        cases l with
        | nil => exact c x y z h
        | cons z l => exact h.elim
@[elab_as_elim] theorem chr_e {f : Nat → Prop} (hx : RelO X.G W x u) (h : chrW x f) (c : ∀ i t, f i → Pm (.str ⟨[i].toArray⟩ t)) : Pm u :=
  str_e hx h fun _ t h => oneL_e h fun i h => c i t h
@[elab_as_elim] theorem nat_e {f : Nat → Prop} (hx : RelO X.G W x u) (h : natW x f) (c : ∀ (i : Nat) t, f i → Pm (.int i t)) : Pm u :=
  int_e hx h fun i t h => by
    cases i with
    | ofNat n => exact c n t h
    | negSucc n => exact h.elim
@[elab_as_elim] theorem int2_e {P2 : Value → Value → Prop} {f : Int → Int → Prop} (hx : RelO X.G W x u) (hy : RelO X.G W y w) (h : int2 x y f) (c : ∀ a t b t', f a b → P2 (.int a t) (.int b t')) : P2 u w :=
  int_e hx h fun a t h => int_e hy h fun b t' h => c a t b t' h
@[elab_as_elim] theorem sel_e {fi : Int → Prop} {fs : List Nat → Prop} {ft fl : List V → Prop} (I : J X W s) (hx : RelO X.G W x u) (h : selV x fi fs ft fl) (ci : ∀ i t, fi i → Pm (.int i t)) (cs : ∀ i t, fs i → Pm (.str ⟨i.toArray⟩ t))
    (ct : ∀ l a vs n, s.heap.get? a = some (seqO "tuple" vs n) → Rels X.G W l vs → ft l → Pm (.ref a)) (cl : ∀ l a vs n, s.heap.get? a = some (seqO "list" vs n) → Rels X.G W l vs → fl l → Pm (.ref a)) : Pm u := by
  cases x with
  | int i => exact int_e (Pm := Pm) (x := .int i) hx h ci
  | str i => exact str_e (Pm := Pm) (x := .str i) hx h cs
  | tup l => exact tup_e (Pm := Pm) (x := .tup l) I hx h ct
  | lst l => exact lst_e (Pm := Pm) (x := .lst l) I hx h cl
  | _ => exact h.elim
theorem noW_e {α : Type} {a : α} {P : Prop} (h : noW a) : P := h.elim
theorem fitsN {n : Nat} (h : Fits (.ofNat n) = true) : n < 4611686018427387904 := bltN.mp (show Nat.blt n 4611686018427387904 = true from h)
theorem fitsM {n : Nat} (h : Fits (.negSucc n) = true) : n < 4611686018427387903 := bltN.mp (show Nat.blt n 4611686018427387903 = true from h)
theorem fits_lt {i : Int} (h : Fits i = true) : -(4611686018427387904 : Int) < i ∧ i < 4611686018427387904 := by
  cases i with
  | ofNat n => exact ⟨Int.lt_of_lt_of_le (by decide) (Int.natCast_nonneg n), Int.ofNat_lt.mpr (fitsN h)⟩
  | negSucc n => have := fitsM h; exact ⟨by omega, Int.lt_trans (Int.negSucc_lt_zero n) (by decide)⟩
theorem natAbs_lt {i : Int} (h : Fits i = true) : i.natAbs < 4611686018427387904 := by
  cases i with
  | ofNat n => exact fitsN h
  | negSucc n => exact Nat.succ_lt_succ (fitsM h)
theorem log_lt {n : Nat} (h : n < 4611686018427387904) : n.log2 < 62 := by
  by_cases z : n = 0
  · subst z; decide
  · exact (Nat.log2_lt z).mpr h
theorem bits_le {i : Int} (h : Fits i = true) : Builtin.Int.intBits i ≤ 64 :=
  intBits_le_64 (Int.le_of_lt (Int.lt_trans (by decide) (fits_lt h).1)) (Int.lt_trans (fits_lt h).2 (by decide))
theorem mulOk {a b : Int} (ha : Fits a = true) : IntMulOk a b := by
  unfold IntMulOk
  have := bits_le ha
  have e : decide (Builtin.Int.intBits a > shortFactorBits) = false := decide_eq_false (by unfold shortFactorBits; omega)
  rw [e, Bool.false_and]; exact Bool.false_ne_true
theorem pylong {a b : Int} (hb : Fits b = true) : Builtin.divisionGoesByPylong a b = false := by
  unfold Builtin.divisionGoesByPylong
  have := log_lt (natAbs_lt hb)
  have e : decide ((if (b == 0) = true then 0 else b.natAbs.log2 / 30 + 1) > 300) = false := by
    refine decide_eq_false ?_
    split <;> omega
  simp only [e, Bool.false_and]
theorem sizeLine_ge {n : Nat} (h : Nat.blt n 65536 = true) : n ≤ sizeLine := sizeLine_eq ▸ Nat.le_trans (Nat.le_of_lt (bltN.mp h)) (by decide)
theorem str_beq (a b : List Nat) : ((⟨a.toArray⟩ : Str) == ⟨b.toArray⟩) = decide (a = b) := by
  by_cases h : a = b
  · subst h; rw [decide_eq_true rfl]; exact beq_self_eq_true _
  · rw [decide_eq_false h]
    exact beq_eq_false_iff_ne.mpr fun e => h (congrArg (fun s : Str => s.cps.toList) e)
theorem str_app (x y : List Nat) : ((⟨x.toArray⟩ : Str) ++ (⟨y.toArray⟩ : Str)) = ⟨(x ++ y).toArray⟩ := congrArg Str.mk (List.append_toArray x y)
theorem two_sz {W : Wd} {a b : List V} {vs us : List Value} (h : Rels X.G W a vs) (k : Rels X.G W b us) (hb : Nat.blt (a.length + b.length) 65536 = true) : vs.toArray.size + us.toArray.size ≤ sizeLine :=
  sizeLine_ge (show Nat.blt (vs.length + us.length) 65536 = true by rw [h.len, k.len]; exact hb)
theorem ne_empty {a : List V} {vs : List Value} (h : Rels X.G W a vs) (hb : (!a.isEmpty) = true) : ¬ vs.toArray.isEmpty = true := fun q => by
  cases a with
  | nil => exact nomatch hb
  | cons x a =>
    obtain ⟨_, _, rfl, _⟩ := h
    exact nomatch q
variable {k : V → Prop}
theorem addS_s {a b : List Nat} {t t' : Tok} (I : J X W s) (P : PK X W k Q) (h : addS k a b) : Do X (binaryOp .Add (.str ⟨a.toArray⟩ t) (.str ⟨b.toArray⟩ t')) Q s :=
  gd_e h fun hb h => SB.add (fun t' k => (str_app a b).symm ▸ (P _ h).tok I (rStr _ t') k) (sizeLine_ge hb)
theorem addT_s {a b : List V} {p q : Addr} {vs us : List Value} {n m : Nat} (I : J X W s) (P : PK X W k Q) (h1 : s.heap.get? p = some (seqO "tuple" vs n)) (h2 : Rels X.G W a vs) (h3 : s.heap.get? q = some (seqO "tuple" us m)) (h4 : Rels X.G W b us)
    (h : addT k a b) : Do X (binaryOp .Add (.ref p) (.ref q)) Q s :=
  gd_e h fun hb h => and_e hb fun hb he => and_e hb fun hb hd => PySem.P.add_tuple h1 h3 (ne_empty h2 hd) (ne_empty h4 he) (List.append_toArray vs us ▸ (P _ h).tuple I (h4.app h2) _) (two_sz h2 h4 hb)
theorem addL_s {a b : List V} {p q : Addr} {vs us : List Value} {n m : Nat} (I : J X W s) (P : PK X W k Q) (h1 : s.heap.get? p = some (seqO "list" vs n)) (h2 : Rels X.G W a vs) (h3 : s.heap.get? q = some (seqO "list" us m)) (h4 : Rels X.G W b us)
    (h : addL k a b) : Do X (binaryOp .Add (.ref p) (.ref q)) Q s :=
  gd_e h fun hb h => PySem.P.add_list h1 h3 (List.append_toArray vs us ▸ (P _ h).list I (h4.app h2) _) (two_sz h2 h4 hb)
theorem not_f {b : Bool} (h : (!b) = false) : b = true := by cases b <;> first | rfl | exact none_i h | exact ff_i h | exact nomatch h
theorem not_t {b : Bool} (h : (!b) = true) : b = false := by cases b <;> first | rfl | exact none_i h | exact ff_i h | exact nomatch h
theorem add_sound (I : J X W s) (h : addW x y k) (hx : RelO X.G W x u) (hy : RelO X.G W y w) (P : PK X W k Q) : Do X (binaryOp .Add u w) Q s :=
  sel_e I hx h (fun _ _ h => int_e hy h fun _ _ h => wpAny_add_int ((P _ h).tok I (rInt _ _) _)) (fun _ _ h => str_e hy h fun _ _ h => addS_s I P h)
    (fun _ _ _ _ h1 h2 h => tup_e I hy h fun _ _ _ _ h3 h4 h => addT_s I P h1 h2 h3 h4 h) (fun _ _ _ _ h1 h2 h => lst_e I hy h fun _ _ _ _ h3 h4 h => addL_s I P h1 h2 h3 h4 h)
theorem sub_sound (I : J X W s) (h : int2 x y fun a b => k (.int (a - b))) (hx : RelO X.G W x u) (hy : RelO X.G W y w) (P : PK X W k Q) : Do X (binaryOp .Sub u w) Q s :=
  int2_e hx hy h fun _ _ _ _ h => sub_int ((P _ h).tok I (rInt _ _) _)
theorem mul_sound (I : J X W s) (h : int2 x y fun a b => brW (Fits a) (k (.int (a * b))) False) (hx : RelO X.G W x u) (hy : RelO X.G W y w) (P : PK X W k Q) : Do X (binaryOp .Mult u w) Q s :=
  int2_e hx hy h fun _ _ _ _ h => gd_e h fun hf h => mul_int ((P _ h).tok I (rInt _ _) _) (mulOk hf)
theorem div_sound (I : J X W s) (h : int2 x y fun a b => brW (decide (b = 0) || !Fits b) False (k (.int (a.fdiv b)))) (hx : RelO X.G W x u) (hy : RelO X.G W y w) (P : PK X W k Q) : Do X (binaryOp .FloorDiv u w) Q s :=
  int2_e hx hy h fun _ _ _ _ h => gn_e h fun hf h => floordiv_int (of_decide_eq_false (Bool.or_eq_false_iff.mp hf).1) ((P _ h).tok I (rInt _ _) _) (.inl (pylong (not_f (Bool.or_eq_false_iff.mp hf).2)))
theorem modI_s {a b : Int} {t t' : Tok} (I : J X W s) (P : PK X W k Q) (h : brW (decide (b = 0)) False (k (.int (a.fmod b)))) : Do X (binaryOp .Mod (.int a t) (.int b t')) Q s :=
  gn_e h fun hf h => mod_int (of_decide_eq_false hf) ((P _ h).tok I (rInt _ _) _)
theorem digit_e {i : Int} {d : List Nat} {P : Prop} (h : digit i = some d) (c : 0 ≤ i → i < 10 → [48 + i.toNat] = d → P) : P :=
  bf_e h fun hb h => and_e hb fun h1 h2 => c (of_decide_eq_true h1) (of_decide_eq_true h2) (Option.some.inj h)
variable {kb : Bool → Prop}
abbrev PB (X : Cx) (W : Wd) (k : Bool → Prop) (Q : Value → Shared → Prop) : Prop := ∀ b, k b → Post X W (.bool b) Q
theorem eqI_s {a b : Int} {t t' : Tok} (I : J X W s) (P : PB X W kb Q) (h : kb (decide (a = b))) : Do X (compareOp .Eq (.int a t) (.int b t')) Q s := eq_int ((P _ h).bool I rfl)
theorem eqS_s {a b : List Nat} {t t' : Tok} (I : J X W s) (P : PB X W kb Q) (h : kb (decide (a = b))) : Do X (compareOp .Eq (.str ⟨a.toArray⟩ t) (.str ⟨b.toArray⟩ t')) Q s := eq_str ((P _ h).bool I (str_beq _ _))
theorem neS_s {a b : List Nat} {t t' : Tok} (I : J X W s) (P : PB X W kb Q) (h : kb (!decide (a = b))) : Do X (compareOp .NotEq (.str ⟨a.toArray⟩ t) (.str ⟨b.toArray⟩ t')) Q s := ne_str ((P _ h).bool I (congrArg (!·) (str_beq _ _)))
theorem ne_sound (I : J X W s) (h : neW x y kb) (hx : RelO X.G W x u) (hy : RelO X.G W y w) (P : PB X W kb Q) : Do X (compareOp .NotEq u w) Q s :=
  sel_e I hx h (fun _ _ h => int_e hy h fun _ _ h => ne_int ((P _ h).bool I rfl)) (fun _ _ h => str_e hy h fun _ _ h => neS_s I P h) (fun _ _ _ _ _ _ h => noW_e h) fun _ _ _ _ _ _ h => noW_e h
theorem gt_one (a b : Nat) : decide ([b] < [a]) = decide (b < a) := decide_eq_decide.mpr (by rw [List.cons_lt_cons_iff]; simp)
theorem gtS_s {a : List Nat} {t : Tok} (I : J X W s) (P : PB X W kb Q) (hy : RelO X.G W y w) (h : optW (oneL a) fun a => chrW y fun b => kb (decide (b < a))) : Do X (compareOp .Gt (.str ⟨a.toArray⟩ t) w) Q s :=
  oneL_e h fun a h => chr_e hy h fun b _ h => PySem.P.gt_str ((P _ h).bool I (gt_one a b))
theorem gt_sound (I : J X W s) (h : cmpW .Gt x y kb) (hx : RelO X.G W x u) (hy : RelO X.G W y w) (P : PB X W kb Q) : Do X (compareOp .Gt u w) Q s :=
  sel_e I hx h (fun _ _ h => int_e hy h fun _ _ h => gt_int ((P _ h).bool I rfl)) (fun _ _ h => gtS_s I P hy h) (fun _ _ _ _ _ _ h => noW_e h) fun _ _ _ _ _ _ h => noW_e h
theorem strIn_mem (c : Nat) (x : List Nat) : strIn c x = decide (c ∈ x) := by
  induction x with
  | nil => rfl
  | cons d r ih =>
    show (bif Nat.beq c d then true else strIn c r) = _
    by_cases h : c = d
    · subst h; rw [Nat.beq_refl, decide_eq_true (.head _)]; rfl
    · rw [beqN_false h, cond_false, ih]
      exact decide_eq_decide.mpr ⟨.tail _, fun e => (List.mem_cons.mp e).resolve_left h⟩
theorem contains_one (c : Nat) (x : List Nat) : Txt.contains ⟨x.toArray⟩ ⟨[c].toArray⟩ = strIn c x := strIn_mem c x ▸ StrLaws.found_one ⟨x.toArray⟩ c
theorem any_str (l : List (List Nat)) (c : List Nat) : ((l.map fun x => (⟨x.toArray⟩ : Str)).any fun x => x == (⟨c.toArray⟩ : Str)) = l.any fun x => decide (x = c) :=
  List.any_map.trans (congrArg l.any (funext fun x => str_beq x c))
theorem optW_i {α : Type} {o : Option α} {k : α → Prop} {a : α} (e : o = some a) (h : k a) : optW o k := e ▸ h
theorem allStr_are {l : List V} : ∀ {k : List (List Nat)} {vs : List Value}, allStr l = some k → Rels X.G W l vs → StrsAre vs (k.map fun x => ⟨x.toArray⟩) := by
  induction l with
  | nil => intro k vs h hr; rw [show vs = [] from hr, ← Option.some.inj h]; exact .nil
  | cons x l ih =>
    intro k vs h hr
    obtain ⟨v, r, rfl, h1, h2⟩ := hr
    exact bnd_e h fun q e h => bnd_e h fun q' e' h => Option.some.inj h ▸ str_e (Pm := fun v => StrsAre (v :: r) _) h1.o (optW_i (k := (· = q)) e rfl) fun i t e => e ▸ .cons _ t (ih e' h2)
theorem allInt_are {l : List V} : ∀ {k : List Int} {vs : List Value}, allInt l = some k → Rels X.G W l vs → IntsAre vs k := by
  induction l with
  | nil => intro k vs h hr; rw [show vs = [] from hr, ← Option.some.inj h]; exact .nil
  | cons x l ih =>
    intro k vs h hr
    obtain ⟨v, r, rfl, h1, h2⟩ := hr
    exact bnd_e h fun q e h => bnd_e h fun q' e' h => Option.some.inj h ▸ int_e (Pm := fun v => IntsAre (v :: r) _) h1.o (optW_i (k := (· = q)) e rfl) fun i t e => e ▸ .cons _ t (ih e' h2)
theorem toList_str (x : Str) : (⟨x.cps.toList.toArray⟩ : Str) = x := rfl
theorem isStrOf_self {G : GI} (x : Str) (t : Tok) : G.knd.is x (.str x t) = true := beq_self_eq_true x
theorem valueAt_cons (p : Str × Value) (r : List (Str × Value)) (k : Str) : valueAt (p :: r) k = if p.1 = k then some p.2 else valueAt r k := by
  unfold valueAt
  rw [List.find?_cons]
  by_cases h : p.1 = k
  · rw [if_pos h, decide_eq_true h]; rfl
  · rw [if_neg h, decide_eq_false h]
theorem key_eq {x : Str} {k : List Nat} : x.cps.toList = k ↔ x = ⟨k.toArray⟩ := ⟨fun e => by rw [← e], fun e => by rw [e]⟩
theorem keyW_e {k : List Nat} {f : Nat → Prop} {p P : Prop} {kvs : List (Str × Value)} : ∀ {i : Nat}, keyW k (keysV kvs) i f p → (∀ j v, kvs[j]? = some (⟨k.toArray⟩, v) → valueAt kvs ⟨k.toArray⟩ = some v → f (i + j) → P) → (valueAt kvs ⟨k.toArray⟩ = none → p → P) → P := by
  induction kvs with
  | nil => exact fun h _ d => d rfl h
  | cons q r ih =>
    intro i h c d
    have h : brW (decide (q.1.cps.toList = k)) (f i) (keyW k (keysV r) (i + 1) f p) := h
    rw [valueAt_cons] at c d
    refine br_e h (fun e h => ?_) fun e h => ?_
    · have e := key_eq.mp (of_decide_eq_true e)
      rw [if_pos e] at c
      exact c 0 q.2 (congrArg some (Prod.ext e rfl)) rfl h
    · have e := mt key_eq.mpr (of_decide_eq_false e)
      rw [if_neg e] at c d
      exact ih h (fun j v h1 h2 h3 => c (j + 1) v h1 h2 (by rw [← Nat.add_assoc, Nat.add_right_comm]; exact h3)) d
theorem listO {h : Heap} {a : Addr} {vs : List Value} {n : Nat} (e : h.get? a = some (seqO "list" vs n)) : h.IsList a vs.toArray := ⟨_, e, rfl, n, rfl⟩
theorem tupO {h : Heap} {a : Addr} {vs : List Value} {n : Nat} (e : h.get? a = some (seqO "tuple" vs n)) : h.IsTuple a vs.toArray := ⟨_, e, rfl, n, rfl⟩
theorem inD_s {i : List Nat} {t : Tok} (I : J X W s) (P : PB X W kb Q) (hy : RelO X.G W y w) (h : optW (dctOf y) fun p => brW (allStr p.1).isSome (keyW i p.1 0 (fun _ => kb true) (kb false)) False) : Do X (compareOp .In (.str ⟨i.toArray⟩ t) w) Q s :=
  dct_e I hy h fun _ _ _ h0 h1 _ h => gd_e h fun _ h => wpAny_in_of (isStrOf_self _ t) h0 h1.mapOf (keyW_e h (fun _ _ _ e h => e ▸ (P _ h).tok I (rBool true) _) fun e h => e ▸ (P _ h).tok I (rBool false) _)
theorem inS_s {i : List Nat} {t : Tok} (I : J X W s) (P : PB X W kb Q) (hy : RelO X.G W y w) (h : inS i y kb) : Do X (compareOp .In (.str ⟨i.toArray⟩ t) w) Q s :=
  br_e h (fun _ h => inD_s I P hy h) fun _ h => sel_e I hy h (fun _ _ h => noW_e h) (fun q _ h => oneL_e h fun c h => SB.contains ((P _ h).bool I (contains_one c q)))
    (fun _ _ _ _ h1 h2 h => optW_e h fun _ e h => in_tuple_strs (tupO h1) (allStr_are e h2) ((P _ h).bool I (any_str _ _))) fun _ _ _ _ _ _ h => noW_e h
theorem in_sound (I : J X W s) (h : inW x y kb) (hx : RelO X.G W x u) (hy : RelO X.G W y w) (P : PB X W kb Q) : Do X (compareOp .In u w) Q s :=
  sel_e I hx h (fun _ _ h => lst_e I hy h fun _ _ _ _ h1 h2 h => optW_e h fun _ e h => in_list_ints (listO h1) (allInt_are e h2) ((P _ h).bool I rfl)) (fun _ _ h => inS_s I P hy h) (fun _ _ _ _ _ _ h => noW_e h) fun _ _ _ _ _ _ h => noW_e h
theorem isA_s {a : Nat} {p q : Addr} {b : Nat} (I : J X W s) (P : PB X W kb Q) (h1 : W.tk a = some p) (h2 : W.tk b = some q) (h : kb (Nat.beq a b)) : Do X (compareOp .Is (.ref p) (.ref q)) Q s := by
  by_cases e : a = b
  · subst e
    rw [Option.some.inj (h1.symm.trans h2)]
    exact wpAny_is_ref_self ((P _ h).bool I (Nat.beq_refl a).symm)
  · obtain ⟨o, g1, c⟩ := I.tk a p h1
    obtain ⟨o', g2, _⟩ := I.tk b q h2
    exact wpAny_is_ref_other (fun z => e (I.inj a b p h1 (z ▸ h2))) (I.rl _ _ g1) (I.rl _ _ g2) c ((P _ h).bool I (beqN_false e).symm)
theorem isnA_s {a : Nat} {p q : Addr} {b : Nat} (I : J X W s) (P : PB X W kb Q) (h1 : W.tk a = some p) (h2 : W.tk b = some q) (h : kb (!Nat.beq a b)) : Do X (compareOp .IsNot (.ref p) (.ref q)) Q s := by
  by_cases e : a = b
  · subst e
    rw [Option.some.inj (h1.symm.trans h2)]
    exact wpAny_isNot_ref_self ((P _ h).bool I (congrArg (!·) (Nat.beq_refl a).symm))
  · obtain ⟨o, g1, c⟩ := I.tk a p h1
    obtain ⟨o', g2, _⟩ := I.tk b q h2
    exact wpAny_isNot_ref_other (fun z => e (I.inj a b p h1 (z ▸ h2))) (I.rl _ _ g1) (I.rl _ _ g2) c ((P _ h).bool I (congrArg (!·) (beqN_false e).symm))
theorem is_sound (I : J X W s) (h : isW x y kb) (hx : RelO X.G W x u) (hy : RelO X.G W y w) (P : PB X W kb Q) : Do X (compareOp .Is u w) Q s :=
  atm_e hy h fun _ _ h2 h => br_e h (fun _ h => atm_e hx h fun _ _ h1 h => isA_s I P h1 h2 h) fun _ h => str_e hx h fun _ _ h => wpAny_is_other rfl Value.noConfusion ((P _ h).bool I rfl)
theorem isn_sound (I : J X W s) (h : isW x y fun b => kb (!b)) (hx : RelO X.G W x u) (hy : RelO X.G W y w) (P : PB X W kb Q) : Do X (compareOp .IsNot u w) Q s :=
  atm_e hy h fun _ _ h2 h => br_e h (fun _ h => atm_e hx h fun _ _ h1 h => isnA_s I P h1 h2 h) fun _ h => str_e hx h fun _ _ h => wpAny_isNot_other rfl Value.noConfusion ((P _ h).bool I rfl)
theorem nin_sound (I : J X W s) (h : cmpW .NotIn x y kb) (hx : RelO X.G W x u) (hy : RelO X.G W y w) (P : PB X W kb Q) : Do X (compareOp .NotIn u w) Q s :=
  chr_e hx h fun c _ h => str_e hy h fun q _ h => SB.notContains ((P _ h).bool I (congrArg (!·) (contains_one c q)))
theorem lt_sound (I : J X W s) (h : cmpW .Lt x y kb) (hx : RelO X.G W x u) (hy : RelO X.G W y w) (P : PB X W kb Q) : Do X (compareOp .Lt u w) Q s := int2_e hx hy h fun _ _ _ _ h => lt_int ((P _ h).bool I rfl)
theorem le_sound (I : J X W s) (h : cmpW .LtE x y kb) (hx : RelO X.G W x u) (hy : RelO X.G W y w) (P : PB X W kb Q) : Do X (compareOp .LtE u w) Q s := int2_e hx hy h fun _ _ _ _ h => le_int ((P _ h).bool I rfl)
theorem ge_sound (I : J X W s) (h : cmpW .GtE x y kb) (hx : RelO X.G W x u) (hy : RelO X.G W y w) (P : PB X W kb Q) : Do X (compareOp .GtE u w) Q s := int2_e hx hy h fun _ _ _ _ h => ge_int ((P _ h).bool I rfl)
end
end Mine
end
section
open PySem PySem.W PyProof.Rows
set_option maxRecDepth 100000
set_option genInjectivity false
set_option genSizeOf false
set_option backward.match.sparseCases false
namespace Mine
theorem idx_seq (n : Nat) (i : Int) : seqIndex? i n = idx n i := by
  have key : ∀ (j : Int) (k : Nat) (b : Bool), (b = true → j = (k : Int) ∧ k < n) → (b = false → j < 0 ∨ (n : Int) ≤ j) → (if (decide (0 ≤ j) && decide (j < (n : Int))) = true then some j.toNat else none) = (bif b then some k else none) := by
    intro j k b h1 h2
    cases b with
    | true =>
      obtain ⟨rfl, hk⟩ := h1 rfl
      rw [if_pos (Bool.and_eq_true_iff.mpr ⟨decide_eq_true (Int.natCast_nonneg k), decide_eq_true (Int.ofNat_lt.mpr hk)⟩)]; rfl
    | false =>
      refine if_neg fun q => and_e q fun q1 q2 => ?_
      rcases h2 rfl with q | q
      · exact absurd (of_decide_eq_true q1) (Int.not_le.mpr q)
      · exact absurd (of_decide_eq_true q2) (Int.not_lt.mpr q)
  unfold seqIndex? idx
  cases i with
  | ofNat k =>
    have h1 : ¬ ((Int.ofNat k) < 0) := Int.not_lt.mpr (Int.natCast_nonneg k)
    simp only [if_neg h1]
    exact key _ k _ (fun h => ⟨rfl, bltN.mp h⟩) fun h => .inr (Int.ofNat_le.mpr (Nat.le_of_not_lt fun q => by rw [bltN.mpr q] at h; exact nomatch h))
  | negSucc k =>
    simp only [if_pos (Int.negSucc_lt_zero k)]
    refine key _ _ _ (fun h => ?_) fun h => .inl ?_
    · have := bltN.mp h
      rw [Int.negSucc_eq]; omega
    · have : n ≤ k := Nat.le_of_not_lt fun q => by rw [bltN.mpr q] at h; exact nomatch h
      rw [Int.negSucc_eq]; omega
theorem lit_le (n : Nat) (i : Int) : lit n i ≤ n := by
  cases i with
  | ofNat k => exact Nat.min_le_right k n
  | negSucc k => exact Nat.sub_le n (k + 1)
theorem loAt_le (n : Nat) (o : Option Int) : loAt n o ≤ n := by cases o with
  | none => exact Nat.zero_le _
  | some i => exact lit_le n i
theorem hiAt_le (n : Nat) (o : Option Int) : hiAt n o ≤ n := by cases o with
  | none => exact Nat.le_refl _
  | some i => exact lit_le n i
theorem range_form (p q : Nat) : sliceRange (p : Int) (q : Int) 1 = (List.range (q - p)).map (p + ·) := by
  unfold sliceRange
  have h1 : (1 : Int) > 0 := by decide
  simp only [if_pos h1]
  have hc : (if (p : Int) < (q : Int) then ((q : Int) - p + 1 - 1) / 1 else 0).toNat = q - p := by
    split
    · rw [Int.ediv_one]; omega
    · omega
  rw [hc]
  refine List.map_congr_left fun k _ => ?_
  omega
theorem clip_lit (n : Nat) (i : Int) : max 0 (min (if i < 0 then i + (n : Int) else i) (n : Int)) = (lit n i : Int) := by
  cases i with
  | ofNat k =>
    rw [if_neg (show ¬ (Int.ofNat k < 0) from Int.not_lt.mpr (Int.natCast_nonneg k))]
    show max 0 (min ((k : Nat) : Int) (n : Int)) = ((min k n : Nat) : Int)
    rcases Nat.le_total k n with h | h
    · rw [Nat.min_eq_left h, Int.min_eq_left (Int.ofNat_le.mpr h), Int.max_eq_right (Int.natCast_nonneg _)]
    · rw [Nat.min_eq_right h, Int.min_eq_right (Int.ofNat_le.mpr h), Int.max_eq_right (Int.natCast_nonneg _)]
  | negSucc k =>
    rw [if_pos (Int.negSucc_lt_zero k)]
    show _ = ((n - (k + 1) : Nat) : Int)
    by_cases h : k + 1 ≤ n
    · have e : Int.negSucc k + (n : Int) = ((n - (k + 1) : Nat) : Int) := (Int.add_comm _ _).trans (Int.natCast_sub h).symm
      rw [e, Int.min_eq_left (Int.ofNat_le.mpr (Nat.sub_le _ _)), Int.max_eq_right (Int.natCast_nonneg _)]
    · have e : n - (k + 1) = 0 := Nat.sub_eq_zero_of_le (Nat.le_of_lt (Nat.lt_of_not_le h))
      rw [e]
      refine Int.max_eq_left (Int.le_trans (Int.min_le_left _ _) ?_)
      rw [Int.negSucc_eq]; omega
theorem str_form (lo hi : Option Int) (n : Nat) : Builtin.Str.strSliceIndices lo hi 1 n = (List.range (hiAt n hi - loAt n lo)).map (loAt n lo + ·) := by
  rw [← range_form]
  unfold Builtin.Str.strSliceIndices
  simp only [if_pos (show (1 : Int) > 0 by decide)]
  congr 1
  · cases lo with
    | none => rfl
    | some i => exact clip_lit _ _
  · cases hi with
    | none => rfl
    | some i => exact clip_lit _ _
theorem pick_cut {α : Type} (xs : Array α) (lo hi : Option Int) : ((List.range (hiAt xs.size hi - loAt xs.size lo)).map (loAt xs.size lo + ·)).filterMap (fun x => xs[x]?) = cut xs.toList lo hi := by
  rw [pick_run]
  unfold cut
  rw [List.drop_take, Array.length_toList]
theorem list_pick (xs : Array Value) (lo hi : Option Int) : slicePick xs lo hi none = (cut xs.toList lo hi).toArray := by
  rw [← pick_cut, ← range_form]
  unfold slicePick sliceBounds
  simp only [Option.getD_none, if_pos (show (1 : Int) > 0 by decide)]
  congr 2
  congr 1
  · cases lo with
    | none => rfl
    | some i => exact clip_lit _ _
  · cases hi with
    | none => rfl
    | some i => exact clip_lit _ _
theorem cut_all (x : List Nat) (lo hi : Option Int) (h : hiAt x.length hi - loAt x.length lo = x.length) : cut x lo hi = x := by
  unfold cut
  have h1 := loAt_le x.length lo
  have h2 := hiAt_le x.length hi
  by_cases hz : x.length = 0
  · rw [List.length_eq_zero_iff.mp hz, List.take_nil, List.drop_nil]
  · rw [show loAt x.length lo = 0 by omega, show hiAt x.length hi = x.length by omega, List.take_length, List.drop_zero]
theorem str_slice (x : List Nat) (lo hi : Option Int) : Txt.slice ⟨x.toArray⟩ lo hi = ⟨(cut x lo hi).toArray⟩ := by
  have hsz : Str.length ⟨x.toArray⟩ = x.toArray.size := rfl
  unfold Txt.slice
  rw [hsz, str_form]
  split
  · rename_i h
    have hl := eq_of_beq (Bool.and_eq_true_iff.mp h).2
    rw [List.length_map, List.length_range] at hl
    rw [cut_all x lo hi hl]
  · rw [pick_cut]
theorem toA {α : Type} {l : List α} {j : Nat} : l.toArray[j]? = l[j]? := List.getElem?_toArray
theorem str_len (q : List Nat) : Str.length ⟨q.toArray⟩ = q.length := rfl
section
variable {X : Cx} {W : Wd} {s : Shared} {x y : V} {u w : Value} {Q : Value → Shared → Prop} {k : V → Prop}
theorem Rels.cut {l : List V} {vs : List Value} (lo hi : Option Int) (h : Rels X.G W l vs) : Rels X.G W (Mine.cut l lo hi) (Mine.cut vs lo hi) := by
  unfold Mine.cut
  rw [h.len]
  exact (h.take _).drop _
def Got (X : Cx) (s : Shared) (u w : Value) (Q : Value → Shared → Prop) : Prop := ∃ T id, s.TypeIs u T ∧ typeLookup (.type T) ("__getitem__") = pure (some (.builtin id)) ∧ Do X (getItem u w) Q s
theorem getI_e {α : Type} {l : List α} {i : Int} {f : α → Prop} {P : Prop} (h : getW l i f) (c : Fits i = true → ∀ j v, idx l.length i = some j → l[j]? = some v → f v → P) : P :=
  gd_e h fun hf h => optW_e h fun v e h => by
    unfold getI at e
    cases hj : idx l.length i with
    | none => rw [hj] at e; exact nomatch e
    | some j => rw [hj] at e; exact c hf j v hj e h
theorem get_list {l : List V} {a : Addr} {vs : List Value} {n : Nat} {i : Int} {t : Tok} (I : J X W s) (P : PK X W k Q) (h1 : s.heap.get? a = some (seqO "list" vs n)) (h2 : Rels X.G W l vs) (h : getW l i k) : Got X s (.ref a) (.int i t) Q :=
  getI_e h fun hf j v e' e h => by
    obtain ⟨z, h4, h5⟩ := h2.get e
    have hb := fits_lt hf
    refine ⟨_, _, (listO h1).typeIs, slot_list_getitem.lookup, ?_⟩
    rw [← idx_seq, ← h2.len] at e'
    by_cases hn : i < 0
    · exact kde_getNeg (listO h1) hn (by omega) e' h4 ((P _ h).same I h5)
    · refine wpAny_getItem_list (listO h1) (Int.not_lt.mp hn) (by omega) ?_ ((P _ h).same I h5)
      unfold seqIndex? at e'
      simp only [if_neg hn] at e'
      split at e'
      · rw [Option.some.inj e']; exact toA.trans h4
      · exact nomatch e'
theorem get_str {l : List Nat} {i : Int} {t t' : Tok} (I : J X W s) (P : PK X W k Q) (h : getW l i fun c => k (.str [c])) : Got X s (.str ⟨l.toArray⟩ t) (.int i t') Q :=
  getI_e h fun hf j c e' e h => by
    have hc : Txt.charAt ⟨l.toArray⟩ i = some c := by
      unfold Txt.charAt
      rw [str_len, idx_seq, e']
      exact toA.trans e
    have hfs : fitsSsize i = true := by
      have := fits_lt hf
      unfold fitsSsize
      rw [decide_eq_false (by omega), decide_eq_false (by omega)]; rfl
    refine ⟨_, _, typeIs_str _ _ _, PySem.F.slot_str_getitem.lookup, SB.getItem hfs (by rw [hc]; rfl) ?_⟩
    rw [Txt.item, hc]
    exact (P _ h).tok I (rStr _ _) _
theorem get_tup {l : List V} {a : Addr} {vs : List Value} {n : Nat} {i : Int} {t : Tok} (I : J X W s) (P : PK X W k Q) (h1 : s.heap.get? a = some (seqO "tuple" vs n)) (h2 : Rels X.G W l vs) (h : getW l i k) : Got X s (.ref a) (.int i t) Q :=
  getI_e h fun hf j v e' e h => by
    obtain ⟨z, h4, h5⟩ := h2.get e
    have hb := fits_lt hf
    exact ⟨_, _, ⟨_, h1, rfl⟩, slot_tuple_getitem.lookup, getItem_tuple (tupO h1) (by omega) (by omega) (by rw [idx_seq, List.size_toArray, h2.len]; exact e') (toA.trans h4) ((P _ h).same I h5)⟩
theorem get_dict {key : List Nat} {t : Tok} (I : J X W s) (P : PK X W k Q) (hx : RelO X.G W x u) (h : optW (dctOf x) fun p => keyW key p.1 0 (fun j => optW (p.2[j]?) k) False) : Got X s u (.str ⟨key.toArray⟩ t) Q :=
  dct_e I hx h fun a kvs vs _ h1 h2 h => keyW_e h (fun j z e e' h => optW_e h fun v e2 h => by
    obtain ⟨z', h3, h4⟩ := h2.get e2
    rw [List.getElem?_map, Nat.zero_add, e] at h3
    exact ⟨_, _, h1.typeIs, PySem.slot_dict_getitem.lookup, wpAny_getItem_of (isStrOf_self _ t) h1.mapOf e' ((P _ h).tok I ((show z = z' from Option.some.inj h3) ▸ h4) _)⟩) fun _ h => h.elim
theorem got (I : J X W s) (h : itemW x y k) (hx : RelO X.G W x u) (hy : RelO X.G W y w) (P : PK X W k Q) : Got X s u w Q := by
  have h : (match strOf y with
    | some key => optW (dctOf x) fun p => keyW key p.1 0 (fun j => optW (p.2[j]?) k) False
    | none => optW (intOf y) fun i => selV x noW (fun s => getW s i fun c => k (.str [c])) (fun l => getW l i k) (fun l => getW l i k)) := h
  cases hs : strOf y with
  | some key =>
    rw [hs] at h
    exact str_e hy (optW_i (k := fun key => optW (dctOf x) fun p => keyW key p.1 0 (fun j => optW (p.2[j]?) k) False) hs h) fun key t h => get_dict I P hx h
  | none =>
    rw [hs] at h
    exact int_e hy h fun i t h => sel_e I hx h (fun _ _ h => noW_e h) (fun _ _ h => get_str I P h) (fun _ _ _ _ h1 h2 h => get_tup I P h1 h2 h) fun _ _ _ _ h1 h2 h => get_list I P h1 h2 h
theorem tail_got {value slice : PySem.Expr} (G : Got X s u w Q) (hs : sliceX slice = none) : Do X (subscriptTail value slice u w) Q s := by
  obtain ⟨T, id, h1, h2, h3⟩ := G
  refine tail_any h1 h2 h3 (show subscripted slice false u w = operate [u, w] (getItem u w) from ?_)
  cases slice
  case Slice lo hi st p =>
    cases st with
    | none => exact none_i hs.symm
    | some _ => rfl
  all_goals rfl
theorem item_sound {value slice : PySem.Expr} (I : J X W s) (h : itemW x y k) (hx : RelO X.G W x u) (hy : RelO X.G W y w) (hs : sliceX slice = none) (P : PK X W k Q) : Do X (subscriptTail value slice u w) Q s := tail_got (got I h hx hy P) hs
theorem got_lst {a : Addr} {vs : List Value} {z : Value} {n j : Nat} {i : Int} {t : Tok} (hn : i < 0) (hf : Fits i = true) (e : idx vs.length i = some j) (h1 : s.heap.get? a = some (seqO "list" vs n)) (h4 : vs[j]? = some z) (hQ : Q z s) : Got X s (.ref a) (.int i t) Q := by
  have hb := fits_lt hf
  rw [← idx_seq] at e
  exact ⟨_, _, (listO h1).typeIs, slot_list_getitem.lookup, kde_getNeg (listO h1) hn (by omega) e h4 hQ⟩
theorem idx_last (n : Nat) : idx (n + 1) (-1) = some n := by
  show (bif Nat.blt 0 (n + 1) then some (n + 1 - 1) else none) = _
  rw [bltN.mpr (Nat.succ_pos _)]; rfl
theorem get_snoc {vs : List Value} {z : Value} : (vs ++ [z])[vs.length]? = some z := by
  rw [List.getElem?_append_right (Nat.le_refl _), Nat.sub_self]; rfl
theorem got_at {a : Addr} {vs : List Value} {z : Value} {n j : Nat} {i : Int} {t : Tok} (hf : Fits i = true) (e : idx vs.length i = some j) (h1 : s.heap.get? a = some (seqO "tuple" vs n)) (h4 : vs[j]? = some z) (hQ : Q z s) : Got X s (.ref a) (.int i t) Q :=
  have hb := fits_lt hf
  ⟨_, _, ⟨_, h1, rfl⟩, slot_tuple_getitem.lookup, getItem_tuple (tupO h1) (by omega) (by omega) (by rw [idx_seq, List.size_toArray]; exact e) (toA.trans h4) hQ⟩
theorem adj_is (b n : Nat) (h : b < n) : Builtin.Slice.sliceAdjust none (some (b : Int)) 1 (n : Int) = (0, (b : Int)) := by
  unfold Builtin.Slice.sliceAdjust
  simp only [if_neg (show ¬ ((1 : Int) < 0) by decide), if_neg (Int.not_lt.mpr (Int.natCast_nonneg b))]
  congr 1
  exact Int.min_eq_left (Int.ofNat_le.mpr (Nat.le_of_lt h))
theorem places_is (b : Nat) : Builtin.Slice.slicePlaces 0 (b : Int) 1 = b := by
  unfold Builtin.Slice.slicePlaces
  simp only [if_pos (show (1 : Int) > 0 by decide), Int.ediv_one]
  split <;> omega
theorem head_pick (items : Array Value) (b : Nat) : ((List.range b).filterMap fun (k : Nat) => items[((0 : Int) + (k : Int) * 1).toNat]?) = items.toList.take b := by
  have e : (fun (k : Nat) => items[((0 : Int) + (k : Int) * 1).toNat]?) = fun k => items[k]? := funext fun k => by rw [Int.zero_add, Int.mul_one]; rfl
  have := pick_run items 0 b
  rw [List.filterMap_map, List.drop_zero, show ((fun x => items[x]?) ∘ fun x => 0 + x) = fun k => items[k]? from funext fun k => congrArg (fun x => items[x]?) (Nat.zero_add k)] at this
  rw [e, this]
theorem applied {sl : Addr} {n b : Nat} {t : Tok} {Q : Int × Int × Nat → Shared → Prop} (h : s.heap.get? sl = some { cls := .type "slice", data := .fields #[.none, .int b t, .none] }) (hb : b < n) (hq : Q (0, 1, b) s) :
    wpAny X.G.M X.A.in1 (Builtin.Slice.sliceApplied (.ref sl) (pure (n : Int))) Q (fun _ _ => False) s := by
  unfold Builtin.Slice.sliceApplied Builtin.Slice.sliceFields
  refine wpAny_bind (wpAny_bind (wpAny_field h rfl (x := .none) rfl (wpAny_bind (wpAny_field h rfl (x := .int b t) rfl (wpAny_bind (wpAny_field h rfl (x := .none) rfl (wpAny_pure ?_)))))))
  refine wpAny_bind (slicePart_none ?_)
  show wpAny _ _ (if ((1 : Int) == 0) = true then _ else _) _ _ s
  rw [if_neg (by decide)]
  refine wpAny_bind (slicePart_none (wpAny_bind (slicePart_int (wpAny_bind (wpAny_pure ?_)))))
  show wpAny _ _ (match Builtin.Slice.sliceAdjust none (some (b : Int)) 1 (n : Int) with | (lo, hi) => pure (lo, (1 : Int), Builtin.Slice.slicePlaces lo hi 1)) _ _ s
  rw [adj_is b n hb]
  show wpAny _ _ (pure ((0 : Int), (1 : Int), Builtin.Slice.slicePlaces 0 (b : Int) 1)) _ _ s
  rw [places_is]
  exact wpAny_pure hq
theorem tup_head {a sl : Addr} {items : Array Value} {b : Nat} {t : Tok} (ht : IsTup s.heap a items) (hs : s.heap.get? sl = some { cls := .type "slice", data := .fields #[.none, .int b t, .none] }) (hb : b < items.size) (hz : items.size ≤ sizeLine)
    (h : Q (.ref s.heap.objs.size) { s with heap := s.heap.push { cls := .type "tuple", data := .seq (items.toList.take b).toArray } }) : Do X (getItem (.ref a) (.ref sl)) Q s := by
  have hok : sizeOk (.seq (items.toList.take b).toArray) := by
    show (items.toList.take b).toArray.size ≤ sizeLine
    rw [List.size_toArray, List.length_take]
    exact Nat.le_trans (Nat.min_le_right _ _) hz
  unfold getItem
  try with_reducible refine wpAny_holding ?_
  first | refine wpAny_bind (wpAny_pure ?_) | skip
  refine wpAny_bind (wpAny_sequenceKey ht.typeIs (by decide) ?_)
  refine wpAny_bind (wpAny_callSpecial?_slot (name := Str.ofString "__getitem__") ht.typeIs slot_tuple_getitem (wpAny_call_entry slot_tuple_getitem ht.typeIs entry_tuple_getitem ?_ (args_tuple_getitem _ _)))
  show wpAny _ _ (Builtin.Tuple.tupleItemsOf (.ref a) >>= _) _ _ s
  refine wpAny_bind (tupleItemsOf_ ht (wpAny_bind (wpAny_typeOf (T := "slice") ⟨_, hs, rfl⟩ ?_)))
  rw [if_pos (by decide)]
  refine wpAny_bind (wpAny_mono (applied (X := X) hs hb (Q := fun p s' => p = (0, 1, b) ∧ s' = s) ⟨rfl, rfl⟩) (fun p s' e => ?_) fun _ _ e => e.elim)
  obtain ⟨rfl, rfl⟩ := e
  show wpAny _ _ (if ((0 : Int) == 0 && (1 : Int) == 1 && b == items.size) = true then _ else _) _ _ s'
  rw [if_neg (by rw [beq_eq_false_iff_ne.mpr (Nat.ne_of_lt hb)]; exact Bool.false_ne_true), head_pick]
  first
    | exact wpAny_bind (m := Builtin.Tuple.tupleExact _) (wpAny_newObj_type (wpAny_pure ⟨_, rfl, wpAny_pure h⟩) hok)
    | exact wpAny_bind (m := Builtin.Tuple.tupleExact _) (wpAny_newObj_type (wpAny_bind (wpAny_pure (wpAny_pure ⟨_, rfl, wpAny_pure h⟩))) hok)
    | exact wpAny_bind (wpAny_bind (m := Builtin.Tuple.tupleExact _) (wpAny_newObj_type (wpAny_pure (wpAny_pure ⟨_, rfl, wpAny_pure h⟩)) hok))
    | exact wpAny_bind (wpAny_bind (m := Builtin.Tuple.tupleExact _) (wpAny_newObj_type (wpAny_pure ⟨_, rfl, wpAny_pure h⟩) hok))
end
end Mine
end
section
open PySem PySem.W PyProof.Rows
set_option maxRecDepth 100000
set_option genInjectivity false
set_option genSizeOf false
set_option backward.match.sparseCases false
namespace Mine
section
variable {X : Cx} {W : Wd} {s : Shared} {x y : V} {u w : Value} {Q : Value → Shared → Prop} {k : V → Prop}
theorem part_is (o : Option (Int × Tok)) : IsPart (partValue o) (o.map (·.1)) := by
  cases o with
  | none => exact .none
  | some q => exact .int _ _
theorem sub_is {lo hi : Option PySem.Expr} {p : Pos} (o i : Value) : subscripted (.Slice lo hi none p) false o i = operate [i, o] (getItem o i) := rfl
theorem cut_len {α : Type} (q : List α) (lo hi : Option Int) : (cut q lo hi).length ≤ q.length := by
  unfold cut
  rw [List.length_drop, List.length_take]
  exact Nat.le_trans (Nat.sub_le _ _) (Nat.min_le_right _ _)
theorem slice_str {q : List Nat} {t : Tok} {l h : Option (Int × Tok)} {sl : Addr} (I : J X W s) (isl : s.heap.IsSlice sl l h none) (hb : sm q = true) (P : Post X W (.str (cut q (l.map (·.1)) (h.map (·.1)))) Q) :
    Do X (getItem (.str ⟨q.toArray⟩ t) (.ref sl)) Q s := by
  refine wpAny_getItem_str_slice isl rfl ?_
  have key := str_slice q (l.map (·.1)) (h.map (·.1))
  unfold Txt.slice at key
  unfold sliceMade slicePicked
  simp only [Option.map_none, Option.getD_none]
  split
  · rename_i hc
    rw [if_pos (by simpa using hc)] at key
    rw [key]
    exact P.same I (rStr _ t)
  · rename_i hc
    rw [if_neg (by simpa using hc)] at key
    simp only [Option.getD_none] at key
    have key' := Str.mk.inj key
    refine ⟨?_, congrArg (fun x => Value.str ⟨x⟩ s.toks) key' ▸ P.tok I (rStr _ _) _⟩
    exact Nat.le_trans (Nat.le_of_eq (congrArg Array.size key')) (Nat.le_trans (cut_len q _ _) (sizeLine_ge hb))
abbrev slcO (l h : Option (Int × Tok)) : Obj := { cls := .type "slice", data := .fields #[partValue l, partValue h, .none] }
theorem slice_list {q : List V} {vs : List Value} {n : Nat} {a : Addr} {l h : Option (Int × Tok)} {sl : Addr} (I : J X W s) (h1 : s.heap.get? a = some (seqO "list" vs n)) (h2 : Rels X.G W q vs) (hs : s.heap.get? sl = some (slcO l h))
    (hv : brW (sm q) (k (.lst (cut q (l.map (·.1)) (h.map (·.1))))) False) (P : PK X W k Q) : Got X s (.ref a) (.ref sl) Q :=
  gd_e hv fun hb hv => ⟨_, _, (listO h1).typeIs, slot_list_getitem.lookup, wpAny_getItem_list_slice (listO h1) ⟨_, hs, rfl, rfl⟩ (part_is l) (part_is h) .none (by simp) (by rw [list_pick]; exact (P _ hv).list I (Rels.cut _ _ h2) _) (sizeLine_ge (show Nat.blt vs.length 65536 = true by rw [h2.len]; exact hb))⟩
theorem slice_tup {q : List V} {vs : List Value} {n : Nat} {a : Addr} {l h : Option (Int × Tok)} {sl : Addr} (I : J X W s) (h1 : s.heap.get? a = some (seqO "tuple" vs n)) (h2 : Rels X.G W q vs) (hs : s.heap.get? sl = some (slcO l h))
    (hv : gd (l.map (·.1)).isNone (optW (h.map (·.1)) fun h => optW (natI h) fun n => brW (Nat.blt n q.length && sm q) (k (.tup (q.take n))) False)) (P : PK X W k Q) : Got X s (.ref a) (.ref sl) Q := by
  refine gd_e hv fun hl hv => ?_
  cases l with
  | some z => exact nomatch hl
  | none =>
    cases h with
    | none => exact hv.elim
    | some z =>
      obtain ⟨i, t⟩ := z
      cases i with
      | negSucc n => exact hv.elim
      | ofNat b =>
        refine gd_e (show brW (Nat.blt b q.length && sm q) (k (.tup (q.take b))) False from hv) fun hb hv => and_e hb fun hb hz => ?_
        exact ⟨_, _, ⟨_, h1, rfl⟩, slot_tuple_getitem.lookup, tup_head (tupO h1) hs (show b < vs.length from h2.len ▸ bltN.mp hb) (sizeLine_ge (show Nat.blt vs.length 65536 = true by rw [h2.len]; exact hz)) ((P _ hv).tuple I (h2.take b) _)⟩
theorem slice_sound {value : PySem.Expr} {lo hi : Option PySem.Expr} {p : Pos} {l h : Option (Int × Tok)} {sl : Addr} (I : J X W s) (hv : sliceW x (l.map (·.1)) (h.map (·.1)) k) (hx : RelO X.G W x u) (hs : s.heap.get? sl = some (slcO l h))
    (P : PK X W k Q) : Do X (subscriptTail value (.Slice lo hi none p) u (.ref sl)) Q s := by
  have key : Got X s u (.ref sl) Q := sel_e I hx hv (fun _ _ h => noW_e h) (fun _ _ hv => gd_e hv fun hb hv => ⟨_, _, typeIs_str _ _ _, PySem.F.slot_str_getitem.lookup, slice_str I ⟨_, hs, rfl, rfl⟩ hb (P _ hv)⟩)
    (fun _ _ _ _ h1 h2 hv => slice_tup I h1 h2 hs hv P) fun _ _ _ _ h1 h2 hv => slice_list I h1 h2 hs hv P
  obtain ⟨T, id, h1, h2, h3⟩ := key
  exact tail_any h1 h2 h3 (sub_is _ _)
abbrev PT (X : Cx) (W : Wd) (k : Bool → Prop) (Q : Bool → Shared → Prop) : Prop := ∀ b, k b → ∀ W' s', Ex W W' → J X W' s' → Q b s'
variable {kb : Bool → Prop} {Qb : Bool → Shared → Prop}
theorem blt_fit {n : Nat} (h : Nat.blt n 65536 = true) : (n : Int) < 2 ^ 63 := Int.ofNat_lt.mpr (Nat.lt_trans (bltN.mp h) (by decide))
theorem len_bool (q : List Nat) : ((q.length : Int) != 0) = !q.isEmpty := by
  cases q with
  | nil => rfl
  | cons c q => exact bne_iff_ne.mpr (Int.ofNat_ne_zero.mpr (Nat.succ_ne_zero _))
theorem rels_empty {l : List V} {vs : List Value} (h : Rels X.G W l vs) : vs.toArray.isEmpty = l.isEmpty := by
  cases l with
  | nil => rw [show vs = [] from h]; rfl
  | cons c l => obtain ⟨u, r, rfl, _⟩ := h; rfl
theorem truth_sound (I : J X W s) (h : truthW x kb) (hx : RelO X.G W x u) (P : PT X W kb Qb) : Do X (truthy u) Qb s := by
  have h : (match bolOf x with
    | some b => kb b
    | none => selV x (fun i => kb (!decide (i = 0))) (fun s => brW (sm s) (kb (!s.isEmpty)) False) noW (fun l => brW (sm l) (kb (!l.isEmpty)) False)) := h
  cases hb : bolOf x with
  | some b =>
    rw [hb] at h
    exact bol_e hx (optW_i (k := kb) hb h) fun b h => wpAny_truthy_bool (P _ h W s (Ex.refl W) I)
  | none =>
    rw [hb] at h
    refine sel_e I hx h (fun i t h => truthy_int (P _ h W _ (Ex.refl W) (I.toks _))) (fun q t h => gd_e h fun hs h => PySem.P.truthy_str (Int.not_le.mpr (blt_fit hs)) ?_) (fun _ _ _ _ _ _ h => noW_e h) fun l a vs n h1 h2 h => gd_e h fun hs h => wpAny_truthy_list (listO h1) ?_ ?_
    · rw [str_len, len_bool]
      exact P _ h W _ (Ex.refl W) (I.toks _)
    · exact blt_fit (show Nat.blt vs.length 65536 = true by rw [h2.len]; exact hs)
    · rw [rels_empty h2]
      exact P _ h W _ (Ex.refl W) (I.toks _)
end
end Mine
end
section
open PySem PySem.W PyProof.Rows
set_option maxRecDepth 100000
set_option genInjectivity false
set_option genSizeOf false
set_option backward.match.sparseCases false
namespace Mine
section
open SeqAt (EqAt)
open AutoSeq1 (wpAny_loadPart')
open MeetsSeq MeetsSeq2 MeetsSeq3 SeqRoads2
variable {prog : Program} {w : World}
def EqW (prog : Program) (w : World) (A : Around) (s : Shared) (y x : Value) : Prop :=
  ∀ (E : Value → Shared → Prop) (Q : Bool → Shared → Prop), Q true s → wpAny (model prog w) A (eqBool y x) Q E s
def RcW (prog : Program) (w : World) (A : Around) (s : Shared) (y x : Value) : Prop :=
  ∀ (E : Value → Shared → Prop) (Q : Value → Shared → Prop), Q (.bool true) s → wpAny (model prog w) A (richCompare .Eq y x) Q E s
theorem EqW.of {A : Around} {s : Shared} {y x : Value} (h : EqAt A s y x true) : EqW prog w A s y x := h prog w
theorem EqW.of_refs {A : Around} {s : Shared} {l b : Addr} (h : RcW prog w A s (.ref l) (.ref b)) : EqW prog w A s (.ref l) (.ref b) := by
  by_cases hne : l = b
  · subst hne; exact .of (.same _)
  · intro E Q hq
    unfold eqBool
    refine wpAny_holding ?_
    refine wpAny_ite_split (fun hab => absurd (Value.ref.inj (eq_of_beq hab)) hne) (fun _ => ?_)
    exact wpAny_bind (h E _ (wpAny_truthy_bool hq))
theorem samePairs_is {A : Around} {E : Value → Shared → Prop} {s : Shared} {nme : String} {a b : Addr} {kvs kvs2 : List (Str × Value)} {Q : Bool → Shared → Prop}
    (ha : (a == sysModules) = false) (hb : (b == sysModules) = false) (da : s.heap.DictOf (PySem.strKind prog w) a kvs) (db : s.heap.DictOf (PySem.strKind prog w) b kvs2)
    (hk : kvs.map (·.1) = kvs2.map (·.1)) (he : ∀ (j : Nat) u v, (kvs.map (·.2))[j]? = some u → (kvs2.map (·.2))[j]? = some v → EqW prog w A s u v) (hQ : Q true s) :
    wpAny (model prog w) A (Builtin.Dict.samePairs nme a b) Q E s := by
  obtain ⟨oa, ea, pa, h1, _, d1, k1, p1, n1⟩ := da
  obtain ⟨ob, eb, pb, h2, _, d2, k2, p2, n2⟩ := db
  obtain ⟨ea⟩ := ea
  obtain ⟨eb⟩ := eb
  have l1 := p1.length
  have l2 := p2.length
  have l3 : kvs.length = kvs2.length := by have := congrArg List.length hk; rwa [List.length_map, List.length_map] at this
  have hsz : ea.length = eb.length := l1.trans (l3.trans l2.symm)
  unfold Builtin.Dict.samePairs Builtin.Dict.showsAll
  rw [if_neg (by rw [ha]; exact Bool.false_ne_true), if_neg (by rw [hb]; exact Bool.false_ne_true)]
  refine wpAny_bind (wpAny_pure (wpAny_bind (wpAny_pure (wpAny_bind (wpAny_dictEntries h1 d1 (wpAny_bind (wpAny_dictEntries h2 d2 ?_)))))))
  rw [if_neg (by simp [hsz])]
  refine wpAny_bind (wpAny_dictEpoch h1 d1 (wpAny_bind ?_))
  rw [Std.Legacy.Range.forIn_eq_forIn_range']
  simp only [Std.Legacy.Range.size, Nat.sub_zero, Nat.add_sub_cancel, Nat.div_one]
  refine wpAny_forIn_list _ (fun rest r s' => (∀ x ∈ rest, x < ea.length) ∧ r.1 = none ∧ s' = s) _ ?_ ?_ _ _ ⟨fun x hx => by simpa using hx, rfl, rfl⟩
  · rintro x rest r s' ⟨hr, hr1, rfl⟩
    have hlt : x < ea.length := hr x (.head _)
    have hlt2 : x < eb.length := hsz ▸ hlt
    refine wpAny_bind (wpAny_dictEntries h1 d1 ?_)
    rw [show (⟨ea⟩ : Array DictEntry)[x]? = some ea[x] from List.getElem?_toArray.trans (List.getElem?_eq_getElem hlt)]
    have z1 : x < kvs.length := l1 ▸ hlt
    have z2 : x < kvs2.length := l2 ▸ hlt2
    have g1 := List.getElem?_eq_getElem z1
    have g2 := List.getElem?_eq_getElem z2
    obtain ⟨hkey, hval⟩ := p1.get? (List.getElem?_eq_getElem hlt) g1
    obtain ⟨hkeyb, hvalb⟩ := p2.get? (List.getElem?_eq_getElem hlt2) g2
    obtain ⟨k, hkey', hhash⟩ := k1 ea[x] (Array.mem_def.mpr (List.getElem_mem hlt))
    have e1 : k = kvs[x].1 := (PySem.strKind prog w).inj _ _ _ hkey' hkey
    have e2 : kvs2[x].1 = k := by
      have e3 := congrArg (·[x]?) hk
      rw [List.getElem?_map, List.getElem?_map, g1, g2] at e3
      exact (Option.some.inj e3).symm.trans e1.symm
    have hfind : ((⟨eb⟩ : Array DictEntry).findIdx? fun e => (PySem.strKind prog w).is k e.key) = some x := by
      rw [List.findIdx?_toArray, p2.findIdx k, List.findIdx?_eq_some_iff_getElem]
      refine ⟨z2, decide_eq_true e2, fun j hj q => Nat.ne_of_lt hj ((List.getElem_inj n2 (h₀ := ?_) (h₁ := ?_)).mp ?_)⟩
      · rw [List.length_map]; exact Nat.lt_trans hj z2
      · rw [List.length_map]; exact z2
      · rw [List.getElem_map, List.getElem_map]; exact (of_decide_eq_true q).trans e2.symm
    show wpAny _ _ (holding [ea[x].key, ea[x].val] (dictFind b ea[x].key ea[x].hash >>= _) >>= _) _ _ _
    rw [hhash]
    refine wpAny_bind (wpAny_holding (wpAny_bind (wpAny_dictFind_of hkey' h2 d2 k2 ?_)))
    rw [hfind]
    refine wpAny_bind (wpAny_dictEntries h2 d2 ?_)
    rw [show (⟨eb⟩ : Array DictEntry)[x]? = some eb[x] from List.getElem?_toArray.trans (List.getElem?_eq_getElem hlt2), hval]
    refine wpAny_holding ?_
    rw [hvalb]
    refine he x _ _ (by rw [List.getElem?_map, g1]; rfl) (by rw [List.getElem?_map, g2]; rfl) E _ ?_
    rw [if_neg (by decide)]
    refine wpAny_bind (wpAny_dictEpoch h1 d1 ?_)
    rw [if_neg (by simp)]
    exact wpAny_pure ⟨fun y hy => hr y (.tail _ hy), rfl, rfl⟩
  · rintro r s' ⟨_, hr1, rfl⟩
    rw [hr1]
    exact wpAny_pure hQ
theorem dict_sub : isSubtype (.type "dict") (.type "dict") = pure true := by rw [isSubtype_type]; kernel_rfl
theorem rc_dicts {A : Around} {s : Shared} {a b : Addr} {kvs kvs2 : List (Str × Value)}
    (ha : (a == sysModules) = false) (hb : (b == sysModules) = false) (da : s.heap.DictOf (PySem.strKind prog w) a kvs) (db : s.heap.DictOf (PySem.strKind prog w) b kvs2)
    (hk : kvs.map (·.1) = kvs2.map (·.1)) (hu : A.units < cLine) (he : ∀ (j : Nat) u v, (kvs.map (·.2))[j]? = some u → (kvs2.map (·.2))[j]? = some v → EqW prog w A.in1 s u v) :
    RcW prog w A s (.ref a) (.ref b) := fun E Q hQ =>
  wpAny_richCompare_same_room da.typeIs db.typeIs PySem.F.slot_dict_eq (call_meetsIn PySem.F.slot_dict_eq da.typeIs PySem.F.entry_dict_eq (PySem.F.args_dict_eq_2 _ _) (S := fun A R s => s.heap.DictOf (PySem.strKind prog w) a kvs ∧ s.heap.DictOf (PySem.strKind prog w) b kvs2 ∧
      (∀ (j : Nat) u v, (kvs.map (·.2))[j]? = some u → (kvs2.map (·.2))[j]? = some v → EqW prog w A.in1 s u v) ∧ R (.ok (.ret (.bool true))) s) (.of_wp fun A R s ⟨d1, d2, he, h⟩ => by
    show wpAny _ _ (Builtin.Dict.dictSlotArgs "__eq__" ⟨[.ref a, .ref b], []⟩ >>= _) _ _ _
    unfold Builtin.Dict.dictSlotArgs
    refine wpAny_bind (wpAny_bind (wpAny_notOrdered_dict d1.typeIs ?_))
    show wpAny _ _ (pure (Value.ref a, Value.ref b)) _ _ _
    refine wpAny_pure (wpAny_bind (wpAny_isInstance d2.typeIs dict_sub ?_))
    rw [if_neg (by decide)]
    show wpAny _ _ (Builtin.Dict.samePairs _ a b >>= _) _ _ _
    exact wpAny_bind (samePairs_is ha hb d1 d2 hk he (wpAny_pure ⟨_, rfl, h⟩))) ⟨da, db, he, (fun x => nomatch x), hQ⟩) hu
structure Same (prog : Program) (w : World) (c : String) (l b : Addr) (us ws : List Value) (n m : Nat) (A : Around) (s : Shared) : Prop where
  l : s.heap.get? l = some (seqO c us n)
  b : s.heap.get? b = some (seqO c ws m)
  e : ∀ j (h1 : j < us.length) (h2 : j < ws.length), EqW prog w A.in1 s us[j] ws[j]
variable {us ws : List Value} {l b : Addr} {n n2 : Nat}
theorem tupW (hsz : us.length = ws.length) :
    MeetsIn prog w (Builtin.«tuple.__eq__» ⟨[.ref l, .ref b], []⟩) (fun A R s => Same prog w "tuple" l b us ws n n2 A s ∧ R (.ok (.ret (.bool true))) s) :=
  .of_wp fun A R s h => by
    obtain ⟨hp, g, d, tk, os⟩ := s; obtain ⟨⟨hl, hb, he⟩, h⟩ := h
    have f2 := AutoSeq1.sub_tuple_tuple
    wp_walk using wpAny_loadPart' hl, wpAny_loadPart' hb, wpAny_forIn_list _ (fun rest b s' => b.1 = none ∧ s' = ⟨hp, g, d, tk, os⟩ ∧ ∀ p ∈ rest, EqW prog w A.in1 s' p.1 p.2) _
    case turn =>
      rintro ⟨y, x⟩ rest b s' ⟨hb', rfl, hz⟩
      refine wpAny_bind (hz _ (.head _) _ _ ?_)
      wp_walk
      exact ⟨rfl, rfl, fun p hp => hz p (.tail _ hp)⟩
    case fin =>
      rintro ⟨b1, b2⟩ s' ⟨hb', rfl, _⟩
      simp only at hb'
      subst hb'
      wp_walk
      refine ⟨_, rfl, ?_⟩
      simpa [Builtin.Tuple.tupleCompareSizes, hsz] using h
    case h =>
      refine ⟨rfl, rfl, fun p hp => ?_⟩
      obtain ⟨j, hj, rfl⟩ := List.getElem_of_mem hp
      simp only [List.length_zip] at hj
      simp only [List.getElem_zip]
      exact he j (by omega) (by omega)
theorem lstLoopW (hsz : us.length = ws.length) (k : Nat) :
    ∀ i : Nat, us.length - i = k → MeetsIn prog w (Builtin.«list.__eq__.loop» ⟨[.ref l, .ref b, rawInt i, rawInt 2], []⟩) (fun A R s => Same prog w "list" l b us ws n n2 A s ∧ R (.ok (.ret (.bool true))) s) := by
  induction k with
  | zero =>
    intro i hk A R s h
    obtain ⟨hp, g, d, tk, os⟩ := s; obtain ⟨⟨hl, hb, he⟩, h⟩ := h
    wp_walk using wpAny_loadPart' hl, wpAny_loadPart' hb
    have hi1 : us.toArray[((i : Nat) : Int).toNat]? = none := by simp; omega
    have hi2 : ws.toArray[((i : Nat) : Int).toNat]? = none := by simp; omega
    rw [hi1, hi2]
    wp_walk using wpAny_loadPart' hl, wpAny_loadPart' hb
    show R (.ok (.ret (.bool (us.length == ws.length)))) _
    rw [hsz, beq_self_eq_true]
    exact h
  | succ k ih =>
    intro i hk A R s h
    obtain ⟨hp, g, d, tk, os⟩ := s; obtain ⟨⟨hl, hb, he⟩, h⟩ := h
    wp_walk using wpAny_loadPart' hl, wpAny_loadPart' hb
    have hlt : i < us.length := by omega
    have hlt2 : i < ws.length := by omega
    have hi1 : us.toArray[((i : Nat) : Int).toNat]? = some us[i] := List.getElem?_toArray.trans (List.getElem?_eq_getElem hlt)
    have hi2 : ws.toArray[((i : Nat) : Int).toNat]? = some ws[i] := List.getElem?_toArray.trans (List.getElem?_eq_getElem hlt2)
    rw [hi1, hi2]
    refine wpAny_bind (he i hlt hlt2 _ _ ?_)
    wp_walk
    rw [show ((i : Int) + 1) = ((i + 1 : Nat) : Int) from rfl]
    exact ⟨plainId_quiet plain_eq_loop _, codeAny_builtin entry_eq_loop (by
      rw [Around.under_plainId plain_eq_loop _]
      exact ih (i + 1) (by omega) A R _ ⟨⟨hl, hb, he⟩, h⟩)⟩
theorem lstW (hsz : us.length = ws.length) :
    MeetsIn prog w (Builtin.«list.__eq__» ⟨[.ref l, .ref b], []⟩) (fun A R s => Same prog w "list" l b us ws n n2 A s ∧ R (.ok (.ret (.bool true))) s) := by
  intro A R s h
  obtain ⟨hp, g, d, tk, os⟩ := s; obtain ⟨⟨hl, hb, he⟩, h⟩ := h
  have f3 := AutoSeq1.sub_list_list
  have hne : ¬ (us.toArray.size != ws.toArray.size) = true := by simp [hsz]
  wp_walk using wpAny_loadPart' hl, wpAny_loadPart' hb
  exact ⟨plainId_quiet plain_eq_loop _, codeAny_builtin entry_eq_loop (by
    rw [Around.under_plainId plain_eq_loop _]
    exact lstLoopW hsz _ 0 rfl A R _ ⟨⟨hl, hb, he⟩, h⟩)⟩
theorem rcTupW {A : Around} {s : Shared} (z : Same prog w "tuple" l b us ws n n2 A s) (hsz : us.length = ws.length) (hu : A.units < cLine) : RcW prog w A s (.ref l) (.ref b) := fun _ _ h =>
  wpAny_richCompare_same_room ⟨_, z.l, rfl⟩ ⟨_, z.b, rfl⟩ PySem.F.slot_tuple_eq (call_meetsIn PySem.F.slot_tuple_eq ⟨_, z.l, rfl⟩ PySem.F.entry_tuple_eq (PySem.F.args_tuple_eq_2 _ _) (tupW hsz) ⟨z, (fun x => nomatch x), h⟩) hu
theorem rcLstW {A : Around} {s : Shared} (z : Same prog w "list" l b us ws n n2 A s) (hsz : us.length = ws.length) (hu : A.units < cLine) : RcW prog w A s (.ref l) (.ref b) := fun _ _ h =>
  wpAny_richCompare_same_room ⟨_, z.l, rfl⟩ ⟨_, z.b, rfl⟩ PySem.F.slot_list_eq (call_meetsIn PySem.F.slot_list_eq ⟨_, z.l, rfl⟩ PySem.F.entry_list_eq (PySem.F.args_list_eq_2 _ _) (lstW hsz) ⟨z, (fun x => nomatch x), h⟩) hu
end
section
variable {X : Cx} {W : Wd} {s : Shared}
theorem all2_at {P : Value → Value → Prop} {f : V → Bool} (H : ∀ x u w, f x = true → Rel X.G W x u → Rel X.G W x w → P u w) {l : List V} : ∀ {us ws : List Value}, noAtms f l = true → Rels X.G W l us → Rels X.G W l ws → us.length = ws.length ∧ ∀ (j : Nat) u w, us[j]? = some u → ws[j]? = some w → P u w := by
  induction l with
  | nil => intro us ws _ h1 h2; rw [show us = [] from h1, show ws = [] from h2]; exact ⟨rfl, fun _ _ _ e => nomatch e⟩
  | cons x l ih =>
    intro us ws h h1 h2
    obtain ⟨u, r, rfl, a, b⟩ := h1
    obtain ⟨w, q, rfl, c, d⟩ := h2
    refine and_e h fun e1 e2 => ?_
    have z := ih e2 b d
    refine ⟨congrArg Nat.succ z.1, fun j u' w' g1 g2 => ?_⟩
    cases j with
    | zero => rw [← Option.some.inj g1, ← Option.some.inj g2]; exact H _ _ _ e1 a c
    | succ j => exact z.2 j u' w' g1 g2
theorem keys_inj {k k' : List (Str × Value)} (h : keysV k = keysV k') : k.map (·.1) = k'.map (·.1) := by
  have e := congrArg (List.map fun v => match v with | V.str s => (⟨s.toArray⟩ : Str) | _ => ⟨#[]⟩) h
  rw [keysV, keysV, List.map_map, List.map_map] at e
  exact e
theorem eq_all (I : J X W s) (n : Nat) : ∀ (A : Around) (x : V) (u w : Value), A.units + 2 * n < cLine → noAtm n x = true → Rel X.G W x u → Rel X.G W x w → EqW X.G.prog X.G.w A s u w := by
  induction n with
  | zero => intro A x u w _ h _ _; exact nomatch h
  | succ n ih =>
    intro A x u w hu h hx hy
    have hx := hx.un
    have hy := hy.un
    have hu' : A.units < cLine := by omega
    have H : ∀ x u w, noAtm n x = true → Rel X.G W x u → Rel X.G W x w → EqW X.G.prog X.G.w A.in1 s u w := fun x u w => ih A.in1 x u w (by rw [Around.in1_units]; omega)
    cases x with
    | int a => obtain ⟨t, rfl⟩ := hx; obtain ⟨t', rfl⟩ := hy; exact .of (beq_self_eq_true a ▸ SeqAt.EqAt.int_int a t a t')
    | str a => obtain ⟨t, rfl⟩ := hx; obtain ⟨t', rfl⟩ := hy; exact .of (beq_self_eq_true (⟨a.toArray⟩ : Str) ▸ SeqAt.EqAt.str_str (⟨a.toArray⟩ : Str) t ⟨a.toArray⟩ t')
    | bool a => rw [show u = .bool a from hx, show w = .bool a from hy]; exact .of (.same _)
    | tup l =>
      obtain ⟨p, us, k, rfl, h1, h2⟩ := hx
      obtain ⟨q, ws, m, rfl, h3, h4⟩ := hy
      have z := all2_at H h h2 h4
      exact .of_refs (rcTupW ⟨I.fz h1, I.fz h3, fun j j1 j2 => z.2 j _ _ (List.getElem?_eq_getElem j1) (List.getElem?_eq_getElem j2)⟩ z.1 hu')
    | lst l =>
      obtain ⟨p, us, k, rfl, h1, h2⟩ := hx
      obtain ⟨q, ws, m, rfl, h3, h4⟩ := hy
      have z := all2_at H h h2 h4
      exact .of_refs (rcLstW ⟨I.fz h1, I.fz h3, fun j j1 j2 => z.2 j _ _ (List.getElem?_eq_getElem j1) (List.getElem?_eq_getElem j2)⟩ z.1 hu')
    | dct ks vs =>
      obtain ⟨p, o, kvs, rfl, h1, h2, e1, h4⟩ := hx
      obtain ⟨q, o', kvs', rfl, g1, g2, e2, g4⟩ := hy
      have z := all2_at H h h4 g4
      exact .of_refs (rc_dicts (beq_eq_false_iff_ne.mpr h1.2) (beq_eq_false_iff_ne.mpr g1.2) (h2.at (I.fz h1)) (g2.at (I.fz g1)) (keys_inj (e1.symm.trans e2)) hu' z.2)
    | _ => first | exact none_i h | exact ff_i h | exact nomatch h
theorem pr2_e {l : List V} {us : List Value} {p : List Nat × Int} {P : List Value → Prop} (h : pr2 l = some p) (hr : Rels X.G W l us) (c : ∀ t t', P [.str ⟨p.1.toArray⟩ t, .int p.2 t']) : P us := by
  refine twoL_e (l := l) (f := fun q => (bnd (strOf q.1) fun s => bnd (intOf q.2) fun i => some (s, i)) = some p) (P := fun l => Rels X.G W l us → P us) (by unfold pr2 at h; cases e : twoL l with | none => rw [e] at h; exact nomatch h | some q => rw [e] at h; exact h) (fun x y h hr => ?_) hr
  refine hr.two_e (Pm := P) fun u w h1 h2 => bnd_e h fun a e1 h => bnd_e h fun b e2 h => ?_
  rw [← Option.some.inj h] at c
  exact str_e (Pm := fun u => P [u, w]) h1.o (optW_i (k := (· = a)) e1 rfl) fun i t e => e ▸ int_e (Pm := fun w => P [.str ⟨i.toArray⟩ t, w]) h2.o (optW_i (k := (· = b)) e2 rfl) fun i' t' e' => e ▸ e' ▸ c t t'
end
end Mine
end
section
open PySem PySem.W PyProof.Rows
set_option maxRecDepth 100000
set_option maxHeartbeats 4000000
set_option genInjectivity false
set_option genSizeOf false
set_option backward.match.sparseCases false
namespace Mine
section
variable {X : Cx} {W : Wd} {s : Shared} {x y : V} {u w : Value} {Q : Value → Shared → Prop} {kb : Bool → Prop}
theorem eq_pairs {p q : Addr} {n m : Nat} {a b : List Nat} {i j : Int} {t t' t1 t1' : Tok} (hu : X.A.units < cLine) (I : J X W s) (h1 : s.heap.get? p = some (seqO "tuple" [.str ⟨a.toArray⟩ t, .int i t1] n)) (h2 : s.heap.get? q = some (seqO "tuple" [.str ⟨b.toArray⟩ t', .int j t1'] m))
    (P : Post X W (.bool (decide (a = b) && decide (i = j))) Q) : Do X (compareOp .Eq (.ref p) (.ref q)) Q s :=
  SeqAt.eq_tupleAt (e := fun k => match k with | 0 => decide (a = b) | _ => decide (i = j)) (tupO h1) (tupO h2) hu (fun k k1 _ => match k, k1 with
    | 0, _ => str_beq a b ▸ SeqAt.EqAt.str_str (⟨a.toArray⟩ : Str) t ⟨b.toArray⟩ t'
    | 1, _ => SeqAt.EqAt.int_int i t1 j t1'
    | k + 2, k1 => absurd k1 (Nat.not_lt.mpr (Nat.le_add_left 2 k))) (P.bool I (by generalize decide (a = b) = p; generalize decide (i = j) = q; cases p <;> cases q <;> rfl))
theorem eqT_s {l : List V} {p : Addr} {vs : List Value} {n : Nat} (hu : X.A.units < cLine) (I : J X W s) (P : PB X W kb Q) (h1 : s.heap.get? p = some (seqO "tuple" vs n)) (h2 : Rels X.G W l vs) (hy : RelO X.G W y w)
    (h : optW (pr2 l) fun p => optW (tupOf y) fun b => optW (pr2 b) fun q => kb (decide (p.1 = q.1) && decide (p.2 = q.2))) : Do X (compareOp .Eq (.ref p) w) Q s :=
  optW_e h fun a e h => tup_e I hy h fun b q us m h3 h4 h => optW_e h fun c e' h =>
    pr2_e (P := fun vs => s.heap.get? p = some (seqO "tuple" vs n) → Do X (compareOp .Eq (.ref p) (.ref q)) Q s) e h2 (fun _ _ h1 => pr2_e (P := fun us => s.heap.get? q = some (seqO "tuple" us m) → Do X (compareOp .Eq (.ref p) (.ref q)) Q s) e' h4 (fun _ _ h3 => eq_pairs hu I h1 h3 (P _ h)) h3) h1
theorem lists_eq {l : List V} (hu : X.A.units + 64 < cLine) (I : J X W s) (P : Post X W (.bool true) Q) (hx : Rel X.G W (.lst l) u) (hy : Rel X.G W (.lst l) w) (h : noAtm 9 (.lst l) = true) : Do X (compareOp .Eq u w) Q s := by
  obtain ⟨p, us, k, rfl, h1, h2⟩ := hx.un
  obtain ⟨q, ws, m, rfl, h3, h4⟩ := hy.un
  have z := all2_at (fun x u w => eq_all I 8 X.A.in1 x u w (by rw [Around.in1_units]; omega)) h h2 h4
  exact rcLstW ⟨I.fz h1, I.fz h3, fun j j1 j2 => z.2 j _ _ (List.getElem?_eq_getElem j1) (List.getElem?_eq_getElem j2)⟩ z.1 (by omega) _ _ (P.bool I rfl)
theorem eq_sound (hu : X.A.units + 64 < cLine) (I : J X W s) (h : eqW x y kb) (hx : Rel X.G W x u) (hy : Rel X.G W y w) (P : PB X W kb Q) : Do X (compareOp .Eq u w) Q s := by
  have h : (match bolOf y with
    | some b => optW (bolOf x) fun a => kb (a == b)
    | none => selV x (fun a => optW (intOf y) fun b => kb (decide (a = b))) (fun a => optW (strOf y) fun b => kb (decide (a = b))) (fun a => optW (pr2 a) fun p => optW (tupOf y) fun b => optW (pr2 b) fun q => kb (decide (p.1 = q.1) && decide (p.2 = q.2))) (fun a => (y = .lst a ∧ noAtm 9 y = true) ∧ kb true)) := h
  cases hb : bolOf y with
  | some b =>
    rw [hb] at h
    exact bol_e hy.o (optW_i (k := fun b => optW (bolOf x) fun a => kb (a == b)) hb h) fun b h => bol_e hx.o h fun a h => eq_bool ((P _ h).bool I rfl)
  | none =>
    rw [hb] at h
    cases x with
    | int a => obtain ⟨t, rfl⟩ := hx.o; exact int_e hy.o h fun _ _ h => eqI_s I P h
    | str a => obtain ⟨t, rfl⟩ := hx.o; exact str_e hy.o h fun _ _ h => eqS_s I P h
    | tup a => exact tup_e (Pm := fun u => Do X (compareOp .Eq u w) Q s) (x := .tup a) (f := fun a => optW (pr2 a) fun p => optW (tupOf y) fun b => optW (pr2 b) fun q => kb (decide (p.1 = q.1) && decide (p.2 = q.2))) I hx.o h fun _ _ _ _ h1 h2 h => eqT_s (Nat.lt_of_le_of_lt (Nat.le_add_right _ _) hu) I P h1 h2 hy.o h
    | lst a => exact lists_eq hu I (P _ h.2) hx (h.1.1 ▸ hy) (h.1.1 ▸ h.1.2)
    | _ => exact h.elim
theorem cmp_sound {op : CmpOp} (hu : X.A.units + 64 < cLine) (I : J X W s) (h : cmpW op x y kb) (hx : Rel X.G W x u) (hy : Rel X.G W y w) (P : PB X W kb Q) : Do X (compareOp op u w) Q s := by
  cases op with
  | Lt => exact lt_sound I h hx.o hy.o P
  | LtE => exact le_sound I h hx.o hy.o P
  | Gt => exact gt_sound I h hx.o hy.o P
  | GtE => exact ge_sound I h hx.o hy.o P
  | Eq => exact eq_sound hu I h hx hy P
  | NotEq => exact ne_sound I h hx.o hy.o P
  | In => exact in_sound I h hx.o hy.o P
  | NotIn => exact nin_sound I h hx.o hy.o P
  | Is => exact is_sound I h hx.o hy.o P
  | IsNot => exact isn_sound I h hx.o hy.o P
end
theorem mod_s_meets (t u : Tok) (z : Str) : z.length ≤ 1000000 → Meets (Builtin.«str.__mod__» ⟨[.str ⟨#[123, 37, 115, 125]⟩ t, .str z u], []⟩) (fun _ R s => ∀ t' k, R (.ok (.ret (.str (Str.ofString "{" ++ z ++ Str.ofString "}") t'))) { s with toks := k }) := by
  kpc_run_s
theorem mod_t_meets (t : Tok) (b : Addr) (x y : Str) (i : Int) (t1 t2 t3 : Tok) (h1 : x.length ≤ 1000000) (h2 : y.length ≤ 1000000) (h3 : 0 ≤ i) (h4 : i < 10) :
    Meets (Builtin.«str.__mod__» ⟨[.str ⟨#[37, 115, 58, 37, 100, 40, 37, 115, 41]⟩ t, .ref b], []⟩) (fun _ R s => IsTup s.heap b #[.str x t1, .int i t2, .str y t3] ∧
      ∀ t' k, R (.ok (.ret (.str (x ++ Str.ofString ":" ++ Str.ofString (toString i) ++ Str.ofString "(" ++ y ++ Str.ofString ")") t'))) { s with toks := k }) := by
  kpt_run
section
variable {X : Cx} {W : Wd} {s : Shared} {x y : V} {u w : Value} {Q : Value → Shared → Prop} {k : V → Prop} {t : Tok}
theorem str_fin {T : Str} {r : List Nat} (I : J X W s) (P : Post X W (.str r) Q) (e : T = ⟨r.toArray⟩) (t' : Tok) (k : Nat) : Q (.str T t') { s with toks := k } := e ▸ P.tok I (rStr r t') k
theorem txt_1 (z : List Nat) : Str.ofString "{" ++ (⟨z.toArray⟩ : Str) ++ Str.ofString "}" = ⟨(123 :: (z ++ [125])).toArray⟩ := by
  rw [show Str.ofString "{" = ⟨[123].toArray⟩ by decide +kernel, show Str.ofString "}" = ⟨[125].toArray⟩ by decide +kernel, str_app, str_app]
  rfl
theorem txt_all : ∀ n : Fin 10, Str.ofString (toString ((n.val : Nat) : Int)) = ⟨[48 + n.val].toArray⟩ := by decide +kernel
theorem txt_3 {i : Int} {d : List Nat} (h : digit i = some d) : Str.ofString (toString i) = ⟨d.toArray⟩ :=
  digit_e h fun h1 h2 e => by
    obtain ⟨n, rfl⟩ := Int.eq_ofNat_of_zero_le h1
    rw [← e]
    exact txt_all ⟨n, Int.ofNat_lt.mp h2⟩
theorem txt_t {i : Int} {d a c : List Nat} (h : digit i = some d) : (⟨a.toArray⟩ : Str) ++ Str.ofString ":" ++ Str.ofString (toString i) ++ Str.ofString "(" ++ (⟨c.toArray⟩ : Str) ++ Str.ofString ")" = ⟨(a ++ (58 :: (d ++ (40 :: (c ++ [41]))))).toArray⟩ := by
  rw [txt_3 h, show Str.ofString ":" = ⟨[58].toArray⟩ by decide +kernel, show Str.ofString "(" = ⟨[40].toArray⟩ by decide +kernel, show Str.ofString ")" = ⟨[41].toArray⟩ by decide +kernel, str_app, str_app, str_app, str_app, str_app]
  simp only [List.append_assoc, List.cons_append, List.nil_append]
theorem mod_one {l : List Nat} {t' : Tok} (I : J X W s) (hl : l.length ≤ 1000000) (P : Post X W (.str (123 :: (l ++ [125]))) Q) : Do X (binaryOp .Mod (.str ⟨#[123, 37, 115, 125]⟩ t) (.str ⟨l.toArray⟩ t')) Q s :=
  binaryOp_meets (T := "str") (op := .Mod) (typeIs_str s _ t) (typeIs_str s _ t') PySem.F.fills_str_mod PySem.F.slot_str_mod PySem.F.entry_str_mod (PySem.F.args_str_mod_2 _ _) (mod_s_meets t t' _ hl) fun t' k => ⟨(fun e => nomatch e), str_fin I P (txt_1 l) t' k⟩
theorem mod_tup {b : Addr} {n : Nat} {a c : List Nat} {i : Int} {d : List Nat} {t1 t2 t3 : Tok} (I : J X W s) (hb : s.heap.get? b = some (seqO "tuple" [.str ⟨a.toArray⟩ t1, .int i t2, .str ⟨c.toArray⟩ t3] n)) (h1 : a.length ≤ 1000000) (h2 : c.length ≤ 1000000) (hd : digit i = some d)
    (P : Post X W (.str (a ++ (58 :: (d ++ (40 :: (c ++ [41])))))) Q) : Do X (binaryOp .Mod (.str ⟨#[37, 115, 58, 37, 100, 40, 37, 115, 41]⟩ t) (.ref b)) Q s :=
  digit_e hd fun g1 g2 _ => KPt.bin_left (T := "str") (U := "tuple") (op := .Mod) (by decide) (typeIs_str s _ t) ⟨_, hb, rfl⟩ PySem.F.fills_str_mod KPt.fills_tuple PySem.F.slot_str_mod
    (call_meets PySem.F.slot_str_mod (typeIs_str s _ t) PySem.F.entry_str_mod (PySem.F.args_str_mod_2 _ _) (mod_t_meets t b ⟨a.toArray⟩ ⟨c.toArray⟩ i t1 t2 t3 h1 h2 g1 g2) ⟨tupO hb, fun t' k => ⟨(fun e => nomatch e), str_fin I P (txt_t hd) t' k⟩⟩)
theorem fmt3_e {vs : List V} {us : List Value} {r : List Nat} {P : List Value → Prop} (h : fmt3 vs = some r) (hr : Rels X.G W vs us) (c : ∀ a i d c t1 t2 t3, digit i = some d → a ++ (58 :: (d ++ (40 :: (c ++ [41])))) = r → P [.str ⟨a.toArray⟩ t1, .int i t2, .str ⟨c.toArray⟩ t3]) : P us := by
  refine bnd_e h fun p e h => bnd_e h fun a e1 h => bnd_e h fun i e2 h => bnd_e h fun d e3 h => bnd_e h fun q e4 h => ?_
  refine threeL_e (l := vs) (f := (· = p)) (P := fun vs => Rels X.G W vs us → P us) (optW_i (k := (· = p)) e rfl) (fun x y z e hr => ?_) hr
  rw [← e] at e1 e2 e4
  refine hr.three_e (Pm := P) fun u v w h1 h2 h3 => ?_
  exact str_e (Pm := fun u => P [u, v, w]) h1.o (optW_i (k := (· = a)) e1 rfl) fun a' t1 g1 => int_e (Pm := fun v => P [.str ⟨a'.toArray⟩ t1, v, w]) h2.o (optW_i (k := (· = i)) e2 rfl) fun i' t2 g2 => str_e (Pm := fun w => P [.str ⟨a'.toArray⟩ t1, .int i' t2, w]) h3.o (optW_i (k := (· = q)) e4 rfl) fun c' t3 g3 =>
    c a' i' d c' t1 t2 t3 (g2 ▸ e3) (by rw [g1, g3]; exact Option.some.inj h)
theorem modT_s {f r : List Nat} (I : J X W s) (P : PK X W k Q) (hy : RelO X.G W y w) (h : optW (tupOf y) fun vs => optW (fmt3 vs) fun r => gd (Nat.blt r.length 65536) (k (.str r))) : Do X (binaryOp .Mod (.str ⟨#[37, 115, 58, 37, 100, 40, 37, 115, 41]⟩ t) w) Q s :=
  tup_e I hy h fun vs b us n h1 h2 h => optW_e h fun r e h => gd_e h fun hb h =>
    fmt3_e (P := fun us => s.heap.get? b = some (seqO "tuple" us n) → Do X (binaryOp .Mod (.str ⟨#[37, 115, 58, 37, 100, 40, 37, 115, 41]⟩ t) (.ref b)) Q s) e h2 (fun a i d c t1 t2 t3 hd he h1 => by
      have hb := bltN.mp hb
      rw [← he, List.length_append, List.length_cons, List.length_append, List.length_cons, List.length_append] at hb
      exact mod_tup I h1 (by omega) (by omega) hd (he ▸ P _ h)) h1
theorem modS_s {f : List Nat} (I : J X W s) (P : PK X W k Q) (hy : RelO X.G W y w) (h : modS f y k) : Do X (binaryOp .Mod (.str ⟨f.toArray⟩ t) w) Q s :=
  br_e h (fun e h => of_decide_eq_true e ▸ str_e hy h fun l _ h => gd_e h fun hb h => mod_one I (Nat.le_trans (Nat.le_of_lt (bltN.mp hb)) (by decide)) (P _ h)) fun _ h => gd_e h fun e h => of_decide_eq_true e ▸ modT_s (f := f) (r := f) I P hy h
theorem mod_sound (I : J X W s) (h : modW x y k) (hx : RelO X.G W x u) (hy : RelO X.G W y w) (P : PK X W k Q) : Do X (binaryOp .Mod u w) Q s :=
  sel_e I hx h (fun _ _ h => int_e hy h fun _ _ h => modI_s I P h) (fun _ _ h => modS_s I P hy h) (fun _ _ _ _ _ _ h => noW_e h) fun _ _ _ _ _ _ h => noW_e h
theorem bin_sound {op : Operator} (I : J X W s) (h : binW op x y k) (hx : RelO X.G W x u) (hy : RelO X.G W y w) (P : PK X W k Q) : Do X (binaryOp op u w) Q s := by
  cases op with
  | Add => exact add_sound I h hx hy P
  | Sub => exact sub_sound I h hx hy P
  | Mult => exact mul_sound I h hx hy P
  | FloorDiv => exact div_sound I h hx hy P
  | Mod => exact mod_sound I h hx hy P
  | _ => exact h.elim
end
end Mine
end
section
open PySem PySem.W PyProof.Rows
set_option maxRecDepth 100000
set_option genInjectivity false
set_option genSizeOf false
set_option backward.match.sparseCases false
namespace Mine
section
open Sem (wp)
open AutoSeq1 (wpAny_loadPart')
theorem meets_tuple (l : Addr) (o : Obj) (items : Array Value) (n : Nat) (hc : o.cls = .type "list") (hd : o.data = .seq items n) (hsz : items.size ≤ sizeLine) :
    Meets (Builtin.«tuple.__new__» ⟨[.type "tuple", .ref l], []⟩)
      (fun _ R s => s.heap.get? l = some o ∧ ∀ h' : Heap, (∀ b o', s.heap.get? b = some o' → h'.get? b = some o') → R (.ok (.ret (.ref h'.objs.size))) { s with heap := h'.push { cls := .type "tuple", data := .seq items } }) :=
  .of_wp fun prog w A R s h => by
    obtain ⟨hp, g, d, tk, os⟩ := s; obtain ⟨ht, h⟩ := h
    have hsub := sub_tuple_self
    have hinit := init_tuple_lookup
    have hmh := madeHere_tuple
    have hT : Shared.TypeIs ⟨hp, g, d, tk, os⟩ (.ref l) "list" := ⟨o, ht, hc⟩
    have col : ∀ {A' : Around} {E' : Value → Shared → Prop} {Q' : List Value → Shared → Prop}, (∀ h', (∀ b o', hp.get? b = some o' → h'.get? b = some o') → Q' items.toList ⟨h', g, d, tk, os⟩) →
        wpAny (model prog w) A' (collect (.ref l)) Q' E' ⟨hp, g, d, tk, os⟩ := fun hq => wpAny_collect_seq (hsz := hsz) l (.inl rfl) ht hc hd hq
    wp_walk using wpAny_loadPart' ht, wpAny_typeOf hT, col
    intro h' hk
    show wpAny _ _ (Builtin.Tuple.tupleExact items.toList.toArray >>= fun v => ret v) _ _ _
    unfold Builtin.Tuple.tupleExact
    exact wpAny_bind (wpAny_newObj_type (wpAny_pure ⟨_, rfl, h h' hk⟩) hsz)
theorem tuple_list {prog : Program} {w : World} {A : Around} {E : Value → Shared → Prop} {s : Shared} {l : Addr} {items : Array Value} {Q : Value → Shared → Prop} (hl : s.heap.IsList l items)
    (h : ∀ h' : Heap, (∀ b o', s.heap.get? b = some o' → h'.get? b = some o') → Q (.ref h'.objs.size) { s with heap := h'.push { cls := .type "tuple", data := .seq items } })
    (hsz : items.size ≤ sizeLine) :
    wpAny (model prog w) A (call (.type "tuple") [.ref l]) Q E s := by
  obtain ⟨o, ho, hc, n, hd⟩ := hl
  exact callType_new F.called_tuple (by decide) (F.typeCall_tuple_1 _) (F.newCall_tuple_1 _) (fun obj => F.args_object_init_2 obj _) F.entry_tuple_new
    (meets_tuple l o items n hc hd hsz) ⟨ho, fun h' hk => ⟨⟨_, Heap.get?_push_size _ rfl, rfl⟩, h h' hk⟩⟩
end
theorem items_arr (xs : List (Int × Tok)) : (xs.map (fun p => Value.int p.1 p.2)).toArray = intItems xs.toArray := List.map_toArray.symm
theorem sumL_snoc (l : List Int) (b : Int) : ∀ a, sumL (l ++ [b]) a = sumL l a + b := by
  induction l with
  | nil => exact fun _ => rfl
  | cons x l ih => exact fun a => ih (a + x)
theorem minL_snoc (l : List Int) (b : Int) : ∀ a, minL (l ++ [b]) a = bif decide (b < minL l a) then b else minL l a := by
  induction l with
  | nil => exact fun _ => rfl
  | cons x l ih => exact fun a => ih _
theorem numAt_list (xs : List (Int × Tok)) (k : Nat) (h : k < xs.length) : (xs.map (·.1))[k]? = some (numAt xs.toArray k) := by
  unfold numAt
  rw [List.getElem?_map, List.getElem?_eq_getElem h, toA, List.getElem?_eq_getElem h]; rfl
theorem take_snoc (xs : List (Int × Tok)) (k : Nat) (h : k < xs.length) : (xs.map (·.1)).take (k + 1) = (xs.map (·.1)).take k ++ [numAt xs.toArray k] := by
  rw [List.take_add_one, numAt_list xs k h]; rfl
theorem pre_sum (xs : List (Int × Tok)) (k : Nat) : k ≤ xs.length → preSum (numAt xs.toArray) k = sumL ((xs.map (·.1)).take k) 0 := by
  induction k with
  | zero => exact fun _ => rfl
  | succ k ih =>
    intro h
    rw [take_snoc xs k h, sumL_snoc, ← ih (Nat.le_of_lt h)]; rfl
theorem best_min (a : Int × Tok) (xs : List (Int × Tok)) (k : Nat) : k ≤ xs.length →
    numAt (a :: xs).toArray (argBest (fun i j => decide (numAt (a :: xs).toArray i < numAt (a :: xs).toArray j)) k) = minL ((xs.map (·.1)).take k) a.1 := by
  induction k with
  | zero => exact fun _ => rfl
  | succ k ih =>
    intro h
    have e : numAt (a :: xs).toArray (k + 1) = numAt xs.toArray k := Option.some.inj ((numAt_list (a :: xs) (k + 1) (Nat.succ_lt_succ h)).symm.trans (numAt_list xs k h))
    rw [take_snoc xs k h, minL_snoc, ← ih (Nat.le_of_lt h), argBest]
    generalize argBest (fun i j => decide (numAt (a :: xs).toArray i < numAt (a :: xs).toArray j)) k = m
    rw [e]
    cases decide (numAt xs.toArray k < numAt (a :: xs).toArray m) with
    | true => rw [if_pos rfl, e]; rfl
    | false => rw [if_neg Bool.false_ne_true]; rfl
section
variable {X : Cx} {W : Wd} {s : Shared} {x : V} {u : Value} {Q : Value → Shared → Prop} {k : V → Prop}
theorem allInt_items {l : List V} : ∀ {ns : List Int} {vs : List Value}, allInt l = some ns → Rels X.G W l vs → ∃ xs : List (Int × Tok), vs = xs.map (fun p => Value.int p.1 p.2) ∧ xs.map (·.1) = ns := by
  induction l with
  | nil => intro ns vs h e; rw [show vs = [] from e]; exact ⟨[], rfl, Option.some.inj h⟩
  | cons x l ih =>
    intro ns vs h e
    obtain ⟨v, r, rfl, h1, h2⟩ := e
    refine bnd_e h fun i e1 h => bnd_e h fun q e2 h => ?_
    obtain ⟨xs, rfl, rfl⟩ := ih e2 h2
    exact int_e (Pm := fun v => ∃ ys : List (Int × Tok), v :: _ = ys.map (fun p => Value.int p.1 p.2) ∧ ys.map (·.1) = ns) h1.o (optW_i (k := (· = i)) e1 rfl) fun j t e => ⟨(j, t) :: xs, rfl, e ▸ Option.some.inj h⟩
theorem list_sz {l : List V} {vs : List Value} (h : Rels X.G W l vs) (hl : sm l = true) : vs.toArray.size ≤ sizeLine := sizeLine_ge (show Nat.blt vs.length 65536 = true by rw [h.len]; exact hl)
theorem list_fit {l : List V} {vs : List Value} (h : Rels X.G W l vs) (hl : sm l = true) : (vs.toArray.size : Int) < 2 ^ 63 := blt_fit (show Nat.blt vs.length 65536 = true by rw [h.len]; exact hl)
theorem len_sound (I : J X W s) (h : lenW x k) (hx : RelO X.G W x u) (P : PK X W k Q) : Do X (call (.builtin "len") [u]) Q s := by
  refine sel_e I hx h (fun _ _ h => noW_e h) (fun q t h => gd_e h fun hl h => SBL.len (blt_fit hl) ((P _ h).tok I (rInt _ _) _)) (fun _ _ _ _ _ _ h => noW_e h) fun l a vs n h1 h2 h => gd_e h fun hl h => ?_
  refine len_list (listO h1) (list_fit h2 hl) ?_
  rw [List.size_toArray, h2.len]
  exact (P _ h).tok I (rInt _ _) _
theorem tuple_sound (I : J X W s) (h : tupleW x k) (hx : RelO X.G W x u) (P : PK X W k Q) : Do X (call (.type "tuple") [u]) Q s :=
  lst_e I hx h fun l a vs n h1 h2 h => gd_e h fun hl h => tuple_list (listO h1) (fun _ hk => Post.tuple (s := { s with heap := _ }) (P _ h) (I.keep hk) h2 _) (list_sz h2 hl)
theorem sum_sound (hh : X.A.handled = none) (I : J X W s) (h : sumW x k) (hx : RelO X.G W x u) (P : PK X W k Q) : Do X (call (.builtin "sum") [u]) Q s :=
  lst_e I hx h fun l a vs n h1 h2 h => optW_e h fun i e h => bnd_e e fun ns e e' => by
    obtain ⟨xs, rfl, rfl⟩ := allInt_items e h2
    rw [seqO, items_arr] at h1
    refine sum_intListG hh ⟨_, h1, rfl, _, rfl⟩ fun h' tk t' hk => ?_
    rw [show xs.toArray.size = xs.length from rfl, pre_sum xs _ (Nat.le_refl _), List.take_of_length_le (by rw [List.length_map]; exact Nat.le_refl _), Option.some.inj e']
    exact P _ h _ _ _ (Ex.refl W) (I.keep hk) (rInt _ _)
theorem min_sound (hh : X.A.handled = none) (I : J X W s) (h : minW x k) (hx : RelO X.G W x u) (P : PK X W k Q) : Do X (call (.builtin "min") [u]) Q s :=
  lst_e I hx h fun l a vs n h1 h2 h => optW_e h fun i e h => bnd_e e fun ns e e' => by
    obtain ⟨xs, rfl, rfl⟩ := allInt_items e h2
    cases xs with
    | nil => exact nomatch e'
    | cons y xs =>
      rw [seqO, items_arr] at h1
      refine min_intList hh ⟨_, h1, rfl, _, rfl⟩ (Nat.succ_pos _) fun w h' tk hw hk => ?_
      obtain ⟨t', rfl⟩ := intItems_at hw
      rw [show (y :: xs).toArray.size - 1 = xs.length from rfl, best_min y xs xs.length (Nat.le_refl _), List.take_of_length_le (by rw [List.length_map]; exact Nat.le_refl _), show minL (xs.map (·.1)) y.1 = i from Option.some.inj e']
      exact P _ h _ _ _ (Ex.refl W) (I.keep hk) (rInt _ _)
theorem digit_log : ∀ n : Fin 10, ((n.val : Nat) : Int).natAbs.log2 < 1920 := by decide +kernel
theorem str_sound (I : J X W s) (h : strW x k) (hx : RelO X.G W x u) (P : PK X W k Q) : Do X (call (.type "str") [u]) Q s :=
  int_e hx h fun i t h => optW_e h fun d e h => PySem.P.str_of_int (digit_e e fun h1 h2 _ => by
    obtain ⟨n, rfl⟩ := Int.eq_ofNat_of_zero_le h1
    exact digit_log ⟨n, Int.ofNat_lt.mp h2⟩) (txt_3 e ▸ (P _ h).tok I (rStr _ _) _)
theorem isi_tup (I : J X W s) (h : selV x (fun _ => k (.bool false)) noW (fun _ => k (.bool true)) noW) (hx : RelO X.G W x u) (P : PK X W k Q) : Do X (call (.builtin "isinstance") [u, .type "tuple"]) Q s :=
  sel_e I hx h (fun _ _ h => IsiPair.int_tuple ((P _ h).tok I (rBool _) _)) (fun _ _ h => noW_e h) (fun _ _ _ _ h1 _ h => IsiPair.tuple_tuple h1 rfl ((P _ h).bool I rfl)) fun _ _ _ _ _ _ h => noW_e h
theorem isi_str (I : J X W s) (h : optW (strOf x) fun _ => k (.bool true)) (hx : RelO X.G W x u) (P : PK X W k Q) : Do X (call (.builtin "isinstance") [u, .type "str"]) Q s :=
  str_e hx h fun _ _ h => IsiPair.str_str ((P _ h).bool I rfl)
theorem join_sound {sp : List Nat} {t : Tok} (I : J X W s) (h : joinW sp x k) (hx : RelO X.G W x u) (P : PK X W k Q) : Do X (call (.builtin "str.join") [.str (toS sp) t, u]) Q s :=
  lst_e I hx h fun _ _ _ _ h1 h2 h => optW_e h fun _ e h => gd_e h fun hb h => join_list (listO h1) (allStr_are e h2) (bleN.mp hb) fun t' tk => (P _ h).tok I (rStr _ t') tk
variable {as : List V} {us : List Value} {q : List Nat} {t : Tok}
theorem start_sound (I : J X W s) (h : startM q as k) (hu : Rels X.G W as us) (P : PK X W k Q) : Do X (call (.builtin "str.startswith") (.str (toS q) t :: us)) Q s :=
  oneL_e (P := fun as => Rels X.G W as us → _) h (fun _ h hu => hu.one_e (Pm := fun us => Do X (call (.builtin "str.startswith") (.str (toS q) t :: us)) Q s) fun _ hu => str_e hu.o h fun _ _ h => SC.startswith ((P _ h).bool I rfl)) hu
theorem end_sound (I : J X W s) (h : endM q as k) (hu : Rels X.G W as us) (P : PK X W k Q) : Do X (call (.builtin "str.endswith") (.str (toS q) t :: us)) Q s :=
  oneL_e (P := fun as => Rels X.G W as us → _) h (fun _ h hu => hu.one_e (Pm := fun us => Do X (call (.builtin "str.endswith") (.str (toS q) t :: us)) Q s) fun _ hu => str_e hu.o h fun _ _ h => SC.endswith ((P _ h).bool I rfl)) hu
theorem repl_g {c z : List Nat} {t1 t2 : Tok} (oc : noneIn q c = true) (h : Q (.str (toS q) t) s) : Do X (call (.builtin "str.replace") [.str (toS q) t, .str (toS c) t1, .str (toS z) t2]) Q s := by
  have oc : (Builtin.Str.occurrences (toS q) (toS c) 0 (toS q).length ((toS q).length + 1)).isEmpty = true := oc
  refine call_gives PySem.F.slot_str_replace (typeIs_str _ _ _) PySem.F.entry_str_replace (PySem.F.args_str_replace_3 _ _ _) (gives_str_replace _ _ _ _ _ _ fun q => ?_) ?_
  · rw [oc] at q; exact absurd q.symm Bool.false_ne_true
  · rw [oc]; exact h
theorem repl_s {c z : List Nat} {t1 t2 : Tok} (I : J X W s) (h : gd (noneIn q c) (k (.str q))) (P : PK X W k Q) : Do X (call (.builtin "str.replace") [.str (toS q) t, .str (toS c) t1, .str (toS z) t2]) Q s :=
  gd_e h fun oc h => repl_g oc ((P _ h).same I (rStr q t))
theorem repl_sound (I : J X W s) (h : replM q as k) (hu : Rels X.G W as us) (P : PK X W k Q) : Do X (call (.builtin "str.replace") (.str (toS q) t :: us)) Q s :=
  twoL_e (P := fun as => Rels X.G W as us → _) h (fun _ _ h hu => hu.two_e (Pm := fun us => Do X (call (.builtin "str.replace") (.str (toS q) t :: us)) Q s) fun _ _ h1 h2 => str_e h1.o h fun _ _ h => str_e h2.o h fun _ _ h => repl_s I h P) hu
theorem gives_find2 (x y : Str) (i j : Int) (t u v w : Tok) : Gives (Builtin.«str.find» ⟨[.str x t, .str y u, .int i v, .int j w], []⟩) (.int (findI (Builtin.Str.occurrences x y (fromIndex x.length i) (min (fromIndex x.length j) x.length) 1))) := by
  show Gives (match Builtin.Str.occurrences x y (fromIndex x.length i) (min (fromIndex x.length j) x.length) 1 with | k :: _ => retInt k | [] => (do rule "str.find.not-found"; retInt (-1))) _
  cases Builtin.Str.occurrences x y (fromIndex x.length i) (min (fromIndex x.length j) x.length) 1 with
  | nil => exact .rule (.of_eq rfl)
  | cons k _ => exact .of_eq rfl
theorem gives_index1 (x y : Str) (i : Int) (t u v : Tok) (k : Nat) (h : (Builtin.Str.occurrences x y (fromIndex x.length i) x.length 1).head? = some k) : Gives (Builtin.«str.index» ⟨[.str x t, .str y u, .int i v], []⟩) (.int k) := by
  show Gives (match Builtin.Str.occurrences x y (fromIndex x.length i) (min x.length x.length) 1 with | k :: _ => retInt k | [] => (do rule "str.index.not-found"; raiseError "ValueError" "substring not found")) _
  rw [Nat.min_self]
  cases e : Builtin.Str.occurrences x y (fromIndex x.length i) x.length 1 with
  | nil => rw [e] at h; exact nomatch h
  | cons m r => rw [e] at h; rw [← Option.some.inj h]; exact .of_eq rfl
theorem find_sound (I : J X W s) (h : findM q as k) (hu : Rels X.G W as us) (P : PK X W k Q) : Do X (call (.builtin "str.find") (.str (toS q) t :: us)) Q s :=
  threeL_e (P := fun as => Rels X.G W as us → _) h (fun _ _ _ h hu => hu.three_e (Pm := fun us => Do X (call (.builtin "str.find") (.str (toS q) t :: us)) Q s) fun _ _ _ h1 h2 h3 => str_e h1.o h fun _ _ h => int2_e h2.o h3.o h fun _ _ _ _ h =>
    call_gives PySem.F.slot_str_find (typeIs_str _ _ _) PySem.F.entry_str_find (PySem.F.args_str_find_4 _ _ _ _) (gives_find2 _ _ _ _ _ _ _ _) ((P _ h).tok I (rInt _ _) _)) hu
theorem index_sound (I : J X W s) (h : indexM q as k) (hu : Rels X.G W as us) (P : PK X W k Q) : Do X (call (.builtin "str.index") (.str (toS q) t :: us)) Q s :=
  twoL_e (P := fun as => Rels X.G W as us → _) h (fun _ _ h hu => hu.two_e (Pm := fun us => Do X (call (.builtin "str.index") (.str (toS q) t :: us)) Q s) fun _ _ h1 h2 => str_e h1.o h fun _ _ h => int_e h2.o h fun _ _ h => optW_e h fun _ e h =>
    call_gives PySem.F.slot_str_index (typeIs_str _ _ _) PySem.F.entry_str_index (PySem.F.args_str_index_3 _ _ _) (gives_index1 _ _ _ _ _ _ _ e) ((P _ h).tok I (rInt _ _) _)) hu
def miId (m : MI) : String := match m with
  | .startswith => "str.startswith"
  | .endswith => "str.endswith"
  | .replace => "str.replace"
  | .find => "str.find"
  | .index => "str.index"
theorem callM_sound {m : MI} (I : J X W s) (h : callM q m as k) (hu : Rels X.G W as us) (P : PK X W k Q) : Do X (call (.builtin (miId m)) (.str (toS q) t :: us)) Q s := by
  cases m with
  | startswith => exact start_sound I h hu P
  | endswith => exact end_sound I h hu P
  | replace => exact repl_sound I h hu P
  | find => exact find_sound I h hu P
  | index => exact index_sound I h hu P
end
end Mine
end
section
open PySem PySem.W PyProof.Rows PySem.Builtin
set_option maxRecDepth 100000
set_option genInjectivity false
set_option genSizeOf false
set_option backward.match.sparseCases false
namespace Mine
def SpecTab (prog : Program) (w : World) (h : Heap) (d : Addr) : Prop :=
  (d == sysModules) = false ∧ ∃ f, h.MapOf (PySem.intKind prog w) d f ∧ ∀ c : Nat, (strIn c special = true → ∃ t, f c = some (.str ⟨#[92, c]⟩ t)) ∧ (strIn c special = false → f c = none)
theorem SpecTab.keep {prog : Program} {w : World} {h h' : Heap} {d : Addr} (k : ∀ b o, h.get? b = some o → h'.get? b = some o) (x : SpecTab prog w h d) : SpecTab prog w h' d := by
  obtain ⟨h1, f, ⟨o, es, ep, h2, h3⟩, h4⟩ := x
  exact ⟨h1, f, ⟨o, es, ep, k _ _ h2, h3⟩, h4⟩
section
variable {prog : Program} {w : World} {A : Around} {E : Value → Shared → Prop} {s : Shared}
theorem tab_look {d : Addr} {c : Nat} {Q : Builtin.Str.Mapped → Shared → Prop} (hh : A.handled = none) (x : SpecTab prog w s.heap d)
    (h : ∀ h' tk, (∀ b o, s.heap.get? b = some o → h'.get? b = some o) → Q (if strIn c special then .text ⟨#[92, c]⟩ else .keep) { s with heap := h', toks := tk }) :
    wpAny (model prog w) A (Builtin.Str.tableLookup (.ref d) c) Q E s := by
  obtain ⟨h1, f, h2, h3⟩ := x
  unfold Builtin.Str.tableLookup
  refine wpAny_bind (wpAny_attempt (wpAny_bind (wpAny_mkInt ?_)))
  cases hc : strIn c special with
  | true =>
    obtain ⟨t, e⟩ := (h3 c).1 hc
    refine wpAny_getItem_of (knd := PySem.intKind prog w) (k := (c : Int)) (by simp [PySem.intKind, Value.isInt]) h2 e ?_
    have := h s.heap (s.toks + 1 + 1) fun _ _ e => e
    rw [hc, if_pos rfl] at this
    exact wpAny_bind (wpAny_pure (wpAny_bind (wpAny_pure (wpAny_pure this))))
  | false =>
    have e := (h3 c).2 hc
    refine wpAny_getItem_missing_of (knd := PySem.intKind prog w) (k := (c : Int)) (by simp [PySem.intKind, Value.isInt]) h1 hh h2 e fun h' ex hx => ?_
    obtain ⟨ob, t, g1, g2, _⟩ := hx.there
    have := h h' (s.toks + 1 + 1) hx.keeps
    rw [hc, if_neg (by simp)] at this
    refine wpAny_bind (wpAny_isInstance (T := "KeyError") (b := true) ⟨ob, g1, g2⟩ ?_ ?_)
    · rw [isSubtype_type]; kernel_rfl
    · exact wpAny_bind (wpAny_rule (wpAny_pure this))
theorem trans_one {d : Addr} {c : Nat} {t : Tok} {Q : Value → Shared → Prop} (hh : A.handled = none) (x : SpecTab prog w s.heap d)
    (h : ∀ h' tk u, (∀ b o, s.heap.get? b = some o → h'.get? b = some o) → Q (.str ⟨(if strIn c special then [92, c] else [c]).toArray⟩ u) { s with heap := h', toks := tk }) :
    wpAny (model prog w) A (call (.builtin "str.translate") [.str ⟨#[c]⟩ t, .ref d]) Q E s := by
  refine wpAny_call_entry PySem.F.slot_str_translate (typeIs_str _ _ _) PySem.F.entry_str_translate ?_ (PySem.F.args_str_translate_2 _ _)
  unfold Builtin.«str.translate»
  have e0 : Builtin.Str.strOneArg "translate" ⟨[.str ⟨#[c]⟩ t, .ref d], []⟩ = pure (.str ⟨#[c]⟩ t, ⟨#[c]⟩, .ref d) := by kernel_rfl
  rw [e0]
  refine wpAny_bind (wpAny_pure ?_)
  dsimp only
  rw [if_neg (by simp [Str.length])]
  rw [← Array.forIn_toList]
  simp only [List.forIn_cons, List.forIn_nil]
  have tl : ∀ n, n < 100 → ¬ (Builtin.Str.tooLong n = true) := fun n hn q => by
    simp [Builtin.Str.tooLong, sizeLine_eq] at q
    omega
  have fin : ∀ (p : Str) (n : Nat) (h' : Heap) (tk : Nat), n < 100 → (∀ b o, s.heap.get? b = some o → h'.get? b = some o) → p = ⟨(if strIn c special then [92, c] else [c]).toArray⟩ →
      wpAny (model prog w) A.in1 (if Builtin.Str.tooLong n = true then do
          unsupported "str.translate:memory"
          retStr { cps := List.foldl (fun acc p => acc ++ p.cps) #[] [p].reverse }
        else retStr { cps := List.foldl (fun acc p => acc ++ p.cps) #[] [p].reverse })
        (fun fin s' => ∃ v, fin = Fin.done (Flow.ret v) ∧ Q v s') E { s with heap := h', toks := tk } := fun p n h' tk hn k e => by
    rw [if_neg (tl n hn)]
    have e2 : ({ cps := List.foldl (fun acc (p : Str) => acc ++ p.cps) #[] [p].reverse } : Str) = p := by simp
    rw [e2]
    have e3 : p.length ≤ sizeLine := by
      rw [e, sizeLine_eq]
      cases strIn c special <;> simp [Str.length]
    unfold retStr
    refine wpAny_bind (wpAny_mkStr ?_ e3)
    exact wpAny_pure ⟨_, rfl, e ▸ h h' _ _ k⟩
  refine wpAny_bind (wpAny_bind ?_)
  rw [if_neg (tl 0 (by omega))]
  cases hf : (#[c].all fun x => decide (x < 128)) with
  | true =>
    simp only [if_true, List.lookup]
    refine wpAny_bind (tab_look hh x fun h' tk k => ?_)
    cases hc : strIn c special with
    | false =>
      simp only [Bool.false_eq_true, if_false]
      refine wpAny_bind (wpAny_pure ?_)
      refine wpAny_pure (wpAny_pure ?_)
      exact fin _ 1 h' tk (by omega) k (by rw [hc]; rfl)
    | true =>
      simp only [if_true]
      rw [show ((⟨#[92, c]⟩ : Str).length == 1 && #[92, c].all fun x => decide (x < 128)) = false from rfl]
      simp only [Bool.false_eq_true, if_false]
      refine wpAny_bind (wpAny_pure (wpAny_bind (wpAny_rule ?_)))
      refine wpAny_bind (tab_look (s := { s with heap := h', toks := tk }) hh (x.keep k) fun h'' tk' k' => ?_)
      rw [hc, if_pos rfl]
      refine wpAny_pure (wpAny_pure ?_)
      exact fin _ _ h'' tk' (by show 0 + 2 < 100; omega) (fun b o e => k' _ _ (k _ _ e)) (by rw [hc]; rfl)
  | false =>
    simp only [Bool.false_eq_true, if_false]
    refine wpAny_bind (tab_look hh x fun h' tk k => ?_)
    cases hc : strIn c special with
    | false =>
      simp only [Bool.false_eq_true, if_false]
      refine wpAny_pure (wpAny_pure ?_)
      exact fin _ 1 h' tk (by omega) k (by rw [hc]; rfl)
    | true =>
      simp only [if_true]
      refine wpAny_pure (wpAny_pure ?_)
      exact fin _ _ h' tk (by show 0 + 2 < 100; omega) k (by rw [hc]; rfl)
end
end Mine
end
section
open PySem PySem.W PyProof.Rows
set_option maxRecDepth 100000
set_option genInjectivity false
set_option genSizeOf false
set_option backward.match.sparseCases false
namespace Mine
def FnIs (G : GI) (f : Nat) (fv : Value) : Prop := ∃ d a o fd, look f dfs = some d ∧ fv = .ref a ∧ G.hB.get? a = some o ∧ o.data = .func fd ∧ fd.scope = d.scope ∧ fd.body = .stmts d.body ∧ fd.closure = [] ∧ fd.globals = mainGlobals ∧ fd.builtins = builtinsNs ∧ fd.scope.isGenerator = false ∧ fd.scope.isCoroutine = false ∧
  G.hB.CodeRec fd.code fd.qualname ∧ (isTr (kindsOf d.scope) = true → fd.code = .ref 61) ∧ (isAc (kindsOf d.scope) = true → fd.code = .ref 117) ∧
  ∀ {A : Around} {E : Value → Shared → Prop} {s : Shared} {vals : List Value} {Q : List (Str × Value) → Shared → Prop}, vals.length = d.params.length → Q (d.params.zip vals) s → wpAny G.M A (bindArgs fd ⟨vals, []⟩) Q E s
def reCode : Array Nat := #[14, 14, 4, 1, 1, 9, 0, 64, 0, 1342177280, 0, 0, 0, 0, 0, 17, 0, 13, 11, 9, 0, 64, 0, 1342177280, 0, 0, 0, 0, 0, 17, 1, 1]
def TwinRe (h : Heap) (p : Addr) : Prop := ∃ ca c d cs n a0 a1 t2 t6, h.get? p = some { cls := .type "re.Pattern", data := .fields #[a0, a1, .int 1 t2, c, d, .ref ca, .int 0 t6] } ∧ h.get? ca = some { cls := .type "tuple", data := .seq cs n } ∧ cs.map (fun v => (Builtin.Re.reRawOf v).toNat) = reCode
structure ClsOk (G : GI) : Prop where
  frag : ∃ K : Frag, K.In G.hB ∧ findIn K (.ref G.C) "__getattribute__" = some (some (.builtin "object.__getattribute__")) ∧ hasDictIn K G.C = true ∧ findIn K (.ref G.C) (Str.ofString "comp_select_list") = some none ∧
    findIn K (.ref G.C) "__getattr__" = some none ∧ ∃ f, G.cmpv = .ref f ∧ findIn K (.ref G.C) (Str.ofString "compare") = some (some (.ref f)) ∧ typeIn K (.ref f) = some (.type "function")
structure BOk (G : GI) : Prop where
  len : G.gval "len" = some (.builtin "len")
  range : G.gval "range" = some (.type "range")
  list : G.gval "list" = some (.type "list")
  tuple : G.gval "tuple" = some (.type "tuple")
  sum : G.gval "sum" = some (.builtin "sum")
  min : G.gval "min" = some (.builtin "min")
  sorted : G.gval "sorted" = some (.builtin "sorted")
  str : G.gval "str" = some (.type "str")
  isinstance : G.gval "isinstance" = some (.builtin "isinstance")
  object : G.gval "object" = some (.type "object")
  zip : G.gval "zip" = some (.type "zip")
  cls : ClsOk G
  twin : ∃ p, G.gval "_twin_re_1" = some (.ref p) ∧ TwinRe G.hB p
  spec : ∃ d, G.gval "_special_chars_map" = some (.ref d) ∧ SpecTab G.prog G.w G.hB d
structure FnOk (G : GI) : Prop where
  cmp : FnIs G (N "compare") G.cmpv
  fn : ∀ x, okN x → fnNames.any (Nat.beq (nm x)) = true → ∃ fv, G.gval x = some fv ∧ (FnIs G (nm x) fv ∨ nm x = N "TupleComp")
  cw : ∀ {A : Around} {E : Value → Shared → Prop} {s : Shared} {pos : Pos} {args : List (Bool × Sem Value)} {fv : Value} {Q : Value → Shared → Prop}, G.gval "TupleComp" = some fv → (args.any fun x => x.1) = false →
    wpAny G.M A (evalArgs fv true args []) (fun x s₁ => (∀ a o, G.hB.get? a = some o → s₁.heap.get? a = some o) ∧ wpAny G.M A (call fv x.pos x.kw) Q E s₁) E s → wpAny G.M A (callWith pos fv [] args []) Q E s
abbrev Cl := Nat → List V → (V → Prop) → Prop
structure ClAt (X : Cx) (cl : Cl) : Prop where
  fn : ∀ {W : Wd} {s : Shared} {f : Nat} {as : List V} {k : V → Prop} {fv : Value} {us : List Value} {Q : Value → Shared → Prop}, J X W s → cl f as k → FnIs X.G f fv → Rels X.G W as us → PK X W k Q → Do X (call fv us) Q s
  cls : ∀ {W : Wd} {s : Shared} {v : V} {fv u : Value} {Q : Value → Shared → Prop}, J X W s → intish v = true → X.G.gval "TupleComp" = some fv → Rel X.G W v u → Post X W (.inst v) Q → Do X (call fv [u]) Q s
  srt : ∀ {W : Wd} {s : Shared} {v : V} {u : Value} {k : V → Prop} {Q : Value → Shared → Prop}, J X W s → sortW v k → RelO X.G W v u → PK X W k Q → Do X (call (.builtin "sorted") [u]) Q s
structure Fx (X : Cx) (cl : Cl) : Prop where
  ok : GOk X.G
  bok : BOk X.G
  fok : FnOk X.G
  hh : X.A.handled = none
  un : X.A.units + 64 < cLine
  dp : X.A.depth < recursionLimit
  calls : ClAt X cl
abbrev PS (X : Cx) (W : Wd) (k : List V → Prop) (Q : List Value → Shared → Prop) : Prop := ∀ l, k l → ∀ us W' s', Ex W W' → J X W' s' → Rels X.G W' l us → Q us s'
def FlR (G : GI) (W : Wd) (fl : Fl) (f : Flow) : Prop := match fl with
  | .next => f = .next
  | .brk => f = .brk
  | .ret v => ∃ u, f = .ret u ∧ Rel G W v u
def Wd.frz (W : Wd) : Wd := { W with rl := fun a => match W.rl a with
  | some (.fr _ _ o) => some (.fz o)
  | r => r }
abbrev PF (X : Cx) (W : Wd) (ks : Ks) (ow : List Nat) (env : Env) (k : Fl → VEnv → Prop) (Q : Flow → Shared → Prop) : Prop :=
  ∀ fl E', k fl E' → ∀ f W' s', Sx W W' → J X W' s' → FrR X.G W' ks ow E' env → FlR X.G W'.frz fl f → Q f s'
def OwOk (X : Cx) (ow : List Nat) : Prop := ∀ x, ow.any (Nat.beq x) = true → tokN x = true → (X.lw = 2 ∨ (X.lw = 1 ∧ x ≠ N "STAR")) ∧ X.tn x = true
structure Snd (X : Cx) (kv : KEv) : Prop where
  e : ∀ {W : Wd} {s : Shared} {env : Env} {ks : Ks} {E : VEnv} {ex : PySem.Expr} {k : V → Prop} {Q : Value → Shared → Prop}, J X W s → EnvR X.G W ks E env → kv.e ks ex E k → PK X W k Q → Do X (eval ex env) Q s
  t : ∀ {W : Wd} {s : Shared} {env : Env} {ks : Ks} {E : VEnv} {ex : PySem.Expr} {k : Bool → Prop} {Q : Bool → Shared → Prop}, J X W s → EnvR X.G W ks E env → kv.t ks ex E k → PT X W k Q → Do X (isTrue ex env (eval ex env)) Q s
  x : ∀ {W : Wd} {s : Shared} {env : Env} {ks : Ks} {ow : List Nat} {E : VEnv} {st : PySem.Stmt} {k : Fl → VEnv → Prop} {Q : Flow → Shared → Prop}, J X W s → FrR X.G W ks ow E env → OwOk X ow → kv.x ks ow st E k → PF X W ks ow env k Q → Do X (exec st env) Q s
section
variable {X : Cx} {cl : Cl} {kv : KEv} {W W' : Wd} {s : Shared} {env : Env} {ks : Ks} {E : VEnv} {Q : Value → Shared → Prop} {k : V → Prop}
theorem Post.aft {v : V} (P : Post X W v Q) (h : Ex W W') : Post X W' v Q := fun u V s' e => P u V s' (h.trans e)
theorem PK.aft (P : PK X W k Q) (h : Ex W W') : PK X W' k Q := fun v hv => (P v hv).aft h
theorem PT.aft {k : Bool → Prop} {Q : Bool → Shared → Prop} (P : PT X W k Q) (h : Ex W W') : PT X W' k Q := fun b hb V s' e => P b hb V s' (h.trans e)
theorem star_cons {e : PySem.Expr} {rest : List PySem.Expr} (h : noStar e = true) : starEach (e :: rest) env = (false, eval e env) :: starEach rest env := by
  cases e
  case Starred => exact nomatch h
  all_goals rfl
theorem backTo_cons {e : PySem.Expr} {rest : List PySem.Expr} {pos : Pos} (h : noStar e = true) : backTo pos (starEach (e :: rest) env) = (false, eval e env) :: backTo pos (starEach rest env) := by
  rw [star_cons h]; rfl
theorem any_noStar {pos : Pos} {es : List PySem.Expr} (h : es.all noStar = true) : ((backTo pos (starEach es env)).any fun x => x.1) = false := by
  induction es with
  | nil => rfl
  | cons e es ih => exact and_e h fun h1 h2 => by rw [backTo_cons h1, List.any_cons, ih h2]; rfl
theorem evs_sound (S : Snd X kv) {pos : Pos} {es : List PySem.Expr} : ∀ {W : Wd} {s : Shared} {k : List V → Prop} {Q : List Value → Shared → Prop}, es.all noStar = true → J X W s → EnvR X.G W ks E env → evsW kv ks es E k → PS X W (fun l => k l ∧ l.length = es.length) Q →
    Do X (spliced (backTo pos (starEach es env))) Q s := by
  induction es with
  | nil => intro W s k Q _ I R h P; exact Calls.spliced_nil (P [] ⟨h, rfl⟩ [] W s (Ex.refl W) I rfl)
  | cons e es ih =>
    intro W s k Q hs I R h P
    refine and_e hs fun h1 h2 => ?_
    rw [backTo_cons h1]
    exact Calls.spliced_cons (S.e I R h fun x h u W₁ s₁ X₁ I₁ hu => ih h2 I₁ (R.ex X₁) h fun l hl us W₂ s₂ X₂ I₂ hus => P _ ⟨hl.1, congrArg Nat.succ hl.2⟩ _ W₂ s₂ (X₁.trans X₂) I₂ ⟨u, us, rfl, hu.le X₂.le, hus⟩)
theorem args_sound (S : Snd X kv) {pos : Pos} {f : Value} {es : List PySem.Expr} {k : List V → Prop} {Q : Args → Shared → Prop} (hs : es.all noStar = true) (I : J X W s) (R : EnvR X.G W ks E env) (h : evsW kv ks es E k)
    (P : PS X W (fun l => k l ∧ l.length = es.length) fun us s' => Q ⟨us, []⟩ s') : Do X (evalArgs f true (backTo pos (starEach es env)) []) Q s := by
  cases es with
  | nil => exact PySem.evalArgs_none (P [] ⟨h, rfl⟩ [] W s (Ex.refl W) I rfl)
  | cons e es =>
    have key := evs_sound (pos := pos) S hs I R h P
    rw [backTo_cons (and_e hs fun h _ => h)] at key ⊢
    exact Calls.evalArgs_plain key
theorem tAll_sound (S : Snd X kv) {es : List PySem.Expr} : ∀ {W : Wd} {s : Shared} {k : Bool → Prop} {Q : Bool → Shared → Prop}, J X W s → EnvR X.G W ks E env → tAllW kv ks es E k → PT X W k Q → Do X (allTrue .And es env) Q s := by
  induction es with
  | nil => intro W s k Q I R h P; exact wpAny_allTrue_And_nil (P _ h W s (Ex.refl W) I)
  | cons e es ih =>
    intro W s k Q I R h P
    refine wpAny_allTrue_And_cons (S.t I R h fun b h W₁ s₁ X₁ I₁ => ?_)
    cases b with
    | true => exact (if_pos rfl).symm ▸ ih I₁ (R.ex X₁) h (PT.aft P X₁)
    | false => exact (if_neg Bool.false_ne_true).symm ▸ P _ h W₁ s₁ X₁ I₁
theorem tAny_sound (S : Snd X kv) {es : List PySem.Expr} : ∀ {W : Wd} {s : Shared} {k : Bool → Prop} {Q : Bool → Shared → Prop}, J X W s → EnvR X.G W ks E env → tAnyW kv ks es E k → PT X W k Q → Do X (allTrue .Or es env) Q s := by
  induction es with
  | nil => intro W s k Q I R h P; exact wpAny_allTrue_Or_nil (P _ h W s (Ex.refl W) I)
  | cons e es ih =>
    intro W s k Q I R h P
    refine wpAny_allTrue_Or_cons (S.t I R h fun b h W₁ s₁ X₁ I₁ => ?_)
    cases b with
    | true => exact (if_pos rfl).symm ▸ P _ h W₁ s₁ X₁ I₁
    | false => exact (if_neg Bool.false_ne_true).symm ▸ ih I₁ (R.ex X₁) h (PT.aft P X₁)
theorem and_sound (S : Snd X kv) {pos : Pos} {es : List PySem.Expr} : ∀ {W : Wd} {s : Shared} {k : V → Prop} {Q : Value → Shared → Prop}, J X W s → EnvR X.G W ks E env → andW kv ks es E k → PK X W k Q → Do X (eval (.BoolOp .And es pos) env) Q s := by
  induction es with
  | nil => intro W s k Q I R h P; exact h.elim
  | cons e es ih =>
    intro W s k Q I R h P
    cases es with
    | nil => exact BoolOp_one (S.e I R h P)
    | cons e' es =>
      refine BoolOp_and (S.e I R h fun x h u W₁ s₁ X₁ I₁ hu => truth_sound I₁ h hu.o fun b h W₂ s₂ X₂ I₂ => ?_)
      cases b with
      | true => exact (if_pos rfl).symm ▸ ih I₂ (R.ex (X₁.trans X₂)) h (PK.aft P (X₁.trans X₂))
      | false => exact (if_neg Bool.false_ne_true).symm ▸ P _ h u W₂ s₂ (X₁.trans X₂) I₂ (hu.le X₂.le)
theorem or_sound (S : Snd X kv) {pos : Pos} {es : List PySem.Expr} : ∀ {W : Wd} {s : Shared} {k : V → Prop} {Q : Value → Shared → Prop}, J X W s → EnvR X.G W ks E env → orW kv ks es E k → PK X W k Q → Do X (eval (.BoolOp .Or es pos) env) Q s := by
  induction es with
  | nil => intro W s k Q I R h P; exact h.elim
  | cons e es ih =>
    intro W s k Q I R h P
    cases es with
    | nil => exact BoolOp_one (S.e I R h P)
    | cons e' es =>
      refine BoolOp_or (S.e I R h fun x h u W₁ s₁ X₁ I₁ hu => truth_sound I₁ h hu.o fun b h W₂ s₂ X₂ I₂ => ?_)
      cases b with
      | false => exact (if_neg Bool.false_ne_true).symm ▸ ih I₂ (R.ex (X₁.trans X₂)) h (PK.aft P (X₁.trans X₂))
      | true => exact (if_pos rfl).symm ▸ P _ h u W₂ s₂ (X₁.trans X₂) I₂ (hu.le X₂.le)
theorem part_sound (S : Snd X kv) {e : Option PySem.Expr} {k : Option Int → Prop} (I : J X W s) (R : EnvR X.G W ks E env) (h : evOW kv ks e E k)
    (P : ∀ p : Option (Int × Tok), k (p.map (·.1)) → ∀ W' s', Ex W W' → J X W' s' → Q (partValue p) s') : Do X (evalPart e env) Q s := by
  cases e with
  | none => exact wpAny_evalPart_none (P none h W s (Ex.refl W) I)
  | some e => exact wpAny_evalPart_some (S.e I R h fun x h u W₁ s₁ X₁ I₁ hu => int_e hu.o h fun i t h => P (some (i, t)) h W₁ s₁ X₁ I₁)
theorem fParts_sound (S : Snd X kv) {es : List PySem.Expr} : ∀ {W : Wd} {s : Shared} {acc : List Nat} {k : List Nat → Prop} {Q : Str → Shared → Prop}, J X W s → EnvR X.G W ks E env → fPartsW kv ks E es acc k →
    (∀ x, k x → ∀ W' s', Ex W W' → J X W' s' → Q (toS x) s') → Joins X.G.M X.A (fun _ _ => False) (evalEach es env) (toS acc) Q s := by
  induction es with
  | nil => intro W s acc k Q I R h P; exact P _ h W s (Ex.refl W) I
  | cons e es ih =>
    intro W s acc k Q I R h P
    have bad : _root_.False → Joins X.G.M X.A (fun _ _ => False) (evalEach (e :: es) env) (toS acc) Q s := False.elim
    cases e with
    | Constant c n p =>
      cases c with
      | str y =>
        refine gd_e (show gd (sm (acc ++ y.cps.toList)) (fPartsW kv ks E es (acc ++ y.cps.toList) k) from h) fun hl h => ?_
        have e : toS acc ++ y = toS (acc ++ y.cps.toList) := str_app acc y.cps.toList
        exact Calls.Constant_str ⟨y, _, rfl, e ▸ sizeLine_ge hl, e ▸ ih (I.toks _) R h P⟩
      | _ => exact bad h
    | FormattedValue e cv sp p =>
      cases sp with
      | some x => exact bad h
      | none =>
        have h : (match (bif decide (cv = -1) then FP.val e p else .bad) with
          | .text s _ _ => gd (sm (acc ++ s.cps.toList)) (fPartsW kv ks E es (acc ++ s.cps.toList) k)
          | .val e _ => kv.e ks e E fun v => optW (strOf v) fun s => gd (sm s && sm (acc ++ s)) (fPartsW kv ks E es (acc ++ s) k)
          | .bad => False) := h
        cases hc : decide (cv = -1) with
        | false => rw [hc] at h; exact bad h
        | true =>
          rw [hc] at h
          rw [of_decide_eq_true hc]
          refine FormattedValue_plain (S.e I R h fun x h u W₁ s₁ X₁ I₁ hu => str_e hu.o h fun y t h => gd_e h fun hl h => and_e hl fun h1 h2 => ?_)
          exact formatField_str (fun t' tk => ⟨_, t', rfl, str_app acc y ▸ sizeLine_ge h2, str_app acc y ▸ ih (I₁.toks tk) (R.ex X₁) h fun x h W₂ s₂ X₂ I₂ => P x h W₂ s₂ (X₁.trans X₂) I₂⟩) (sizeLine_ge h1)
    | _ => exact bad h
end
end Mine
end
section
open PySem PySem.W PyProof.Rows
set_option maxRecDepth 100000
set_option genInjectivity false
set_option genSizeOf false
set_option backward.match.sparseCases false
namespace Mine
abbrev litO (a : Addr) (i : Nat) : Obj := { cls := .type "list_iterator", data := .fields #[.ref a, .int i 0] }
abbrev titO (a : Addr) (i : Nat) : Obj := { cls := .type "tuple_iterator", data := .fields #[.ref a, .int i 0] }
abbrev ritO (x left step : Int) : Obj := { cls := .type "range_iterator", dict := none, data := .fields #[rawInt x, rawInt left, rawInt step], slots := #[] }
abbrev ditO (d : Addr) (i n ep : Nat) (ok ov : Value) : Obj := { cls := .type "dict_itemiterator", dict := none, data := .fields #[.none, .bool false, .ref d, .int i 0, .int n 0, .int ep 0, ok, ov], slots := #[] }
inductive IterO (G : GI) (W : Wd) (g : Addr → Obj → Prop) (tt : Bool) : List V → Obj → Prop where
  | lit (a : Addr) (vs : List Value) (n i : Nat) (l : List V) (o : Obj) : g a (seqO "list" vs n) → Rels G W l (vs.drop i) → o.cls = .type "list_iterator" → o.data = .fields #[.ref a, .int i 0] → IterO G W g tt l o
  | tit (a : Addr) (vs : List Value) (n i : Nat) (l : List V) (o : Obj) : g a (seqO "tuple" vs n) → Rels G W l (vs.drop i) → o.cls = .type "tuple_iterator" → o.data = .fields #[.ref a, .int i 0] → IterO G W g tt l o
  | up (n : Nat) (x : Int) : IterO G W g tt (rngL n x) (ritO x n 1)
  | down (n : Nat) (x : Int) : IterO G W g tt (rngD n x) (ritO x n (-1))
  | dit (d : Addr) (od : Obj) (es : Array DictEntry) (kvs : List (Str × Value)) (vs : List V) (i ep : Nat) (ok ov : Value) : tt = true → W.fz d od → od.ExactDict → od.data = .dict es ep → KeysOf G.knd es → Pairs G.knd es.toList kvs → (kvs.map (·.1)).Nodup →
      Rels G W vs ((kvs.drop i).map (·.2)) → IterO G W g tt (zipL (keysV (kvs.drop i)) vs) (ditO d i kvs.length ep ok ov)
theorem IterO.mono {G : GI} {W W' : Wd} {g g' : Addr → Obj → Prop} {tt : Bool} {l : List V} {o : Obj} (L : Le W W') (hg : ∀ a o, g a o → g' a o) (h : IterO G W g tt l o) : IterO G W' g' tt l o := by
  cases h with
  | lit a vs n i l o h1 h2 h3 h4 => exact .lit a vs n i l o (hg _ _ h1) (h2.le L) h3 h4
  | tit a vs n i l o h1 h2 h3 h4 => exact .tit a vs n i l o (hg _ _ h1) (h2.le L) h3 h4
  | up n x => exact .up n x
  | down n x => exact .down n x
  | dit d od es kvs vs i ep ok ov ht h1 h2 h3 h4 h5 h6 h8 => exact .dit d od es kvs vs i ep ok ov ht (L.f h1) h2 h3 h4 h5 h6 (h8.le L)
def gens7 : List String := ["enumerate", "zip", "dict_itemiterator", "dict_reverseitemiterator", "odict_iterator", "itertools.zip_longest", "itertools.pairwise"]
structure Mv (it : Addr) (W W' : Wd) : Prop where
  rl : ∀ a r, a ≠ it → W.rl a = some r → W'.rl a = some r
  tk : W'.tk = W.tk
theorem Mv.upd {W : Wd} {it : Addr} {r : Role} : Mv it W (W.upd it r) := ⟨fun _ _ h e => (Wd.upd_ne h).trans e, rfl⟩
theorem Mv.le {W W' : Wd} {it : Addr} {o : Obj} (h : Mv it W W') (e : W.rl it = some (.hd o)) : Le W W' := ⟨fun a o' e' => h.rl a _ (fun z => nomatch (Option.some.inj ((z ▸ e').symm.trans e) : Role.fz o' = .hd o)) e', fun _ _ e => h.tk ▸ e⟩
section
variable {X : Cx} {W : Wd} {s : Shared}
structure NextQ (X : Cx) (tt : Bool) (it : Addr) (Qs K : Value → Shared → Prop) : Prop where
  a : ∀ v (s' : Shared) o n, s'.heap.get? it = some o → o.cls = .type n → gens7.contains n = false → Qs v s' → K v s'
  b : tt = true → ∀ a d i n ep ok ov (s' : Shared), IsItemIterOut s'.heap it d i n ep ok ov a → (∀ h', IsItemIter h' it d i n ep ok ov → Heap.SameBut it s'.heap h' → Qs (.ref a) { s' with heap := h' }) → K (.ref a) s'
abbrev NextR (Qn : Shared → Prop) (K : Value → Shared → Prop) (r : Option Value) (s : Shared) : Prop := match r with
  | none => Qn s
  | some v => K v s
variable {it : Addr} {o : Obj} {tt : Bool} {g : Addr → Obj → Prop} {Qn : Shared → Prop} {Qs K : Value → Shared → Prop} {l : List V}
theorem drop_get {α : Type} {l r : List α} {i : Nat} {x : α} (h : l.drop i = x :: r) : l[i]? = some x ∧ l.drop (i + 1) = r := by
  refine ⟨?_, ?_⟩
  · rw [← List.head?_drop, h]; rfl
  · rw [← List.tail_drop, h]; rfl
theorem drop_nil {α : Type} {l : List α} {i : Nat} (h : l.drop i = []) : l[i]? = none := by rw [← List.head?_drop, h]; rfl
theorem next_nil (hh : X.A.handled = none) (I : J X W s) (hi : W.rl it = some (.hd o)) (hg : ∀ a o, g a o → s.heap.get? a = some o) (H : IterO X.G W g tt [] o) (P : ∀ h', Heap.ExtBut it s.heap h' → Qn { s with heap := h' }) :
    Do X (pyNext (.ref it)) (NextR Qn K) s := by
  have ho := I.rl it _ hi
  generalize hl : ([] : List V) = l at H
  cases H with
  | lit a vs n i l o h1 h2 h3 h4 =>
    subst hl
    exact wpAny_pyNext_list_end hh ⟨_, ho, h3, h4⟩ (listO (hg _ _ h1)) (toA.trans (drop_nil h2)) P
  | tit a vs n i l o h1 h2 h3 h4 =>
    subst hl
    exact wpAny_pyNext_tuple_end hh ⟨_, ho, h3, h4⟩ (tupO (hg _ _ h1)) (toA.trans (drop_nil h2)) P
  | up n x =>
    cases n with
    | zero => exact wpAny_pyNext_range_end hh ho (Int.le_refl _) P
    | succ n => exact nomatch hl
  | down n x =>
    cases n with
    | zero => exact wpAny_pyNext_range_end hh ho (Int.le_refl _) P
    | succ n => exact nomatch hl
  | dit d od es kvs vs i ep ok ov ht h1 h2 h3 h4 h5 h6 h8 =>
    refine wpAny_pyNext_items_end (knd := X.G.knd) (kvs := kvs) hh ho ⟨od, es, I.fz h1, h2, h3, h4, h5, h6⟩ ?_ P
    cases hd : kvs.drop i with
    | nil => exact drop_nil hd
    | cons p r =>
      rw [hd] at hl h8
      cases vs with
      | nil => exact nomatch (show (p :: r).map (·.2) = [] from h8)
      | cons v vs => exact nomatch hl
theorem next_cons {v : V} (I : J X W s) (hi : W.rl it = some (.hd o)) (hg : ∀ a o, g a o → s.heap.get? a = some o) (H : IterO X.G W g tt (v :: l) o) (N : NextQ X tt it Qs K)
    (P : ∀ u W' s' o', J X W' s' → Mv it W W' → W'.rl it = some (.hd o') → IterO X.G W' g tt l o' → Rel X.G W' v u → Qs u s') : Do X (pyNext (.ref it)) (NextR Qn K) s := by
  have ho := I.rl it _ hi
  have fin : ∀ {u : Value} {o' : Obj} {h' : Heap} {tk : Nat} {n : String}, h'.get? it = some o' → Heap.SameBut it s.heap h' → o'.cls = .type n → gens7.contains n = false → (∀ W', Le W W' → IterO X.G W' g tt l o') → Rel X.G W v u → K u { s with heap := h', toks := tk } := fun e hs hc hn hI hv =>
    N.a _ _ _ _ e hc hn (P _ (W.upd it (.hd _)) _ _ (I.set (.hd _) hi (fun _ z => nomatch z) hs.extBut e) Mv.upd Wd.upd_self (hI _ (Mv.upd.le hi)) (hv.le (Mv.upd.le hi)))
  generalize hl : v :: l = l' at H
  cases H with
  | lit a vs n i l'' o h1 h2 h3 h4 =>
    subst hl
    obtain ⟨u, r, e, hv, hr⟩ := h2
    have z := drop_get e
    refine wpAny_pyNext_list_item ⟨_, ho, h3, h4⟩ (listO (hg _ _ h1)) (toA.trans z.1) fun h' hi' hs => ?_
    obtain ⟨o', e1, e2, e3⟩ := hi'
    exact fin e1 hs e2 (by decide) (fun W' L => .lit a vs n (i + 1) l o' h1 (z.2.symm ▸ hr.mono fun _ _ r => r.le L) e2 e3) hv
  | tit a vs n i l'' o h1 h2 h3 h4 =>
    subst hl
    obtain ⟨u, r, e, hv, hr⟩ := h2
    have z := drop_get e
    refine wpAny_pyNext_tuple_item ⟨_, ho, h3, h4⟩ (tupO (hg _ _ h1)) (toA.trans z.1) fun h' hi' hs => ?_
    obtain ⟨o', e1, e2, e3⟩ := hi'
    exact fin e1 hs e2 (by decide) (fun W' L => .tit a vs n (i + 1) l o' h1 (z.2.symm ▸ hr.mono fun _ _ r => r.le L) e2 e3) hv
  | up n x =>
    cases n with
    | zero => exact nomatch hl
    | succ n =>
      obtain ⟨rfl, rfl⟩ := List.cons.inj hl
      refine wpAny_pyNext_range_item ho (Int.natCast_pos.mpr (Nat.succ_pos n)) fun h' e hs => ?_
      rw [show ((n + 1 : Nat) : Int) - 1 = n from by omega] at e
      exact fin e hs rfl (by decide) (fun W' _ => .up n (x + 1)) (rInt x _)
  | down n x =>
    cases n with
    | zero => exact nomatch hl
    | succ n =>
      obtain ⟨rfl, rfl⟩ := List.cons.inj hl
      refine wpAny_pyNext_range_item ho (Int.natCast_pos.mpr (Nat.succ_pos n)) fun h' e hs => ?_
      rw [show ((n + 1 : Nat) : Int) - 1 = n from by omega] at e
      exact fin e hs rfl (by decide) (fun W' _ => .down n (x - 1)) (rInt x _)
  | dit d od es kvs vs i ep ok ov ht h1 h2 h3 h4 h5 h6 h8 =>
    cases hd : kvs.drop i with
    | nil => rw [hd] at hl; exact nomatch hl
    | cons p r =>
      rw [hd] at hl h8
      cases vs with
      | nil => exact nomatch (show (p :: r).map (·.2) = [] from h8)
      | cons w vs =>
        obtain ⟨rfl, rfl⟩ := List.cons.inj hl
        obtain ⟨u, q, e, hw, hr⟩ := h8
        obtain ⟨e1, e2⟩ := List.cons.inj e
        have z := drop_get hd
        refine wpAny_pyNext_items_item (knd := X.G.knd) (kvs := kvs) ho ⟨od, es, I.fz h1, h2, h3, h4, h5, h6⟩ z.1 fun key h' hkey hout hT hz hs => N.b ht _ _ _ _ _ _ _ _ hout fun h'' hi' hs' => ?_
        obtain ⟨t, rfl⟩ := Value.isStrOf_shape hkey
        have ne : s.heap.objs.size ≠ it := fun q => absurd (q ▸ I.lt hi) (Nat.lt_irrefl _)
        have Y := Ex.upd (r := .fz (seqO "tuple" [.str p.1 t, p.2] 0)) I.new
        have M : Mv it (W.upd s.heap.objs.size (.fz (seqO "tuple" [.str p.1 t, p.2] 0))) ((W.upd s.heap.objs.size (.fz (seqO "tuple" [.str p.1 t, p.2] 0))).upd it (.hd (ditO d (i + 1) kvs.length ep (.str p.1 t) p.2))) := Mv.upd
        have L : Le W _ := ⟨fun a o e => (M.le (Y.rl _ _ hi)).fz a o (Y.rl _ _ e), fun _ _ e => e⟩
        refine P (.ref s.heap.objs.size) _ { s with heap := h'' } (ditO d (i + 1) kvs.length ep (.str p.1 t) p.2) (I.gen (tk := s.toks) (fun a r e => Wd.upd_e e (fun e1 e2 => ?_) fun e1 e => Wd.upd_e e (fun e2 e3 => ?_) fun e2 e => (hs'.2 a e1).trans (hs _ _ e1 (I.rl a r e))) L.fz rfl fun q m => ⟨?_, fun o e => ?_⟩) ⟨fun a r h e => M.rl a r h (Y.rl _ _ e), rfl⟩ Wd.upd_self ?_ ?_
        · subst e1 e2; exact hi'
        · subst e2 e3; exact (hs'.2 _ ne).trans hT
        · exact (Wd.upd_ne (I.tab_ne hi m)).trans ((Wd.upd_ne (I.tab_lt m)).trans (I.tab q m).1)
        · exact (hs'.2 _ (I.tab_ne hi m)).trans (hs _ _ (I.tab_ne hi m) e)
        · have hr' : Rels X.G _ vs (r.map (·.2)) := e2 ▸ Rels.le L hr
          exact z.2 ▸ .dit d od es kvs vs (i + 1) ep _ _ ht (L.f h1) h2 h3 h4 h5 h6 (z.2.symm ▸ hr')
        · exact relTup ⟨(M.rl _ _ ne Wd.upd_self), I.ne_sys⟩ ⟨_, _, rfl, rStr _ t, _, _, rfl, Rel.le L ((show u = p.2 from e1.symm) ▸ hw : Rel X.G W w p.2), rfl⟩
end
end Mine
end
section
open PySem PySem.W PyProof.Rows
set_option maxRecDepth 100000
set_option genInjectivity false
set_option genSizeOf false
set_option backward.match.sparseCases false
namespace Mine
section
variable {X : Cx} {cl : Cl} {kv : KEv} {W : Wd} {s : Shared} {env : Env} {ks : Ks} {E : VEnv} {Q : Value → Shared → Prop} {c tt : Bool} {l : List V} {u : Value} {k : List V → Prop}
def PI (X : Cx) (W : Wd) (c tt : Bool) (l : List V) (Q : Value → Shared → Prop) : Prop :=
  ∀ it o W' s', Ex W W' → W.rl it = none → J X W' s' → W'.rl it = some (.hd o) → IterO X.G W' (fun a o => W'.on a o ∧ a ≠ it) tt l o → (c = false → l ≠ [] → IterO X.G W' W'.fz tt l o) → Q (.ref it) s'
theorem none_of {W W' : Wd} (h : Ex W W') {a : Addr} (e : W'.rl a = none) : W.rl a = none := by
  cases q : W.rl a with
  | none => rfl
  | some r => exact nomatch (h.rl _ _ q).symm.trans e
theorem PI.aft {W' : Wd} (P : PI X W c tt l Q) (h : Ex W W') : PI X W' c tt l Q := fun it o V s' e n => P it o V s' (h.trans e) (none_of h n)
theorem on_up {W : Wd} {a b : Addr} {r : Role} {o : Obj} (h : W.rl b = none) (k : W.on a o) : (W.upd b r).on a o := ⟨k.1.imp fun _ q => q.imp ((Ex.upd h).rl _ _) id, k.2⟩
theorem PI.push {o : Obj} (P : PI X W c tt l Q) (I : J X W s) (f : o.isFreed = false) (H : ∀ W', Ex W W' → IterO X.G W' (fun a o => W'.on a o ∧ a ≠ s.heap.objs.size) tt l o ∧ (c = false → l ≠ [] → IterO X.G W' W'.fz tt l o)) : Q (.ref s.heap.objs.size) { s with heap := s.heap.push o } :=
  P _ o _ _ (Ex.upd I.new) I.new (I.push (.hd o) rfl f s.toks) Wd.upd_self (H _ (Ex.upd I.new)).1 (H _ (Ex.upd I.new)).2
theorem ex_on {W W' : Wd} (h : Ex W W') {a : Addr} {o : Obj} (k : W.on a o) : W'.on a o := ⟨k.1.imp fun _ q => q.imp (h.rl _ _) id, k.2⟩
theorem seq_iter {v : V} (I : J X W s) (h : seqW v k) (hv : Rel X.G W v u) (P : ∀ l, k l → l.length < 4000 → PI X W c tt l Q) : Do X (pyIter u) Q s := by
  cases v with
  | tup l =>
    obtain ⟨a, vs, n, rfl, h1, h2⟩ := hv.un
    exact gd_e (show brW (Nat.blt l.length 4000) (k l) False from h) fun hl h => wpAny_pyIter_tuple (tupO (I.fz h1)) ((P l h (bltN.mp hl)).push I rfl fun W' e => ⟨.tit a vs n 0 l _ ⟨ex_on e h1.on, Nat.ne_of_lt (I.lt h1.1)⟩ (Rels.le e.le h2) rfl rfl, fun _ _ => .tit a vs n 0 l _ (e.le.f h1) (Rels.le e.le h2) rfl rfl⟩)
  | lst l =>
    obtain ⟨a, vs, n, rfl, h1, h2⟩ := hv.un
    exact gd_e (show brW (Nat.blt l.length 4000) (k l) False from h) fun hl h => wpAny_pyIter_list (listO (I.fz h1)) ((P l h (bltN.mp hl)).push I rfl fun W' e => ⟨.lit a vs n 0 l _ ⟨ex_on e h1.on, Nat.ne_of_lt (I.lt h1.1)⟩ (Rels.le e.le h2) rfl rfl, fun _ _ => .lit a vs n 0 l _ (e.le.f h1) (Rels.le e.le h2) rfl rfl⟩)
  | _ => exact h.elim
theorem own_iter {l : List V} {a : Addr} {vs : List Value} {t j : Nat} (I : J X W s) (h1 : OwnL W t j a vs) (h2 : Rels X.G W l vs) (hl : c = false → l = []) (P : PI X W c tt l Q) : Do X (pyIter (.ref a)) Q s := by
  obtain ⟨h0, n, h1⟩ := h1
  exact wpAny_pyIter_list (listO (I.rl _ _ h1)) (P.push I rfl fun W' e => ⟨.lit a vs n 0 l _ ⟨⟨⟨_, e.rl _ _ h1, rfl⟩, h0⟩, Nat.ne_of_lt (I.lt h1)⟩ (Rels.le e.le h2) rfl rfl, fun e1 e2 => absurd (hl e1) e2⟩)
theorem rows_rels {j : Nat} {l : List (List Nat × List V)} : ∀ {i : Nat} {us : List Value}, RowsR X.G W j i l us → Rels X.G W (l.map fun p => .tup [.str p.1, .hole]) us := by
  induction l with
  | nil => exact fun e => e
  | cons p l ih =>
    intro i us h
    obtain ⟨a, b, t, n, vs, r, e, h1, _, _, h5⟩ := h
    exact ⟨_, _, e, relTup h1 ⟨_, _, rfl, rStr _ t, _, _, rfl, .mk trivial, rfl⟩, ih h5⟩
theorem small_r {a b st : Int} (f1 : Fits a = true) (f2 : Fits b = true) (f3 : st = 1 ∨ st = -1) : Builtin.Range.small a b st = true := by
  have f1 := fits_lt f1
  have f2 := fits_lt f2
  rcases f3 with rfl | rfl
  · exact small_one (by omega) (by omega) (by omega) (by omega)
  · unfold Builtin.Range.small Builtin.Range.rangeSize
    simp only [Builtin.Range.rangeFitsLong, Bool.and_eq_true, Bool.or_eq_true, decide_eq_true_eq, beq_iff_eq, show ¬ ((-1 : Int) > 0) by decide, if_false, Int.neg_neg, Int.ediv_one]
    split <;> omega
theorem size_up {a n : Int} : Builtin.Range.rangeSize a n 1 = ((n - a).toNat : Int) := by
  unfold Builtin.Range.rangeSize
  rw [if_pos (by decide)]
  split
  · rw [Int.ediv_one]; omega
  · omega
theorem size_down {a n : Int} : Builtin.Range.rangeSize a n (-1) = ((a - n).toNat : Int) := by
  unfold Builtin.Range.rangeSize
  simp only [show ¬ ((-1 : Int) > 0) by decide, if_false, Int.neg_neg, Int.ediv_one]
  split <;> omega
inductive RngV (W : Wd) : List V → Value → Prop where
  | up (r : Addr) (a n : Int) (t u w : Tok) : W.rl r = some (.fz { cls := .type "range", data := .fields #[.int a t, .int n u, .int 1 w] }) → Fits a = true → Fits n = true → Nat.blt (n - a).toNat 4000 = true → RngV W (rngL (n - a).toNat a) (.ref r)
  | down (r : Addr) (a n : Int) (t u w : Tok) : W.rl r = some (.fz { cls := .type "range", data := .fields #[.int a t, .int n u, .int (-1) w] }) → Fits a = true → Fits n = true → Nat.blt (a - n).toNat 4000 = true → RngV W (rngD (a - n).toNat a) (.ref r)
theorem rngL_len (n : Nat) : ∀ a, (rngL n a).length = n := by
  induction n with
  | zero => exact fun _ => rfl
  | succ n ih => exact fun a => congrArg Nat.succ (ih _)
theorem rngD_len (n : Nat) : ∀ a, (rngD n a).length = n := by
  induction n with
  | zero => exact fun _ => rfl
  | succ n ih => exact fun a => congrArg Nat.succ (ih _)
theorem RngV.len (h : RngV W l u) : l.length < 4000 := by
  cases h with
  | up _ _ _ _ _ _ _ _ _ h => rw [rngL_len]; exact bltN.mp h
  | down _ _ _ _ _ _ _ _ _ h => rw [rngD_len]; exact bltN.mp h
theorem rng_iter (I : J X W s) (h : RngV W l u) (P : PI X W c tt l Q) : Do X (pyIter u) Q s := by
  cases h with
  | up r a n t u w h f1 f2 f3 =>
    refine wpAny_pyIter_range (I.rl _ _ h) (small_r f1 f2 (.inl rfl)) (P.push I rfl fun W' _ => ?_)
    rw [size_up]
    exact ⟨.up _ _, fun _ _ => .up _ _⟩
  | down r a n t u w h f1 f2 _ =>
    refine wpAny_pyIter_range (I.rl _ _ h) (small_r f1 f2 (.inr rfl)) (P.push I rfl fun W' _ => ?_)
    rw [size_down]
    exact ⟨.down _ _, fun _ _ => .down _ _⟩
abbrev PR (X : Cx) (W : Wd) (k : List V → Prop) (Q : Value → Shared → Prop) : Prop := ∀ l, k l → ∀ u W' s', Ex W W' → J X W' s' → RngV W' l u → Q u s'
theorem rng_new {a b st : Int} {t u w : Tok} {tk : Nat} (I : J X W s) (P : ∀ u W' s', Ex W W' → J X W' s' → RngV W' l u → Q u s') (H : ∀ W', W'.rl s.heap.objs.size = some (.fz { cls := .type "range", data := .fields #[.int a t, .int b u, .int st w] }) → RngV W' l (.ref s.heap.objs.size)) :
    Q (.ref s.heap.objs.size) { s with heap := s.heap.push { cls := .type "range", data := .fields #[.int a t, .int b u, .int st w] }, toks := tk } :=
  P _ _ _ (Ex.upd I.new) (I.push (.fz _) rfl rfl tk) (H _ Wd.upd_self)
theorem rng1 {x : V} (I : J X W s) (P : PR X W k Q) (hx : RelO X.G W x u) (h : rangeW [x] k) : Do X (call (.type "range") [u]) Q s :=
  int_e (f := fun n => brW (Fits n && Nat.blt n.toNat 4000) (k (rngL n.toNat 0)) False) hx h fun n t h => gd_e h fun hb h => and_e hb fun h1 h2 => call_range_1 (rng_new I (P _ h) fun W' e => by
    have z := RngV.up _ 0 n _ _ _ e rfl h1 (by rw [Int.sub_zero]; exact h2)
    rwa [Int.sub_zero] at z)
theorem rng2 {x y : V} {w : Value} (I : J X W s) (P : PR X W k Q) (hx : RelO X.G W x u) (hy : RelO X.G W y w) (h : rangeW [x, y] k) : Do X (call (.type "range") [u, w]) Q s :=
  int2_e (f := fun a n => brW (Fits n && Fits a && Nat.blt (n - a).toNat 4000) (k (rngL (n - a).toNat a)) False) hx hy h fun a t n t' h => gd_e h fun hb h => and_e hb fun hb h3 => and_e hb fun h1 h2 => call_range_2 (rng_new I (P _ h) fun W' e => .up _ a n _ _ _ e h2 h1 h3)
theorem rng3 {x y z : V} {w q : Value} (I : J X W s) (P : PR X W k Q) (hx : RelO X.G W x u) (hy : RelO X.G W y w) (hz : RelO X.G W z q) (h : rangeW [x, y, z] k) : Do X (call (.type "range") [u, w, q]) Q s :=
  int2_e (f := fun a n => optW (intOf z) fun c => brW (Fits n && Fits a && decide (c = -1) && Nat.blt (a - n).toNat 4000) (k (rngD (a - n).toNat a)) False) hx hy h fun a t n t' h => int_e hz h fun c t'' h => gd_e h fun hb h => and_e hb fun hb h4 => and_e hb fun hb h3 => and_e hb fun h1 h2 =>
    of_decide_eq_true h3 ▸ call_range_3 (by decide) (rng_new I (P _ h) fun W' e => .down _ a n _ _ _ e h2 h1 h4) (.inl (pylong (by decide)))
theorem range_sound {as : List V} {us : List Value} (I : J X W s) (P : PR X W k Q) (h : rangeW as k) (hu : Rels X.G W as us) : Do X (call (.type "range") us) Q s := by
  cases as with
  | nil => exact h.elim
  | cons x as =>
    cases as with
    | nil => exact hu.one_e (Pm := fun us => Do X (call (.type "range") us) Q s) fun u hx => rng1 I P hx.o h
    | cons y as =>
      cases as with
      | nil => exact hu.two_e (Pm := fun us => Do X (call (.type "range") us) Q s) fun u w hx hy => rng2 I P hx.o hy.o h
      | cons z as =>
        cases as with
        | nil => exact hu.three_e (Pm := fun us => Do X (call (.type "range") us) Q s) fun u w q hx hy hz => rng3 I P hx.o hy.o hz.o h
        | cons w as => exact h.elim
def GV.num (g : GV) : Nat := match g with
  | .bi n => n
  | .fn n => n
theorem isBi_e {g : GV} {n : Nat} {P : Prop} (h : isBi g n = true) (c : g = .bi n → P) : P := by
  cases g with
  | bi b => exact c (congrArg GV.bi (beqN.mp h))
  | fn f => first | exact none_i h | exact ff_i h | exact nomatch h
theorem glob_bi {x : Nat} {n : Nat} (h : glob x = some (.bi n)) : x = n := by
  unfold glob at h
  cases h1 : biNames.any (Nat.beq x) with
  | true => rw [h1] at h; exact congrArg GV.num (Option.some.inj h)
  | false =>
    rw [h1, cond_false] at h
    exact bf_e h fun _ h => nomatch Option.some.inj h
theorem glob_fn {x : Nat} {n : Nat} (h : glob x = some (.fn n)) : x = n ∧ fnNames.any (Nat.beq x) = true := by
  unfold glob at h
  cases h1 : biNames.any (Nat.beq x) with
  | true => rw [h1] at h; exact nomatch Option.some.inj h
  | false =>
    rw [h1, cond_false] at h
    exact bf_e h fun h2 h => ⟨congrArg GV.num (Option.some.inj h), h2⟩
theorem load_bi {x : Str} {n : String} {v : Value} (O : GOk X.G) (I : J X W s) (R : EnvR X.G W ks E env) (hn : okB (Str.ofString n) = true) (hg : X.G.gval (Str.ofString n) = some v) (h : headN ks x = some (.bi (N n))) (hQ : Q v s) : Do X (loadName env x) Q s :=
  headN_e h fun hf hk hx => load_glob O I R hf hk (nm_is (fine_ok hf) hn (glob_bi hx) ▸ hg) hQ
theorem biIs_e {x : Str} {n : Nat} {P : Prop} (h : biIs ks x n = true) (c : headN ks x = some (.bi n) → P) : P := by
  unfold biIs at h
  cases e : headN ks x with
  | none => rw [e] at h; exact nomatch h
  | some g => rw [e] at h; exact isBi_e h fun z => c (e.trans (congrArg some z))
end
end Mine
end
section
open PySem PySem.W PyProof.Rows
set_option maxRecDepth 100000
set_option genInjectivity false
set_option genSizeOf false
set_option backward.match.sparseCases false
namespace Mine
section
variable {G : GI} {W : Wd} {ks : Ks} {E : VEnv} {env : Env}
theorem look_cons {β : Type} {x y : Str} {k : β} {r : List (Nat × β)} (hx : okN x) (hy : okN y) : look (nm x) ((nm y, k) :: r) = if x = y then some k else look (nm x) r := by
  show (bif Nat.beq (nm y) (nm x) then some k else look (nm x) r) = _
  by_cases e : x = y
  · subst e; rw [Nat.beq_refl, if_pos rfl]; rfl
  · rw [beqN_false fun q => e (nm_inj hx hy q.symm), if_neg e]; rfl
theorem lookup_cons' {β : Type} {x y : Str} {k : β} {r : List (Str × β)} : List.lookup x ((y, k) :: r) = if x = y then some k else List.lookup x r := by
  rw [List.lookup_cons]
  by_cases e : x = y
  · subst e; rw [beq_self_eq_true, if_pos rfl]
  · rw [beq_eq_false_iff_ne.mpr e, if_neg e]
theorem look_map {names : List (Str × NameKind)} {x : Str} (h : ∀ p ∈ names, okN p.1) (hx : okN x) : look (nm x) (names.map fun p => (nm p.1, p.2)) = names.lookup x := by
  induction names with
  | nil => rfl
  | cons p q ih =>
    obtain ⟨n, k⟩ := p
    rw [List.map_cons, look_cons hx (h _ (.head _)), lookup_cons', ih fun p hp => h p (.tail _ hp)]
theorem scOk_iff {sc : Scope} (h : scOk sc = true) : ∀ p ∈ sc.names, okN p.1 := fun p hp => okB_i (List.all_eq_true.mp h p hp)
def reK (env : Env) (p : Str × NameKind) : Str × NameKind := if (p.2 == .free && env.scope.kind == .function && env.kindOf p.1 == some .cell) then (p.1, NameKind.cell) else (p.1, p.2)
theorem reK_is (R : EnvR G W ks E env) {p : Str × NameKind} (hp : okN p.1) : reK env p = (p.1, relab1 ks (nm p.1) p.2) := by
  unfold reK
  rw [R.kind, ← R.kinds p.1 hp]
  obtain ⟨n, k⟩ := p
  cases k with
  | free =>
    show _ = (n, match look (nm n) ks with
          | some .cell => NameKind.cell
          | _ => .free)
    cases look (nm n) ks with
    | none => rfl
    | some q => cases q <;> rfl
  | _ => rfl
theorem relab_lookS {x : Str} (hx : okN x) (R : EnvR G W ks E env) {names : List (Str × NameKind)} (hn : ∀ p ∈ names, okN p.1) :
    look (nm x) (relabK (names.map fun p => (nm p.1, p.2)) ks) = (names.map (reK env)).lookup x := by
  induction names with
  | nil => rfl
  | cons p q ih =>
    have hp := hn p (.head _)
    rw [List.map_cons, List.map_cons, reK_is R hp, lookup_cons', ← ih fun p hp => hn p (.tail _ hp)]
    exact look_cons hx hp
def closF (env : Env) (x : Str × NameKind) (r : List (Str × Addr)) : Sem (ForInStep (List (Str × Addr))) := match x with
  | (name, kind) => if (kind == NameKind.free) = true then (do
      let y ← cellOf env name
      pure (ForInStep.yield ((name, y) :: r)))
    else pure (ForInStep.yield r)
theorem closure_fold (names : List (Str × NameKind)) : ∀ (acc : List (Str × Addr)), (∀ n, (n, NameKind.free) ∈ names → ∃ c, env.cells.lookup n = some c) →
    ∃ cl, (forIn names acc (closF env) : Sem _) = pure cl ∧ ∀ x, cl.lookup x = if (x, NameKind.free) ∈ names then env.cells.lookup x else acc.lookup x := by
  induction names with
  | nil => intro acc _; exact ⟨acc, rfl, fun x => (if_neg (fun h => nomatch h)).symm⟩
  | cons p q ih =>
    intro acc h
    obtain ⟨n, k⟩ := p
    by_cases hk : k = .free
    · subst hk
      obtain ⟨c, hc⟩ := h n (.head _)
      obtain ⟨cl, h1, h2⟩ := ih ((n, c) :: acc) fun m hm => h m (.tail _ hm)
      refine ⟨cl, ?_, fun x => ?_⟩
      · rw [List.forIn_cons]
        have e : closF env (n, .free) acc = pure (ForInStep.yield ((n, c) :: acc)) := by
          show (cellOf env n >>= fun y => pure (ForInStep.yield ((n, y) :: acc))) = _
          rw [show cellOf env n = pure c by unfold cellOf; rw [hc]]; rfl
        rw [e]
        exact h1
      · rw [h2 x, lookup_cons']
        by_cases e1 : (x, NameKind.free) ∈ q
        · rw [if_pos e1, if_pos (.tail _ e1)]
        · rw [if_neg e1]
          by_cases e2 : x = n
          · rw [if_pos e2, if_pos (e2 ▸ .head _), e2, hc]
          · rw [if_neg e2, if_neg fun q => (List.mem_cons.mp q).elim (fun q => e2 (Prod.mk.inj q).1) e1]
    · obtain ⟨cl, h1, h2⟩ := ih acc fun m hm => h m (.tail _ hm)
      refine ⟨cl, ?_, fun x => ?_⟩
      · rw [List.forIn_cons]
        have e : closF env (n, k) acc = pure (ForInStep.yield acc) := if_neg (by simpa using hk)
        rw [e]
        exact h1
      · rw [h2 x]
        by_cases e1 : (x, NameKind.free) ∈ q
        · rw [if_pos e1, if_pos (.tail _ e1)]
        · rw [if_neg e1, if_neg fun q => (List.mem_cons.mp q).elim (fun q => hk (Prod.mk.inj q).2.symm) e1]
def cellF (x : Str × NameKind) (r : List (Str × Addr)) : Sem (ForInStep (List (Str × Addr))) := match x with
  | (name, kind) => if (kind == NameKind.cell) = true then (do
      let y ← alloc { cls := .type "cell", data := .cell none }
      pure (ForInStep.yield ((name, y) :: r)))
    else pure (ForInStep.yield r)
theorem look_relab (outer : List (Nat × NameKind)) (n : Nat) : ∀ ks, look n (relabK ks outer) = (look n ks).map (relab1 outer n)
  | [] => rfl
  | (y, k) :: r => by
    show (bif Nat.beq y n then some (relab1 outer y k) else look n (relabK r outer)) = (bif Nat.beq y n then some k else look n r).map (relab1 outer n)
    cases h : Nat.beq y n with
    | true => rw [cond_true, cond_true, beqN.mp h]; rfl
    | false => rw [cond_false, cond_false]; exact look_relab outer n r
theorem locK_relab (outer : List (Nat × NameKind)) (n : Nat) (ks : List (Nat × NameKind)) : isLocK (look n (relabK ks outer)) = isLocK (look n ks) := by
  rw [look_relab]
  cases h : look n ks with
  | none => rfl
  | some k =>
    cases k with
    | free =>
      show isLocK (some (match look n outer with | some .cell => NameKind.cell | _ => NameKind.free)) = false
      generalize look n outer = z
      cases z with
      | none => rfl
      | some q => cases q <;> rfl
    | _ => rfl
end
end Mine
end
section
open PySem PySem.W PyProof.Rows
set_option maxRecDepth 100000
set_option genInjectivity false
set_option genSizeOf false
set_option backward.match.sparseCases false
namespace Mine
section
variable {X : Cx} {cl : Cl} {kv : KEv} {W W' W₁ : Wd} {s : Shared} {env cenv : Env} {ks : Ks} {E : VEnv} {x : Str} {sc : Scope}
theorem isFn_i {sc : Scope} (h : isFn sc = true) : sc.kind = .function := by
  unfold isFn at h
  cases e : sc.kind <;> rw [e] at h <;> first | rfl | exact absurd h Bool.false_ne_true
theorem isLocK_i {k : Option NameKind} (h : isLocK k = true) : k = some .local := by
  cases k with
  | none => first | exact none_i h | exact ff_i h | exact nomatch h
  | some k => cases k <;> first | rfl | exact none_i h | exact ff_i h | exact nomatch h
theorem look_mem {γ : Type} {x : Nat} {v : γ} {l : List (Nat × γ)} (h : look x l = some v) : (x, v) ∈ l := by
  induction l with
  | nil => first | exact none_i h | exact ff_i h | exact nomatch h
  | cons p l ih =>
    have h : (bif Nat.beq p.1 x then some p.2 else look x l) = some v := h
    cases hb : Nat.beq p.1 x with
    | true =>
      rw [hb] at h
      rw [← beqN.mp hb, ← Option.some.inj h]; exact .head _
    | false => rw [hb] at h; exact .tail _ (ih h)
theorem beqF {a b : Nat} (h : Nat.beq a b = false) : a ≠ b := fun e => by rw [e, Nat.beq_refl] at h; exact nomatch h
def CellN (ρ : Str → Obj → Role) (W W' : Wd) (names : List (Str × NameKind)) (acc cl : List (Str × Addr)) (y : Str) : Prop :=
  (∃ c o, cl.lookup y = some c ∧ W.rl c = none ∧ W'.rl c = some (ρ y o) ∧ o.data = .cell none ∧ (y, NameKind.cell) ∈ names) ∨ ((y, NameKind.cell) ∉ names ∧ cl.lookup y = acc.lookup y)
theorem cells_sound {ρ : Str → Obj → Role} (hρ : ∀ n o, (ρ n o).ob = o) {names : List (Str × NameKind)} : ∀ {acc : List (Str × Addr)} {W : Wd} {s : Shared} {Q : List (Str × Addr) → Shared → Prop}, J X W s → (∀ cl W' s', Ex W W' → J X W' s' → (∀ y, CellN ρ W W' names acc cl y) → Q cl s') →
    Do X (forIn names acc cellF) Q s := by
  induction names with
  | nil =>
    intro acc W s Q I P
    rw [List.forIn_nil]
    exact wpAny_pure (P acc W s (Ex.refl W) I fun y => .inr ⟨fun h => (nomatch h), rfl⟩)
  | cons p q ih =>
    intro acc W s Q I P
    obtain ⟨n, k⟩ := p
    rw [List.forIn_cons]
    by_cases hk : k = .cell
    · subst hk
      refine wpAny_bind ?_
      show wpAny _ _ (alloc _ >>= fun y => pure (ForInStep.yield ((n, y) :: acc))) _ _ _
      have Y := Ex.upd (r := ρ n { cls := .type "cell", data := .cell none }) I.new
      refine wpAny_bind (wpAny_alloc (wpAny_pure (ih (I.push (o := { cls := .type "cell", data := .cell none }) (ρ n _) (hρ _ _) rfl s.toks) fun cl W' s' X' I' H => P cl W' s' (Y.trans X') I' fun y => ?_)))
      rcases H y with ⟨c, o, h1, h2, h3, h4, h5⟩ | ⟨h1, h2⟩
      · refine .inl ⟨c, o, h1, ?_, h3, h4, .tail _ h5⟩
        cases e : W.rl c with
        | none => rfl
        | some r => exact nomatch (Y.rl _ _ e).symm.trans h2
      · rw [lookup_cons'] at h2
        by_cases e : y = n
        · rw [if_pos e] at h2
          exact .inl ⟨_, _, h2, I.new, e ▸ X'.rl _ _ Wd.upd_self, rfl, e ▸ .head _⟩
        · rw [if_neg e] at h2
          exact .inr ⟨fun q => (List.mem_cons.mp q).elim (fun q => e (Prod.mk.inj q).1) h1, h2⟩
    · have e : cellF (n, k) acc = pure (ForInStep.yield acc) := if_neg (by simpa using hk)
      rw [e]
      refine wpAny_bind (wpAny_pure (ih I fun cl W' s' X' I' H => P cl W' s' X' I' fun y => ?_))
      rcases H y with ⟨c, o, h1, h2, h3, h4, h5⟩ | ⟨h1, h2⟩
      · exact .inl ⟨c, o, h1, h2, h3, h4, .tail _ h5⟩
      · exact .inr ⟨fun q => (List.mem_cons.mp q).elim (fun q => hk (Prod.mk.inj q).2.symm) h1, h2⟩
structure CompE (X : Cx) (W W' : Wd) (ksr : Ks) (x : Str) (E : VEnv) (cenv : Env) : Prop where
  r : EnvR X.G W' ksr ((nm x, .no) :: (N ".0", .no) :: E) cenv
  pl : ∃ a, W.rl a = none ∧ Place W' ksr cenv x a ∧ ∃ o, W'.rl a = some (.hd o)
  ne : ∀ a y, W.rl a = none → okN y → y ≠ x → cenv.cells.lookup y = some a → look (nm y) ksr ≠ some .cell ∧ look (nm y) ksr ≠ some .free
  loc : W.rl cenv.locals = none ∧ ∃ o m, W'.rl cenv.locals = some (.hd o) ∧ NsO o m
  ok : okN x
theorem kind_of {ks : Ks} {x : Nat} {sc : Scope} {n : Nat} {k : NameKind} (h : (kindsOf sc).all (kindFit ks x) = true) (e : look n (kindsOf sc) = some k) : kindFit ks x (n, k) = true := List.all_eq_true.mp h _ (look_mem e)
theorem isFar_e {k : Option NameKind} (h : isFar k = true) {P : Prop} (c : k = some .cell ∨ k = some .free → P) : P := by
  cases k with
  | none => first | exact none_i h | exact ff_i h | exact nomatch h
  | some k => cases k <;> first | exact c (.inl rfl) | exact c (.inr rfl) | exact none_i h | exact ff_i h | exact nomatch h
theorem slot_far (hk : look (nm x) ks = some .cell ∨ look (nm x) ks = some .free) {sv : Option Value} (h : Slot W ks env x sv) : CellS W env x sv := by
  refine slot_e h (fun e _ => ?_) fun _ h => h
  rcases hk with k | k <;> exact nomatch k.symm.trans e
theorem look_scope {y : Str} (hn : ∀ p ∈ sc.names, okN p.1) (hy : okN y) {k : NameKind} (e : look (nm y) (kindsOf sc) = some k) : (y, k) ∈ sc.names := by
  obtain ⟨p, hp, q⟩ := List.mem_map.mp (look_mem e)
  rw [← nm_inj (hn p hp) hy (Prod.mk.inj q).1, ← (Prod.mk.inj q).2]; exact hp
theorem relab_some {n : Nat} {k : NameKind} {kd : Ks} (e : look n kd = some k) : look n (relabK kd ks) = some (relab1 ks n k) := by rw [look_relab, e]; rfl
theorem relab_free (n : Nat) : relab1 ks n .free = .cell ∨ relab1 ks n .free = .free := by
  unfold relab1
  dsimp only
  generalize look n ks = o
  cases o with
  | none => exact .inr rfl
  | some k => cases k <;> first | exact .inl rfl | exact .inr rfl
theorem look_free {y : Str} {kd : Ks} (e : look (nm y) kd = some .free) : look (nm y) (relabK kd ks) = some .cell ∨ look (nm y) (relabK kd ks) = some .free :=
  (relab_free (nm y)).imp (fun q => (relab_some e).trans (congrArg some q)) fun q => (relab_some e).trans (congrArg some q)
section
variable {clo cl' : List (Str × Addr)} (R : EnvR X.G W ks E env) (ok : okN x) (h1 : scOk sc = true) (h4 : isSt (look (nm x) (kindsOf sc)) = true) (h5 : isLocK (look (N ".0") (kindsOf sc)) = true)
    (h7 : (kindsOf sc).all (kindFit ks (nm x)) = true) (hc : ∀ y, clo.lookup y = if (y, NameKind.free) ∈ sc.names then env.cells.lookup y else none) (H : ∀ y, CellN (fun _ => .hd) W₁ W' sc.names clo cl' y) (XX : Ex W W')
include ok h1 h7 in
theorem cell_is {y : Str} (m : (y, NameKind.cell) ∈ sc.names) : y = x :=
  nm_inj (scOk_iff h1 _ m) ok (beqN.mp (show Nat.beq (nm y) (nm x) = true from List.all_eq_true.mp h7 (nm y, .cell) (List.mem_map.mpr ⟨_, m, rfl⟩)))
include ok h1 h7 hc H in
theorem free_cell {y : Str} (hy : okN y) (hyx : y ≠ x) (e : look (nm y) (kindsOf sc) = some .free) : cl'.lookup y = env.cells.lookup y := by
  rcases H y with ⟨_, _, _, _, _, _, m⟩ | ⟨_, q⟩
  · exact absurd (cell_is ok h1 h7 m) hyx
  · rw [q, hc y, if_pos (look_scope (scOk_iff h1) hy e)]
include h4 in
theorem free_ne {y : Str} (e : look (nm y) (kindsOf sc) = some .free) : y ≠ x := fun q => by rw [← q, e] at h4; exact nomatch h4
include ok h1 h4 h5 h7 hc H XX R in
theorem comp_free {y : Str} (hy : okN y) (e : look (nm y) (kindsOf sc) = some .free) (hE : cenv.cells = cl') : EntR X.G W' (Slot W' (relabK (kindsOf sc) ks) cenv) y (lookE (nm y) ((nm x, .no) :: (N ".0", .no) :: E)) := by
  have hyx := free_ne h4 e
  have n0 : N ".0" ≠ nm y := fun q => by rw [q, e] at h5; exact nomatch h5
  have eE : lookE (nm y) ((nm x, .no) :: (N ".0", .no) :: E) = lookE (nm y) E := by
    show (bif Nat.beq (nm x) (nm y) then En.no else (bif Nat.beq (N ".0") (nm y) then En.no else lookE (nm y) E)) = _
    rw [beqN_false fun q => hyx (nm_inj hy ok q.symm), beqN_false n0]; rfl
  rw [eE]
  refine isFar_e (kind_of h7 e) fun far => (R.ent y hy (by rcases far with f | f <;> rw [f] <;> rfl)).mono XX.le (fun sv k => slot_cell (look_free e) ?_) fun _ _ _ _ e => XX.rl _ _ e
  obtain ⟨c, r, k1, k2, k3⟩ := slot_far far k
  exact ⟨c, r, by rw [hE, free_cell ok h1 h7 hc H hy hyx e]; exact k1, XX.rl _ _ k2, k3⟩
end
theorem compEnv_sound {clo : List (Str × Addr)} {Q : Env → Shared → Prop} (I : J X W s) (R : EnvR X.G W ks E env) (ok : okN x) (h1 : scOk sc = true) (h2 : isFn sc = true) (h3 : localsOk (kindsOf sc) = true) (h4 : isSt (look (nm x) (kindsOf sc)) = true) (h5 : isLocK (look (N ".0") (kindsOf sc)) = true)
    (h7 : (kindsOf sc).all (kindFit ks (nm x)) = true) (hc : ∀ y, clo.lookup y = if (y, NameKind.free) ∈ sc.names then env.cells.lookup y else none)
    (P : ∀ cenv W' s', Ex W W' → J X W' s' → CompE X W W' (relabK (kindsOf sc) ks) x E { cenv with scope := relabel sc env } → Q cenv s') :
    Do X (newFunctionEnv sc env.globals clo [] env.qual none .none (some env)) Q s := by
  have hn := scOk_iff h1
  simp only [newFunctionEnv, Option.isSome_some, if_true]
  have Y := Ex.upd (r := .hd { cls := .type "dict", data := .dict #[] }) I.new
  have nd : NsO { cls := .type "dict", data := .dict #[] } fun _ => none := ⟨_, _, rfl, fun e he => by simp at he, fun x => rfl⟩
  refine wpAny_bind (wpAny_alloc (wpAny_bind (cells_sound (ρ := fun _ => .hd) (fun _ _ => rfl) (I.push (o := { cls := .type "dict", data := .dict #[] }) (.hd _) rfl rfl s.toks) fun cl W' s' X' I' H => ?_)))
  refine wpAny_bind (wpAny_of_eq (List.forIn_nil ..) (wpAny_pure (P _ W' s' (Y.trans X') I' ?_)))
  have XX := Y.trans X'
  have eL : W'.rl s.heap.objs.size = some (.hd { cls := .type "dict", data := .dict #[] }) := X'.rl _ _ Wd.upd_self
  have wn : ∀ {c : Addr}, (W.upd s.heap.objs.size (.hd { cls := .type "dict", data := .dict #[] })).rl c = none → W.rl c = none := fun {c} e => by
    cases q : W.rl c with
    | none => rfl
    | some r => exact nomatch (Y.rl _ _ q).symm.trans e
  have cx : look (nm x) (kindsOf sc) = some .cell → ∃ c o, cl.lookup x = some c ∧ W.rl c = none ∧ W'.rl c = some (.hd o) ∧ o.data = .cell none := fun e => by
    rcases H x with ⟨c, o, q1, q2, q3, q4, _⟩ | ⟨q, _⟩
    · exact ⟨c, o, q1, wn q2, q3, q4⟩
    · exact absurd (look_scope hn ok e) q
  refine ⟨⟨isFn_i h2, R.glob, R.blt, fun y hy => relab_lookS hy R hn, fun y hy hv => ?_, fun h => ?_, fun h => ?_⟩, ?_, fun a y hW hy hyx hlk => ?_, ⟨I.new, _, _, eL, nd⟩, ok⟩
  · cases e : look (nm y) (kindsOf sc) with
    | none => rw [look_relab, e] at hv; exact nomatch hv
    | some k =>
      have fit := kind_of h7 e
      cases k with
      | «local» =>
        have eE : lookE (nm y) ((nm x, .no) :: (N ".0", .no) :: E) = .no := by
          show (bif Nat.beq (nm x) (nm y) then En.no else (bif Nat.beq (N ".0") (nm y) then En.no else lookE (nm y) E)) = _
          rcases Bool.or_eq_true_iff.mp fit with f | f
          · rw [show nm y = nm x from beqN.mp f, Nat.beq_refl]; rfl
          · rw [show nm y = N ".0" from beqN.mp f, Nat.beq_refl]; cases Nat.beq (nm x) (N ".0") <;> rfl
        rw [eE]
        exact ⟨none, slot_loc (relab_some e) ⟨_, _, eL, nd, rfl⟩⟩
      | cell =>
        have hyx := nm_inj hy ok (beqN.mp fit)
        subst hyx
        have eE : lookE (nm y) ((nm y, .no) :: (N ".0", .no) :: E) = .no := by
          show (bif Nat.beq (nm y) (nm y) then En.no else _) = _
          rw [Nat.beq_refl]; rfl
        rw [eE]
        obtain ⟨c, o, q1, _, q3, q4⟩ := cx e
        exact ⟨none, slot_cell (.inl (relab_some e)) ⟨c, _, q1, q3, q4⟩⟩
      | free => exact comp_free R ok h1 h4 h5 h7 hc H XX hy e rfl
      | _ => rw [relab_some e] at hv; exact absurd (show false = true from hv) Bool.false_ne_true
  · refine and_e h3 fun h3 _ => and_e h3 fun _ h3 => ?_
    exact absurd (((locK_relab _ _ _).symm.trans h).symm.trans (not_t h3)) Bool.noConfusion
  · refine and_e h3 fun _ h3 => ?_
    exact absurd (((locK_relab _ _ _).symm.trans h).symm.trans (not_t h3)) Bool.noConfusion
  · cases e : look (nm x) (kindsOf sc) with
    | none => rw [e] at h4; exact nomatch h4
    | some k =>
      cases k with
      | «local» => exact ⟨_, I.new, ⟨.inl ⟨relab_some e, rfl⟩, _, eL, rfl⟩, _, eL⟩
      | cell =>
        obtain ⟨c, o, q1, q2, q3, _⟩ := cx e
        exact ⟨c, q2, ⟨.inr ⟨relab_some e, q1⟩, _, q3, rfl⟩, _, q3⟩
      | _ => rw [e] at h4; exact nomatch h4
  · have key : ∀ k', look (nm y) (relabK (kindsOf sc) ks) = some k' → k' = .cell ∨ k' = .free → False := fun k' hk hk' => by
      cases e : look (nm y) (kindsOf sc) with
      | none => rw [look_relab, e] at hk; exact nomatch hk
      | some k =>
        have fit := kind_of h7 e
        rw [relab_some e] at hk
        have hk := Option.some.inj hk
        cases k with
        | cell => exact hyx (nm_inj hy ok (beqN.mp fit))
        | free =>
          have z := free_cell ok h1 h7 hc H hy hyx e
          refine isFar_e fit fun far => ?_
          obtain ⟨sv, k⟩ := (R.ent y hy (by rcases far with f | f <;> rw [f] <;> rfl)).some
          obtain ⟨c, r, k1, k2, _⟩ := slot_far far k
          have e1 : some a = some c := hlk.symm.trans (z.trans k1)
          rw [Option.some.inj e1, k2] at hW
          exact nomatch hW
        | _ => rcases hk' with q | q <;> exact nomatch hk.trans q
    exact ⟨fun q => key _ q (.inl rfl), fun q => key _ q (.inr rfl)⟩
end
end Mine
end
section
open PySem PySem.W PyProof.Rows
set_option maxRecDepth 100000
set_option genInjectivity false
set_option genSizeOf false
set_option backward.match.sparseCases false
namespace Mine
section
variable {X : Cx} {cl : Cl} {kv : KEv} {W W' W₁ : Wd} {s : Shared} {env cenv : Env} {ks : Ks} {E : VEnv} {x : Str} {sc : Scope}
def flatO (o : Obj) : Bool := match o.data with
  | .fields _ => true
  | .seq _ _ => true
  | _ => false
theorem flat_ns {o : Obj} {m : Str → Option Value} (h : flatO o = true) (n : NsO o m) : False := by
  obtain ⟨es, ep, e, _⟩ := n
  unfold flatO at h
  rw [e] at h; exact nomatch h
theorem flat_cell {o : Obj} {v : Option Value} (h : flatO o = true) (n : o.data = .cell v) : False := by
  unfold flatO at h
  rw [n] at h; exact nomatch h
theorem Slot.mv {a : Addr} {o : Obj} (M : Mv a W W') (ha : W.rl a = some (.hd o)) (hf : flatO o = true) {sv : Option Value} (k : Slot W ks env x sv) : Slot W' ks env x sv := by
  refine slot_e k (fun e k => slot_loc e ?_) fun e k => slot_cell e ?_
  · obtain ⟨r, m, h1, h2, h3⟩ := k
    exact ⟨r, m, M.rl _ _ (fun z => by rw [z, ha] at h1; rw [← Option.some.inj h1] at h2; exact flat_ns hf h2) h1, h2, h3⟩
  · obtain ⟨c, r, h0, h1, h2⟩ := k
    exact ⟨c, r, h0, M.rl _ _ (fun z => by rw [z, ha] at h1; rw [← Option.some.inj h1] at h2; exact flat_cell hf h2) h1, h2⟩
theorem mv_fr {a b : Addr} {o : Obj} {t j : Nat} {q : Obj} (M : Mv a W W') (ha : W.rl a = some (.hd o)) (h : W.rl b = some (.fr t j q)) : W'.rl b = some (.fr t j q) :=
  M.rl _ _ (fun z => nomatch (Option.some.inj ((z ▸ h).symm.trans ha) : Role.fr t j q = .hd o)) h
theorem EnvR.mv {G : GI} {a : Addr} {o : Obj} (R : EnvR G W ks E env) (M : Mv a W W') (ha : W.rl a = some (.hd o)) (hf : flatO o = true) : EnvR G W' ks E env :=
  ⟨R.kind, R.glob, R.blt, R.kinds, fun y hy hv => (R.ent y hy hv).mono (M.le ha) (fun _ k => k.mv M ha hf) fun _ _ _ _ h => mv_fr M ha h, R.tr, R.ac⟩
theorem IterO.flat {G : GI} {g : Addr → Obj → Prop} {tt : Bool} {l : List V} {o : Obj} (h : IterO G W g tt l o) : flatO o = true := by
  cases h with
  | lit _ _ _ _ _ _ _ _ _ h => unfold flatO; rw [h]
  | tit _ _ _ _ _ _ _ _ _ h => unfold flatO; rw [h]
  | _ => rfl
def Wd.del (W : Wd) (a : Addr) : Wd := { W with rl := fun b => if b = a then none else W.rl b }
theorem Wd.mv_del {W : Wd} {a : Addr} : Mv a W (W.del a) := ⟨fun _ _ h e => (if_neg h).trans e, rfl⟩
theorem Wd.del_e {W : Wd} {a b : Addr} {r : Role} {P : Prop} (h : (W.del a).rl b = some r) (c : b ≠ a → W.rl b = some r → P) : P := by
  by_cases e : b = a
  · exact nomatch (if_pos e).symm.trans h
  · exact c e ((if_neg e).symm.trans h)
theorem J.del (I : J X W s) {a : Addr} {o : Obj} {h' : Heap} {tk : Nat} (k : Heap.ExtBut a s.heap h') (ha : W.rl a = some (.hd o) := by assumption) : J X (W.del a) { s with heap := h', toks := tk } :=
  I.gen (fun b r e => Wd.del_e e fun h e => k b _ h (I.rl b r e)) (Wd.mv_del.le ha).fz rfl fun q m => ⟨(if_neg (I.tab_ne ha m)).trans (I.tab q m).1, fun _ e => k _ _ (I.tab_ne ha m) e⟩
theorem Le.trans {W W' W'' : Wd} (h : Le W W') (k : Le W' W'') : Le W W'' := ⟨fun a o e => k.fz a o (h.fz a o e), fun i a e => k.tk i a (h.tk i a e)⟩
theorem comp_store {v : V} {u : Value} {a : Addr} {o : Obj} {en : En} {Q : Unit → Shared → Prop} (I : J X W s) (R : EnvR X.G W ks ((nm x, en) :: E) cenv) (ok : okN x) (hp : Place W ks cenv x a) (ho : W.rl a = some (.hd o))
    (hne : ∀ y, okN y → y ≠ x → cenv.cells.lookup y = some a → look (nm y) ks ≠ some .cell ∧ look (nm y) ks ≠ some .free) (hv : Rel X.G W v u)
    (P : ∀ W' s', Mv a W W' → (∃ o, W'.rl a = some (.hd o)) → J X W' s' → EnvR X.G W' ks ((nm x, .val v) :: E) cenv → Q () s') : Do X (storeName cenv x u) Q s := by
  have hx : isVar (look (nm x) ks) = true := by rcases hp.1 with h | h <;> rw [h.1] <;> rfl
  have eE : ∀ (en : En), lookE (nm x) ((nm x, en) :: E) = en := fun en => by
    show (bif Nat.beq (nm x) (nm x) then en else _) = _
    rw [Nat.beq_refl]; rfl
  refine store_slot I R hp (R.ent x ok hx).some hne ok fun r o' h' tk h1 _ I' hs hx' => ?_
  have e := Option.some.inj (h1.symm.trans ho)
  subst e
  have M : Mv a W (W.upd a ((Role.hd o).with o')) := Mv.upd
  refine P _ _ M ⟨o', Wd.upd_self⟩ I' ⟨R.kind, R.glob, R.blt, R.kinds, fun y hy hv' => ?_, R.tr, R.ac⟩
  by_cases e : y = x
  · subst e
    rw [eE]
    exact ⟨u, hx', hv.le (M.le ho)⟩
  · have e2 : ∀ (en : En), lookE (nm y) ((nm x, en) :: E) = lookE (nm y) E := fun en => by
      show (bif Nat.beq (nm x) (nm y) then en else lookE (nm y) E) = _
      rw [beqN_false fun q => e (nm_inj hy ok q.symm)]; rfl
    have z := R.ent y hy hv'
    rw [e2] at z ⊢
    exact z.mono (M.le ho) (fun sv => hs y sv hy e) fun _ _ _ _ h => mv_fr M ho h
def testF (env : Env) (c : PySem.Expr) (r : Bool) : Sem (ForInStep Bool) := if r = true then do let ok ← isTrue c env (eval c env); pure (ForInStep.yield ok) else pure (ForInStep.yield r)
theorem tests_sound (S : Snd X kv) {ifs : List PySem.Expr} {k : Bool → Prop} {Q : Bool → Shared → Prop} (I : J X W s) (R : EnvR X.G W ks E env) (hl : Nat.blt ifs.length 2 = true) (h : tAllW kv ks ifs E k) (P : PT X W k Q) : Do X (forIn ifs true (testF env)) Q s := by
  cases ifs with
  | nil => exact wpAny_tests_nil (P _ h W s (Ex.refl W) I)
  | cons c ifs =>
    cases ifs with
    | nil =>
      exact wpAny_tests_one (S.t I R h fun b h => by
        cases b with
        | true => exact P _ h
        | false => exact P _ h)
    | cons d q => exact nomatch hl
structure Turn (X : Cx) (kv : KEv) (W₀ : Wd) (ks : Ks) (E : VEnv) (cenv : Env) (x : Str) (px : Pos) (ifs : List PySem.Expr) (elt : PySem.Expr) (K : List V → Prop) (D it a : Addr) (m : Nat) (s₁ : Shared) : Prop where
  ex : ∃ W₁ l acc us n o q en, l.length = m ∧ J X W₁ s₁ ∧ Ex W₀ W₁ ∧ W₁.rl D = some (.hd (seqO "list" us n)) ∧ W₁.rl it = some (.hd o) ∧ W₁.rl a = some (.hd q) ∧ (∃ oL, W₁.rl cenv.locals = some (.hd oL)) ∧ IterO X.G W₁ W₀.on false l o ∧ EnvR X.G W₁ ks ((nm x, en) :: E) cenv ∧ Place W₁ ks cenv x a ∧
    Rels X.G W₁ acc us ∧ acc.length + l.length < 4000 ∧ compLoopW kv ks (.Name x px) ifs elt E l acc K
structure CompC (W₀ : Wd) (ks : Ks) (cenv : Env) (x : Str) (D it a : Addr) : Prop where
  ok : okN x
  dD : W₀.rl D = none
  dI : W₀.rl it = none
  dA : W₀.rl a = none
  ni : D ≠ it
  na : D ≠ a
  ia : it ≠ a
  lI : cenv.locals ≠ it
  lD : cenv.locals ≠ D
  ne : ∀ y, okN y → y ≠ x → cenv.cells.lookup y = some a → look (nm y) ks ≠ some .cell ∧ look (nm y) ks ≠ some .free
  hl : kSt ks x = true
theorem Ex.mv {W W' W'' : Wd} {a : Addr} (h : Ex W W') (ha : W.rl a = none) (M : Mv a W' W'') : Ex W W'' := ⟨fun b r e => M.rl b r (fun z => nomatch ha.symm.trans ((congrArg W.rl z).symm.trans e)) (h.rl b r e), M.tk.trans h.tk⟩
def TurnG (X : Cx) (env : Env) (elt : PySem.Expr) (D : Addr) (N : Value → Shared → Prop) (G : Shared → Prop) (ok : Bool) (s₃ : Shared) : Prop :=
  if ok = true then wpAny X.G.M X.A (eval elt env) (fun xv s₄ => wpAny X.G.M X.A (call (.builtin "list.append") [.ref D, xv]) (fun _ s₅ => G s₅) N s₄) N s₃ else G s₃
theorem Do.any {α : Type} {t : Sem α} {Q : α → Shared → Prop} {N : Value → Shared → Prop} (h : Do X t Q s) : wpAny X.G.M X.A t Q N s := wpAny_mono h (fun _ _ q => q) fun _ _ q => q.elim
theorem turn_sound (S : Snd X kv) (hh : X.A.handled = none) {W₀ : Wd} {px : Pos} {ifs : List PySem.Expr} {elt : PySem.Expr} {K : List V → Prop} {D it a : Addr} (C : CompC W₀ ks cenv x D it a) (hl : Nat.blt ifs.length 2 = true) {N : Value → Shared → Prop} {RR : Shared → Prop} {m : Nat}
    (P : ∀ vs, K vs → ∀ W₁ us n s', J X W₁ s' → Ex W₀ W₁ → W₁.rl D = some (.hd (seqO "list" us n)) → (∃ en, EnvR X.G W₁ ks ((nm x, en) :: E) cenv) → Rels X.G W₁ vs us → (∃ q, W₁.rl cenv.locals = some (.hd q)) → RR s')
    (T : Turn X kv W₀ ks E cenv x px ifs elt K D it a m s) :
    wpAny X.G.M X.A (pyNext (.ref it)) (fun r s₁ => match r with
      | none => RR s₁
      | some v => wpAny X.G.M X.A (assign (.Name x px) cenv v) (fun _ s₂ => wpAny X.G.M X.A (forIn ifs true (testF cenv)) (TurnG X cenv elt D N fun s₅ => ∃ m', m' < m ∧ Turn X kv W₀ ks E cenv x px ifs elt K D it a m' s₅) N s₂) N s₁) N s := by
  obtain ⟨W₁, l, acc, us, n, o, q, en, hm, I, X0, hD, hi, ha, ⟨oL, hL⟩, H, R, hp, hr, hz, h⟩ := T
  have hg : ∀ b ob, W₀.on b ob → s.heap.get? b = some ob := fun b ob z => I.on (ex_on X0 z)
  cases l with
  | nil =>
    refine Do.any (next_nil (K := fun v s₁ => wpAny X.G.M X.A (assign (.Name x px) cenv v) _ N s₁) hh I hi hg H fun h' hs => ?_)
    have M : Mv it W₁ (W₁.del it) := Wd.mv_del
    exact P acc h _ us n _ (I.del hs) (X0.mv C.dI M) (M.rl _ _ C.ni hD) ⟨en, R.mv M hi H.flat⟩ (Rels.le (M.le hi) hr) ⟨oL, M.rl _ _ C.lI hL⟩
  | cons v l =>
    have hpush : pushT ks (.Name x px) v E = some ((nm x, .val v) :: E) := by
      show (bif kSt ks x then some ((nm x, En.val v) :: E) else none) = _
      rw [C.hl]; rfl
    refine optW_e h fun e1 e h => ?_
    rw [← Option.some.inj (hpush.symm.trans e)] at h
    refine Do.any (next_cons (tt := false) I hi hg H (K := fun v s₁ => wpAny X.G.M X.A (assign (.Name x px) cenv v) _ N s₁) ⟨fun _ _ _ _ _ _ _ q => q, fun q => nomatch q⟩ fun u W₂ s₂ o' I₂ M hi' H' hv => ?_)
    refine wpAny_assign_Name (Do.any (comp_store I₂ (R.mv M hi H.flat) C.ok ⟨hp.1, _, M.rl _ _ (Ne.symm C.ia) ha, rfl⟩ (M.rl _ _ (Ne.symm C.ia) ha) C.ne hv fun W₃ s₃ M₃ hq I₃ R₃ => ?_))
    have X3 := (X0.mv C.dI M).mv C.dA M₃
    have hD₃ := M₃.rl _ _ C.na (M.rl _ _ C.ni hD)
    have hi₃ := M₃.rl _ _ C.ia hi'
    have L₃ := (M.le hi).trans (M₃.le (M.rl _ _ (Ne.symm C.ia) ha))
    have pl : ∀ {W' : Wd} {q' : Obj}, W'.rl a = some (.hd q') → Place W' ks cenv x a := fun e => ⟨hp.1, _, e, rfl⟩
    obtain ⟨q₃, ha₃⟩ := hq
    have hL₃ : ∃ oL, W₃.rl cenv.locals = some (.hd oL) := by
      by_cases e : cenv.locals = a
      · exact ⟨q₃, e ▸ ha₃⟩
      · exact ⟨oL, M₃.rl _ _ e (M.rl _ _ C.lI hL)⟩
    refine Do.any (tests_sound S I₃ R₃ hl h fun b h W₄ s₄ X₄ I₄ => ?_)
    cases b with
    | false =>
      rw [TurnG, if_neg Bool.false_ne_true]
      refine ⟨l.length, hm ▸ Nat.lt_succ_self _, W₄, l, acc, us, n, o', q₃, .val v, rfl, I₄, X3.trans X₄, X₄.rl _ _ hD₃, X₄.rl _ _ hi₃, X₄.rl _ _ ha₃, hL₃.imp fun _ => X₄.rl _ _, H'.mono ((M₃.le (M.rl _ _ (Ne.symm C.ia) ha)).trans X₄.le) fun _ _ z => z, R₃.ex X₄, pl (X₄.rl _ _ ha₃), Rels.le (L₃.trans X₄.le) hr, Nat.lt_of_succ_lt hz, h⟩
    | true =>
      rw [TurnG, if_pos rfl]
      refine Do.any (S.e I₄ (R₃.ex X₄) h fun y h u' W₅ s₅ X₅ I₅ hy => ?_)
      have XX := X₄.trans X₅
      have hD₅ := XX.rl _ _ hD₃
      have hu5 := Rels.le (L₃.trans XX.le) hr
      refine wpAny_list_append_plain ⟨n, I₅.rl _ _ hD₅⟩ (fun h' hL' hs => ?_) (by rw [List.size_toArray, hu5.len, sizeLine_eq]; omega)
      obtain ⟨n', hL'⟩ := hL'
      rw [List.push_toArray] at hL'
      have M₆ : Mv D W₅ (W₅.upd D (.hd (seqO "list" (us ++ [u']) n'))) := Mv.upd
      refine ⟨l.length, hm ▸ Nat.lt_succ_self _, _, l, acc ++ [y], us ++ [u'], n', o', q₃, .val v, rfl, I₅.set (.hd (seqO "list" (us ++ [u']) n')) hD₅ (fun _ z => nomatch z) hs.extBut hL', (X3.trans XX).mv C.dD M₆, Wd.upd_self, M₆.rl _ _ (Ne.symm C.ni) (XX.rl _ _ hi₃), M₆.rl _ _ (Ne.symm C.na) (XX.rl _ _ ha₃), hL₃.imp fun _ e => M₆.rl _ _ C.lD (XX.rl _ _ e),
        H'.mono (((M₃.le (M.rl _ _ (Ne.symm C.ia) ha)).trans XX.le).trans (M₆.le hD₅)) fun _ _ z => z, ((R₃.ex XX).mv M₆ hD₅ rfl), pl (M₆.rl _ _ (Ne.symm C.na) (XX.rl _ _ ha₃)), Rels.le (M₆.le hD₅) (All2.app (All2.one hy) hu5), ?_, h⟩
      rw [List.length_append, List.length_singleton]
      rw [List.length_cons] at hz; omega
structure Comped (X : Cx) (W W₁ : Wd) (D C : Addr) (us : List Value) (n : Nat) (vs : List V) : Prop where
  ex : Ex W W₁
  nd : W.rl D = none
  d : W₁.rl D = some (.hd (seqO "list" us n))
  r : Rels X.G W₁ vs us
  nc : W.rl C = none
  c : ∃ o m, W₁.rl C = some (.hd o) ∧ NsO o m
  sys : D ≠ sysModules
theorem nameX_i {e : PySem.Expr} {r : Str × Pos} (h : nameX e = some r) : e = .Name r.1 r.2 := sub_i (p := fun r : Str × Pos => e = .Name r.1 r.2) h
theorem sliceX_i {e : PySem.Expr} {r : Option PySem.Expr × Option PySem.Expr × Pos} (h : sliceX e = some r) : e = .Slice r.1 r.2.1 none r.2.2 := sub_i (p := fun r : Option PySem.Expr × Option PySem.Expr × Pos => e = .Slice r.1 r.2.1 none r.2.2) h
theorem okX_e {e : PySem.Expr} {P : PySem.Expr → Prop} (h : okX e = true) (c : ∀ x p, okN x → P (.Name x p)) : P e := by
  unfold okX at h
  cases q : nameX e with
  | none => rw [q] at h; exact ff_i h
  | some x => rw [q] at h; exact nameX_i q ▸ c x.1 x.2 (okB_i h)
theorem noSet_fold {it : PySem.Expr} (h : noSet it = true) (x : Value) : foldedSetIterable it env x = pure x := by
  cases it <;> first | rfl | exact none_i h | exact ff_i h | exact nomatch h
theorem clo_sound (R : EnvR X.G W ks E env) (h1 : scOk sc = true) (h7 : (kindsOf sc).all (kindFit ks (nm x)) = true) : ∃ clo, closureFor sc env = pure clo ∧ ∀ y, clo.lookup y = if (y, NameKind.free) ∈ sc.names then env.cells.lookup y else none := by
  obtain ⟨clo, e1, e2⟩ := closure_fold (env := env) sc.names [] fun y m => by
    refine isFar_e (show isFar (look (nm y) ks) = true from List.all_eq_true.mp h7 (nm y, .free) (List.mem_map.mpr ⟨_, m, rfl⟩)) fun far => ?_
    obtain ⟨sv, k⟩ := (R.ent y (scOk_iff h1 _ m) (by rcases far with f | f <;> rw [f] <;> rfl)).some
    obtain ⟨c, _, q, _⟩ := slot_far far k
    exact ⟨c, q⟩
  exact ⟨clo, (congrArg (· >>= fun cs => pure cs) e1).trans rfl, e2⟩
theorem self_iter {it : Addr} {o : Obj} {l : List V} {g : Addr → Obj → Prop} {N : Value → Shared → Prop} {Q : Value → Shared → Prop} (I : J X W s) (hi : W.rl it = some (.hd o)) (H : IterO X.G W g false l o) (hQ : Q (.ref it) s) : wpAny X.G.M X.A (pyIter (.ref it)) Q N s := by
  have ho := I.rl _ _ hi
  cases H with
  | lit _ _ _ _ _ _ _ _ h1 h2 => exact wpAny_pyIter_listiter ⟨_, ho, h1, h2⟩ hQ
  | tit _ _ _ _ _ _ _ _ h1 h2 => exact wpAny_pyIter_tupleiter ⟨_, ho, h1, h2⟩ hQ
  | up => exact wpAny_pyIter_rangeiter ho hQ
  | down => exact wpAny_pyIter_rangeiter ho hQ
  | dit _ _ _ _ _ _ _ _ _ h => first | exact none_i h | exact ff_i h | exact nomatch h
theorem ne_none {a b : Addr} {r : Role} (h : W.rl a = none) (k : W.rl b = some r) : a ≠ b := fun e => nomatch h.symm.trans ((congrArg W.rl e).trans k)
theorem comp_go (S : Snd X kv) (F : Fx X cl) {elt it : PySem.Expr} {px p : Pos} {ifs : List PySem.Expr} {K : List V → Prop} {use : Option (Value → Sem Unit)} {Q : Value → Shared → Prop} {W₂ : Wd} {l : List V} {ia : Addr} {o : Obj} {clo : List (Str × Addr)} (X2 : Ex W W₂) (nI : W.rl ia = none) (I : J X W₂ s) (hi : W₂.rl ia = some (.hd o))
    (H : IterO X.G W₂ (fun a o => W₂.on a o ∧ a ≠ ia) false l o) (hl : l.length < 4000) (R : EnvR X.G W₂ ks E env) (c1 : scOk sc = true) (c3 : isFn sc = true) (c4 : localsOk (kindsOf sc) = true) (c5 : Nat.blt ifs.length 2 = true) (c7 : isSt (look (nm x) (kindsOf sc)) = true) (c8 : isLocK (look (N ".0") (kindsOf sc)) = true)
    (c10 : (kindsOf sc).all (kindFit ks (nm x)) = true) (ok : okN x) (hc : ∀ y, clo.lookup y = if (y, NameKind.free) ∈ sc.names then env.cells.lookup y else none) (h : compLoopW kv (relabK (kindsOf sc) ks) (.Name x px) ifs elt ((N ".0", .no) :: E) l [] K)
    (P : ∀ vs, K vs → ∀ D C us n W₁ s', J X W₁ s' → Comped X W W₁ D C us n vs → compPost X.G.M X.A (fun _ _ => False) use Q (.ref D) C (.ok .next) s') :
    Do X (newList []) (fun acc s₃ => Do X (newFunctionEnv sc env.globals clo [] env.qual none .none (some env)) (fun cenv s₄ => codeAny X.G.M X.A (.compStart (.ListComp elt [⟨.Name x px, it, ifs, 0⟩] sc p) 0 (.ref ia) acc { cenv with scope := relabel sc env }) (compPost X.G.M X.A (fun _ _ => False) use Q acc cenv.locals) s₄) s₃) s := by
  refine wpAny_newList ?_ (Nat.zero_le _)
  have X3 := Ex.upd (r := .hd (seqO "list" [] 0)) I.new
  refine compEnv_sound (I.push (.hd (seqO "list" [] 0)) rfl rfl s.toks) (R.ex X3) ok c1 c3 c4 c7 c8 c10 hc fun cenv W₄ s₄ X4 I₄ CE => ?_
  obtain ⟨a, na, pl, oa, ha⟩ := CE.pl
  obtain ⟨nL, oL, m, hL, hN⟩ := CE.loc
  have X04 : Ex (W₂.del ia) W₄ := ⟨fun b r e => Wd.del_e e fun _ e => X4.rl _ _ (X3.rl _ _ e), X4.tk.trans X3.tk⟩
  have nd : ∀ {b : Addr}, W₂.rl b = none → (W₂.del ia).rl b = none := fun {b} e => by
    show (if b = ia then none else W₂.rl b) = none
    rw [e]; exact ite_self _
  have hD : W₄.rl s.heap.objs.size = some (.hd (seqO "list" [] 0)) := X4.rl _ _ Wd.upd_self
  have hI := X4.rl _ _ (X3.rl _ _ hi)
  have kx : kSt (relabK (kindsOf sc) ks) x = true := by
    have e1 : okB x = true := okB_iff.mpr ok
    have e2 : isSt (look (nm x) (relabK (kindsOf sc) ks)) = true := by rcases pl.1 with e | e <;> rw [e.1] <;> rfl
    unfold kSt
    rw [e1, e2]; rfl
  have C : CompC (W₂.del ia) (relabK (kindsOf sc) ks) { cenv with scope := relabel sc env } x s.heap.objs.size ia a :=
    ⟨ok, nd I.new, if_pos rfl, nd (none_of X3 na), (fun e => absurd (e ▸ I.lt hi) (Nat.lt_irrefl _)), (ne_none na Wd.upd_self).symm, (ne_none na (X3.rl _ _ hi)).symm,
      ne_none nL (X3.rl _ _ hi), ne_none nL Wd.upd_self, fun y => CE.ne a y na, kx⟩
  have H4 : IterO X.G W₄ (W₂.del ia).on false l o := H.mono (X3.le.trans X4.le) fun b ob z => ⟨z.1.1.imp fun r q => q.imp (fun e => (if_neg z.2).trans e) id, z.1.2⟩
  have T : Turn X kv (W₂.del ia) (relabK (kindsOf sc) ks) ((N ".0", .no) :: E) { cenv with scope := relabel sc env } x px ifs elt K s.heap.objs.size ia a l.length s₄ :=
    ⟨W₄, l, [], [], 0, o, oa, .no, rfl, I₄, X04, hD, hI, ha, ⟨oL, hL⟩, H4, CE.r, pl, rfl, by rw [List.length_nil, Nat.zero_add]; exact hl, h⟩
  have hloop : codeAny X.G.M X.A (.compLoop (.ListComp elt [⟨.Name x px, it, ifs, 0⟩] sc p) 0 (.ref ia) (.ref s.heap.objs.size) { cenv with scope := relabel sc env }) (compPost X.G.M X.A (fun _ _ => False) use Q (.ref s.heap.objs.size) cenv.locals) s₄ :=
    codeAny_compLoop_tests (Turn X kv (W₂.del ia) (relabK (kindsOf sc) ks) ((N ".0", .no) :: E) { cenv with scope := relabel sc env } x px ifs elt K s.heap.objs.size ia a) (fun m s₁ hT => turn_sound S F.hh C c5 (fun vs hk W₁ us n s' I' X' hD' R' hr' hL' => P vs hk _ _ us n W₁ s' I' ⟨?_, ?_, hD', hr', ?_, ?_, I.ne_sys⟩) hT) _ T
  · exact codeAny_compStart_list hloop (self_iter I₄ hI H4 hloop)
  · exact ⟨fun b r e => X'.rl _ _ ((if_neg fun z => nomatch nI.symm.trans ((congrArg W.rl z).symm.trans e)).trans (X2.rl _ _ e)), X'.tk.trans X2.tk⟩
  · exact none_of X2 I.new
  · exact none_of (X2.trans X3) nL
  · obtain ⟨en, R'⟩ := R'
    obtain ⟨q, hq⟩ := hL'
    have l0 : look (nm (Str.ofString ".0")) (relabK (kindsOf sc) ks) = some .local := relab_some (isLocK_i c8)
    obtain ⟨sv, k⟩ := (R'.ent (Str.ofString ".0") (okB_i (by decide +kernel)) (by rw [l0]; rfl)).some
    refine slot_e k (fun _ k => ?_) fun e => by rw [l0] at e; rcases e with e | e <;> exact nomatch e
    obtain ⟨r, m, k1, k2, _⟩ := k
    have e := Option.some.inj (k1.symm.trans hq)
    subst e
    exact ⟨q, m, hq, k2⟩
end
end Mine
end
section
open PySem PySem.W PyProof.Rows
set_option maxRecDepth 100000
set_option genInjectivity false
set_option genSizeOf false
set_option backward.match.sparseCases false
namespace Mine
def EvIs (e : PySem.Expr) (v : EV) : Prop := match v with
  | .const c k p => e = .Constant c k p
  | .name x p => e = .Name x p
  | .bin l op r p => e = .BinOp l op r p
  | .cmp l op r p => e = .Compare l [op] [r] p
  | .and es p => e = .BoolOp .And es p
  | .or es p => e = .BoolOp .Or es p
  | .not x p => e = .UnaryOp .Not x p
  | .neg x p => e = .UnaryOp .USub x p
  | .ite t b o p => e = .IfExp t b o p
  | .tup es k p => e = .Tuple es k p
  | .lst es p => e = .List es p
  | .dct0 p => e = .Dict [] [] p
  | .dct1 k x p => e = .Dict [some k] [x] p
  | .slc o lo hi p q => e = .Subscript o (.Slice lo hi none p) q
  | .sub o i p => e = .Subscript o i p ∧ sliceX i = none
  | .attr o op n p => e = .Attribute (.Name o op) n p
  | .meth o n ap as p => e = .Call (.Attribute o n ap) as [] p
  | .call f fp as p => e = .Call (.Name f fp) as [] p
  | .comp elt tgt it ifs sc p => e = .ListComp elt [⟨tgt, it, ifs, 0⟩] sc p
  | .fstr es p => e = .JoinedStr es p
  | .bad => True
theorem vCmp_is (l : PySem.Expr) (ops : List CmpOp) (rs : List PySem.Expr) (p : Pos) : EvIs (.Compare l ops rs p) (vCmp l ops rs p) := by
  rcases ops with _ | ⟨a, _ | ⟨_, _⟩⟩ <;> rcases rs with _ | ⟨b, _ | ⟨_, _⟩⟩ <;> first | exact rfl | exact trivial
theorem vDict_is (ks : List (Option PySem.Expr)) (vs : List PySem.Expr) (p : Pos) : EvIs (.Dict ks vs p) (vDict ks vs p) := by
  rcases ks with _ | ⟨a, _ | ⟨_, _⟩⟩ <;> rcases vs with _ | ⟨b, _ | ⟨_, _⟩⟩ <;> first | exact rfl | exact trivial | (cases a <;> first | exact rfl | exact trivial)
theorem vSub_is (o i : PySem.Expr) (p : Pos) : EvIs (.Subscript o i p) (vSub o i p) := by
  unfold vSub
  cases h : sliceX i with
  | none => exact ⟨rfl, h⟩
  | some x => exact congrArg (fun i => PySem.Expr.Subscript o i p) (sliceX_i h)
theorem vCall_is (f : PySem.Expr) (as : List PySem.Expr) (kw : List Keyword) (p : Pos) : EvIs (.Call f as kw p) (vCall f as kw p) := by
  cases kw with
  | nil => cases f <;> first | exact rfl | exact trivial
  | cons k kw => exact trivial
theorem vComp_is (elt : PySem.Expr) (gs : List Comprehension) (sc : Scope) (p : Pos) : EvIs (.ListComp elt gs sc p) (vComp elt gs sc p) := by
  rcases gs with _ | ⟨⟨t, i, f, a⟩, _ | ⟨_, _⟩⟩
  · exact trivial
  · rcases a with (_ | _) | _ <;> first | exact rfl | exact trivial
  · rcases a with (_ | _) | _ <;> exact trivial
theorem attr_is (o : PySem.Expr) (n : Str) (p : Pos) : EvIs (.Attribute o n p) (view (.Attribute o n p)) := by
  show EvIs _ (match nameX o with
    | some x => EV.attr x.1 x.2 n p
    | none => .bad)
  cases h : nameX o with
  | none => exact trivial
  | some x => exact congrArg (fun o => PySem.Expr.Attribute o n p) (nameX_i h)
theorem view_is (e : PySem.Expr) : EvIs e (view e) := by
  cases e with
  | Compare l ops rs p => exact vCmp_is l ops rs p
  | BoolOp op es p => cases op <;> exact rfl
  | UnaryOp op e p => cases op <;> first | exact rfl | exact trivial
  | Dict ks vs p => exact vDict_is ks vs p
  | Subscript o i p => exact vSub_is o i p
  | Attribute o n p => exact attr_is o n p
  | Call f as kw p => exact vCall_is f as kw p
  | ListComp elt gs sc p => exact vComp_is elt gs sc p
  | _ => first | exact rfl | exact trivial
section
variable {X : Cx} {cl : Cl} {kv : KEv} {W W' : Wd} {s : Shared} {env : Env} {ks : Ks} {E : VEnv} {Q : Value → Shared → Prop} {k : V → Prop} {kb : Bool → Prop} {pos : Pos}
abbrev PO (X : Cx) (W : Wd) (k : V → Prop) (Q : Value → Shared → Prop) : Prop := ∀ v, k v → ∀ u W' s', Ex W W' → J X W' s' → RelO X.G W' v u → Q u s'
theorem own_o {x : Str} {en : En} (h : EntR X.G W (Slot W ks env) x en) (q : enW en k) {P : Prop} (c : ∀ v u, k v → Slot W ks env x (some u) → RelO X.G W v u → P) : P := by
  cases en with
  | val v => exact h.elim fun u h => c v u q h.1 h.2.o
  | ml l =>
    obtain ⟨a, vs, h1, ⟨h2, n, h3⟩, h4⟩ := h
    exact c (.lst l) (.ref a) q h1 ⟨a, vs, n, rfl, ⟨⟨_, h3, rfl⟩, h2⟩, h4⟩
  | md ks vs =>
    obtain ⟨a, o, kvs, h1, h2, h3, h4, h5, h6⟩ := h
    exact c (.dct ks vs) (.ref a) q h1 ⟨a, o, kvs, rfl, ⟨⟨_, h3, rfl⟩, h2⟩, h4, h5, h6⟩
  | _ => exact q.elim
theorem ent_o {x : Str} {P : Prop} (R : EnvR X.G W ks E env) (h : enW (entOf ks x E) k) (c : ∀ v u, k v → nameFine x = true → Slot W ks env x (some u) → RelO X.G W v u → P) : P :=
  entOf_e (ks := ks) (x := x) (E := E) rfl (fun q => by rw [q] at h; exact h) fun h1 h2 h3 => own_o (R.ent x (fine_ok h1) h2) (h3.symm ▸ h) fun v u q => c v u q h1
theorem name_o {x : Str} {p : Pos} (I : J X W s) (R : EnvR X.G W ks E env) (h : enW (entOf ks x E) k) (P : PO X W k Q) : Do X (eval (.Name x p) env) Q s :=
  ent_o R h fun v u q hf hs hr => wpAny_Name (load_slot I R hf hs (P v q u W s (Ex.refl W) I hr)) (fine_ne hf).1
theorem cw_sound (S : Snd X kv) {e : PySem.Expr} (I : J X W s) (R : EnvR X.G W ks E env) (h : cW kv ks e E k) (P : PO X W k Q) : Do X (eval e env) Q s := by
  have h : (match nameX e with
    | some x => enW (entOf ks x.1 E) k
    | none => kv.e ks e E k) := h
  cases e1 : nameX e with
  | none =>
    rw [e1] at h
    exact S.e I R h fun v q u W' s' a b c => P v q u W' s' a b c.o
  | some x =>
    rw [e1] at h
    rw [nameX_i e1]
    exact name_o I R h P
theorem ent_v {x : Str} {P : Prop} (R : EnvR X.G W ks E env) (h : optW (enV (entOf ks x E)) k) (c : ∀ v u, k v → nameFine x = true → Slot W ks env x (some u) → Rel X.G W v u → P) : P := by
  cases e : entOf ks x E with
  | val v =>
    rw [e] at h
    exact entOf_e e En.noConfusion fun h1 h2 h3 => by
      have z := R.ent x (fine_ok h1) h2
      rw [h3] at z
      exact z.elim fun u z => c v u h h1 z.1 z.2
  | _ => rw [e] at h; exact h.elim
theorem name_v {x : Str} {p : Pos} (I : J X W s) (R : EnvR X.G W ks E env) (h : optW (enV (entOf ks x E)) k) (P : PK X W k Q) : Do X (eval (.Name x p) env) Q s :=
  ent_v R h fun v u q hf hs hr => wpAny_Name (load_slot I R hf hs (P v q u W s (Ex.refl W) I hr)) (fine_ne hf).1
theorem const_e {c : Const} {n : Nat} (I : J X W s) (h : optW (constV c) k) (P : PK X W k Q) : Do X (eval (.Constant c n pos) env) Q s := by
  cases c with
  | int i => exact wpAny_Constant_int ((P _ h).tok I (rInt _ _) _)
  | str x => exact Calls.Constant_str ((P _ h).tok I (rStr _ _) _)
  | bool b => exact wpAny_Constant_bool ((P _ h).same I (rBool _))
  | _ => exact h.elim
theorem PB.aft (P : PB X W kb Q) (h : Ex W W') : PB X W' kb Q := fun b hb => (P b hb).aft h
theorem two_e (S : Snd X kv) {a b : PySem.Expr} {f : V → V → Prop} {T : Value → Value → Sem Value} (I : J X W s) (R : EnvR X.G W ks E env) (h : kv.e ks a E fun x => kv.e ks b E fun y => f x y)
    (c : ∀ x y u w W' s', Ex W W' → J X W' s' → Rel X.G W' x u → Rel X.G W' y w → f x y → Do X (T u w) Q s') : Do X (eval a env) (fun u s₁ => Do X (eval b env) (fun w s₂ => Do X (T u w) Q s₂) s₁) s :=
  S.e I R h fun x h u _ _ X₁ I₁ hu => S.e I₁ (R.ex X₁) h fun y h w _ _ X₂ I₂ hw => c x y u w _ _ (X₁.trans X₂) I₂ (hu.le X₂.le) hw h
theorem bin_e (S : Snd X kv) {l r : PySem.Expr} {op : Operator} (I : J X W s) (R : EnvR X.G W ks E env) (h : kv.e ks l E fun x => kv.e ks r E fun y => binW op x y k) (P : PK X W k Q) : Do X (eval (.BinOp l op r pos) env) Q s :=
  wpAny_BinOp (two_e S I R h fun _ _ _ _ _ _ X₁ I₁ hu hw h => bin_sound I₁ h hu.o hw.o (PK.aft P X₁))
theorem eq_nil {l : List V} {a b : Addr} {vs : List Value} {n m : Nat} (hu : X.A.units < cLine) (I : J X W s) (h1 : s.heap.get? a = some (seqO "list" vs n)) (h2 : Rels X.G W l vs) (h3 : s.heap.get? b = some (seqO "list" [] m)) (P : Post X W (.bool l.isEmpty) Q) : Do X (compareOp .Eq (.ref a) (.ref b)) Q s := by
  cases l with
  | nil =>
    rw [show vs = [] from h2] at h1
    exact SeqAt.eq_listAt (e := fun _ => true) (listO h1) (listO h3) rfl hu (fun _ j => absurd j (Nat.not_lt_zero _)) (P.bool I rfl)
  | cons x l =>
    obtain ⟨u, r, rfl, _⟩ := h2
    exact SeqAt.eq_list_lengthsAt (listO h1) (listO h3) rfl hu (P.bool I rfl)
theorem isNil_e {r : PySem.Expr} {P : PySem.Expr → Prop} (h : isNil r = true) (c : ∀ p, P (.List [] p)) : P r := by
  unfold isNil at h
  cases e : nilS r with
  | none => rw [e] at h; exact ff_i h
  | some x => exact x.2 ▸ c x.1
theorem nilL {p : Pos} {Q : Value → Shared → Prop} (I : J X W s) (h : ∀ W' s', Ex W W' → J X W' s' → W'.fz s.heap.objs.size (seqO "list" [] 0) → Q (.ref s.heap.objs.size) s') : Do X (eval (.List [] p) env) Q s :=
  wpAny_List (Calls.spliced_nil ⟨Nat.zero_le _, h _ _ (Ex.upd I.new) (I.push (o := seqO "list" [] 0) (.fz _) rfl rfl s.toks) ⟨Wd.upd_self, I.ne_sys⟩⟩)
theorem lst_rel {x : V} {u : Value} {f : List V → Prop} {P : Prop} (hx : RelO X.G W x u) (h : optW (lstOf x) f) (c : ∀ l a vs n, u = .ref a → W.on a (seqO "list" vs n) → Rels X.G W l vs → f l → P) : P := by
  cases x with
  | lst l => obtain ⟨a, vs, n, e, h1, h2⟩ := hx; exact c l a vs n e h1 h2 h
  | _ => exact h.elim
theorem comp2_sound (S : Snd X kv) (F : Fx X cl) {l r : PySem.Expr} {op : CmpOp} (I : J X W s) (R : EnvR X.G W ks E env) (h : comp2W kv ks l op r E kb) (P : PB X W kb Q) :
    behindInMarks op r = false ∧ Do X (eval l env) (fun a s₁ => Do X (eval r env) (fun b s₂ => Do X (compareOp op a b) Q s₂) s₁) s := by
  refine gn_e h fun hb h => ⟨hb, br_e h (fun hn h => ?_) fun _ h => br_e h (fun hi h => ?_) fun _ h => ?_⟩
  · refine isNil_e (P := fun r => Do X (eval l env) (fun a s₁ => Do X (eval r env) (fun b s₂ => Do X (compareOp op a b) Q s₂) s₁) s) hn fun p => gd_e h fun he h => ?_
    cases op with
    | Eq => exact cw_sound S I R h fun v q u W₁ s₁ X₁ I₁ hu => lst_rel hu q fun l a vs n e h1 h2 q => e ▸ nilL I₁ fun W₂ s₂ X₂ I₂ h3 => eq_nil (Nat.lt_of_le_of_lt (Nat.le_add_right _ _) F.un) I₂ (I₂.on (ex_on X₂ h1)) (Rels.le X₂.le h2) (I₂.fz h3) ((P _ q).aft (X₁.trans X₂))
    | _ => exact nomatch he
  · cases op with
    | In => exact S.e I R h fun x h u W₁ s₁ X₁ I₁ hu => cw_sound S I₁ (R.ex X₁) h fun y h w W₂ s₂ X₂ I₂ hw => in_sound I₂ h (hu.le X₂.le).o hw (PB.aft P (X₁.trans X₂))
    | _ => exact nomatch hi
  · exact two_e S I R h fun _ _ _ _ _ _ X₁ I₁ hu hw h => cmp_sound F.un I₁ h hu hw (PB.aft P X₁)
theorem not_e (S : Snd X kv) {e : PySem.Expr} (I : J X W s) (R : EnvR X.G W ks E env) (h : kv.e ks e E fun v => truthW v fun b => k (.bool (!b))) (P : PK X W k Q) : Do X (eval (.UnaryOp .Not e pos) env) Q s :=
  wpAny_UnaryOp (S.e I R h fun x h u _ _ X₁ I₁ hu => not_value (truth_sound I₁ h hu.o fun b h _ _ X₂ I₂ => P _ h _ _ _ (X₁.trans X₂) I₂ (rBool _)))
theorem neg_e (S : Snd X kv) {e : PySem.Expr} (I : J X W s) (R : EnvR X.G W ks E env) (h : kv.e ks e E fun v => optW (intOf v) fun i => k (.int (-i))) (P : PK X W k Q) : Do X (eval (.UnaryOp .USub e pos) env) Q s :=
  wpAny_UnaryOp (S.e I R h fun x h u _ _ X₁ I₁ hu => int_e hu.o h fun i t h => PySem.P.neg_int (((P _ h).aft X₁).tok I₁ (rInt _ _) _))
theorem ite_e (S : Snd X kv) {t b o : PySem.Expr} (I : J X W s) (R : EnvR X.G W ks E env) (h : kv.t ks t E fun c => brW c (kv.e ks b E k) (kv.e ks o E k)) (P : PK X W k Q) : Do X (eval (.IfExp t b o pos) env) Q s :=
  wpAny_IfExp (S.t I R h fun c h _ _ X₁ I₁ => by
    cases c with
    | true => exact (if_pos rfl).symm ▸ S.e I₁ (R.ex X₁) h (PK.aft P X₁)
    | false => exact (if_neg Bool.false_ne_true).symm ▸ S.e I₁ (R.ex X₁) h (PK.aft P X₁))
theorem len_ok {n : Nat} (h : Nat.blt 65536 n = false) : n ≤ sizeLine := sizeLine_eq ▸ Nat.le_of_not_lt fun q => by rw [bltN.mpr (Nat.lt_of_lt_of_le (by decide) q)] at h; exact nomatch h
theorem tup_e' (S : Snd X kv) {es : List PySem.Expr} {n : Nat} (I : J X W s) (R : EnvR X.G W ks E env) (h : brW (Nat.blt 65536 es.length) False (evsN kv ks es E fun vs => k (.tup vs))) (P : PK X W k Q) : Do X (eval (.Tuple es n pos) env) Q s :=
  gn_e h fun hb h => gd_e h fun hs h => wpAny_Tuple (evs_sound S hs I R h fun l hl us _ _ X₁ I₁ hu => ⟨(hu.len.trans hl.2) ▸ len_ok hb, ((P _ hl.1).aft X₁).tuple I₁ hu _⟩)
theorem lst_e' (S : Snd X kv) {es : List PySem.Expr} (I : J X W s) (R : EnvR X.G W ks E env) (h : brW (Nat.blt 65536 es.length) False (evsN kv ks es E fun vs => k (.lst vs))) (P : PK X W k Q) : Do X (eval (.List es pos) env) Q s :=
  gn_e h fun hb h => gd_e h fun hs h => wpAny_List (evs_sound S hs I R h fun l hl us _ _ X₁ I₁ hu => ⟨(hu.len.trans hl.2) ▸ len_ok hb, ((P _ hl.1).aft X₁).list I₁ hu _⟩)
theorem newD (G : GI) : DictO G { cls := .type "dict", data := .dict #[] } [] := DictO.of (Heap.DictOf.new default) fun _ e h => Option.some.inj (e.symm.trans (Heap.get?_push_size _ rfl)) ▸ h
theorem dct0_e (I : J X W s) (h : k (.dct [] [])) (P : PK X W k Q) : Do X (eval (.Dict [] [] pos) env) Q s :=
  wpAny_Dict_empty ((P _ h).new I rfl (fun _ _ h => .mk ⟨_, _, [], rfl, h, newD _, rfl, rfl⟩) _)
theorem slc_e (S : Snd X kv) {o : PySem.Expr} {lo hi : Option PySem.Expr} {p : Pos} (I : J X W s) (R : EnvR X.G W ks E env) (h : kv.e ks o E fun v => evOW kv ks lo E fun lo => evOW kv ks hi E fun hi => sliceW v lo hi k) (P : PK X W k Q) :
    Do X (eval (.Subscript o (.Slice lo hi none p) pos) env) Q s :=
  Subscript_ (S.e I R h fun x h u _ _ X₁ I₁ hu => wpAny_Slice (part_sound S I₁ (R.ex X₁) h fun pl h _ _ X₂ I₂ => part_sound S I₂ (R.ex (X₁.trans X₂)) h fun ph h _ s₃ X₃ I₃ => wpAny_evalPart_none (by
    have X₄ := Ex.upd (r := .fz (slcO pl ph)) I₃.new
    exact slice_sound (I₃.push (o := slcO pl ph) (.fz _) rfl rfl s₃.toks) h (hu.le ((X₂.trans X₃).trans X₄).le).o (Heap.get?_push_size _ rfl) (PK.aft P (((X₁.trans X₂).trans X₃).trans X₄)))))
theorem RelO.ex {x : V} {u : Value} (h : Ex W W') (r : RelO X.G W x u) : RelO X.G W' x u := Top.mono h.le (fun _ _ z => ex_on h z) (fun _ _ r => r.le h.le) r
theorem sub_e (S : Snd X kv) {o i : PySem.Expr} (hs : sliceX i = none) (I : J X W s) (R : EnvR X.G W ks E env) (h : cW kv ks o E fun v => kv.e ks i E fun i => itemW v i k) (P : PK X W k Q) : Do X (eval (.Subscript o i pos) env) Q s :=
  Subscript_ (cw_sound S I R h fun x h u _ _ X₁ I₁ hu => S.e I₁ (R.ex X₁) h fun y h w _ _ X₂ I₂ hw => item_sound I₂ h (RelO.ex X₂ hu) hw.o hs (PK.aft P (X₁.trans X₂)))
theorem fstr_e (S : Snd X kv) {es : List PySem.Expr} (I : J X W s) (R : EnvR X.G W ks E env) (h : gd (!Nat.blt es.length 2) (fPartsW kv ks E es [] fun s => gd (sm s) (k (.str s)))) (P : PK X W k Q) : Do X (eval (.JoinedStr es pos) env) Q s := by
  refine gd_e h fun hb h => ?_
  cases es with
  | nil => exact nomatch hb
  | cons e1 r =>
    cases r with
    | nil => exact nomatch hb
    | cons e2 r => exact wpAny_JoinedStr (fParts_sound (acc := []) S I R h fun x h _ _ X₁ I₁ => gd_e h fun hl h => ⟨sizeLine_ge hl, ((P _ h).aft X₁).tok I₁ (rStr _ _) _⟩)
end
end Mine
end
section
open PySem PySem.W PyProof.Rows
set_option maxRecDepth 100000
set_option genInjectivity false
set_option genSizeOf false
set_option backward.match.sparseCases false
namespace Mine
section
variable {X : Cx} {cl : Cl} {kv : KEv} {W W' : Wd} {s : Shared} {env : Env} {ks : Ks} {E : VEnv} {Q : Value → Shared → Prop} {k : List V → Prop} {pos p : Pos} {c tt : Bool} {x : Str}
theorem name_bi {n : String} {v : Value} (O : GOk X.G) (I : J X W s) (R : EnvR X.G W ks E env) (hn : okB (Str.ofString n) = true) (hg : X.G.gval (Str.ofString n) = some v) (h : headN ks x = some (.bi (N n))) (hQ : Q v s) : Do X (eval (.Name x p) env) Q s :=
  wpAny_Name (load_bi O I R hn hg h hQ) (headN_e h fun hf _ _ => (fine_ne hf).1)
abbrev PL (X : Cx) (W : Wd) (c tt : Bool) (k : List V → Prop) (Q : Value → Shared → Prop) : Prop := ∀ l, k l → l.length < 4000 → PI X W c tt l Q
theorem PL.aft (P : PL X W c tt k Q) (h : Ex W W') : PL X W' c tt k Q := fun l q ql => (P l q ql).aft h
abbrev ItD (X : Cx) (e : PySem.Expr) (env : Env) (Q : Value → Shared → Prop) (s : Shared) : Prop := Do X (eval e env) (fun u s₁ => Do X (pyIter u) Q s₁) s
theorem val_iter (S : Snd X kv) {e : PySem.Expr} (I : J X W s) (R : EnvR X.G W ks E env) (h : kv.e ks e E fun v => seqW v k) (P : PL X W c tt k Q) : ItD X e env Q s :=
  S.e I R h fun _ h _ _ _ X₁ I₁ hu => seq_iter I₁ h hu (PL.aft P X₁)
theorem own_nil {l : List V} (h : (c || l.isEmpty) = true) (q : c = false) : l = [] := by rw [q] at h; exact List.isEmpty_iff.mp h
theorem name_iter (I : J X W s) (R : EnvR X.G W ks E env) (h : enI c (entOf ks x E) k) (P : PL X W c tt k Q) : ItD X (.Name x p) env Q s := by
  refine entOf_e (ks := ks) (x := x) (E := E) rfl (fun q => by rw [q] at h; exact h) fun h1 h2 h3 => ?_
  have z := R.ent x (fine_ok h1) h2
  rw [← h3] at h
  have ld : ∀ u, Slot W ks env x (some u) → Do X (pyIter u) Q s → ItD X (.Name x p) env Q s := fun u a b => wpAny_Name (load_slot I R h1 a b) (fine_ne h1).1
  generalize lookE (nm x) E = en at z h
  clear h3 R
  cases en with
  | val v => exact z.elim fun u z => ld u z.1 (seq_iter I h z.2 P)
  | ml l =>
    obtain ⟨a, vs, z1, z2, z3⟩ := z
    exact gd_e h fun hc h => gd_e h fun hl h => ld _ z1 (own_iter I z2 z3 (own_nil hc) (P l h (bltN.mp hl)))
  | mr l =>
    obtain ⟨a, vs, z1, z2, z3⟩ := z
    exact gd_e h fun hc h => gd_e h fun hl h => ld _ z1 (own_iter I z2 (rows_rels z3) (fun q => nomatch hc.symm.trans q) (P _ h (by rw [List.length_map]; exact bltN.mp hl)))
  | _ => exact h.elim
theorem base_plain {o : PySem.Expr} {n : Str} (h : plainBase o = true) : attributeBase o n env (eval o env) = eval o env := by
  cases o
  case Call f as ks p =>
    cases as with
    | nil => first | exact none_i h | exact ff_i h | exact nomatch h
    | cons => cases f <;> rfl
  all_goals rfl
theorem all_noStar {es : List PySem.Expr} (h : es.all noStar = true) : ((backTo pos (starEach es env)).all fun x => !x.1) = true := by
  induction es with
  | nil => rfl
  | cons e es ih => exact and_e h fun h1 h2 => by rw [backTo_cons h1, List.all_cons, ih h2]; rfl
theorem few_sound {es : List PySem.Expr} (h : es.all noStar = true) (hl : Nat.blt es.length 30 = true) :
    ((((backTo pos (starEach es env)).all fun x => !x.1) && (backToKw pos (keywordEach [] env)).all fun x => x.1.isSome) && decide ((es.length + ([] : List Keyword).length + if ([] : List Keyword).isEmpty = true then 0 else 1) < 30)) = true := by
  rw [all_noStar h]
  exact decide_eq_true (bltN.mp hl)
theorem line_eq {a b : Nat} (h : Nat.beq a b = true) : (a == b) = true := beq_iff_eq.mpr (beqN.mp h)
theorem dict_at {a : Addr} {o : Obj} {kvs : List (Str × Value)} {h : Heap} {P : Prop} (e : h.get? a = some o) (d : DictO X.G o kvs) (c : ∀ es ep, o.ExactDict → o.data = .dict es ep → KeysOf X.G.knd es → Pairs X.G.knd es.toList kvs → (kvs.map (·.1)).Nodup → P) : P := by
  obtain ⟨es, ep, d1, d2, d3, d4, d5⟩ := d
  exact c es ep d1 d2 d3 d4 d5
theorem ne_sysB {a : Addr} (h : a ≠ sysModules) : (a == sysModules) = false := beq_eq_false_iff_ne.mpr h
theorem zip_le (a : List V) : ∀ b, (zipL a b).length ≤ a.length := by
  induction a with
  | nil => exact fun _ => Nat.le_refl _
  | cons x a ih =>
    intro b
    cases b with
    | nil => exact Nat.zero_le _
    | cons y b => exact Nat.succ_le_succ (ih b)
theorem items_go {v : V} {u : Value} {n : Str} (I : J X W s) (ht : tt = true) (hn : nmS n = N "items") (h : optW (dctOf v) fun d => brW (Nat.blt d.1.length 4000 && Nat.beq d.1.length d.2.length && (allStr d.1).isSome) (k (zipL d.1 d.2)) False) (hv : Rel X.G W v u) (P : PL X W c tt k Q) :
    MethodOnS X.G.prog X.G.w X.A (fun _ _ => False) n u pos [] (fun u s₁ => Do X (pyIter u) Q s₁) s := by
  cases v with
  | dct kx vs =>
    obtain ⟨a, o, kvs, rfl, h1, h2, rfl, h4⟩ := hv.un
    refine gd_e (show brW (Nat.blt (keysV kvs).length 4000 && Nat.beq (keysV kvs).length vs.length && (allStr (keysV kvs)).isSome) (k (zipL (keysV kvs) vs)) False from h) fun hb h => ?_
    have hl : (zipL (keysV kvs) vs).length < 4000 := Nat.lt_of_le_of_lt (zip_le _ _) (and_e hb fun hb _ => and_e hb fun hb _ => bltN.mp hb)
    rw [nmS_is (t := "items") (by decide +kernel) (by decide +kernel) hn]
    refine dict_at (I.fz h1) h2 fun es ep d1 d2 d3 d4 d5 => ?_
    refine ⟨"dict", _, PySem.F.plainAttrs_dict, PySem.F.slot_dict_items, PySem.F.type_dict_items, ⟨_, I.fz h1, d1.1⟩, fun b e => ⟨o, Value.ref.inj e ▸ I.fz h1, d1.2.1⟩, Calls.callWith_builtin rfl (PySem.evalArgs_none ?_)⟩
    refine call_meetsIn PySem.F.slot_dict_items ⟨_, I.fz h1, d1.1⟩ PySem.F.entry_dict_items (PySem.F.args_dict_items_1 _) (meets_dict_items X.G.knd a (ne_sysB h1.2)) ⟨⟨kvs, h2.at (I.fz h1)⟩, ?_⟩
    have X₁ := Ex.upd (r := .hd { cls := .type "dict_items", data := .fields #[.ref a] }) I.new
    have I₁ := I.push (o := { cls := .type "dict_items", data := .fields #[.ref a] }) (.hd _) rfl rfl s.toks
    refine wpAny_pyIter_items (knd := X.G.knd) (kvs := kvs) ⟨_, Heap.get?_push_size _ rfl, rfl, rfl⟩ ⟨o, es, I₁.fz (X₁.le.f h1), d1, d2, d3, d4, d5⟩ (PI.push ((P _ h hl).aft X₁) I₁ rfl fun W₂ X₂ => ?_)
    have z : ∀ g, IterO X.G W₂ g tt (zipL (keysV kvs) vs) (ditO a 0 kvs.length ep .none .none) := fun g => .dit a o es kvs vs 0 ep .none .none ht ((X₁.trans X₂).le.f h1) d1 d2 d3 d4 d5 (Rels.le (X₁.trans X₂).le h4)
    exact ⟨z _, fun _ _ => z _⟩
  | _ => exact h.elim
theorem items_iter (S : Snd X kv) {o : PySem.Expr} {n : Str} {ap : Pos} {as : List PySem.Expr} (I : J X W s) (R : EnvR X.G W ks E env)
    (h : gd (tt && as.isEmpty && plainBase o && Nat.beq ap.endLine p.line && Nat.beq (nmS n) (N "items")) (kv.e ks o E fun v => optW (dctOf v) fun d => brW (Nat.blt d.1.length 4000 && Nat.beq d.1.length d.2.length && (allStr d.1).isSome) (k (zipL d.1 d.2)) False))
    (P : PL X W c tt k Q) : ItD X (.Call (.Attribute o n ap) as [] p) env Q s :=
  gd_e h fun hb h => and_e hb fun hb h5 => and_e hb fun hb h4 => and_e hb fun hb h3 => and_e hb fun h1 h2 => by
    rw [List.isEmpty_iff.mp h2]
    exact wpAny_Call_method_lateS (base_plain h3) (few_sound rfl rfl) (line_eq h4) (S.e I R h fun v h u W₁ s₁ X₁ I₁ hu => items_go I₁ h1 (beqN.mp h5) h hu (PL.aft P X₁))
theorem rng_call (S : Snd X kv) (F : Fx X cl) {f : Str} {fp : Pos} {as : List PySem.Expr} (I : J X W s) (R : EnvR X.G W ks E env) (h : gd (biIs ks f (N "range") && plainArgs as) (evsN kv ks as E fun vs => rangeW vs k)) {Q : Value → Shared → Prop} (P : PR X W k Q) : Do X (eval (.Call (.Name f fp) as [] p) env) Q s :=
  gd_e h fun hb h => and_e hb fun h1 _ => biIs_e h1 fun h1 => gd_e h fun hs h => wpAny_Call_NameR (name_bi F.ok I R (by decide +kernel) F.bok.range h1
    (PySem.callWith_type (first := []) (any_noStar hs) (args_sound S hs I R h fun l q us W₁ s₁ X₁ I₁ hu => range_sound I₁ (fun l q u W' s' x => P l q u W' s' (X₁.trans x)) q.1 hu)))
theorem rng_it (S : Snd X kv) (F : Fx X cl) {f : Str} {fp : Pos} {as : List PySem.Expr} (I : J X W s) (R : EnvR X.G W ks E env) (h : gd (biIs ks f (N "range") && plainArgs as) (evsN kv ks as E fun vs => rangeW vs k)) (P : PL X W c tt k Q) : ItD X (.Call (.Name f fp) as [] p) env Q s :=
  rng_call S F I R h fun l q _ _ _ X₁ I₁ hr => rng_iter I₁ hr ((P l q hr.len).aft X₁)
theorem iter_sound (S : Snd X kv) (F : Fx X cl) {e : PySem.Expr} (I : J X W s) (R : EnvR X.G W ks E env) (h : iterW kv ks c tt e E k) (P : PL X W c tt k Q) : ItD X e env Q s := by
  have V := view_is e
  unfold iterW at h
  generalize view e = v at V h
  cases v with
  | name x p => exact (show e = _ from V) ▸ name_iter I R h P
  | meth o n ap as p => exact (show e = _ from V) ▸ items_iter S I R h P
  | call f fp as p =>
    have h : (bif Nat.beq (nm f) (N "range") then gd (biIs ks f (N "range") && plainArgs as) (evsN kv ks as E fun vs => rangeW vs k) else kv.e ks e E fun v => seqW v k) := h
    cases hb : Nat.beq (nm f) (N "range") with
    | true =>
      rw [hb] at h
      exact (show e = _ from V) ▸ rng_it S F I R h P
    | false =>
      rw [hb] at h
      exact val_iter S I R h P
  | _ => exact val_iter S I R h P
theorem loc_local {sc : Scope} (c1 : scOk sc = true) (c4 : localsOk (kindsOf sc) = true) : ∀ y, y ∈ sc.names → y.2 = NameKind.local → sc.names.lookup y.1 = some NameKind.local := fun y hy hl => by
  have hn := scOk_iff c1
  have z := and_e c4 fun c4 _ => and_e c4 fun c4 _ => List.all_eq_true.mp c4 (nm y.1, y.2) (List.mem_map.mpr ⟨y, hy, rfl⟩)
  rw [hl] at z
  exact (look_map hn (hn y hy)).symm.trans (isLocK_i z)
theorem comp_sound (S : Snd X kv) (F : Fx X cl) {elt tgt it : PySem.Expr} {ifs : List PySem.Expr} {sc : Scope} {use : Option (Value → Sem Unit)} (I : J X W s) (R : EnvR X.G W ks E env) (h : compW kv ks elt tgt it ifs sc E k)
    (P : ∀ vs, k vs → ∀ D C us n W₁ s', J X W₁ s' → Comped X W W₁ D C us n vs → compPost X.G.M X.A (fun _ _ => False) use Q (.ref D) C (.ok .next) s') :
    Do X (comprehension (.ListComp elt [⟨tgt, it, ifs, 0⟩] sc p) sc env pos (newList []) false (eval it env) use) Q s := by
  refine gd_e h fun hb h => and_e hb fun hb c10 => and_e hb fun hb _ => and_e hb fun hb c8 => and_e hb fun hb c7 => and_e hb fun hb c6 => and_e hb fun hb c5 => and_e hb fun hb c4 => and_e hb fun hb c3 => and_e hb fun c1 c2 => ?_
  revert h c7 c10
  refine okX_e (P := fun tgt => iterW kv ks true false it E (fun l => compLoopW kv (relabK (kindsOf sc) ks) tgt ifs elt ((N ".0", .no) :: E) l [] k) → (kindsOf sc).all (kindFit ks (nmOf tgt)) = true → isSt (look (nmOf tgt) (kindsOf sc)) = true →
    Do X (comprehension (.ListComp elt [⟨tgt, it, ifs, 0⟩] sc p) sc env pos (newList []) false (eval it env) use) Q s) c2 fun x px ok h c10 c7 => ?_
  obtain ⟨clo, hcl, hc⟩ := clo_sound R c1 c10
  exact wpAny_comprehension_free (g := ⟨.Name x px, it, ifs, 0⟩) (gs := []) rfl (noSet_fold c6) hcl (isFn_i c3) (loc_local c1 c4) (iter_sound S F I R h fun l q ql ia o W₂ s₂ X₂ nI I₂ hi H _ =>
    comp_go S F X₂ nI I₂ hi H ql (R.ex X₂) c1 c3 c4 c5 c7 c8 c10 ok hc q P)
theorem Comped.show {vs : List V} {W₁ : Wd} {D C : Addr} {us : List Value} {n : Nat} (I : J X W₁ s) (K : Comped X W W₁ D C us n vs) {P : Prop}
    (c : (∃ m, s.heap.Ns C m) → (∀ h', Heap.SameBut C s.heap h' → ∀ (f : Obj → Role), (∀ o, (f o).ob = o) → ∃ W', Ex W W' ∧ J X W' { s with heap := h' } ∧ W'.rl D = some (f (seqO "list" us n)) ∧ Rels X.G W' vs us) → P) : P := by
  obtain ⟨o, m, hc, hn⟩ := K.c
  have dc : D ≠ C := fun e => by
    have e1 := Option.some.inj (K.d.symm.trans ((congrArg W₁.rl e).trans hc))
    obtain ⟨es, ep, z, _⟩ := hn
    rw [← show seqO "list" us n = o from congrArg Role.ob e1] at z
    exact nomatch z
  refine c ⟨m, hn.at (I.rl _ _ hc)⟩ fun h' hs f hf => ?_
  have M : Mv C W₁ (W₁.del C) := Wd.mv_del
  have I₂ : J X (W₁.del C) { s with heap := h' } := J.del (tk := s.toks) I hs.extBut hc
  have hD := M.rl _ _ dc K.d
  have M₂ : Mv D (W₁.del C) ((W₁.del C).upd D (f (seqO "list" us n))) := Mv.upd
  exact ⟨_, (K.ex.mv K.nc M).mv K.nd M₂, I₂.role (f (seqO "list" us n)) hD (fun _ z => nomatch z) (hf _), Wd.upd_self, Rels.le ((M.le hc).trans (M₂.le hD)) K.r⟩
theorem comp_e (S : Snd X kv) (F : Fx X cl) {elt tgt it : PySem.Expr} {ifs : List PySem.Expr} {sc : Scope} {k : V → Prop} (I : J X W s) (R : EnvR X.G W ks E env) (h : compW kv ks elt tgt it ifs sc E fun vs => k (.lst vs)) (P : PK X W k Q) :
    Do X (eval (.ListComp elt [⟨tgt, it, ifs, 0⟩] sc p) env) Q s := by
  rw [eval_ListComp]
  refine comp_sound S F I R h fun vs q D C us n W₁ s' I' K => Comped.show I' K fun hm z => ⟨hm.choose, hm.choose_spec, fun h' hs => ?_⟩
  obtain ⟨W', X', I₂, hD, hr⟩ := z h' hs Role.fz fun _ => rfl
  exact P _ q _ W' _ X' I₂ (relLst ⟨hD, K.sys⟩ hr)
end
end Mine
end
section
open PySem PySem.W PyProof.Rows
set_option maxRecDepth 100000
set_option genInjectivity false
set_option genSizeOf false
set_option backward.match.sparseCases false
namespace Mine
theorem lookIn_none {o : Obj} {es : Array DictEntry} {ep : Nat} {x : Str} (hd : o.data = .dict es ep) (hs : StrKeys es) (h : nsFind es x = none) : lookIn x o = some none := by
  unfold lookIn
  rw [hd]
  dsimp only
  unfold nsFind findBy at h
  rw [← Array.find?_toList] at h
  cases hf : es.toList.find? (·.key.isStr x) with
  | some e => rw [hf] at h; exact nomatch h
  | none =>
    dsimp only
    rw [if_neg]
    intro q
    obtain ⟨e, he, hr⟩ := List.any_eq_true.mp q
    obtain ⟨n, t, hk⟩ := hs e (Array.mem_toList_iff.mp he)
    rw [DictEntry.refKey, hk] at hr
    exact nomatch hr
theorem lookIn_ns {o : Obj} {es : Array DictEntry} {ep : Nat} {x : Str} {v : Value} (hd : o.data = .dict es ep) (h : nsFind es x = some v) : lookIn x o = some (some v) := by
  unfold lookIn
  rw [hd]
  dsimp only
  unfold nsFind findBy at h
  rw [← Array.find?_toList] at h
  cases hf : es.toList.find? (·.key.isStr x) with
  | none => rw [hf] at h; exact nomatch h
  | some e => rw [hf] at h; exact congrArg some h
section
variable {X : Cx} {cl : Cl} {kv : KEv} {W W' : Wd} {s : Shared} {env : Env} {ks : Ks} {E : VEnv} {Q : Value → Shared → Prop} {k : V → Prop} {pos p : Pos} {x : Str} {n : Str} {v : V} {u : Value} {as : List PySem.Expr}
theorem inst_e {P : Prop} (I : J X W s) (h : Rel X.G W (.inst v) u) (c : ∀ a d od m w, u = .ref a → s.heap.get? a = some (instObj X.G.C d) → s.heap.get? d = some od → od.cls = .type "dict" → NsO od m → (∀ y, y ≠ Str.ofString "comp_select_list" → m y = none) → m (Str.ofString "comp_select_list") = some w → Rel X.G W v w → P) : P := by
  obtain ⟨a, d, od, w, e, h1, h2, ⟨h3, m, h4, h5, h6⟩, h7⟩ := h.un
  exact c a d od m w e (I.fz h1) (I.fz h2) h3 h4 h5 h6 h7
theorem attr_inst {f : List V → Prop} (B : BOk X.G) (I : J X W s) (hn : nmS n = N "comp_select_list") (ho : Rel X.G W (.inst v) u) (h : optW (tupOf v) f) (P : ∀ w tk, Rel X.G W v w → Q w { s with toks := tk }) : Do X (getAttr u n true) Q s := by
  rw [nmS_is (t := "comp_select_list") (by decide +kernel) (by decide +kernel) hn]
  refine inst_e I ho fun a d od m w e h1 h2 h3 h4 h5 h6 h7 => ?_
  rw [e]
  obtain ⟨K, k1, k2, k3, k4, _⟩ := B.cls.frag
  obtain ⟨es, ep, g1, g2, g3⟩ := h4
  exact get_value (fun b ob hb => I.hB (k1 b ob hb)) (ox := instObj X.G.C d) (C := X.G.C) (od := some od) ⟨h1, rfl, rfl, h2⟩ k2 (findObj_own k3 k4 rfl (lookIn_ns g1 ((g3 _).trans h6))) (tup_e (Pm := fun w => handedIn w = true) I h7.o h fun _ _ _ _ _ _ _ => rfl) (P w _ h7)
theorem meth_inst {pl : Sem Bool} {Q : Value × List Value → Shared → Prop} (B : BOk X.G) (I : J X W s) (hn : nmS n = N "compare") (ho : Rel X.G W (.inst v) u) (P : Q (X.G.cmpv, [u]) s) : Do X (getMethod u n pl) Q s := by
  rw [nmS_is (t := "compare") (by decide +kernel) (by decide +kernel) hn]
  refine inst_e I ho fun a d od m w e h1 h2 h3 h4 h5 h6 h7 => ?_
  rw [e] at P ⊢
  obtain ⟨K, k1, k2, k3, k4, k5, f, k6, k7, k8⟩ := B.cls.frag
  obtain ⟨es, ep, g1, g2, g3⟩ := h4
  rw [k6] at P
  exact method_fn (fun b ob hb => I.hB (k1 b ob hb)) (ox := instObj X.G.C d) (C := X.G.C) (od := some od) ⟨h1, rfl, rfl, h2⟩ k2 k5 k7 k8 (congrArg (Option.map _) (lookIn_none g1 g2 ((g3 _).trans (h5 _ (by decide +kernel))))) P
theorem instOf_e {f : V → Prop} {P : V → Prop} (h : optW (instOf v) f) (c : ∀ w, f w → P (.inst w)) : P v := by
  cases v with
  | inst w => exact c w h
  | _ => exact h.elim
theorem attr_e (F : Fx X cl) {op : Pos} (I : J X W s) (R : EnvR X.G W ks E env) (h : optW (enV (entOf ks x E)) fun v => optW (instOf v) fun w => gd (Nat.beq (nmS n) (N "comp_select_list") && (tupOf w).isSome) (k w)) (P : PK X W k Q) :
    Do X (eval (.Attribute (.Name x op) n p) env) Q s :=
  Attribute_Name_ (name_v I R h fun v h u W₁ s₁ X₁ I₁ hu => instOf_e (P := fun v => Rel X.G W₁ v u → Do X (getAttr u n true) Q s₁) h (fun w h hu => gd_e h fun hb h => and_e hb fun h1 h2 =>
    attr_inst (f := fun _ => True) F.bok I₁ (beqN.mp h1) hu (by cases e : tupOf w with | none => (rw [e] at h2; exact nomatch h2) | some _ => exact trivial) fun w tk hr => P _ h _ _ _ X₁ (I₁.toks tk) hr) hu)
theorem dct1_e (S : Snd X kv) {kx y : PySem.Expr} (I : J X W s) (R : EnvR X.G W ks E env) (h : kv.e ks kx E fun q => optW (strOf q) fun z => kv.e ks y E fun v => k (.dct [.str z] [v])) (P : PK X W k Q) : Do X (eval (.Dict [some kx] [y] pos) env) Q s := by
  refine wpAny_Dict_any rfl rfl (List.cons_ne_nil _ _) (by show 1 ≤ 15; decide) ?_
  have X₁ := Ex.upd (r := .hd { cls := .type "dict", data := .dict #[] }) I.new
  have I₁ := I.push (o := { cls := .type "dict", data := .dict #[] }) (.hd _) rfl rfl s.toks
  show wpAny _ _ (evalPairs [(eval kx env, do let x ← eval y env; standAt pos; pure x)]) _ _ _
  refine evalPairs_cons (S.e I₁ (R.ex X₁) h fun q h u W₂ s₂ X₂ I₂ hu => str_e hu.o h fun z t h => ?_)
  refine wpAny_bind (S.e I₂ (R.ex (X₁.trans X₂)) h fun v h w W₃ s₃ X₃ I₃ hw => wpAny_bind (wpAny_standAt (wpAny_pure (evalPairs_nil ?_))))
  have XX := X₁.trans (X₂.trans X₃)
  have hD : W₃.rl s.heap.objs.size = some (.hd { cls := .type "dict", data := .dict #[] }) := (X₂.trans X₃).rl _ _ Wd.upd_self
  refine wpAny_storeAll (knd := X.G.knd) _ [(⟨z.toArray⟩, w)] [] s₃ _ ⟨isStrOf_self _ t, rfl, trivial⟩ ((newD X.G).at (I₃.rl _ _ hD)) (by rw [sizeLine_eq]; show 1 ≤ 16777216; decide) fun h' hd hs => ?_
  refine DictO.of hd fun o e ho => ?_
  have M : Mv s.heap.objs.size W₃ (W₃.upd s.heap.objs.size (.fz o)) := Mv.upd
  exact P _ h _ _ _ (XX.mv I.new M) (I₃.set (.fz o) hD (fun _ z => nomatch z) hs.extBut e) (.mk ⟨_, o, [(⟨z.toArray⟩, w)], rfl, ⟨Wd.upd_self, I.ne_sys⟩, ho, rfl, All2.one (hw.le (M.le hD))⟩)
theorem oneA_e {f : PySem.Expr → Prop} {P : List PySem.Expr → Prop} (h : oneA as f) (c : ∀ e, noStar e = true → f e → P [e]) : P as := oneL_e h fun e h => gd_e h fun a b => c e a b
abbrev PA (X : Cx) (W : Wd) (k : V → Prop) (f : Value) (first : List Value) (Q : Value → Shared → Prop) : Prop := ∀ v, k v → ∀ u W' s', Ex W W' → J X W' s' → RelO X.G W' v u → Do X (call f (first ++ [u])) Q s'
theorem argW {f : Value} {first : List Value} {e : PySem.Expr} (hs : noStar e = true) (h : Do X (eval e env) (fun u s' => Do X (call f (first ++ [u])) Q s') s) :
    Do X (evalArgs f true (backTo pos (starEach [e] env)) []) (fun a s₁ => Do X (call f (first ++ a.pos) a.kw) Q s₁) s := by
  rw [backTo_cons hs]
  exact Calls.evalArgs_plain (Calls.spliced_cons (wpAny_mono h (fun _ _ h => Calls.spliced_nil h) fun _ _ h => h))
theorem any_one {e : PySem.Expr} (hs : noStar e = true) : ((backTo pos (starEach [e] env)).any fun x => x.1) = false := any_noStar (by rw [List.all_cons, hs]; rfl)
theorem call_b1 {id : String} {first : List Value} {e : PySem.Expr} (hs : noStar e = true) (h : Do X (eval e env) (fun u s' => Do X (call (.builtin id) (first ++ [u])) Q s') s) : Do X (callWith pos (.builtin id) first (backTo pos (starEach [e] env)) []) Q s :=
  Calls.callWith_builtin (any_one hs) (argW hs h)
theorem call_t1 {T : String} {e : PySem.Expr} (hs : noStar e = true) (h : Do X (eval e env) (fun u s' => Do X (call (.type T) [u]) Q s') s) : Do X (callWith pos (.type T) [] (backTo pos (starEach [e] env)) []) Q s :=
  PySem.callWith_type (any_one hs) (argW (first := []) hs h)
theorem call_method {M : Model} {A : Around} {E : Value → Shared → Prop} {o : PySem.Expr} {name : Str} {apos pos : Pos} {args : List PySem.Expr}
    (hbase : attributeBase o name env (eval o env) = eval o env)
    (hfew : ((backTo pos (starEach args env)).all (fun x => !x.1) && (backToKw pos (keywordEach [] env)).all (fun x => x.1.isSome)
      && decide (args.length + ([] : List Keyword).length + (if ([] : List Keyword).isEmpty then 0 else 1) < 30)) = true)
    (hline : (apos.endLine == pos.line) = true)
    (h : wpAny M A (eval o env) (fun ov s₁ => ∀ pl, wpAny M A (getMethod ov name pl) (fun fx s₂ => wpAny M A (callWith pos fx.1 fx.2 (backTo pos (starEach args env)) []) Q E s₂) E s₁) E s) :
    wpAny M A (eval (.Call (.Attribute o name apos) args [] pos) env) Q E s := by
  rw [arm_eval_Call, hbase]
  refine wpAny_bind (wpAny_mono h (fun ov s₁ h₁ => ?_) fun _ _ e => e)
  refine wpAny_bind (wpAny_standAt ?_)
  have hform : methodCallForm (args.length + ([] : List Keyword).length) (backTo pos (starEach args env)) (backToKw pos (keywordEach [] env)) = true := hfew
  have hpos : methodCallPos true o env apos pos = pure pos := by unfold methodCallPos; rw [hline]; rfl
  unfold methodCall
  rw [hform]
  refine wpAny_bind (wpAny_holding (wpAny_mono (h₁ _) (fun fx s₂ h₂ => ?_) fun _ _ e => e))
  exact wpAny_bind (wpAny_of_eq hpos h₂)
abbrev MC (X : Cx) (pos : Pos) (as : List PySem.Expr) (env : Env) (n : Str) (u : Value) (Q : Value → Shared → Prop) (s : Shared) : Prop :=
  ∀ pl, Do X (getMethod u n pl) (fun fx s₂ => Do X (callWith pos fx.1 fx.2 (backTo pos (starEach as env)) []) Q s₂) s
theorem str_meth {id : String} {q : List Nat} {t : Tok} (sl : PySem.Slot "str" n id) (ty : typeOf (.builtin id) = pure (.type "method_descriptor")) (h : Do X (callWith pos (.builtin id) [.str (toS q) t] (backTo pos (starEach as env)) []) Q s) : MC X pos as env n (.str (toS q) t) Q s :=
  fun pl => @getMethod_builtin _ _ _ _ (.str (toS q) t) "str" n id pl _ (typeIs_str _ _ _) PySem.F.plainAttrs_str sl ty (fun _ e => nomatch e) h
def MiOk (m : MI) (x : Nat) : Prop := ∃ n, x = N n ∧ okB (Str.ofString n) = true ∧ nm (Str.ofString n) ≠ 0 ∧ PySem.Slot "str" (Str.ofString n) (miId m) ∧ typeOf (.builtin (miId m)) = pure (.type "method_descriptor")
theorem mi_ok {x : Nat} {m : MI} (h : look x methTab = some m) : MiOk m x := by
  have z := look_mem h
  simp only [methTab, List.mem_cons, List.not_mem_nil, or_false] at z
  rcases z with z | z | z | z | z <;> (rw [(Prod.mk.inj z).1, (Prod.mk.inj z).2]; refine ⟨_, rfl, by decide +kernel, by decide +kernel, ?_, ?_⟩)
  · exact PySem.F.slot_str_startswith
  · exact PySem.F.type_str_startswith
  · exact PySem.F.slot_str_endswith
  · exact PySem.F.type_str_endswith
  · exact PySem.F.slot_str_replace
  · exact PySem.F.type_str_replace
  · exact PySem.F.slot_str_find
  · exact PySem.F.type_str_find
  · exact PySem.F.slot_str_index
  · exact PySem.F.type_str_index
theorem trans_sound (F : Fx X cl) {q : List Nat} {t : Tok} (I : J X W s) (R : EnvR X.G W ks E env) (h : transW ks q as k) (P : PK X W k Q) : Do X (callWith pos (.builtin "str.translate") [.str (toS q) t] (backTo pos (starEach as env)) []) Q s :=
  oneL_e (P := fun q => Do X (callWith pos (.builtin "str.translate") [.str (toS q) t] (backTo pos (starEach as env)) []) Q s) h fun c h => oneL_e (P := fun as => Do X (callWith pos (.builtin "str.translate") [.str (toS [c]) t] (backTo pos (starEach as env)) []) Q s) h fun e h => optW_e h fun x e1 h => gd_e h fun hb h => by
    obtain ⟨d, hd, hs⟩ := F.bok.spec
    rw [nameX_i e1]
    refine biIs_e hb fun hb => call_b1 rfl (name_bi F.ok I R (by decide +kernel) hd hb (trans_one F.hh (hs.keep fun _ _ => I.hB) fun h' tk t' hk => P _ h _ _ _ (Ex.refl W) (I.keep hk) ?_))
    cases strIn c special <;> exact rStr _ _
theorem methS_sound (S : Snd X kv) (F : Fx X cl) {q : List Nat} {t : Tok} (I : J X W s) (R : EnvR X.G W ks E env) (h : methS kv ks q (nmS n) as E k) (P : PK X W k Q) : MC X pos as env n (.str (toS q) t) Q s := by
  refine br_e h (fun hn h => ?_) fun _ h => br_e h (fun hn h => ?_) fun _ h => optW_e h fun m e h => gd_e h fun hs h => ?_
  · rw [nmS_is (t := "join") (by decide +kernel) (by decide +kernel) (beqN.mp hn)]
    exact str_meth PySem.F.slot_str_join PySem.F.type_str_join (oneA_e (P := fun as => Do X (callWith pos (.builtin "str.join") [.str (toS q) t] (backTo pos (starEach as env)) []) Q s) h fun e hs h => call_b1 hs (cw_sound S I R h fun v h u _ _ X₁ I₁ hu => join_sound I₁ h hu (PK.aft P X₁)))
  · rw [nmS_is (t := "translate") (by decide +kernel) (by decide +kernel) (beqN.mp hn)]
    refine str_meth (id := "str.translate") ?_ ?_ ?_
    · exact PySem.F.slot_str_translate
    · exact PySem.F.type_str_translate
    · exact trans_sound F I R h P
  · obtain ⟨t', e1, e2, e3, e4, e5⟩ := mi_ok e
    rw [nmS_is e2 e3 e1]
    exact str_meth e4 e5 (Calls.callWith_builtin (any_noStar hs) (args_sound S hs I R h fun l h us _ _ X₁ I₁ hu => callM_sound I₁ h.1 hu (PK.aft P X₁)))
theorem count_is (c : List Nat) (l : List (List Nat)) : Spec.countIn (.str ⟨c.toArray⟩) ((l.map fun x => (⟨x.toArray⟩ : Str)).map .str) = ((l.filter fun x => decide (x = c)).length : Nat) := by
  induction l with
  | nil => rfl
  | cons x l ih =>
    have e : Spec.same (.str ⟨x.toArray⟩) (.str ⟨c.toArray⟩) = decide (x = c) := str_beq x c
    show (if Spec.same (.str ⟨x.toArray⟩) (.str ⟨c.toArray⟩) = true then (1 : Int) else 0) + Spec.countIn (.str ⟨c.toArray⟩) ((l.map fun x => (⟨x.toArray⟩ : Str)).map .str) = _
    rw [ih, e, List.filter_cons]
    cases decide (x = c) with
    | true => rw [if_pos rfl, if_pos rfl, List.length_cons, Int.add_comm]; rfl
    | false => rw [if_neg Bool.false_ne_true, if_neg Bool.false_ne_true, Int.zero_add]
theorem methL_sound (S : Snd X kv) {l : List V} (I : J X W s) (R : EnvR X.G W ks E env) (hv : Rel X.G W (.lst l) u) (h : methL kv ks l (nmS n) as E k) (P : PK X W k Q) : MC X pos as env n u Q s := by
  refine gd_e h fun hn h => gd_e h fun hs h => ?_
  rw [nmS_is (t := "count") (by decide +kernel) (by decide +kernel) (beqN.mp hn)]
  obtain ⟨a, vs, m, rfl, h1, h2⟩ := hv.un
  refine fun _ => getMethod_builtin ⟨_, I.fz h1, rfl⟩ PySem.F.plainAttrs_list PySem.F.slot_list_count PySem.F.type_list_count (fun b e => ⟨_, Value.ref.inj e ▸ I.fz h1, rfl⟩) (Calls.callWith_builtin (any_noStar hs) (args_sound S hs I R h fun ws h us W₁ s₁ X₁ I₁ hu => ?_))
  refine oneL_e (P := fun ws => Rels X.G W₁ ws us → Do X (call (.builtin "list.count") ([.ref a] ++ us)) Q s₁) h.1 (fun c h hu => hu.one_e (Pm := fun us => Do X (call (.builtin "list.count") ([.ref a] ++ us)) Q s₁) fun w hw => str_e hw.o h fun c t h => optW_e h fun m e h => bnd_e e fun q e1 e2 => ?_) hu
  refine count_list_strs (listO (I₁.fz (X₁.le.f h1))) (allStr_are e1 (Rels.le X₁.le h2)) (((P _ h).aft X₁).tok I₁ ?_ _)
  rw [count_is, ← Option.some.inj e2]
  exact rInt _ _
theorem fnIs_ref {f : Nat} {fv : Value} {P : Prop} (h : FnIs X.G f fv) (c : ∀ a o fd, fv = .ref a → X.G.hB.get? a = some o → o.data = .func fd → P) : P := by
  obtain ⟨d, a, o, fd, _, h1, h2, h3, _⟩ := h
  exact c a o fd h1 h2 h3
theorem fn_call (S : Snd X kv) (F : Fx X cl) {f : Nat} {fv : Value} {first : List V} {fs : List Value} (hs : as.all noStar = true) (I : J X W s) (R : EnvR X.G W ks E env) (hf : FnIs X.G f fv) (h1 : Rels X.G W first fs) (h : evsW kv ks as E fun vs => cl f (first ++ vs) k) (P : PK X W k Q) :
    Do X (callWith pos fv fs (backTo pos (starEach as env)) []) Q s :=
  fnIs_ref hf fun a o fd e ho hd => e ▸ Calls.callWith_function (o := o) (fd := fd) (args_sound S hs I R h fun l h us _ _ X₁ I₁ hu => ⟨⟨I₁.hB ho, hd⟩, e ▸ F.calls.fn I₁ h.1 hf (All2.app hu (Rels.le X₁.le h1)) (PK.aft P X₁)⟩)
theorem methV (S : Snd X kv) (F : Fx X cl) (I : J X W s) (R : EnvR X.G W ks E env) (hs : as.all noStar = true) (h : match instOf v with
    | some w => gd (Nat.beq (nmS n) (N "compare")) (evsN kv ks as E fun vs => cl (nmS n) (.inst w :: vs) k)
    | none => selV v noW (fun s => methS kv ks s (nmS n) as E k) noW (fun l => methL kv ks l (nmS n) as E k)) (hv : Rel X.G W v u) (P : PK X W k Q) : MC X pos as env n u Q s := by
  cases v with
  | inst w => exact gd_e (show gd (Nat.beq (nmS n) (N "compare")) (evsN kv ks as E fun vs => cl (nmS n) (.inst w :: vs) k) from h) fun hn h => gd_e h fun _ h => fun _ => meth_inst F.bok I (beqN.mp hn) hv (fn_call S F (first := [.inst w]) hs I R (beqN.mp hn ▸ F.fok.cmp) (All2.one hv) h P)
  | str q =>
    obtain ⟨t, rfl⟩ := hv.o
    exact methS_sound S F I R h P
  | lst l => exact methL_sound S I R hv h P
  | _ => exact h.elim
theorem meth_e (S : Snd X kv) (F : Fx X cl) {o : PySem.Expr} {ap : Pos} (I : J X W s) (R : EnvR X.G W ks E env) (h0 : (plainBase o && Nat.beq ap.endLine p.line && Nat.blt as.length 30 && as.all noStar) = true) (h : methP cl kv ks o (nmS n) as E k) (P : PK X W k Q) : Do X (eval (.Call (.Attribute o n ap) as [] p) env) Q s :=
  and_e h0 fun h0 hs => and_e h0 fun h0 h3 => and_e h0 fun h1 h2 => call_method (base_plain h1) (few_sound hs h3) (line_eq h2) (S.e I R h fun v h u _ _ X₁ I₁ hu => methV S F I₁ (R.ex X₁) hs h hu (PK.aft P X₁))
end
end Mine
end
section
open PySem PySem.W PyProof.Rows
set_option maxRecDepth 100000
set_option genInjectivity false
set_option genSizeOf false
set_option backward.match.sparseCases false
namespace Mine
def biNm (t : BI) : String := match t with
  | .len => "len"
  | .list => "list"
  | .tuple => "tuple"
  | .sum => "sum"
  | .min => "min"
  | .str => "str"
  | .isinstance => "isinstance"
  | .sorted => "sorted"
theorem bi_ok {x : Nat} {t : BI} (h : look x biTab = some t) : x = N (biNm t) ∧ okB (Str.ofString (biNm t)) = true := by
  have z := look_mem h
  simp only [biTab, List.mem_cons, List.not_mem_nil, or_false] at z
  rcases z with z | z | z | z | z | z | z | z <;> (rw [(Prod.mk.inj z).1, (Prod.mk.inj z).2]; exact ⟨rfl, by decide +kernel⟩)
theorem seq_arr (a : Array Value) (n : Nat) : ({ cls := .type "list", data := .seq a n } : Obj) = seqO "list" a.toList n := rfl
section
variable {X : Cx} {cl : Cl} {kv : KEv} {W W' : Wd} {s : Shared} {env : Env} {ks : Ks} {E : VEnv} {Q : Value → Shared → Prop} {k : V → Prop} {pos p : Pos} {x : Str} {v : V} {u : Value} {as : List PySem.Expr}
theorem itemsOf_rels {c : Int} {f : Nat → Int → List V} (h0 : ∀ a, f 0 a = []) (h1 : ∀ n a, f (n + 1) a = .int a :: f n (a + c)) (n : Nat) : ∀ {a : Int} {us : List Value}, us.length = n → (∀ (i : Nat) v, us[i]? = some v → ∃ t, v = .int (a + (i : Int) * c) t) → Rels X.G W (f n a) us := by
  induction n with
  | zero =>
    intro a us hl _
    rw [h0]; exact List.length_eq_zero_iff.mp hl
  | succ n ih =>
    intro a us hl h
    cases us with
    | nil => exact nomatch hl
    | cons u us =>
      obtain ⟨t, e⟩ := h 0 u rfl
      rw [h1]
      refine ⟨u, us, rfl, e ▸ ?_, ih (Nat.succ.inj hl) fun i v q => ?_⟩
      · rw [Int.natCast_zero, Int.zero_mul, Int.add_zero]; exact rInt _ _
      · obtain ⟨t', e'⟩ := h (i + 1) v q
        exact ⟨t', e'.trans (congrArg (Value.int · t') (by rw [Int.natCast_succ, Int.add_mul, Int.one_mul]; omega))⟩
theorem list_rng {l : List V} (hh : X.A.handled = none) (I : J X W s) (hr : RngV W l u) (P : Post X W (.lst l) Q) : Do X (call (.type "list") [u]) Q s := by
  have fin : ∀ (n : Nat) (a c : Int) (f : Nat → Int → List V), (∀ a, f 0 a = []) → (∀ n a, f (n + 1) a = .int a :: f n (a + c)) → f n a = l → ∀ (h' : Heap) (tk : Nat) (acc : Array Value) (c' : Nat), (∀ b o, s.heap.get? b = some o → h'.get? b = some o) →
      h'.get? s.heap.objs.size = some { cls := .type "list", data := .seq acc c' } → ItemsOf (fun i v => ∃ t, v = .int (a + (i : Int) * c) t) acc n → Q (.ref s.heap.objs.size) { s with heap := h', toks := tk } := fun n a c f h0 h1 hl h' tk acc c' hk hg hi =>
    P _ _ _ (Ex.upd I.new) (I.put (r := .fz (seqO "list" acc.toList c')) (fun b o _ => hk b o) hg (fun _ h => nomatch I.new.symm.trans h) fun _ m => I.tab_lt m) (relLst ⟨Wd.upd_self, I.ne_sys⟩ (hl ▸ itemsOf_rels h0 h1 n hi.1 fun i v q => hi.2 i v (toA.trans q)))
  cases hr with
  | up r a n t u w h f1 f2 f3 => exact call_list_range hh (I.rl _ _ h) (small_r f1 f2 (.inl rfl)) size_up (Nat.le_trans (Nat.le_of_lt (bltN.mp f3)) (by decide)) (fin _ a 1 rngL (fun _ => rfl) (fun _ _ => rfl) rfl)
  | down r a n t u w h f1 f2 f3 => exact call_list_range hh (I.rl _ _ h) (small_r f1 f2 (.inr rfl)) size_down (Nat.le_trans (Nat.le_of_lt (bltN.mp f3)) (by decide)) (fin _ a (-1) rngD (fun _ => rfl) (fun _ _ => rfl) rfl)
theorem rng_e (S : Snd X kv) (F : Fx X cl) {e : PySem.Expr} {k : List V → Prop} (hr : isRng e = true) (I : J X W s) (R : EnvR X.G W ks E env) (h : iterW kv ks false false e E k) (P : PR X W k Q) : Do X (eval e env) Q s := by
  have V := view_is e
  unfold iterW at h
  unfold isRng at hr
  generalize view e = v at V h hr
  cases v with
  | call f fp as p =>
    have h : (bif Nat.beq (nm f) (N "range") then gd (biIs ks f (N "range") && plainArgs as) (evsN kv ks as E fun vs => rangeW vs k) else kv.e ks e E fun v => seqW v k) := h
    rw [show Nat.beq (nm f) (N "range") = true from hr] at h
    exact (show e = _ from V) ▸ rng_call S F I R h P
  | _ => exact nomatch hr
abbrev CD (X : Cx) (pos : Pos) (as : List PySem.Expr) (env : Env) (f : Value) (Q : Value → Shared → Prop) (s : Shared) : Prop := Do X (callWith pos f [] (backTo pos (starEach as env)) []) Q s
theorem isi_t {b : Nat} (hb : b = N "tuple") (h : isiW b v k) : selV v (fun _ => k (.bool false)) noW (fun _ => k (.bool true)) noW := by
  subst hb
  cases v with
  | int i => exact gd_e (show gd (Nat.beq (N "tuple") (N "tuple")) (k (.bool false)) from h) fun _ h => h
  | tup i => exact gd_e (show gd (Nat.beq (N "tuple") (N "tuple")) (k (.bool true)) from h) fun _ h => h
  | str i => exact gd_e (show gd (Nat.beq (N "tuple") (N "str")) (k (.bool true)) from h) fun q _ => absurd q (by decide +kernel)
  | _ => exact h.elim
theorem isi_s {b : Nat} (hb : b = N "str") (h : isiW b v k) : optW (strOf v) fun _ => k (.bool true) := by
  subst hb
  cases v with
  | str i => exact gd_e (show gd (Nat.beq (N "str") (N "str")) (k (.bool true)) from h) fun _ h => h
  | int i => exact gd_e (show gd (Nat.beq (N "str") (N "tuple")) (k (.bool false)) from h) fun q _ => absurd q (by decide +kernel)
  | tup i => exact gd_e (show gd (Nat.beq (N "str") (N "tuple")) (k (.bool true)) from h) fun q _ => absurd q (by decide +kernel)
  | _ => exact h.elim
theorem isi_call (S : Snd X kv) (F : Fx X cl) (I : J X W s) (R : EnvR X.G W ks E env) (h : callBW kv ks .isinstance as E k) (P : PK X W k Q) : CD X pos as env (.builtin "isinstance") Q s :=
  twoL_e (P := fun as => CD X pos as env (.builtin "isinstance") Q s) h fun a b h => optW_e h fun z e h => optW_e h fun g hg h => gd_e h fun hb h => and_e hb fun h1 h2 => by
    rw [show b = .Name z.1 z.2 from nameX_i e]
    refine Calls.callWith_builtin (any_noStar (by rw [List.all_cons, h1]; rfl)) ?_
    rw [backTo_cons h1]
    refine Calls.evalArgs_plain (Calls.spliced_cons (S.e I R h fun v h u W₁ s₁ X₁ I₁ hu => Calls.spliced_cons ?_))
    rcases Bool.or_eq_true_iff.mp h2 with h2 | h2
    · exact isBi_e h2 fun eg => name_bi F.ok I₁ (R.ex X₁) (by decide +kernel) F.bok.tuple (eg ▸ hg) (Calls.spliced_nil (isi_tup I₁ (isi_t (headN_e hg fun _ _ q => glob_bi (eg ▸ q)) h) hu.o (PK.aft P X₁)))
    · exact isBi_e h2 fun eg => name_bi F.ok I₁ (R.ex X₁) (by decide +kernel) F.bok.str (eg ▸ hg) (Calls.spliced_nil (isi_str I₁ (isi_s (headN_e hg fun _ _ q => glob_bi (eg ▸ q)) h) hu.o (PK.aft P X₁)))
theorem callB_sound (S : Snd X kv) (F : Fx X cl) {t : BI} {fp : Pos} (I : J X W s) (R : EnvR X.G W ks E env) (hf : headN ks x = some (.bi (N (biNm t)))) (hk : okB (Str.ofString (biNm t)) = true) (h : callBW kv ks t as E k) (P : PK X W k Q) :
    Do X (eval (.Call (.Name x fp) as [] pos) env) Q s := by
  refine wpAny_Call_NameR ?_
  cases t with
  | len => exact name_bi F.ok I R hk F.bok.len hf (oneA_e (P := fun as => CD X pos as env (.builtin "len") Q s) h fun e hs h => call_b1 hs (cw_sound S I R h fun v h u _ _ X₁ I₁ hu => len_sound I₁ h hu (PK.aft P X₁)))
  | list => exact name_bi F.ok I R hk F.bok.list hf (oneA_e (P := fun as => CD X pos as env (.type "list") Q s) h fun e hs h => gd_e h fun hr h => call_t1 hs (rng_e S F hr I R h fun l q u _ _ X₁ I₁ hu => list_rng F.hh I₁ hu ((P _ q).aft X₁)))
  | tuple => exact name_bi F.ok I R hk F.bok.tuple hf (oneA_e (P := fun as => CD X pos as env (.type "tuple") Q s) h fun e hs h => call_t1 hs (cw_sound S I R h fun v h u _ _ X₁ I₁ hu => tuple_sound I₁ h hu (PK.aft P X₁)))
  | sum => exact name_bi F.ok I R hk F.bok.sum hf (oneA_e (P := fun as => CD X pos as env (.builtin "sum") Q s) h fun e hs h => call_b1 hs (cw_sound S I R h fun v h u _ _ X₁ I₁ hu => sum_sound F.hh I₁ h hu (PK.aft P X₁)))
  | min => exact name_bi F.ok I R hk F.bok.min hf (oneA_e (P := fun as => CD X pos as env (.builtin "min") Q s) h fun e hs h => call_b1 hs (cw_sound S I R h fun v h u _ _ X₁ I₁ hu => min_sound F.hh I₁ h hu (PK.aft P X₁)))
  | str => exact name_bi F.ok I R hk F.bok.str hf (oneA_e (P := fun as => CD X pos as env (.type "str") Q s) h fun e hs h => call_t1 hs (S.e I R h fun v h u _ _ X₁ I₁ hu => str_sound I₁ h hu.o (PK.aft P X₁)))
  | sorted => exact name_bi F.ok I R hk F.bok.sorted hf (oneA_e (P := fun as => CD X pos as env (.builtin "sorted") Q s) h fun e hs h => call_b1 hs (cw_sound S I R h fun v h u _ _ X₁ I₁ hu => F.calls.srt I₁ h hu (PK.aft P X₁)))
  | isinstance => exact name_bi F.ok I R hk F.bok.isinstance hf (isi_call S F I R h P)
theorem name_fn (F : Fx X cl) {n : Nat} {fp : Pos} (I : J X W s) (R : EnvR X.G W ks E env) (hf : headN ks x = some (.fn n)) (P : ∀ fv, X.G.gval x = some fv → (FnIs X.G n fv ∨ n = N "TupleComp") → okN x → nm x = n → Q fv s) : Do X (eval (.Name x fp) env) Q s :=
  headN_e hf fun h1 h2 h3 => by
    obtain ⟨e, h4⟩ := glob_fn h3
    obtain ⟨fv, h5, h6⟩ := F.fok.fn x (fine_ok h1) h4
    exact wpAny_Name (load_glob F.ok I R h1 h2 h5 (P fv h5 (e ▸ h6) (fine_ok h1) e)) (fine_ne h1).1
theorem callF_sound (S : Snd X kv) (F : Fx X cl) {n : Nat} {fp : Pos} (I : J X W s) (R : EnvR X.G W ks E env) (hf : headN ks x = some (.fn n)) (h : brW (Nat.beq n (N "TupleComp")) (mkW kv as ks E k) (evsN kv ks as E fun vs => cl n vs k)) (P : PK X W k Q) :
    Do X (eval (.Call (.Name x fp) as [] pos) env) Q s := by
  refine wpAny_Call_NameR (name_fn F I R hf fun fv hg hfn ok hx => br_e h (fun ht h => ?_) fun ht h => gd_e h fun hs h => ?_)
  · rw [nm_is ok (by decide +kernel) (hx.trans (beqN.mp ht))] at hg
    exact oneA_e (P := fun as => CD X pos as env fv Q s) h fun e hs h => F.fok.cw hg (any_one hs) (wpAny_mono (backTo_cons (pos := pos) (rest := []) (env := env) hs ▸ Calls.evalArgs_plain (Calls.spliced_cons (S.e I R h fun v h u W₁ s₁ X₁ I₁ hu => gd_e h fun hi h => Calls.spliced_nil
      (show (fun (x : Args) s₁ => (∀ a o, X.G.hB.get? a = some o → s₁.heap.get? a = some o) ∧ wpAny X.G.M X.A (call fv x.pos x.kw) Q (fun _ _ => False) s₁) ⟨[u], []⟩ s₁ from ⟨fun _ _ => I₁.hB, F.calls.cls I₁ hi hg hu ((P _ h).aft X₁)⟩)))) (fun _ _ h => h) fun _ _ h => h)
  · exact fn_call S F (first := []) (fs := []) hs I R (hfn.elim id fun q => by rw [q, Nat.beq_refl] at ht; exact nomatch ht) rfl h P
end
end Mine
end
section
open PySem PySem.W PyProof.Rows
set_option maxRecDepth 100000
set_option genInjectivity false
set_option genSizeOf false
set_option backward.match.sparseCases false
namespace Mine
section
variable {X : Cx} {cl : Cl} {kv : KEv} {W W' : Wd} {s : Shared} {env : Env} {ks : Ks} {E : VEnv} {Q : Value → Shared → Prop} {k : V → Prop} {pos p : Pos}
structure GenOk (X : Cx) (kv : KEv) : Prop where
  zip : ∀ {W : Wd} {s : Shared} {env : Env} {ks : Ks} {E : VEnv} {Q : Value → Shared → Prop} {k : V → Prop} {p fp q : Pos} {f : Str} {elt : PySem.Expr} {g : Comprehension} {sc : Scope}, J X W s → EnvR X.G W ks E env → zipW kv ks f elt g sc E k → PK X W k Q →
    Do X (eval (.Call (.Name f fp) [.GeneratorExp elt [g] sc q] [] p) env) Q s
  join : ∀ {W : Wd} {s : Shared} {env : Env} {ks : Ks} {E : VEnv} {Q : Value → Shared → Prop} {k : V → Prop} {p ap q : Pos} {o : PySem.Expr} {n : Str} {elt : PySem.Expr} {g : Comprehension} {sc : Scope}, J X W s → EnvR X.G W ks E env → (plainBase o && Nat.beq ap.endLine p.line) = true → joinGen kv ks o (nmS n) elt g sc E k → PK X W k Q →
    Do X (eval (.Call (.Attribute o n ap) [.GeneratorExp elt [g] sc q] [] p) env) Q s
  sub : ∀ {W : Wd} {s : Shared} {env : Env} {ks : Ks} {E : VEnv} {Q : Value → Shared → Prop} {k : V → Prop} {p ap q : Pos} {o e b : PySem.Expr} {n : Str} {as : Arguments} {sc : Scope}, J X W s → EnvR X.G W ks E env → (plainBase o && Nat.beq ap.endLine p.line) = true → subRe kv ks o (nmS n) as sc e E k → PK X W k Q →
    Do X (eval (.Call (.Attribute o n ap) [.Lambda as b sc q, e] [] p) env) Q s
def AvIs (as : List PySem.Expr) (v : AV) : Prop := match v with
  | .gen elt g sc p => as = [.GeneratorExp elt [g] sc p]
  | .lam a b sc p e => as = [.Lambda a b sc p, e]
  | .plain => True
theorem aGen_is (elt : PySem.Expr) (gs : List Comprehension) (sc : Scope) (p : Pos) : AvIs [.GeneratorExp elt gs sc p] (aGen gs elt sc p) := by
  rcases gs with _ | ⟨g, _ | ⟨_, _⟩⟩ <;> first | exact rfl | exact trivial
theorem aview_is (as : List PySem.Expr) : AvIs as (aview as) := by
  cases as with
  | nil => exact trivial
  | cons e as =>
    cases as with
    | nil => cases e <;> first | exact aGen_is _ _ _ _ | exact trivial
    | cons e' as =>
      cases as with
      | nil => cases e <;> first | exact rfl | exact trivial
      | cons e'' as => exact trivial
theorem call_e (S : Snd X kv) (F : Fx X cl) (Z : GenOk X kv) {f : Str} {fp : Pos} {as : List PySem.Expr} (I : J X W s) (R : EnvR X.G W ks E env) (h : callW cl kv ks f as E k) (P : PK X W k Q) : Do X (eval (.Call (.Name f fp) as [] p) env) Q s := by
  have V := aview_is as
  unfold callW at h
  generalize aview as = v at V h
  cases v with
  | gen elt g sc q => exact (show as = _ from V) ▸ Z.zip I R h P
  | lam a b sc q e => exact h.elim
  | plain =>
    refine optW_e (k := fun g : GV => match g with
      | .bi b => optW (look b biTab) fun t => callBW kv ks t as E k
      | .fn n => brW (Nat.beq n (N "TupleComp")) (mkW kv as ks E k) (evsN kv ks as E fun vs => cl n vs k)) h fun g hg h => ?_
    cases g with
    | bi b => exact optW_e h fun t ht h => callB_sound S F I R ((bi_ok ht).1 ▸ hg) (bi_ok ht).2 h P
    | fn n => exact callF_sound S F I R hg h P
theorem methE (S : Snd X kv) (F : Fx X cl) (Z : GenOk X kv) {o : PySem.Expr} {n : Str} {ap : Pos} {as : List PySem.Expr} (I : J X W s) (R : EnvR X.G W ks E env) (h : gd (plainBase o && Nat.beq ap.endLine p.line && Nat.blt as.length 30 && as.all noStar) (methW cl kv ks o (nmS n) as E k)) (P : PK X W k Q) :
    Do X (eval (.Call (.Attribute o n ap) as [] p) env) Q s := by
  refine gd_e h fun h0 h => ?_
  have h1 : (plainBase o && Nat.beq ap.endLine p.line) = true := and_e h0 fun h0 _ => and_e h0 fun h0 _ => h0
  have V := aview_is as
  unfold methW at h
  generalize aview as = v at V h
  cases v with
  | gen elt g sc q => exact (show as = _ from V) ▸ Z.join I R h1 h P
  | lam a b sc q e => exact (show as = _ from V) ▸ Z.sub I R h1 h P
  | plain => exact meth_e S F I R h0 h P
theorem stepE_sound (S : Snd X kv) (F : Fx X cl) (Z : GenOk X kv) {e : PySem.Expr} (I : J X W s) (R : EnvR X.G W ks E env) (h : stepE cl kv ks e E k) (P : PK X W k Q) : Do X (eval e env) Q s := by
  have V := view_is e
  have h : stepV cl kv ks (view e) E k := h
  generalize view e = v at V h
  cases v with
  | bad => exact h.elim
  | sub o i p => exact (show e = _ from V.1) ▸ sub_e S V.2 I R h P
  | const c n p => exact (show e = _ from V) ▸ (const_e I h P)
  | name x p => exact (show e = _ from V) ▸ (name_v I R h P)
  | bin l op r p => exact (show e = _ from V) ▸ (bin_e S I R h P)
  | cmp l op r p => exact (show e = _ from V) ▸ (have z := comp2_sound (kb := fun b => k (.bool b)) S F I R h fun b h => P _ h; wpAny_Compare1 z.2 z.1)
  | and es p => exact (show e = _ from V) ▸ (and_sound S I R h P)
  | or es p => exact (show e = _ from V) ▸ (or_sound S I R h P)
  | not x p => exact (show e = _ from V) ▸ (not_e S I R h P)
  | neg x p => exact (show e = _ from V) ▸ (neg_e S I R h P)
  | ite t b o p => exact (show e = _ from V) ▸ (ite_e S I R h P)
  | tup es n p => exact (show e = _ from V) ▸ (tup_e' S I R h P)
  | lst es p => exact (show e = _ from V) ▸ (lst_e' S I R h P)
  | dct0 p => exact (show e = _ from V) ▸ (dct0_e I h P)
  | dct1 a b p => exact (show e = _ from V) ▸ (dct1_e S I R h P)
  | slc o lo hi p q => exact (show e = _ from V) ▸ (slc_e S I R h P)
  | attr x xp n p => exact (show e = _ from V) ▸ (attr_e F I R h P)
  | meth o n ap as p => exact (show e = _ from V) ▸ (methE S F Z I R h P)
  | call f fp as p => exact (show e = _ from V) ▸ (call_e S F Z I R h P)
  | comp elt tgt it ifs sc p => exact (show e = _ from V) ▸ (comp_e S F I R h P)
  | fstr es p => exact (show e = _ from V) ▸ (fstr_e S I R h P)
theorem val_t (S : Snd X kv) {k : Bool → Prop} {Q : Bool → Shared → Prop} {e : PySem.Expr} (I : J X W s) (R : EnvR X.G W ks E env) (h : gd (plainT e) (cW kv ks e E fun v => truthW v k)) (P : PT X W k Q) : Do X (isTrue e env (eval e env)) Q s :=
  gd_e h fun hp h => wpAny_isTrue_value (cw_sound S I R h fun v h u _ _ X₁ I₁ hu => truth_sound I₁ h hu (PT.aft P X₁)) (by cases e <;> first | rfl | exact nomatch hp)
theorem stepT_sound (S : Snd X kv) (F : Fx X cl) {e : PySem.Expr} {k : Bool → Prop} {Q : Bool → Shared → Prop} (I : J X W s) (R : EnvR X.G W ks E env) (h : stepT kv ks e E k) (P : PT X W k Q) : Do X (isTrue e env (eval e env)) Q s := by
  have V := view_is e
  unfold stepT at h
  generalize view e = v at V h
  cases v with
  | not x p => rw [show e = _ from V]; exact wpAny_isTrue_Not (S.t I R h fun b h => P _ h)
  | and es p => rw [show e = _ from V]; exact wpAny_isTrue_BoolOp (tAll_sound S I R h P)
  | or es p => rw [show e = _ from V]; exact wpAny_isTrue_BoolOp (tAny_sound S I R h P)
  | cmp l op r p =>
    rw [show e = _ from V]
    have z := comp2_sound (Q := fun c s₃ => Do X (truthy c) Q s₃) S F I R h fun b h u W' s' X' I' hu => bol_e (f := k) hu.o h fun b h => wpAny_truthy_bool (P b h W' s' X' I')
    exact wpAny_isTrue_Compare1 z.2 z.1
  | _ => exact val_t S I R h P
end
end Mine
end
section
open PySem PySem.W PyProof.Rows
set_option maxRecDepth 100000
set_option genInjectivity false
set_option genSizeOf false
set_option backward.match.sparseCases false
namespace Mine
section
variable {X : Cx} {cl : Cl} {kv : KEv} {W W' : Wd} {s : Shared} {env : Env} {ks : Ks} {ow : List Nat} {E : VEnv} {x : Str} {u : Value} {v : V}
structure Stored (W W' : Wd) (ks : Ks) (env : Env) (x : Str) (u : Value) : Prop extends Chg W W' ks env x where
  owns : ∀ t j a o, 2 ≤ t → W.rl a = some (.fr t j o) → W'.rl a = some (.fr t j o)
  tk : W'.tk = W.tk
  to : Slot W' ks env x (some u)
theorem fr_with {t j : Nat} {o o' : Obj} : (Role.fr t j o).with o' = .fr t j o' := rfl
theorem fr_ne {a b : Addr} {t j t' j' : Nat} {o o' : Obj} (ha : W.rl a = some (.fr t j o)) (hb : W.rl b = some (.fr t' j' o')) (h : t ≠ t') : b ≠ a := fun e => by
  subst e
  exact h (Role.noConfusion (Option.some.inj (ha.symm.trans hb)) fun e _ _ => e)
theorem chg_upd {a : Addr} {t j : Nat} {o o' : Obj} (ha : W.rl a = some (.fr t j o)) (hj : t = 0 ∨ j = nm x) (hs : ∀ y sv, okN y → y ≠ x → Slot W ks env y sv → Slot (W.upd a (.fr t j o')) ks env y sv) : Chg W (W.upd a (.fr t j o')) ks env x := by
  refine ⟨Sx.upd fun q e => Option.some.inj (ha.symm.trans e) ▸ rfl, hs, fun t' j' b ob n n2 e => (Wd.upd_ne fun z => ?_).trans e, fun ob e => ?_, fun z c ob e => ?_⟩
  · have q := Option.some.inj (ha.symm.trans (z ▸ e))
    exact Role.noConfusion q fun q1 q2 _ => hj.elim (fun h => by omega) fun h => n (q2.symm.trans h)
  · by_cases z : env.locals = a
    · have q := Option.some.inj (ha.symm.trans (z ▸ e))
      exact Role.noConfusion q fun q1 q2 _ => ⟨o', (congrArg _ z).trans (Wd.upd_self.trans (by rw [q1, q2]))⟩
    · exact ⟨ob, (Wd.upd_ne z).trans e⟩
  · by_cases z' : c = a
    · have q := Option.some.inj (ha.symm.trans (z' ▸ e))
      exact Role.noConfusion q fun q1 q2 _ => ⟨o', (congrArg _ z').trans (Wd.upd_self.trans (by rw [q1, q2]))⟩
    · exact ⟨ob, (Wd.upd_ne z').trans e⟩
theorem store_raw {Q : Unit → Shared → Prop} (I : J X W s) (R : FrR X.G W ks ow E env) (hk : kSt ks x = true) (P : ∀ W' s', Stored W W' ks env x u → J X W' s' → Q () s') : Do X (storeName env x u) Q s := by
  refine kSt_e hk fun ok hx => ?_
  have hs : ∃ sv, Slot W ks env x sv := (R.ent x ok (by rcases hx with e | e <;> rw [e] <;> rfl)).some
  have fin : ∀ a t j o, W.rl a = some (.fr t j o) → t < 2 → (t = 0 ∨ j = nm x) → (look (nm x) ks = some .local ∧ a = env.locals ∨ look (nm x) ks = some .cell ∧ env.cells.lookup x = some a) → (∀ y, okN y → y ≠ x → look (nm y) ks = some .cell → env.cells.lookup y ≠ some a) → Do X (storeName env x u) Q s :=
    fun a t j o ha ht hj hp hne => store_slot I R.toEnvR ⟨hp, _, ha, rfl⟩ hs (fun y hy hyx hc => ⟨fun e => hne y hy hyx e hc, R.nf _⟩) ok fun r o' h' tk h1 _ I' k1 k2 => by
      have e := Option.some.inj (h1.symm.trans ha)
      subst e
      exact P _ _ ⟨chg_upd ha hj k1, fun t' j' b ob ht' e => (Wd.upd_ne (fr_ne ha e (by omega))).trans e, rfl, k2⟩ I'
  rcases hx with hl | hc
  · obtain ⟨o, ha⟩ := R.loc
    refine fin _ 0 0 o ha (by decide) (.inl rfl) (.inl ⟨hl, rfl⟩) fun y hy _ hk hc => ?_
    obtain ⟨c, o', h1, h2⟩ := R.cel y hy hk
    exact fr_ne ha h2 (by decide) (Option.some.inj (h1.symm.trans hc))
  · obtain ⟨c, o, h1, ha⟩ := R.cel x ok hc
    refine fin _ 1 _ o ha (by decide) (.inr rfl) (.inr ⟨hc, h1⟩) fun y hy hyx hk hc => ?_
    obtain ⟨c', o', h3, h4⟩ := R.cel y hy hk
    rw [Option.some.inj (h3.symm.trans hc)] at h4
    exact hyx (nm_inj hy ok (Role.noConfusion (Option.some.inj (h4.symm.trans ha)) fun _ e _ => e))
abbrev PE (X : Cx) (W : Wd) (ks : Ks) (ow : List Nat) (E : VEnv) (env : Env) (Q : Unit → Shared → Prop) : Prop := ∀ W' s', Sx W W' → J X W' s' → FrR X.G W' ks ow E env → Q () s'
theorem store_val {Q : Unit → Shared → Prop} (I : J X W s) (R : FrR X.G W ks ow E env) (hk : kSt ks x = true) (hv : Rel X.G W v u) (P : PE X W ks ow (putE (nm x) (.val v) E) env Q) : Do X (storeName env x u) Q s :=
  store_raw I R hk fun W' s' C I' => P W' s' C.sx I' (R.chg (kSt_e hk fun ok _ => ok) C.toChg ⟨rfl, (fun _ e => nomatch e), ⟨u, C.to, hv.le C.sx.le⟩, (fun _ e => nomatch e), fun z _ => .inl (congrFun C.tk z)⟩)
structure OwnN (G : GI) (W : Wd) (j : Nat) (en : En) (a : Addr) : Prop where
  ne : isNo en = false
  ap : ∀ y, en ≠ .ap y
  ent : ∀ {W' : Wd} {S : Str → Option Value → Prop} {x : Str}, nm x = j → Le W W' → (∀ t b o, 2 ≤ t → W.rl b = some (.fr t j o) → W'.rl b = some (.fr t j o)) → S x (some (.ref a)) → EntR G W' S x en
theorem store_own {Q : Unit → Shared → Prop} {en : En} {a : Addr} (I : J X W s) (R : FrR X.G W ks ow E env) (hk : kSt ks x = true) (hn : newN (nm x) E = true ∨ ∀ l, en ≠ .ml l) (hv : OwnN X.G W (nm x) en a) (P : PE X W ks ow (putE (nm x) en E) env Q) : Do X (storeName env x (.ref a)) Q s :=
  store_raw I R hk fun W' s' C I' => P W' s' C.sx I' (R.chg (kSt_e hk fun ok _ => ok) C.toChg ⟨hv.ne, fun l e => .inl (hn.elim id fun h => absurd e (h l)), hv.ent rfl C.sx.le (fun t b o ht => C.owns t _ b o ht) C.to, fun y e => absurd e (hv.ap y), fun z _ => .inl (congrFun C.tk z)⟩)
theorem ownL_is {l : List V} {vs : List Value} {n j : Nat} {a : Addr} (h : W.rl a = some (.fr 2 j (seqO "list" vs n))) (hs : a ≠ sysModules) (r : Rels X.G W l vs) : OwnN X.G W j (.ml l) a :=
  ⟨rfl, (fun _ e => nomatch e), fun hx L ho hS => ⟨a, vs, hS, ⟨hs, n, hx ▸ ho 2 a _ (Nat.le_refl _) h⟩, Rels.le L r⟩⟩
theorem ownD_is {kvs : List (Str × Value)} {vs : List V} {j : Nat} {o : Obj} {a : Addr} (h : W.rl a = some (.fr 2 j o)) (hs : a ≠ sysModules) (d : DictO X.G o kvs) (r : Rels X.G W vs (kvs.map (·.2))) : OwnN X.G W j (.md (keysV kvs) vs) a :=
  ⟨rfl, (fun _ e => nomatch e), fun hx L ho hS => ⟨a, o, kvs, hS, hs, hx ▸ ho 2 a _ (Nat.le_refl _) h, d, rfl, Rels.le L r⟩⟩
theorem ownR_is {l : List (List Nat × List V)} {vs : List Value} {n j : Nat} {a : Addr} (h : W.rl a = some (.fr 2 j (seqO "list" vs n))) (hs : a ≠ sysModules) (r : RowsR X.G W j 0 l vs) : OwnN X.G W j (.mr l) a :=
  ⟨rfl, (fun _ e => nomatch e), fun hx L ho hS => ⟨a, vs, hS, ⟨hs, n, hx ▸ ho 2 a _ (Nat.le_refl _) h⟩, hx ▸ r.mono L fun _ a o _ => ho _ a o (Nat.le_trans (by decide) (Nat.le_add_right 3 _))⟩⟩
def Wd.tok (W : Wd) (x : Nat) (a : Addr) : Wd := { W with tk := fun k => if k = x then some a else W.tk k }
theorem tok_e {k j : Nat} {a b : Addr} {P : Prop} (h : (W.tok j a).tk k = some b) (c : k = j → a = b → P) (d : W.tk k = some b → P) : P := by
  by_cases e : k = j
  · exact c e (Option.some.inj ((if_pos e).symm.trans h))
  · exact d ((if_neg e).symm.trans h)
theorem J.tok (I : J X W s) {j : Nat} {a : Addr} {o : Obj} (ha : W.rl a = some (.fz o)) (hc : o.cls ≠ .type "tuple") (hn : ∀ k, W.tk k ≠ some a) (hl : (X.lw = 2 ∨ (X.lw = 1 ∧ j ≠ N "STAR")) ∧ X.tn j = true) : J X (W.tok j a) s := by
  refine ⟨I.rl, I.base, fun k b e => tok_e e (fun _ e => e ▸ ⟨o, ha, hc⟩) (I.tk k b), fun k i b e f => tok_e e (fun e1 e2 => tok_e f (fun f1 _ => e1.trans f1.symm) fun f => absurd (e2 ▸ f) (hn i)) fun e => tok_e f (fun _ f2 => absurd (f2 ▸ e) (hn k)) (I.inj k i b e), ⟨fun e => ?_, fun e => ?_⟩, I.tab, I.sys, I.os, I.gens, fun z h => (if_neg fun e => by rw [e, hl.2] at h; exact nomatch h).trans (I.t0 z h)⟩
  · rcases hl.1 with h | h
    · exact nomatch e.symm.trans h
    · exact nomatch e.symm.trans h.1
  · rcases hl.1 with h | h
    · exact nomatch e.symm.trans h
    · exact (if_neg (Ne.symm h.2)).trans (I.lv.2 e)
theorem store_tok {Q : Unit → Shared → Prop} {a : Addr} {o : Obj} (T : OwOk X ow) (I : J X W s) (R : FrR X.G W ks ow E env) (hk : kSt ks x = true) (hw : ow.any (Nat.beq (nm x)) = true) (ht : tokE (nm x) E = true) (ha : W.rl a = some (.fz o)) (hc : o.cls ≠ .type "tuple") (hn : ∀ k, W.tk k ≠ some a)
    (P : PE X W ks ow (putE (nm x) (.val (.atm (nm x))) E) env Q) : Do X (storeName env x (.ref a)) Q s :=
  and_e ht fun ht h3 => and_e ht fun h1 h2 => store_raw I R hk fun W' s' C I' => by
    have w0 : W.tk (nm x) = none := R.tok _ hw h1 h2
    have sx : Sx W (W'.tok (nm x) a) := ⟨C.sx.rl, fun k b e => by
      by_cases q : k = nm x
      · rw [q, w0] at e; exact nomatch e
      · exact (if_neg q).trans ((congrFun C.tk k).trans e)⟩
    have L : Le W' (W'.tok (nm x) a) := ⟨fun _ _ e => e, fun k b e => sx.tk k b ((congrFun C.tk k).symm.trans e)⟩
    refine P _ s' sx (I'.tok (C.sx.rl _ _ ha rfl) hc (fun k => C.tk ▸ hn k) (T _ hw h1)) (R.chg (kSt_e hk fun ok _ => ok) ⟨sx, fun y sv hy hyx k => (C.slot y sv hy hyx k).mono fun _ _ e => e, C.own, C.loc, C.cel⟩ ⟨rfl, (fun _ e => nomatch e), ⟨.ref a, C.to.mono fun _ _ e => e, .mk ⟨a, rfl, if_pos rfl⟩⟩, (fun _ e => nomatch e), fun z _ => ?_⟩)
    by_cases q : z = nm x
    · exact .inr ⟨q, q ▸ h3⟩
    · exact .inl ((if_neg q).trans (congrFun C.tk z))
end
end Mine
end
section
open PySem PySem.W PyProof.Rows
set_option maxRecDepth 100000
set_option genInjectivity false
set_option genSizeOf false
set_option backward.match.sparseCases false
namespace Mine
open Sem (wp)
theorem obj_mro : mroOf (.type "object") = pure [.type "object"] := by rw [mroOf_type]; kernel_rfl
theorem obj_new : typeLookup (.type "object") "__new__" = pure (some (.builtin "object.__new__")) := by rw [typeLookup_type, builtinLookup_eq_fast]; kernel_rfl
theorem obj_init_lookup : typeLookup (.type "object") "__init__" = pure (some (.builtin "object.__init__")) := by rw [typeLookup_type, builtinLookup_eq_fast]; kernel_rfl
theorem obj_called : TypeCalled "object" "object.__new__" "object.__init__" :=
  ⟨by decide +kernel, by decide +kernel, ⟨_, _, obj_mro⟩, madeBy_type obj_mro obj_new (by decide +kernel), by decide +kernel, by rw [isSubtype_type]; kernel_rfl, PySem.F.slot_object_init⟩
theorem obj_typeCall : checkTypeCall "object" ⟨[], []⟩ = pure () := by kernel_rfl
theorem obj_newCall : checkBuiltinCall "object.__new__" ⟨[.type "object"], []⟩ = pure () := by kernel_rfl
theorem obj_madeHere : Bind.madeHere "object.__new__" (.type "object") = pure () := by
  unfold Bind.madeHere
  have e : Bind.staticBase (.type "object") = pure (.type "object") := by first | rfl | kernel_rfl
  rw [e]
  simp only [pure_bind, obj_called.made]
  first | rfl | kernel_rfl | (simp; rfl)
theorem obj_find : Manifest.find? "object" = Manifest.find? "object" := rfl
theorem obj_noNew : (Manifest.find? "object").elim false (fun b => b.mro.any (fun t => (Manifest.find? t).elim false (·.noNew))) = false := by decide +kernel
theorem obj_dict : typeHasDict (.type "object") = false := by decide +kernel
theorem obj_new_meets :
    Meets (Builtin.«object.__new__» ⟨[.type "object"], []⟩) (fun _ R s => R (.ok (.ret (.ref s.heap.objs.size))) { s with heap := s.heap.push { cls := .type "object" } }) :=
  .of_wp fun prog w A R s h => by
    obtain ⟨hp, g, d, tk, os⟩ := s
    have h1 := obj_madeHere
    have h2 := obj_noNew
    have h3 := obj_dict
    wp_walk
    exact ⟨_, rfl, h⟩
theorem obj_init_meets (self : Value) : Meets (Builtin.«object.__init__» ⟨[self], []⟩) (fun _ R s => R (.ok (.ret .none)) s) :=
  Meets.of_wp fun prog w A R s hs => wpAny_pure ⟨_, rfl, hs⟩
theorem object_sound {prog : Program} {w : World} {A : Around} {s : Shared} {E : Value → Shared → Prop} {Q : Value → Shared → Prop} (h : Q (.ref s.heap.objs.size) { s with heap := s.heap.push { cls := .type "object" } }) :
    wpAny (model prog w) A (call (.type "object") []) Q E s :=
  callType_meets (Q₁ := fun obj s₁ => obj = .ref s.heap.objs.size ∧ s₁ = { s with heap := s.heap.push { cls := .type "object" } }) obj_called obj_typeCall obj_newCall PySem.F.entry_object_new PySem.F.entry_object_init obj_new_meets ⟨rfl, rfl⟩ fun obj s₁ hq => by
    obtain ⟨rfl, rfl⟩ := hq
    exact ⟨⟨_, Heap.get?_push_size _ rfl, rfl⟩, PySem.F.args_object_init_1 _, _, obj_init_meets _, rfl, h⟩
theorem md_slot : PySem.Slot "method_descriptor" "__get__" "method_descriptor.__get__" :=
  .of (owner := "method_descriptor") (n := "__get__") (by rw [typeLookup_type, builtinLookup_eq_fast]; kernel_rfl) (by decide +kernel) (by decide +kernel) (by decide +kernel)
    (by first | exact .inl (by decide +kernel) | exact .inr (by decide +kernel)) (by rw [isSubtype_type]; kernel_rfl)
theorem md_entry : entryFor table "method_descriptor.__get__" = some Builtin.«method_descriptor.__get__» := entryFor_of_tree (by kernel_rfl)
theorem md_args (a b c : Value) : argsOk "method_descriptor.__get__" ⟨[a, b, c], []⟩ := by unfold argsOk; kernel_rfl
theorem md_type : typeOf (.builtin "list.append") = pure (.type "method_descriptor") := by show builtinType _ = _; rw [builtinType_eq_fast]; kernel_rfl
theorem md_run (a : Addr) : Builtin.«method_descriptor.__get__» ⟨[.builtin "list.append", .ref a, .type "list"], []⟩ =
    ((do if !(← isInstance (.ref a) (.type "list")) then
          rule "descr.get.wrong-instance"
          raiseError "TypeError" s!"descriptor '{(Str.ofString "append").toString}' for '{← typeName (.type "list")}' objects doesn't apply to a '{← typeNameOf (.ref a)}' object" : Sem Unit) >>= fun _ =>
      newFields "builtin_function_or_method" [.builtin "list.append", .ref a] >>= fun v => ret v) := by kernel_rfl
theorem md_meets (a : Addr) (xs : Array Value) (k : Nat) :
    Meets (Builtin.«method_descriptor.__get__» ⟨[.builtin "list.append", .ref a, .type "list"], []⟩) (fun _ R s => s.heap.get? a = some { cls := .type "list", data := .seq xs k } ∧
      R (.ok (.ret (.ref s.heap.objs.size))) { s with heap := s.heap.push { cls := .type "builtin_function_or_method", data := .fields #[.builtin "list.append", .ref a] } }) :=
  Meets.of_wp fun prog w A R s hs => by
    obtain ⟨hx, hs⟩ := hs
    rw [md_run]
    refine wpAny_bind (wpAny_bind (wpAny_isInstance ⟨_, hx, rfl⟩ AutoSeq1.sub_list_list ?_))
    rw [if_neg (by simp)]
    refine wpAny_pure ?_
    exact wpAny_bind (wpAny_newObj_type (wpAny_pure ⟨_, rfl, hs⟩))
theorem md_call {prog : Program} {w : World} {A : Around} {s s' : Shared} {a : Addr} {xs : Array Value} {k : Nat} (hx : s.heap.get? a = some { cls := .type "list", data := .seq xs k })
    (hs : s' = { s with heap := s.heap.push { cls := .type "builtin_function_or_method", data := .fields #[.builtin "list.append", .ref a] } }) :
    codeAny (model prog w) A (Code.call (.builtin "method_descriptor.__get__") ⟨[.builtin "list.append", .ref a, .type "list"], []⟩) (fun r t => r = .ok (.ret (.ref s.heap.objs.size)) ∧ t = s') s := by
  refine codeAny_call_builtin md_slot.plain md_entry (md_slot.check _ _ _ _ _ _ _ _ md_type (md_args _ _ _) ?_)
  exact md_meets a xs k prog w A (fun r t => r = .ok (.ret (.ref s.heap.objs.size)) ∧ t = s') s ⟨hx, rfl, hs.symm⟩
theorem lk_append : typeLookup (.type "list") (Str.ofString "append") = pure (some (.builtin "list.append")) := by rw [typeLookup_type, builtinLookup_eq_fast]; kernel_rfl
theorem bk_append : builtinKind "list.append" = some .method := by decide +kernel
theorem md_get : typeLookup (.type "method_descriptor") (Str.ofString "__get__") = pure (some (.builtin "method_descriptor.__get__")) := by rw [typeLookup_type, builtinLookup_eq_fast]; kernel_rfl
theorem md_set : typeLookup (.type "method_descriptor") (Str.ofString "__set__") = pure none := by rw [typeLookup_type, builtinLookup_eq_fast]; kernel_rfl
theorem md_del : typeLookup (.type "method_descriptor") (Str.ofString "__delete__") = pure none := by rw [typeLookup_type, builtinLookup_eq_fast]; kernel_rfl
set_option maxHeartbeats 4000000 in
theorem meets_get_append (a : Addr) (xs : Array Value) (k : Nat) (u : Tok) :
    Meets (Builtin.«object.__getattribute__» ⟨[.ref a, .str (Str.ofString "append") u], []⟩) (fun A R s => s.heap.get? a = some { cls := .type "list", data := .seq xs k } ∧
      R (.ok (.ret (.ref s.heap.objs.size))) { s with heap := s.heap.push { cls := .type "builtin_function_or_method", data := .fields #[.builtin "list.append", .ref a] } }) :=
  Meets.of_wp fun prog w A R s hs => by
    obtain ⟨hp, g, d, tk, os⟩ := s
    obtain ⟨hx, hs⟩ := hs
    have hT : (⟨hp, g, d, tk, os⟩ : Shared).TypeIs (.ref a) "list" := ⟨_, hx, rfl⟩
    have l := lk_append
    unfold Builtin.«object.__getattribute__»
    have bk := bk_append
    have m1 := md_get
    have m2 := md_set
    have m3 := md_del
    repeat (any_goals (first | assumption | (rw [bk]; dsimp only) | wp_step))
    refine codeAny_mono (R := fun r s' => r = .ok (.ret (.ref hp.objs.size)) ∧ s' = ⟨hp.push { cls := .type "builtin_function_or_method", data := .fields #[.builtin "list.append", .ref a] }, g, d, tk, os⟩)
      (md_call hx rfl) fun r s' hr => ?_
    obtain ⟨rfl, rfl⟩ := hr
    exact wpAny_pure ⟨_, rfl, hs⟩
theorem gl_entry : entryFor table "list.__getattribute__" = some Builtin.«object.__getattribute__» :=
  entryFor_alias (id' := "object.__getattribute__") (by kernel_rfl) (by decide +kernel) (by decide +kernel) (by kernel_rfl)
theorem get_append {prog : Program} {w : World} {A : Around} {E : Value → Shared → Prop} {s : Shared} {a : Addr} {xs : Array Value} {k : Nat} {Q : Value → Shared → Prop} (hx : s.heap.get? a = some { cls := .type "list", data := .seq xs k })
    (hQ : ∀ tk, s.toks ≤ tk → Q (.ref s.heap.objs.size) { s with heap := s.heap.push { cls := .type "builtin_function_or_method", data := .fields #[.builtin "list.append", .ref a] }, toks := tk }) :
    wpAny (model prog w) A (getAttr (.ref a) (Str.ofString "append") true) Q E s := by
  obtain ⟨hp, g, d, tk, os⟩ := s
  have hT : ∀ tk', (⟨hp, g, d, tk', os⟩ : Shared).TypeIs (.ref a) "list" := fun _ => ⟨_, hx, rfl⟩
  have f3 := PySem.F.slot_list_getattribute.lookup
  have f4 := PySem.F.slot_list_getattribute.bind (.ref a)
  unfold getAttr getAttrBy
  repeat (any_goals (first | assumption | exact hT _ | ((with_reducible show wpAny _ _ (call (Value.builtin "list.__getattribute__") _ _) _ _ _); refine call_meets PySem.F.slot_list_getattribute (hT _) gl_entry (PySem.F.args_list_getattribute_2 _ _) (meets_get_append a xs k _) ⟨hx, ?_⟩) | wp_step))
  exact wpAny_pure (hQ _ (Nat.le_succ _))
theorem bk_append' : builtinKind "list.append" = some .method := by decide +kernel
def sgA : Manifest.Signature := match Manifest.signature? "list.append" with
  | some s => s
  | none => ⟨.hand, "", "", .none, []⟩
theorem sgA_is : Manifest.signature? "list.append" = some sgA := by kernel_rfl
theorem sub_list_module : isSubtype (.type "list") (.type "module") = pure false := by rw [isSubtype_type]; kernel_rfl
theorem var_append : Manifest.varargsMethods.contains "list.append" = false := by decide +kernel
theorem chk_append (l : Addr) (w : Value) : Bind.checkArgs "list.append" { machinery := sgA.machinery, full := toString (Bind.lastOf "list") ++ toString "." ++ toString (Bind.lastOf "list.append"), short := sgA.short, receiver := sgA.receiver, params := sgA.params } ⟨[.ref l, w], []⟩ = pure () := by kernel_rfl
theorem append_check {prog : Program} {wo : World} {A : Around} {s : Shared} {E : Value → Shared → Prop} {l : Addr} {w : Value} {xs : Array Value} {n : Nat} {Q : Unit → Shared → Prop} (h : s.heap.get? l = some { cls := .type "list", data := .seq xs n }) (hQ : Q () s) : wpAny (model prog wo) A (checkBoundCall "list.append" ⟨[.ref l, w], []⟩) Q E s := by
  unfold checkBoundCall
  rw [sgA_is, bk_append']
  dsimp only
  rw [if_neg (by decide)]
  refine wpAny_bind (wpAny_isInstance ⟨_, h, rfl⟩ sub_list_module ?_)
  rw [var_append, if_neg (by simp)]
  unfold isType
  dsimp only
  unfold loadHead
  refine wpAny_bind (wpAny_bind (wpAny_loadPart h (wpAny_pure ?_)))
  dsimp only
  rw [if_neg (by simp)]
  refine wpAny_bind (wpAny_typeOf ⟨_, h, rfl⟩ ?_)
  dsimp only
  rw [chk_append]
  exact wpAny_pure hQ
theorem append_quiet {as : Args} : (Code.builtin "list.append" as).quiet = true := Code.quiet_builtin _ (by decide +kernel)
theorem bapp_call {prog : Program} {wo : World} {A : Around} {s : Shared} {E : Value → Shared → Prop} {a l : Addr} {w : Value} {vs : List Value} {n : Nat} {Q : Value → Shared → Prop} (ho : s.heap.get? a = some { cls := .type "builtin_function_or_method", data := .fields #[.builtin "list.append", .ref l] })
    (h2 : s.heap.get? l = some { cls := .type "list", data := .seq vs.toArray n }) (hl : vs.length < 65536) (hQ : ∀ h' n', h'.get? l = some { cls := .type "list", data := .seq (vs ++ [w]).toArray n' } → Heap.SameBut l s.heap h' → Q .none { s with heap := h' }) : wpAny (model prog wo) A (call (.ref a) [w]) Q E s := by
  refine wpAny_call (codeAny_of_tree ?_)
  show wpAny _ A.in1 (callAny (.ref a) ⟨[w], []⟩) _ _ s
  unfold callAny
  refine wpAny_bind (wpAny_load ho ?_)
  dsimp only
  rw [if_pos (by decide)]
  refine KFB.if_so (by decide) ?_
  refine wpAny_bind (append_check h2 ?_)
  refine wpAny_bind (wpAny_pure (wpAny_pure ?_))
  refine ⟨append_quiet, codeAny_builtin entry_list_append ?_⟩
  show wpAny _ _ (updateSeq l (·.push w) >>= fun _ => ret .none) _ _ s
  have hs : vs.length + 1 ≤ sizeLine := by rw [sizeLine_eq]; omega
  refine wpAny_bind (wpAny_updateSeq h2 rfl (wpAny_pure ?_) (Nat.le_of_succ_le hs) (by rw [Array.size_push]; exact Nat.succ_le_succ (Nat.le_of_succ_le hs)))
  exact hQ _ _ (by rw [Heap.get?_update_self _ h2 (by rw [Obj.mapSeq_push_plain]; rfl), Obj.mapSeq_push_plain, List.push_toArray]) (Heap.SameBut.update ..)
theorem bapp_callWith {M : Model} {A : Around} {E : Value → Shared → Prop} {s : Shared} {l u : Addr} {pos : Pos} {args : List (Bool × Sem Value)} {Q : Value → Shared → Prop} (ha : (args.any fun x => x.1) = false)
    (h : wpAny M A (evalArgs (.ref u) true args []) (fun x s₁ => s₁.heap.get? u = some { cls := .type "builtin_function_or_method", data := .fields #[.builtin "list.append", .ref l] } ∧ wpAny M A (call (.ref u) x.pos x.kw) Q E s₁) E s) :
    wpAny M A (callWith pos (.ref u) [] args []) Q E s := by
  unfold callWith
  refine wpAny_bind (wpAny_holding (wpAny_mono h (fun x s₁ h₁ => wpAny_bind (wpAny_standAt ?_)) fun _ _ x => x))
  obtain ⟨ho, hcall⟩ := h₁
  simp only [ha, List.any_nil, Bool.or_false]
  refine wpAny_bind (m := keeperOf (.ref u)) ?_
  unfold keeperOf
  refine wpAny_bind (wpAny_load ho ?_)
  simp only [show (Value.type "builtin_function_or_method" != Value.type "method") = true by decide, show (Value.type "builtin_function_or_method" == Value.type "builtin_function_or_method" || Value.type "builtin_function_or_method" == Value.type "method-wrapper") = true by decide, if_true]
  refine wpAny_pure ?_
  exact wpAny_bind (wpAny_mono hcall (fun r s₂ hr => wpAny_bind (wpAny_holding (wpAny_point (wpAny_pure hr)))) fun _ _ x => x)
end Mine
end
section
open PySem PySem.W PyProof.Rows
set_option maxRecDepth 100000
set_option genInjectivity false
set_option genSizeOf false
set_option backward.match.sparseCases false
namespace Mine
def RvIs (e : PySem.Expr) (r : RV) : Prop := match r with
  | .nil p => e = .List [] p
  | .comp elt tgt it ifs sc p => e = .ListComp elt [⟨tgt, it, ifs, 0⟩] sc p
  | .dct0 p => e = .Dict [] [] p
  | .row s k p q r => e = .List [.Tuple [s, .List [] q] k p] r
  | .bound x xp n p => e = .Attribute (.Name x xp) n p ∧ nmS n = N "append"
  | .obj f fp p => e = .Call (.Name f fp) [] [] p
  | .other => True
theorem rRow_is (e : PySem.Expr) (r : Pos) : RvIs (.List [e] r) (rRow e r) := by
  unfold rRow
  cases h : rowX e with
  | none => exact trivial
  | some x => exact congrArg (fun e => PySem.Expr.List [e] r) (sub_i (p := fun r : PySem.Expr × Nat × Pos × Pos => e = .Tuple [r.1, .List [] r.2.2.2] r.2.1 r.2.2.1) h)
theorem rLst_is (own : Bool) (es : List PySem.Expr) (p : Pos) : RvIs (.List es p) (rLst own es p) := by
  rcases es with _ | ⟨a, _ | ⟨_, _⟩⟩
  · exact rfl
  · cases own with
    | true => exact rRow_is a p
    | false => exact trivial
  · exact trivial
theorem rCall_is (f : Str) (fp : Pos) (as : List PySem.Expr) (p : Pos) : RvIs (.Call (.Name f fp) as [] p) (rCall f fp as p) := by
  cases as with
  | nil =>
    show RvIs _ (bif Nat.beq (nm f) (N "object") then RV.obj f fp p else .other)
    cases Nat.beq (nm f) (N "object") with
    | true => exact rfl
    | false => exact trivial
  | cons => exact trivial
theorem rv_is {e : PySem.Expr} {v : EV} (own : Bool) (V : EvIs e v) : RvIs e (rOf own v) := by
  cases v with
  | lst es p => exact (show e = _ from V) ▸ rLst_is own es p
  | comp elt tgt it ifs sc p => exact V
  | dct0 p =>
    cases own with
    | true => exact V
    | false => exact trivial
  | attr x xp n p =>
    show RvIs e (bif Nat.beq (nmS n) (N "append") then RV.bound x xp n p else .other)
    cases h : Nat.beq (nmS n) (N "append") with
    | true => exact ⟨V, beqN.mp h⟩
    | false => exact trivial
  | call f fp as p => exact (show e = _ from V) ▸ rCall_is f fp as p
  | _ => exact trivial
section
variable {X : Cx} {cl : Cl} {kv : KEv} {W W' : Wd} {s : Shared} {env : Env} {ks : Ks} {ow : List Nat} {E : VEnv} {x : Str} {u : Value} {v : V} {p pos xp : Pos} {k : En → Prop} {Q : Unit → Shared → Prop}
abbrev PN (X : Cx) (W : Wd) (ks : Ks) (ow : List Nat) (E : VEnv) (env : Env) (x : Str) (k : En → Prop) (Q : Unit → Shared → Prop) : Prop := ∀ en, k en → PE X W ks ow (putE (nm x) en E) env Q
theorem PE.aft {E' : VEnv} (P : PE X W ks ow E' env Q) (h : Sx W W') : PE X W' ks ow E' env Q := fun V s' e => P V s' (h.trans e)
abbrev EvS (X : Cx) (e : PySem.Expr) (env : Env) (x : Str) (Q : Unit → Shared → Prop) (s : Shared) : Prop := Do X (eval e env) (fun u s' => Do X (storeName env x u) Q s') s
theorem tk_new (I : J X W s) : ∀ k, W.tk k ≠ some s.heap.objs.size := fun k e => (I.tk k _ e).elim fun _ h => nomatch I.new.symm.trans h.1
theorem new_tok {o : Obj} (f : o.isFreed = false) (hc : o.cls ≠ .type "tuple") (T : OwOk X ow) (I : J X W s) (R : FrR X.G W ks ow E env) (hk : kSt ks x = true) (hb : (ow.any (Nat.beq (nm x)) && tokE (nm x) E) = true) (P : PE X W ks ow (putE (nm x) (.val (.atm (nm x))) E) env Q) :
    Do X (storeName env x (.ref s.heap.objs.size)) Q { s with heap := s.heap.push o } :=
  and_e hb fun h1 h2 => store_tok T (I.push (o := o) (.fz o) rfl f s.toks) (R.ex (Ex.upd I.new)) hk h1 h2 Wd.upd_self hc (show ∀ k, W.tk k ≠ some s.heap.objs.size from tk_new I) (P.aft (Ex.upd I.new).sx)
theorem nil_s (T : OwOk X ow) (I : J X W s) (R : FrR X.G W ks ow E env) (hk : kSt ks x = true) (h : brW (tokN (nm x)) (gd (ow.any (Nat.beq (nm x)) && tokE (nm x) E) (k (.val (.atm (nm x))))) (gd (newN (nm x) E) (k (.ml [])))) (P : PN X W ks ow E env x k Q) : EvS X (.List [] p) env x Q s := by
  refine wpAny_List (Calls.spliced_nil ⟨Nat.zero_le _, br_e h (fun _ h => gd_e h fun hb h => ?_) fun _ h => gd_e h fun hn h => ?_⟩)
  · exact new_tok (o := seqO "list" [] 0) rfl (by show Value.type "list" ≠ .type "tuple"; decide) T I R hk hb (P _ h)
  · exact store_own (en := .ml []) (I.push (o := seqO "list" [] 0) (.fr 2 (nm x) _) rfl rfl s.toks) (R.ex (Ex.upd I.new)) hk (.inl hn) (ownL_is (vs := []) Wd.upd_self I.ne_sys rfl) ((P _ h).aft (Ex.upd I.new).sx)
theorem dct0_s (I : J X W s) (R : FrR X.G W ks ow E env) (hk : kSt ks x = true) (h : k (.md [] [])) (P : PN X W ks ow E env x k Q) : EvS X (.Dict [] [] p) env x Q s :=
  wpAny_Dict_empty (store_own (en := .md [] []) (I.push (o := { cls := .type "dict", data := .dict #[] }) (.fr 2 (nm x) _) rfl rfl s.toks) (R.ex (Ex.upd I.new)) hk (.inr fun _ e => nomatch e) (ownD_is (kvs := []) Wd.upd_self I.ne_sys (newD _) rfl) ((P _ h).aft (Ex.upd I.new).sx))
theorem obj_s (F : Fx X cl) {f : Str} {fp : Pos} (T : OwOk X ow) (I : J X W s) (R : FrR X.G W ks ow E env) (hk : kSt ks x = true) (h : gd (ow.any (Nat.beq (nm x)) && tokE (nm x) E && biIs ks f (N "object")) (k (.val (.atm (nm x))))) (P : PN X W ks ow E env x k Q) : EvS X (.Call (.Name f fp) [] [] p) env x Q s :=
  gd_e h fun hb h => and_e hb fun hb h2 => biIs_e h2 fun h2 => wpAny_Call_NameR (name_bi F.ok I R.toEnvR (by decide +kernel) F.bok.object h2 (PySem.callWith_type (first := []) rfl (PySem.evalArgs_none (object_sound
    (new_tok (o := { cls := .type "object" }) rfl (by show Value.type "object" ≠ .type "tuple"; decide) T I R hk hb (P _ h))))))
theorem row_s (S : Snd X kv) {e : PySem.Expr} {n : Nat} {q r : Pos} (I : J X W s) (R : FrR X.G W ks ow E env) (hk : kSt ks x = true) (h : gd (noStar e) (kv.e ks e E fun v => optW (strOf v) fun s => k (.mr [(s, [])]))) (P : PN X W ks ow E env x k Q) : EvS X (.List [.Tuple [e, .List [] q] n p] r) env x Q s := by
  refine gd_e h fun hs h => wpAny_List ?_
  rw [backTo_cons rfl]
  refine Calls.spliced_cons (wpAny_Tuple ?_)
  rw [backTo_cons hs, backTo_cons rfl]
  refine Calls.spliced_cons (S.e I R.toEnvR h fun v h u W₁ s₁ X₁ I₁ hu => str_e hu.o h fun c t h => Calls.spliced_cons (wpAny_List (Calls.spliced_nil ⟨Nat.zero_le _, Calls.spliced_nil ⟨by rw [sizeLine_eq]; show 2 ≤ 16777216; decide, Calls.spliced_nil ⟨by rw [sizeLine_eq]; show 1 ≤ 16777216; decide, ?_⟩⟩⟩)))
  have X₂ := Ex.upd (r := .fr 3 (nm x) (seqO "list" [] 0)) I₁.new
  have I₂ := I₁.push (o := seqO "list" [] 0) (.fr 3 (nm x) _) rfl rfl s₁.toks
  have X₃ := Ex.upd (r := .fz (seqO "tuple" [.str ⟨c.toArray⟩ t, .ref s₁.heap.objs.size] 0)) I₂.new
  have I₃ := I₂.push (o := seqO "tuple" [.str ⟨c.toArray⟩ t, .ref s₁.heap.objs.size] 0) (.fz _) rfl rfl s₁.toks
  have X₄ := Ex.upd (r := .fr 2 (nm x) (seqO "list" [.ref (s₁.heap.push (seqO "list" [] 0)).objs.size] 0)) I₃.new
  have XX := X₁.trans ((X₂.trans X₃).trans X₄)
  exact store_own (en := .mr [(c, [])]) (I₃.push (o := seqO "list" [.ref (s₁.heap.push (seqO "list" [] 0)).objs.size] 0) (.fr 2 (nm x) _) rfl rfl s₁.toks) (R.ex XX) hk (.inr fun _ e => nomatch e)
    (ownR_is (vs := [.ref (s₁.heap.push (seqO "list" [] 0)).objs.size]) Wd.upd_self I₃.ne_sys ⟨_, _, t, 0, [], [], rfl, X₄.le.f ⟨Wd.upd_self, I₂.ne_sys⟩, ⟨I₁.ne_sys, 0, (X₃.trans X₄).rl _ _ Wd.upd_self⟩, rfl, rfl⟩) ((P _ h).aft XX.sx)
theorem ml_e {y : Str} {f : Prop} {P : Prop} (R : FrR X.G W ks ow E env) (h : (match entOf ks y E with
    | .ml _ => f
    | _ => False)) (c : ∀ l a vs, nameFine y = true → lookE (nm y) E = .ml l → Slot W ks env y (some (.ref a)) → OwnL W 2 (nm y) a vs → Rels X.G W l vs → f → P) : P := by
  cases e : entOf ks y E with
  | ml l =>
    rw [e] at h
    exact ent_at R.toEnvR e En.noConfusion fun h1 h2 h3 ⟨a, vs, z1, z2, z3⟩ => c l a vs h1 h3 z1 z2 z3 h
  | _ => rw [e] at h; exact h.elim
theorem bound_s {y n : Str} {yp : Pos} (hn : nmS n = N "append") (I : J X W s) (R : FrR X.G W ks ow E env) (hk : kSt ks x = true) (h : (match entOf ks y E with
    | .ml _ => gd (apN (nm y)) (k (.ap (nm y)))
    | _ => False)) (P : PN X W ks ow E env x k Q) : EvS X (.Attribute (.Name y yp) n p) env x Q s := by
  refine ml_e R h fun l b vs h1 h3 z1 ⟨hb, m, z2⟩ z3 h => gd_e h fun ha h => ?_
  rw [nmS_is (t := "append") (by decide +kernel) (by decide +kernel) hn]
  refine Attribute_Name_ (wpAny_Name (load_slot I R.toEnvR h1 z1 (get_append (I.rl _ _ z2) fun tk _ => ?_)) (fine_ne h1).1)
  have X₁ := Ex.upd (r := .fz (bappO b)) I.new
  refine store_raw (I.push (o := bappO b) (.fz _) rfl rfl tk) (R.ex X₁) hk fun W' s' C I' => P _ h W' s' (X₁.sx.trans C.sx) I' ((R.ex X₁).chg (kSt_e hk fun ok _ => ok) C.toChg ⟨rfl, (fun _ e => nomatch e), ⟨_, C.to⟩, fun y' e => ?_, fun z _ => .inl (congrFun C.tk z)⟩)
  have e := (En.noConfusion e fun q => q : nm y = y')
  subst e
  refine ⟨_, b, C.to, C.sx.le.f ⟨Wd.upd_self, I.ne_sys⟩, ha, ?_, fun z l' hz e1 e2 => ?_⟩
  · by_cases q : nm y = nm x
    · rw [q]
      rcases lookE_at (m := E) (x := nm x) (v := .ap (nm x)) with q' | q'
      · rw [q']; rfl
      · rw [← q, h3] at q'; exact nomatch q'.2
    · rw [lookE_ne q, h3]; rfl
  · by_cases q : nm y = nm x
    · rw [q] at e2
      rcases lookE_at (m := E) (x := nm x) (v := .ap (nm x)) with q' | q'
      · exact nomatch q'.symm.trans e2
      · exact nomatch q'.1.symm.trans e2
    · rw [nm_inj hz (fine_ok h1) e1]
      exact C.slot y _ (fine_ok h1) (fun w => q (congrArg nm w)) (z1.mono X₁.rl)
theorem Sx.mv {W W' W'' : Wd} {a : Addr} (h : Sx W W') (ha : W.rl a = none) (M : Mv a W' W'') : Sx W W'' := ⟨fun b r e f => M.rl b r (ne_none ha e).symm (h.rl b r e f), fun k b e => M.tk ▸ h.tk k b e⟩
theorem Slot.del {a : Addr} {o : Obj} {m : Str → Option Value} (R : FrR X.G W ks ow E env) (ha : W.rl a = some (.hd o)) (hn : NsO o m) {y : Str} {sv : Option Value} (k : Slot W ks env y sv) : Slot (W.del a) ks env y sv := by
  refine slot_e k (fun e k => slot_loc e ?_) fun e k => slot_cell e ?_
  · obtain ⟨r, m', h1, h2, h3⟩ := k
    obtain ⟨oL, hL⟩ := R.loc
    exact ⟨r, m', (if_neg fun z => nomatch ha.symm.trans ((congrArg W.rl z).symm.trans hL)).trans h1, h2, h3⟩
  · obtain ⟨c, r, h0, h1, h2⟩ := k
    refine ⟨c, r, h0, (if_neg fun z => ?_).trans h1, h2⟩
    obtain ⟨es, ep, e1, _⟩ := hn
    rw [z] at h1
    rw [Option.some.inj (h1.symm.trans ha)] at h2
    exact nomatch h2.symm.trans e1
theorem FrR.del {a : Addr} {o : Obj} {m : Str → Option Value} (R : FrR X.G W ks ow E env) (ha : W.rl a = some (.hd o)) (hn : NsO o m) : FrR X.G (W.del a) ks ow E env :=
  have M : Mv a W (W.del a) := Wd.mv_del
  ⟨⟨R.kind, R.glob, R.blt, R.kinds, fun y hy hv => (R.ent y hy hv).mono (M.le ha) (fun _ k => k.del R ha hn) fun _ _ _ _ e => mv_fr M ha e, R.tr, R.ac⟩, R.loc.imp fun _ e => mv_fr M ha e, fun y hy hk => (R.cel y hy hk).imp fun _ q => q.imp fun _ q => ⟨q.1, mv_fr M ha q.2⟩,
    fun y z hy hv e => (R.ap y z hy hv e).imp fun _ q => q.imp fun _ q => ⟨q.1.del R ha hn, (M.le ha).f q.2.1, q.2.2.mono fun _ _ _ k => k.del R ha hn⟩, R.tok, R.nf⟩
theorem Comped.ne {vs : List V} {W₁ : Wd} {D C : Addr} {us : List Value} {n : Nat} (K : Comped X W W₁ D C us n vs) : C ≠ D := fun e => by
  obtain ⟨o, m, hc, es, ep, z, _⟩ := K.c
  have e1 := Option.some.inj (K.d.symm.trans ((congrArg W₁.rl e).symm.trans hc))
  rw [← show seqO "list" us n = o from congrArg Role.ob e1] at z
  exact nomatch z
def compRole (own : Bool) (x : Nat) (o : Obj) : Role := match own with
  | true => .fr 2 x o
  | false => .fz o
def compEn (own : Bool) (vs : List V) : En := match own with
  | true => .ml vs
  | false => .val (.lst vs)
theorem compRole_ob {own : Bool} {x : Nat} {o : Obj} : (compRole own x o).ob = o := by cases own <;> rfl
theorem comp_st {own : Bool} {vs : List V} {us : List Value} {D : Addr} {n : Nat} (I : J X W s) (R : FrR X.G W ks ow E env) (hk : kSt ks x = true) (hn : own = true → newN (nm x) E = true) (hd : D ≠ sysModules) (h : W.rl D = some (compRole own (nm x) (seqO "list" us n))) (hr : Rels X.G W vs us)
    (P : PE X W ks ow (putE (nm x) (compEn own vs) E) env Q) : Do X (storeName env x (.ref D)) Q s := by
  cases own with
  | true => exact store_own I R hk (.inl (hn rfl)) (ownL_is h hd hr) P
  | false => exact store_val I R hk (relLst ⟨h, hd⟩ hr) P
theorem comp_k {own : Bool} {vs : List V} (h : brW own (gd (newN (nm x) E) (k (.ml vs))) (k (.val (.lst vs)))) : (own = true → newN (nm x) E = true) ∧ k (compEn own vs) := by
  cases own with
  | true => exact gd_e (show gd (newN (nm x) E) (k (.ml vs)) from h) fun a b => ⟨fun _ => a, b⟩
  | false => exact ⟨(fun e => nomatch e), h⟩
theorem comp_s (S : Snd X kv) (F : Fx X cl) {own : Bool} {elt tgt it : PySem.Expr} {ifs : List PySem.Expr} {sc : Scope} {Q : Flow → Shared → Prop} (I : J X W s) (R : FrR X.G W ks ow E env) (hk : kSt ks x = true)
    (h : compW kv ks elt tgt it ifs sc E fun vs => brW own (gd (newN (nm x) E) (k (.ml vs))) (k (.val (.lst vs)))) (P : PN X W ks ow E env x k fun _ => Q .next) : Do X (exec (.Assign [.Name x xp] (.ListComp elt [⟨tgt, it, ifs, 0⟩] sc p) pos) env) Q s := by
  have sw : swapsWith (.ListComp elt [⟨tgt, it, ifs, 0⟩] sc p) (some (.Name x xp)) pos.line env = pure (env.blockKind == .function && env.kindOf x == some .local && xp.line == (PySem.Expr.ListComp elt [⟨tgt, it, ifs, 0⟩] sc p).pos.line
    && !(sc.names.any fun (n, k) => n == x && (k == .local || k == .cell))) := rfl
  generalize (env.blockKind == .function && env.kindOf x == some .local && xp.line == (PySem.Expr.ListComp elt [⟨tgt, it, ifs, 0⟩] sc p).pos.line && !(sc.names.any fun (n, k) => n == x && (k == .local || k == .cell))) = b at sw
  cases b with
  | false =>
    refine wpAny_Assign_Name ?_ sw
    rw [eval_ListComp]
    refine comp_sound S F I R.toEnvR h fun vs q D C us n W₁ s' I' K => Comped.show I' K fun hm z => ⟨hm.choose, hm.choose_spec, fun h' hs => ?_⟩
    obtain ⟨W', X', I₂, hD, hr⟩ := z h' hs (compRole own (nm x)) fun _ => compRole_ob
    exact comp_st I₂ (R.ex X') hk (comp_k q).1 K.sys hD hr ((P _ (comp_k q).2).aft X'.sx)
  | true =>
    rw [exec_Assign_Name_used _ _ _ _ sw]
    refine wpAny_bind (wpAny_standAt (wpAny_bind ?_))
    show wpAny _ _ (comprehension _ _ _ _ _ _ _ _ >>= fun _ => pure ()) _ _ _
    refine wpAny_bind (comp_sound S F I R.toEnvR h fun vs q D C us n W₁ s' I' K => ?_)
    show wpAny _ _ (assign (.Name x xp) env (.ref D)) _ _ _
    have M : Mv D W₁ (W₁.upd D (compRole own (nm x) (seqO "list" us n))) := Mv.upd
    have X₂ := K.ex.mv K.nd M
    refine wpAny_assign_Name (comp_st (I'.role (compRole own (nm x) (seqO "list" us n)) K.d (fun _ z => nomatch z) compRole_ob) (R.ex X₂) hk (comp_k q).1 K.sys Wd.upd_self (Rels.le (M.le K.d) K.r) fun W₃ s₃ X₃ I₃ R₃ => ?_)
    obtain ⟨o, m, hc, hn⟩ := K.c
    have hc := X₃.rl _ _ (M.rl _ _ K.ne hc) rfl
    have M' : Mv C W₃ (W₃.del C) := Wd.mv_del
    exact ⟨m, hn.at (I₃.rl _ _ hc), fun h' hs => wpAny_pure (wpAny_pure (P _ (comp_k q).2 _ _ ((X₂.sx.trans X₃).mv K.nc M') (J.del (tk := s₃.toks) I₃ hs.extBut hc) (R₃.del hc hn)))⟩
theorem swaps_none {e : PySem.Expr} {o : Option PySem.Expr} {l : Nat} (h : notComp e = true) : swapsWith e o l env = pure false := by
  cases e <;> first | rfl | exact none_i h | exact ff_i h | exact nomatch h
theorem asgN_sound (S : Snd X kv) (F : Fx X cl) {e : PySem.Expr} {Q : Flow → Shared → Prop} (T : OwOk X ow) (I : J X W s) (R : FrR X.G W ks ow E env) (h : gd (kSt ks x) (asgW kv ks (ow.any (Nat.beq (nm x))) (nm x) e E k)) (P : PN X W ks ow E env x k fun _ => Q .next) :
    Do X (exec (.Assign [.Name x xp] e pos) env) Q s := by
  refine gd_e h fun hk h => ?_
  have V := rv_is (ow.any (Nat.beq (nm x))) (view_is e)
  unfold asgW at h
  generalize rOf (ow.any (Nat.beq (nm x))) (view e) = r at V h
  cases r with
  | nil p => rw [show e = _ from V]; exact wpAny_Assign_Name (nil_s T I R hk h P) rfl
  | comp elt tgt it ifs sc p => rw [show e = _ from V]; exact comp_s S F I R hk h P
  | dct0 p => rw [show e = _ from V]; exact wpAny_Assign_Name (dct0_s I R hk h P) rfl
  | row s k p q r => rw [show e = _ from V]; exact wpAny_Assign_Name (row_s S I R hk h P) rfl
  | bound y yp n p => rw [V.1]; exact wpAny_Assign_Name (bound_s V.2 I R hk h P) rfl
  | obj f fp p => rw [show e = _ from V]; exact wpAny_Assign_Name (obj_s F T I R hk h P) rfl
  | other => exact gd_e h fun hb h => and_e hb fun _ h2 => wpAny_Assign_Name (S.e I R.toEnvR h fun v h u W₁ s₁ X₁ I₁ hu => store_val I₁ (R.ex X₁) hk hu ((P _ h).aft X₁.sx)) (swaps_none h2)
end
end Mine
end
section
open PySem PySem.W PyProof.Rows
set_option maxRecDepth 100000
set_option genInjectivity false
set_option genSizeOf false
set_option backward.match.sparseCases false
namespace Mine
section
variable {prog : Program} {w : World} {A : Around} {E : Value → Shared → Prop} {s : Shared} {a : Addr} {vs : List Value} {n : Nat} {z : Value} {t : Tok} {Q : Unit → Shared → Prop} {Qv : Value → Shared → Prop}
theorem upd_list {a : Addr} {f : Array Value → Array Value} {vs ws : List Value} {n : Nat} {h : Heap} (ha : h.get? a = some (seqO "list" vs n)) (hf : f vs.toArray = ws.toArray) : ∃ n', (h.update a (Obj.mapSeq f)).get? a = some (seqO "list" ws n') :=
  ⟨if (f vs.toArray).size == vs.toArray.size then n else n + 1, (Heap.get?_update_self _ ha rfl).trans (congrArg some (show ({ cls := .type "list", data := .seq (f vs.toArray) (if (f vs.toArray).size == vs.toArray.size then n else n + 1) } : Obj) = _ by rw [hf]))⟩
theorem set_list {i : Int} {j : Nat} (h1 : s.heap.get? a = some (seqO "list" vs n)) (hf : Fits i = true) (hj : idx vs.length i = some j) (hQ : ∀ h' n', Heap.SameBut a s.heap h' → h'.get? a = some (seqO "list" (vs.set j z) n') → Q () { s with heap := h' }) :
    wpAny (model prog w) A (setItem (.ref a) (.int i t) z) Q E s := by
  have fin : ∀ m, m = j → Q () { s with heap := s.heap.update a (Obj.mapSeq (·.setIfInBounds m z)) } := fun m e => (upd_list (f := (·.setIfInBounds m z)) (ws := vs.set j z) h1 (by rw [e]; exact List.setIfInBounds_toArray ..)).elim fun n' h => hQ _ n' (Heap.SameBut.update ..) h
  have b : -(4611686018427387904 : Int) < i ∧ i < 4611686018427387904 := fits_lt hf
  cases i with
  | ofNat k =>
    refine bf_e (show (bif Nat.blt k vs.length then some k else none) = some j from hj) fun hk e => ?_
    exact ki_setAt h1 (Int.natCast_nonneg k) (Int.lt_trans b.2 (by decide)) (Int.ofNat_lt.mpr (bltN.mp hk)) (fin _ (Option.some.inj e))
  | negSucc k =>
    refine bf_e (show (bif Nat.blt k vs.length then some (vs.length - (k + 1)) else none) = some j from hj) fun hk e => ?_
    have hk := bltN.mp hk
    exact ki_setBack h1 (Int.negSucc_lt_zero k) (by rw [List.size_toArray]; omega) (Int.le_of_lt (Int.lt_trans (by decide) b.1)) (fin _ ((show (Int.negSucc k + (vs.toArray.size : Int)).toNat = vs.length - (k + 1) by rw [List.size_toArray]; omega).trans (Option.some.inj e)))
theorem del_list {i : Int} {j : Nat} (h1 : s.heap.get? a = some (seqO "list" vs n)) (hf : Fits i = true) (hj : idx vs.length i = some j) (hl : vs.length ≤ sizeLine) (hQ : ∀ h' n', Heap.SameBut a s.heap h' → h'.get? a = some (seqO "list" (vs.eraseIdx j) n') → Q () { s with heap := h' }) :
    wpAny (model prog w) A (delItem (.ref a) (.int i t)) Q E s :=
  have b := fits_lt hf
  delItem_at h1 (by unfold Builtin.List.listFitsIndex; rw [decide_eq_true (Int.le_of_lt (Int.lt_trans (by decide) b.1)), decide_eq_true (Int.lt_trans b.2 (by decide))]; rfl) (by rw [idx_seq]; exact hj) (fun h' hs hg => hQ h' _ hs hg) hl
theorem insert_is (y : Value) (k : Nat) : ∀ l : List Value, ((l.toArray.extract 0 (min k l.length)).push y ++ l.toArray.extract (min k l.length)) = (insertAt y k l).toArray := by
  induction k with
  | zero => intro l; simp [insertAt]
  | succ k ih =>
    intro l
    cases l with
    | nil => simp [insertAt]
    | cons x l =>
      have e : min (k + 1) (x :: l).length = min k l.length + 1 := Nat.succ_min_succ k l.length
      rw [e]
      apply Array.toList_inj.mp
      have h := congrArg Array.toList (ih l)
      simp at h ⊢
      show x :: _ = x :: insertAt y k l
      rw [h]
theorem ins_list {i : Nat} (h1 : s.heap.get? a = some (seqO "list" vs n)) (hi : Nat.blt i 65536 = true) (hl : vs.length ≤ sizeLine) (hQ : ∀ h' n', Heap.SameBut a s.heap h' → h'.get? a = some (seqO "list" (insertAt z i vs) n') → Qv .none { s with heap := h' }) :
    wpAny (model prog w) A (call (.builtin "list.insert") [.ref a, .int (Int.ofNat i) t, z]) Qv E s := by
  have hf : Builtin.List.listFitsIndex (Int.ofNat i) = true := by
    have := bltN.mp hi
    unfold Builtin.List.listFitsIndex
    have e : (Int.ofNat i) = (i : Int) := rfl
    simp only [e, Bool.and_eq_true, decide_eq_true_eq]
    constructor <;> omega
  have hx0 : ¬ Int.ofNat i < 0 := Int.not_lt.mpr (Int.natCast_nonneg i)
  have hxn : (Int.ofNat i).toNat = i := rfl
  generalize Int.ofNat i = y at hf hx0 hxn
  refine call_meets PySem.F.slot_list_insert ⟨_, h1, rfl⟩ PySem.F.entry_list_insert (PySem.F.args_list_insert_3 _ _ _) (PySem.AutoSeq1.list_insert_list_int_val_1 a vs.toArray n y t z (by simp [hf]) hl) ⟨h1, ?_⟩
  obtain ⟨n', h⟩ := upd_list (f := fun xs : Array Value => have k := if y < 0 then (y + ((xs.size : Nat) : Int)).toNat else min y.toNat xs.size; (xs.extract 0 k).push z ++ xs.extract k) (ws := insertAt z i vs) h1 (by
    show (vs.toArray.extract 0 (if y < 0 then (y + ((vs.toArray.size : Nat) : Int)).toNat else min y.toNat vs.toArray.size)).push z ++ vs.toArray.extract (if y < 0 then (y + ((vs.toArray.size : Nat) : Int)).toNat else min y.toNat vs.toArray.size) = _
    rw [if_neg hx0, hxn, List.size_toArray]
    exact insert_is z i vs)
  exact hQ _ n' (Heap.SameBut.update ..) h
end
section
variable {kvs : List (Str × Value)} {x : Str} {v v' : Value}
theorem stored_none (h : valueAt kvs x = none) : stored kvs x v = kvs ++ [(x, v)] := by
  unfold stored
  rw [if_neg fun q => ?_]
  obtain ⟨p, hp, hk⟩ := List.any_eq_true.mp q
  exact List.find?_eq_none.mp (Option.map_eq_none_iff.mp h) p hp hk
theorem stored_id (h : x ∉ kvs.map (·.1)) : kvs.map (fun kv => if kv.1 = x then (kv.1, v) else kv) = kvs := by
  induction kvs with
  | nil => rfl
  | cons p r ih =>
    rw [List.map_cons, ih fun q => h (.tail _ q), if_neg fun e => h (by rw [← e]; exact .head _)]
theorem stored_some {j : Nat} (hn : (kvs.map (·.1)).Nodup) (h : kvs[j]? = some (x, v')) : (stored kvs x v).map (·.1) = kvs.map (·.1) ∧ (stored kvs x v).map (·.2) = (kvs.map (·.2)).set j v := by
  unfold stored
  rw [if_pos (List.any_eq_true.mpr ⟨_, List.mem_of_getElem? h, decide_eq_true rfl⟩)]
  induction kvs generalizing j with
  | nil => first | exact none_i h | exact ff_i h | exact nomatch h
  | cons p r ih =>
    rw [List.map_cons, List.nodup_cons] at hn
    cases j with
    | zero =>
      have e := Option.some.inj (show some p = _ from h)
      subst e
      rw [List.map_cons, if_pos rfl, stored_id hn.1]
      exact ⟨rfl, rfl⟩
    | succ j =>
      have ne : p.1 ≠ x := fun e => hn.1 (by rw [e]; exact List.mem_map.mpr ⟨_, List.mem_of_getElem? (show r[j]? = _ from h), rfl⟩)
      have z := ih hn.2 (show r[j]? = _ from h)
      rw [List.map_cons, if_neg ne]
      exact ⟨congrArg (p.1 :: ·) z.1, congrArg (p.2 :: ·) z.2⟩
end
end Mine
end
section
open PySem PySem.W PyProof.Rows
set_option maxRecDepth 100000
set_option genInjectivity false
set_option genSizeOf false
set_option backward.match.sparseCases false
namespace Mine
section
variable {X : Cx} {cl : Cl} {kv : KEv} {W W' : Wd} {s : Shared} {env : Env} {ks : Ks} {ow : List Nat} {E : VEnv} {x y : Str} {u w : Value} {v : V} {p pos xp : Pos} {Q : Unit → Shared → Prop} {a : Addr} {h' : Heap} {tk n : Nat} {vs ws : List Value} {l : List V} {C : Prop}
theorem slot_fr {t j : Nat} {o : Obj} {r : Role} (R : FrR X.G W ks ow E env) (ha : W.rl a = some (.fr t j o)) (ht : 2 ≤ t) (hy : okN y) {sv : Option Value} (k : Slot W ks env y sv) : Slot (W.upd a r) ks env y sv := by
  refine slot_e k (fun e k => slot_loc e ?_) fun e k => slot_cell e ?_
  · obtain ⟨r, m, h1, h2⟩ := k
    obtain ⟨oL, hL⟩ := R.loc
    exact ⟨r, m, (Wd.upd_ne (fr_ne ha hL (by omega))).trans h1, h2⟩
  · obtain ⟨c, r, h0, h1, h2⟩ := k
    obtain ⟨c', oc, h3, h4⟩ := R.cel y hy (e.elim id fun e => absurd e (R.nf _))
    have e := Option.some.inj (h3.symm.trans h0)
    subst e
    exact ⟨c', r, h0, (Wd.upd_ne (fr_ne ha h4 (by omega))).trans h1, h2⟩
theorem own_put {t : Nat} {o o' : Obj} {en : En} (I : J X W s) (R : FrR X.G W ks ow E env) (hy : okN y) (ha : W.rl a = some (.fr t (nm y) o)) (ht : 2 ≤ t) (hs : Heap.ExtBut a s.heap h') (hg : h'.get? a = some o') (hl : ∀ l, en = .ml l → ∃ k, lookE (nm y) E = .ml k) (hap : ∀ z, en ≠ .ap z) (hne : isNo en = false)
    (hen : ∀ W', W' = W.upd a (.fr t (nm y) o') → Le W W' → EntR X.G W' (Slot W' ks env) y en) (P : ∀ W', Sx W W' → J X W' { s with heap := h', toks := tk } → FrR X.G W' ks ow (putE (nm y) en E) env → C) : C := by
  have ch : Chg W (W.upd a (.fr t (nm y) o')) ks env y := chg_upd ha (.inr rfl) fun z sv hz _ k => slot_fr R ha ht hz k
  exact P _ ch.sx (I.set (.fr t (nm y) o') ha (fun _ z => nomatch z) hs hg) (R.chg hy ch ⟨hne, fun l e => .inr ⟨hl l e, fun sv k => slot_fr R ha ht hy k⟩, hen _ rfl ch.sx.le, fun z e => absurd e (hap z), fun z _ => .inl rfl⟩)
theorem list_put {l l' : List V} (I : J X W s) (R : FrR X.G W ks ow E env) (hy : okN y) (hE : lookE (nm y) E = .ml l) (z1 : Slot W ks env y (some (.ref a))) (z2 : OwnL W 2 (nm y) a vs) (hs : Heap.ExtBut a s.heap h') (hg : h'.get? a = some (seqO "list" ws n)) (hr : Rels X.G W l' ws)
    (P : ∀ W', Sx W W' → J X W' { s with heap := h', toks := tk } → FrR X.G W' ks ow (putE (nm y) (.ml l') E) env → C) : C := by
  obtain ⟨h0, m, ha⟩ := z2
  exact own_put (en := .ml l') I R hy ha (Nat.le_refl 2) hs hg (fun _ _ => ⟨l, hE⟩) (fun _ e => nomatch e) rfl (fun W' e L => e ▸ ⟨a, ws, slot_fr R ha (Nat.le_refl 2) hy z1, ⟨h0, n, Wd.upd_self⟩, Rels.le (e ▸ L) hr⟩) P
theorem dict_put {o o' : Obj} {kvs : List (Str × Value)} {vs' : List V} (I : J X W s) (R : FrR X.G W ks ow E env) (hy : okN y) (z1 : Slot W ks env y (some (.ref a))) (h0 : a ≠ sysModules) (ha : W.rl a = some (.fr 2 (nm y) o)) (hs : Heap.ExtBut a s.heap h') (hg : h'.get? a = some o') (hd : DictO X.G o' kvs) (hr : Rels X.G W vs' (kvs.map (·.2)))
    (P : ∀ W', Sx W W' → J X W' { s with heap := h', toks := tk } → FrR X.G W' ks ow (putE (nm y) (.md (keysV kvs) vs') E) env → C) : C :=
  own_put (en := .md (keysV kvs) vs') I R hy ha (Nat.le_refl 2) hs hg (fun _ e => nomatch e) (fun _ e => nomatch e) rfl (fun W' e L => e ▸ ⟨a, o', kvs, slot_fr R ha (Nat.le_refl 2) hy z1, h0, Wd.upd_self, hd, rfl, Rels.le (e ▸ L) hr⟩) P
theorem keys_map {k k' : List (Str × Value)} (h : k.map (·.1) = k'.map (·.1)) : keysV k = keysV k' := by
  have e : ∀ l : List (Str × Value), keysV l = (l.map (·.1)).map fun q => V.str q.cps.toList := fun l => (List.map_map (l := l) (f := fun p : Str × Value => p.1) (g := fun q : Str => V.str q.cps.toList)).symm
  rw [e, e, h]
theorem dict_store {o : Obj} {kvs : List (Str × Value)} {key : List Nat} {t : Tok} {k : En → Prop} (I : J X W s) (R : FrR X.G W ks ow E env) (hy : okN y) (z1 : Slot W ks env y (some (.ref a))) (h0 : a ≠ sysModules) (ha : W.rl a = some (.fr 2 (nm y) o)) (hd : DictO X.G o kvs) (hl : Nat.blt (keysV kvs).length 60000 = true)
    (h : ∃ vs', Rels X.G W vs' ((stored kvs ⟨key.toArray⟩ w).map (·.2)) ∧ k (.md (keysV (stored kvs ⟨key.toArray⟩ w)) vs')) (P : PN X W ks ow E env y k Q) : Do X (setItem (.ref a) (.str ⟨key.toArray⟩ t) w) Q s :=
  wpAny_setItem_pairs (isStrOf_self _ t) (hd.at (I.rl _ _ ha)) (fun h' hd' hs => DictO.of hd' fun o' hg ho => h.elim fun vs' h => dict_put I R hy z1 h0 ha hs.extBut hg ho h.1 fun W' x1 x2 x3 => P _ h.2 W' _ x1 x2 x3) (by
    have := bltN.mp hl
    rw [keysV, List.length_map] at this
    exact sizeLine_eq ▸ Nat.le_of_lt (Nat.lt_trans this (by decide)))
theorem nodup_of {o : Obj} {kvs : List (Str × Value)} (hd : DictO X.G o kvs) : (kvs.map (·.1)).Nodup := by obtain ⟨_, _, _, _, _, _, q⟩ := hd; exact q
theorem set_at {kvs : List (Str × Value)} {vs' : List V} {key : List Nat} {k : En → Prop} {j : Nat} {v' : Value} (hn : (kvs.map (·.1)).Nodup) (hr : Rels X.G W vs' (kvs.map (·.2))) (hv : Rel X.G W v w) (e : kvs[j]? = some (⟨key.toArray⟩, v')) (h : k (.md (keysV kvs) (vs'.set j v))) :
    ∃ vs', Rels X.G W vs' ((stored kvs ⟨key.toArray⟩ w).map (·.2)) ∧ k (.md (keysV (stored kvs ⟨key.toArray⟩ w)) vs') :=
  have z := stored_some (v := w) hn e
  ⟨_, z.2.symm ▸ hr.set hv j, keys_map z.1 ▸ h⟩
theorem dict_set {kvs : List (Str × Value)} {vs' : List V} {key : List Nat} {k : En → Prop} (hn : (kvs.map (·.1)).Nodup) (hr : Rels X.G W vs' (kvs.map (·.2))) (hv : Rel X.G W v w) (h : keyW key (keysV kvs) 0 (fun j => k (.md (keysV kvs) (vs'.set j v))) (k (.md (keysV kvs ++ [.str key]) (vs' ++ [v])))) :
    ∃ vs', Rels X.G W vs' ((stored kvs ⟨key.toArray⟩ w).map (·.2)) ∧ k (.md (keysV (stored kvs ⟨key.toArray⟩ w)) vs') :=
  keyW_e h (fun j v' e1 _ h => set_at hn hr hv e1 (by rw [Nat.zero_add] at h; exact h)) fun e1 h => ⟨vs' ++ [v], by rw [stored_none e1, List.map_append]; exact All2.app (All2.one hv) hr, by rw [stored_none e1, keysV, List.map_append]; exact h⟩
theorem ent_own {k : En → Prop} {iv : V} (R : FrR X.G W ks ow E env) (h0 : isOwn (entOf ks y E) = true) (c : nameFine y = true → (∃ a, Slot W ks env y (some (.ref a))) → EntR X.G W (Slot W ks env) y (entOf ks y E) → lookE (nm y) E = entOf ks y E → C) : C := by
  refine entOf_e (ks := ks) (x := y) (E := E) rfl (fun q => by rw [q] at h0; exact nomatch h0) fun h1 h2 h3 => ?_
  have z := R.ent y (fine_ok h1) h2
  rw [h3] at z
  refine c h1 ?_ z h3
  cases e : entOf ks y E with
  | ml l => rw [e] at z; exact z.imp fun a h => h.elim fun _ h => h.1
  | md kx l => rw [e] at z; exact z.imp fun a h => h.elim fun _ h => h.elim fun _ h => h.1
  | _ => rw [e] at h0; exact nomatch h0
theorem slot_val {sv sv' : Option Value} (h : Slot W ks env y sv) (k : Slot W ks env y sv') : sv = sv' := by
  refine slot_e h (fun e h => slot_e k (fun _ k => ?_) fun e' _ => by rw [e] at e'; rcases e' with e' | e' <;> exact nomatch e') fun e h => slot_e k (fun e' _ => by rw [e'] at e; rcases e with e | e <;> exact nomatch e) fun _ k => ?_
  · obtain ⟨r, m, h1, h2, h3⟩ := h
    obtain ⟨r', m', k1, k2, k3⟩ := k
    have e := Option.some.inj (h1.symm.trans k1)
    subst e
    obtain ⟨es, ep, e1, _, e2⟩ := h2
    obtain ⟨es', ep', e1', _, e2'⟩ := k2
    rw [← h3, ← k3, ← e2, ← e2']
    exact congrArg (fun d => match d with | Data.dict es _ => nsFind es y | _ => none) (e1.symm.trans e1')
  · obtain ⟨c, r, h0, h1, h2⟩ := h
    obtain ⟨c', r', k0, k1, k2⟩ := k
    have e := Option.some.inj (h0.symm.trans k0)
    subst e
    have e := Option.some.inj (h1.symm.trans k1)
    subst e
    exact (Data.cell.inj (h2.symm.trans k2))
theorem set_sound {iv : V} {wi : Value} {k : En → Prop} (I : J X W s) (R : FrR X.G W ks ow E env) (hy : okN y) (z1 : Slot W ks env y (some (.ref a))) (z : EntR X.G W (Slot W ks env) y (entOf ks y E)) (hE : lookE (nm y) E = entOf ks y E) (h : setW (entOf ks y E) iv v k) (hi : Rel X.G W iv wi) (hv : Rel X.G W v w) (P : PN X W ks ow E env y k Q) :
    Do X (setItem (.ref a) wi w) Q s := by
  generalize entOf ks y E = en at z hE h
  cases en with
  | ml l =>
    obtain ⟨a', us, z2, z3, z4⟩ := z
    have e := Value.ref.inj (Option.some.inj (slot_val z1 z2))
    subst e
    exact int_e hi.o (show optW (intOf iv) _ from h) fun i t h => gd_e h fun hf h => optW_e h fun j ej h => z3.2.elim fun n ha => set_list (I.rl _ _ ha) hf (z4.len.symm ▸ ej) fun h' n' hs hg => list_put I R hy hE z1 z3 hs.extBut hg (z4.set hv j) fun W' x1 x2 x3 => P _ h W' _ x1 x2 x3
  | md kx l =>
    obtain ⟨a', o, kvs, z2, z3, z4, z5, z6, z7⟩ := z
    have e := Value.ref.inj (Option.some.inj (slot_val z1 z2))
    subst e z6
    exact str_e hi.o (show optW (strOf iv) _ from h) fun c t h => gd_e h fun hb h => and_e hb fun _ hl => dict_store I R hy z1 z3 z4 z5 hl (dict_set (nodup_of z5) z7 hv h) P
  | _ => exact h.elim
theorem asgS_sound (S : Snd X kv) {i e : PySem.Expr} {k : En → Prop} {Q : Flow → Shared → Prop} (I : J X W s) (R : FrR X.G W ks ow E env) (h : gd (notComp e && isOwn (entOf ks y E)) (kv.e ks e E fun v => kv.e ks i E fun iv => setW (entOf ks y E) iv v k)) (P : PN X W ks ow E env y k fun _ => Q .next) :
    Do X (exec (.Assign [.Subscript (.Name y xp) i p] e pos) env) Q s :=
  gd_e h fun hb h => and_e hb fun h1 h2 => wpAny_Assign_Subscript (S.e I R.toEnvR h fun v h u W₁ s₁ X₁ I₁ hv => by
    have R₁ := R.ex X₁
    exact ent_own (k := k) (iv := v) R₁ h2 fun hf hs z hE => hs.elim fun a hs => wpAny_Name (load_slot I₁ R₁.toEnvR hf hs (S.e I₁ R₁.toEnvR h fun iv h ui W₂ s₂ X₂ I₂ hi =>
      set_sound I₂ (R₁.ex X₂) (fine_ok hf) (hs.mono X₂.rl) (z.mono X₂.le (fun _ q => q.mono X₂.rl) fun _ _ _ _ q => X₂.rl _ _ q) hE h hi (hv.le X₂.le) fun en q => (P en q).aft (X₁.trans X₂).sx)) (fine_ne hf).1) (swaps_none h1)
theorem augN_sound (S : Snd X kv) {e : PySem.Expr} {k : En → Prop} {Q : Flow → Shared → Prop} (I : J X W s) (R : FrR X.G W ks ow E env) (h : gd (kSt ks y) (optW (enV (entOf ks y E)) fun v => optW (intOf v) fun i => kv.e ks e E fun w => optW (intOf w) fun j => k (.val (.int (i + j))))) (P : PN X W ks ow E env y k fun _ => Q .next) :
    Do X (exec (.AugAssign (.Name y xp) .Add e pos) env) Q s :=
  gd_e h fun hk h => wpAny_AugAssign_Name (ent_v R.toEnvR h fun v u h hf hs hr => load_slot I R.toEnvR hf hs (int_e hr.o h fun i t h => S.e I R.toEnvR h fun w h uw W₁ s₁ X₁ I₁ hw => int_e hw.o h fun j t' h => AutoIntOps.iadd_0
    (store_val (I₁.toks _) (R.ex X₁) hk (rInt _ _) ((P _ h).aft X₁.sx))))
theorem md_e {f : List V × List V → Prop} (R : FrR X.G W ks ow E env) (h : optW (mdOf (entOf ks y E)) f) (c : ∀ a o kvs vs, nameFine y = true → Slot W ks env y (some (.ref a)) → a ≠ sysModules → W.rl a = some (.fr 2 (nm y) o) → DictO X.G o kvs → Rels X.G W vs (kvs.map (·.2)) → f (keysV kvs, vs) → C) : C := by
  cases e : entOf ks y E with
  | md kx l =>
    rw [e] at h
    exact ent_at R.toEnvR e En.noConfusion fun h1 h2 h3 ⟨a, o, kvs, z1, z2, z3, z4, z5, z6⟩ => c a o kvs l h1 z1 z2 z3 z4 z6 (z5 ▸ h)
  | _ => rw [e] at h; exact h.elim
theorem augS_sound (S : Snd X kv) {e : PySem.Expr} {o x : Str} {op : Pos} {k : En → Prop} {Q : Flow → Shared → Prop} (I : J X W s) (R : FrR X.G W ks ow E env)
    (h : optW (mdOf (entOf ks o E)) fun d => optW (enV (entOf ks x E)) fun kv' => optW (strOf kv') fun key => brW ((allStr d.1).isSome && Nat.blt d.1.length 60000)
      (keyW key d.1 0 (fun j => optW (intAt d.2 j) fun i => kv.e ks e E fun v => optW (intOf v) fun m => k (.md d.1 (d.2.set j (.int (i + m))))) False) False) (P : PN X W ks ow E env o k fun _ => Q .next) :
    Do X (exec (.AugAssign (.Subscript (.Name o op) (.Name x xp) p) .Add e pos) env) Q s := by
  refine wpAny_AugAssign_Subscript (md_e R h fun a ob kvs vs hf z1 z2 z3 z4 z5 h => wpAny_Name (load_slot I R.toEnvR hf z1 (ent_v R.toEnvR h fun v u h hf' hs hr => wpAny_Name (load_slot I R.toEnvR hf' hs (str_e hr.o h fun key t h => gd_e h fun hb h => ?_)) (fine_ne hf').1)) (fine_ne hf).1)
  refine keyW_e h (fun j w e1 e2 h => ?_) fun _ h => h.elim
  rw [Nat.zero_add] at h
  refine optW_e h fun i ei h => bnd_e ei fun y e3 ei => ?_
  obtain ⟨u', e4, hu'⟩ := z5.get e3
  have e5 : u' = w := Option.some.inj (e4.symm.trans ((List.getElem?_map ..).trans (congrArg (Option.map (·.2)) e1)))
  subst e5
  have fin : ∀ (s' : Shared) (i' : Int) (t' : Tok), J X W s' → i' = i → Do X (eval e env) (fun v s₄ => Do X (inplaceOp .Add (.int i' t') v) (fun new s₅ => Do X (setItem (.ref a) (.str ⟨key.toArray⟩ t) new) (fun _ => Q .next) s₅) s₄) s' := fun s' i' t' I e6 => by
    rw [e6]
    exact S.e I R.toEnvR h fun m h um W₁ s₁ X₁ I₁ hm => int_e hm.o h fun m t'' h => AutoIntOps.iadd_0 (dict_store (I₁.toks _) (R.ex X₁) (fine_ok hf) (z1.mono X₁.rl) z2 (X₁.rl _ _ z3) z4 (and_e hb fun _ q => q) (set_at (nodup_of z4) (Rels.le X₁.le z5) (rInt _ _) e1 h) fun en q => (P en q).aft X₁.sx)
  refine wpAny_getItem_of (isStrOf_self _ t) (z4.at (I.rl _ _ z3)).mapOf e2 ?_
  exact int_e (f := fun q => q = i) (Pm := fun u' => Do X (eval e env) (fun v s₄ => Do X (inplaceOp .Add u' v) (fun new s₅ => Do X (setItem (.ref a) (.str ⟨key.toArray⟩ t) new) (fun _ => Q .next) s₅) s₄) _) hu'.o (optW_i (k := (· = i)) ei rfl) fun i' t' e6 => fin _ i' t' (I.toks _) e6
end
end Mine
end
section
open PySem PySem.W PyProof.Rows
set_option maxRecDepth 100000
set_option genInjectivity false
set_option genSizeOf false
set_option backward.match.sparseCases false
namespace Mine
section
variable {X : Cx} {cl : Cl} {kv : KEv} {W W' : Wd} {s : Shared} {env : Env} {ks : Ks} {ow : List Nat} {E : VEnv} {x y n : Str} {u w : Value} {v : V} {p pos xp ap : Pos} {Q : Value → Shared → Prop} {a : Addr} {vs : List Value} {l : List V} {as : List PySem.Expr} {k : VEnv → Prop}
abbrev PX (X : Cx) (W : Wd) (ks : Ks) (ow : List Nat) (env : Env) (k : VEnv → Prop) (Q : Unit → Shared → Prop) : Prop := ∀ E', k E' → PE X W ks ow E' env Q
abbrev Qx (Q : Unit → Shared → Prop) (_ : Value) (s : Shared) : Prop := Q () s
variable {Q : Unit → Shared → Prop}
theorem PX.aft (P : PX X W ks ow env k Q) (h : Sx W W') : PX X W' ks ow env k Q := fun E' q => (P E' q).aft h
theorem sz_ok {l : List V} {vs : List Value} (h : Rels X.G W l vs) (hl : sm l = true) : vs.toArray.size ≤ sizeLine := list_sz h hl
theorem app_list (I : J X W s) (R : FrR X.G W ks ow E env) (hy : okN y) (hE : lookE (nm y) E = .ml l) (z1 : Slot W ks env y (some (.ref a))) (z2 : OwnL W 2 (nm y) a vs) (z3 : Rels X.G W l vs) (hl : sm l = true) (hv : Rel X.G W v u) (P : PE X W ks ow (putE (nm y) (.ml (l ++ [v])) E) env Q) :
    Do X (call (.builtin "list.append") [.ref a, u]) (Qx Q) s :=
  z2.2.elim fun m ha => wpAny_list_append_plain ⟨m, I.rl _ _ ha⟩ (fun h' hL hs => hL.elim fun m' hL => list_put (C := Q () { s with heap := h' }) (tk := s.toks) I R hy hE z1 z2 hs.extBut (by rw [List.push_toArray] at hL; exact hL) (All2.app (All2.one hv) z3) fun W' x1 x2 x3 => P W' _ x1 x2 x3) (list_sz z3 hl)
theorem grow1 (S : Snd X kv) {e : PySem.Expr} (hs : noStar e = true) (I : J X W s) (R : FrR X.G W ks ow E env) (hy : okN y) (hE : lookE (nm y) E = .ml l) (z1 : Slot W ks env y (some (.ref a))) (z2 : OwnL W 2 (nm y) a vs) (z3 : Rels X.G W l vs) (h : kv.e ks e E fun v => brW (sm l) (k (putE (nm y) (.ml (l ++ [v])) E)) False) (P : PX X W ks ow env k Q) :
    Do X (callWith pos (.builtin "list.append") [.ref a] (backTo pos (starEach [e] env)) []) (Qx Q) s :=
  call_b1 hs (S.e I R.toEnvR h fun v h u W₁ s₁ X₁ I₁ hv => gd_e h fun hl h => app_list I₁ (R.ex X₁) hy hE (z1.mono X₁.rl) ⟨z2.1, z2.2.imp fun _ => X₁.rl _ _⟩ (Rels.le X₁.le z3) hl hv ((P _ h).aft X₁.sx))
theorem FrR.drop {G : GI} {o : Obj} (R : FrR G W ks ow E env) (hy : okN y) (ha : W.rl a = some (.fr 2 (nm y) o)) (h1 : tokN (nm y) = false) (h2 : apN (nm y) = false) (hS : ∀ z sv, okN z → Slot W ks env z sv → Slot (W.upd a (.fz o)) ks env z sv) : FrR G (W.upd a (.fz o)) ks ow (putE (nm y) .no E) env := by
  have L : Le W (W.upd a (.fz o)) := ⟨fun b ob e => (Wd.upd_ne fun z => nomatch ha.symm.trans ((congrArg W.rl z).symm.trans e)).trans e, fun _ _ e => e⟩
  have no : lookE (nm y) (putE (nm y) .no E) = .no := lookE_at.elim id fun q => q.1
  refine ⟨⟨R.kind, R.glob, R.blt, R.kinds, fun z hz hv => ?_, R.tr, R.ac⟩, R.loc.imp fun _ e => (Wd.upd_ne (fr_ne ha e (by decide))).trans e, fun z hz hk => (R.cel z hz hk).imp fun _ q => q.imp fun _ q => ⟨q.1, (Wd.upd_ne (fr_ne ha q.2 (by decide))).trans q.2⟩, fun z y' hz hv e => ?_, fun z hw hz hno => ?_, R.nf⟩
  · by_cases e : z = y
    · subst e
      rw [no]; exact (R.ent z hz hv).some.imp fun _ => hS z _ hz
    · rw [lookE_ne fun q => e (nm_inj hz hy q)]
      refine (R.ent z hz hv).mono L (fun sv => hS z sv hz) fun t b ob _ e' => (Wd.upd_ne fun q => ?_).trans e'
      exact e (nm_inj hz hy (Role.noConfusion (Option.some.inj (e'.symm.trans ((congrArg W.rl q).trans ha))) fun _ e _ => e))
  · by_cases e' : z = y
    · subst e'; exact nomatch no.symm.trans e
    · rw [lookE_ne fun q => e' (nm_inj hz hy q)] at e
      refine (R.ap z y' hz hv e).imp fun _ q => q.imp fun _ q => ⟨hS z _ hz q.1, L.f q.2.1, q.2.2.1, ?_, fun w l hw e1 e2 => hS w _ hw (q.2.2.2.2 w l hw e1 ?_)⟩
      · rw [lookE_ne fun e => by rw [← e, q.2.2.1] at h2; exact nomatch h2]; exact q.2.2.2.1
      · rw [lookE_ne fun e => by rw [← e, q.2.2.1] at h2; exact nomatch h2] at e2; exact e2
  · rw [lookE_ne fun e => by rw [← e, hz] at h1; exact nomatch h1] at hno
    exact R.tok z hw hz hno
theorem lst1X_i {e : PySem.Expr} {r : (Str × Pos) × Pos} (h : lst1X e = some r) : e = .List [.Name r.1.1 r.1.2] r.2 := sub_i (p := fun r : (Str × Pos) × Pos => e = .List [.Name r.1.1 r.1.2] r.2) h
theorem addX_i {e : PySem.Expr} {r : PySem.Expr × PySem.Expr × Pos} (h : addX e = some r) : e = .BinOp r.1 .Add r.2.1 r.2.2 := sub_i (p := fun r : PySem.Expr × PySem.Expr × Pos => e = .BinOp r.1 .Add r.2.1 r.2.2) h
theorem call1X_i {e : PySem.Expr} {r : (Str × Pos) × PySem.Expr × Pos} (h : call1X e = some r) : e = .Call (.Name r.1.1 r.1.2) [r.2.1] [] r.2.2 := sub_i (p := fun r : (Str × Pos) × PySem.Expr × Pos => e = .Call (.Name r.1.1 r.1.2) [r.2.1] [] r.2.2) h
theorem tX_i {e : PySem.Expr} {t : TX} (h : tX e = some t) : e = .Call (.Name t.f t.fp) [.BinOp t.e .Add (.List [.Name t.y t.yp] t.lp) t.bp] [] t.cp :=
  bnd_e h fun c e1 h => bnd_e h fun b e2 h => bnd_e h fun z e3 h => by
    rw [call1X_i e1, addX_i e2, lst1X_i e3, ← Option.some.inj h]
theorem isd_dict {kx dv : List V} {f : Str} {z : Str} (h : (bif biIs ks f (N "tuple") && !tokN (nm z) && !apN (nm z) then mdOf (entOf ks z E) else none) = some (kx, dv)) {P : Prop} (c : biIs ks f (N "tuple") = true → tokN (nm z) = false → apN (nm z) = false → entOf ks z E = .md kx dv → P) : P :=
  bf_e h fun hb h => and_e hb fun hb h2 => and_e hb fun h0 h1 => c h0 (not_t h1) (not_t h2) (by
    cases e : entOf ks z E with
    | md a b => rw [e] at h; rw [(Prod.mk.inj (Option.some.inj h)).1, (Prod.mk.inj (Option.some.inj h)).2]
    | _ => rw [e] at h; exact nomatch h)
theorem growT (S : Snd X kv) (F : Fx X cl) {t : TX} {kx dv : List V} (hd : mdY ks t E = some (kx, dv)) (I : J X W s) (R : FrR X.G W ks ow E env) (hy : okN y) (hE : lookE (nm y) E = .ml l) (z1 : Slot W ks env y (some (.ref a))) (z2 : OwnL W 2 (nm y) a vs) (z3 : Rels X.G W l vs)
    (h : kv.e ks t.e E fun v => optW (lstOf v) fun es => brW (Nat.blt (es.length + 1) 65536) (brW (sm l) (k (putE (nm y) (.ml (l ++ [.tup (es ++ [.dct kx dv])])) (putE (nm t.y) .no E))) False) False) (P : PX X W ks ow env k Q) :
    Do X (callWith pos (.builtin "list.append") [.ref a] (backTo pos (starEach [.Call (.Name t.f t.fp) [.BinOp t.e .Add (.List [.Name t.y t.yp] t.lp) t.bp] [] t.cp] env)) []) (Qx Q) s := by
  refine isd_dict hd fun hb ht hp e => biIs_e hb fun hb => ent_at R.toEnvR e En.noConfusion fun f1 f2 f3 fd => ?_
  obtain ⟨b, o, kvs, d1, d2, d3, d4, d5, d6⟩ := fd
  refine call_b1 rfl (wpAny_Call_NameR (name_bi F.ok I R.toEnvR (by decide +kernel) F.bok.tuple hb (call_t1 rfl (wpAny_BinOp (S.e I R.toEnvR h fun v h u W₁ s₁ X₁ I₁ hv => lst_e I₁ hv.o h fun es c us m g1 g2 h => gd_e h fun hl h => gd_e h fun hl' h => ?_)))))
  have R₁ := R.ex X₁
  refine wpAny_List ?_
  rw [backTo_cons rfl]
  refine Calls.spliced_cons (wpAny_Name (load_slot I₁ R₁.toEnvR f1 (d1.mono X₁.rl) (Calls.spliced_nil ⟨by rw [sizeLine_eq]; show 1 ≤ 16777216; decide, ?_⟩)) (fine_ne f1).1)
  have X₂ := Ex.upd (r := .fz (seqO "list" [.ref b] 0)) I₁.new
  have I₂ := I₁.push (o := seqO "list" [.ref b] 0) (.fz _) rfl rfl s₁.toks
  have hl2 := bltN.mp hl
  have g1' : (s₁.heap.push (seqO "list" [.ref b] 0)).get? c = some (seqO "list" us m) := Heap.get?_push_of_some _ g1
  refine PySem.P.add_list g1' (Heap.get?_push_size _ rfl) ?_ (by rw [sizeLine_eq]; show us.length + 1 ≤ _; rw [g2.len]; omega)
  rw [List.append_toArray]
  have X₃ := Ex.upd (r := .fz (seqO "list" (us ++ [.ref b]) 0)) I₂.new
  have I₃ := I₂.push (o := seqO "list" (us ++ [.ref b]) 0) (.fz _) rfl rfl s₁.toks
  refine tuple_list (listO (Heap.get?_push_size _ rfl)) (fun h' hk => ?_) (by rw [sizeLine_eq, List.size_toArray, List.length_append, g2.len]; show es.length + 1 ≤ _; omega)
  have I₃' := I₃.keep (tk := s₁.toks) hk
  have X₄ := Ex.upd (r := .fz (seqO "tuple" (us ++ [.ref b]) 0)) I₃'.new
  have I₄ := I₃'.push (o := seqO "tuple" (us ++ [.ref b]) 0) (.fz _) rfl rfl s₁.toks
  have XX := X₁.trans ((X₂.trans X₃).trans X₄)
  have hb4 := XX.rl _ _ d3
  have R₄ := R.ex XX
  have sx := Sx.upd (r := .fz o) fun q e => Option.some.inj (hb4.symm.trans e) ▸ rfl
  have yz : nm y ≠ nm t.y := fun q => by rw [q, f3] at hE; exact nomatch hE
  have ab : a ≠ b := fun q => by
    obtain ⟨_, _, ha⟩ := z2
    exact yz (Role.noConfusion (Option.some.inj (ha.symm.trans ((congrArg W.rl q).trans d3))) fun _ e _ => e)
  refine app_list (I₄.role (.fz o) hb4 (fun _ z => nomatch z) rfl) (R₄.drop (fine_ok f1) hb4 ht hp fun z sv hz => slot_fr R₄ hb4 (Nat.le_refl 2) hz) hy ((lookE_ne yz).trans hE) (slot_fr R₄ hb4 (Nat.le_refl 2) hy (z1.mono XX.rl)) ⟨z2.1, z2.2.imp fun _ q => (Wd.upd_ne ab).trans (XX.rl _ _ q)⟩ (Rels.le (XX.sx.trans sx).le z3) hl'
    (relTup (sx.le.f ⟨Wd.upd_self, I₃'.ne_sys⟩) (All2.app (All2.one (.mk ⟨b, o, kvs, rfl, ⟨Wd.upd_self, d2⟩, d4, d5, Rels.le (XX.sx.trans sx).le d6⟩)) (Rels.le ((X₂.trans (X₃.trans X₄)).sx.trans sx).le g2))) ((P _ h).aft (XX.sx.trans sx))
theorem growL_sound (S : Snd X kv) (F : Fx X cl) {e : PySem.Expr} (hs : noStar e = true) (I : J X W s) (R : FrR X.G W ks ow E env) (hy : okN y) (hE : lookE (nm y) E = .ml l) (z1 : Slot W ks env y (some (.ref a))) (z2 : OwnL W 2 (nm y) a vs) (z3 : Rels X.G W l vs) (h : growL kv ks (nm y) l e E k) (P : PX X W ks ow env k Q) :
    Do X (callWith pos (.builtin "list.append") [.ref a] (backTo pos (starEach [e] env)) []) (Qx Q) s := by
  unfold growL at h
  cases ht : tX e with
  | none => rw [ht] at h; exact grow1 S hs I R hy hE z1 z2 z3 h P
  | some t =>
    rw [ht] at h
    dsimp only at h
    cases hd : mdY ks t E with
    | none => rw [hd] at h; exact grow1 S hs I R hy hE z1 z2 z3 h P
    | some d => rw [hd] at h; rw [tX_i ht]; exact growT S F hd I R hy hE z1 z2 z3 h P
end
end Mine
end
section
open PySem PySem.W PyProof.Rows
set_option maxRecDepth 100000
set_option genInjectivity false
set_option genSizeOf false
set_option backward.match.sparseCases false
namespace Mine
section
variable {X : Cx} {cl : Cl} {kv : KEv} {W W' : Wd} {s : Shared} {env : Env} {ks : Ks} {ow : List Nat} {E E' : VEnv} {x y n : Str} {u w : Value} {v : V} {p pos xp ap : Pos} {Q : Unit → Shared → Prop} {a : Addr} {vs : List Value} {l : List V} {as : List PySem.Expr} {k : VEnv → Prop}
theorem insertAt_rels (hx : Rel X.G W v u) (i : Nat) : ∀ {l : List V} {vs : List Value}, Rels X.G W l vs → Rels X.G W (insertAt v i l) (insertAt u i vs) := by
  induction i with
  | zero => exact fun {l vs} e => ⟨u, vs, rfl, hx, e⟩
  | succ i ih =>
    intro l vs e
    cases l with
    | nil => rw [show vs = [] from e]; exact ⟨u, [], rfl, hx, rfl⟩
    | cons z l =>
      obtain ⟨w, r, rfl, h1, h2⟩ := e
      exact ⟨w, insertAt u i r, rfl, h1, ih h2⟩
theorem ins_sound (S : Snd X kv) (I : J X W s) (R : FrR X.G W ks ow E env) (hy : okN y) (hE : lookE (nm y) E = .ml l) (z1 : Slot W ks env y (some (.ref a))) (z2 : OwnL W 2 (nm y) a vs) (z3 : Rels X.G W l vs)
    (h : optW (twoL as) fun p => gd (noStar p.1 && noStar p.2) (kv.e ks p.1 E fun i => kv.e ks p.2 E fun v => natW i fun i => brW (sm l && Nat.blt i 65536) (k (putE (nm y) (.ml (insertAt v i l)) E)) False)) (P : PX X W ks ow env k Q) :
    Do X (callWith pos (.builtin "list.insert") [.ref a] (backTo pos (starEach as env)) []) (Qx Q) s :=
  twoL_e (P := fun as => Do X (callWith pos (.builtin "list.insert") [.ref a] (backTo pos (starEach as env)) []) (Qx Q) s) h fun e1 e2 h => gd_e h fun hb h => and_e hb fun h1 h2 => by
    refine Calls.callWith_builtin (any_noStar (by rw [List.all_cons, List.all_cons, h1, h2]; rfl)) ?_
    rw [backTo_cons h1, backTo_cons h2]
    refine Calls.evalArgs_plain (Calls.spliced_cons (S.e I R.toEnvR h fun i h ui W₁ s₁ X₁ I₁ hi => Calls.spliced_cons (S.e I₁ (R.ex X₁).toEnvR h fun v h uv W₂ s₂ X₂ I₂ hv => Calls.spliced_nil ?_)))
    have XX := X₁.trans X₂
    refine nat_e (Pm := fun ui => Do X (call (.builtin "list.insert") [.ref a, ui, uv]) (Qx Q) s₂) (hi.le X₂.le).o h fun i t h => gd_e h fun hb h => and_e hb fun hl hi => z2.2.elim fun m ha => ?_
    have z3' := Rels.le XX.le z3
    exact ins_list (I₂.rl _ _ (XX.rl _ _ ha)) hi (list_sz z3' hl) fun h' n' hs hg => list_put (C := Q () { s₂ with heap := h' }) (tk := s₂.toks) I₂ (R.ex XX) hy hE (z1.mono XX.rl) ⟨z2.1, m, XX.rl _ _ ha⟩ hs.extBut hg (insertAt_rels hv i z3') fun W' x1 x2 x3 => P _ h W' _ (XX.sx.trans x1) x2 x3
theorem RowsR.snoc {G : GI} {c : List Nat} {t : Tok} {m j b : Nat} {a : Addr} {us : List V} {ws : List Value} (h1 : W.fz a (seqO "tuple" [.str ⟨c.toArray⟩ t, .ref b] m)) (r : Rels G W us ws) {l : List (List Nat × List V)} : ∀ {i : Nat} {vs : List Value}, OwnL W (3 + (i + l.length)) j b ws → RowsR G W j i l vs → RowsR G W j i (l ++ [(c, us)]) (vs ++ [.ref a]) := by
  induction l with
  | nil =>
    intro i vs h e
    rw [show vs = [] from e]
    exact ⟨a, b, t, m, ws, [], rfl, h1, h, r, rfl⟩
  | cons q l ih =>
    intro i vs h e
    obtain ⟨a', b', t', m', vs', r', rfl, e1, e2, e3, e4⟩ := e
    have z : 3 + (i + 1 + l.length) = 3 + (i + (q :: l).length) := congrArg (3 + ·) (Nat.add_right_comm i 1 l.length)
    exact ⟨a', b', t', m', vs', r' ++ [.ref a], rfl, e1, e2, e3, ih (z ▸ h) e4⟩
theorem RowsR.len {G : GI} {j : Nat} {l : List (List Nat × List V)} : ∀ {i : Nat} {vs : List Value}, RowsR G W j i l vs → vs.length = l.length := by
  induction l with
  | nil => exact fun e => congrArg List.length (show _ = [] from e)
  | cons q l ih =>
    intro i vs e
    obtain ⟨_, _, _, _, _, _, rfl, _, _, _, e4⟩ := e
    exact congrArg Nat.succ (ih e4)
structure LastR (G : GI) (W : Wd) (j i : Nat) (l : List (List Nat × List V)) (vs : List Value) (pre : List (List Nat × List V)) (c : List Nat) (us : List V) (vs' : List Value) (a b : Addr) (t : Tok) (m : Nat) (ws : List Value) : Prop where
  e : l = pre ++ [(c, us)]
  v : vs = vs' ++ [.ref a]
  r : RowsR G W j i pre vs'
  t : W.fz a (seqO "tuple" [.str ⟨c.toArray⟩ t, .ref b] m)
  o : OwnL W (3 + (i + pre.length)) j b ws
  w : Rels G W us ws
theorem RowsR.last {G : GI} {j : Nat} {l : List (List Nat × List V)} : ∀ {i : Nat} {vs : List Value} {P : Prop}, RowsR G W j i l vs → l.isEmpty = false → (∀ pre c us vs' a b t m ws, LastR G W j i l vs pre c us vs' a b t m ws → P) → P := by
  induction l with
  | nil => exact fun _ h _ => nomatch h
  | cons q l ih =>
    intro i vs P h _ k
    obtain ⟨a, b, t, m, ws, r, rfl, e1, e2, e3, e4⟩ := h
    cases l with
    | nil =>
      rw [show r = [] from e4] at k
      exact k [] q.1 q.2 [] a b t m ws ⟨rfl, rfl, rfl, e1, e2, e3⟩
    | cons q' l => exact ih e4 rfl fun pre c us vs' a' b' t' m' ws' Z => k (q :: pre) c us (.ref a :: vs') a' b' t' m' ws' ⟨congrArg (q :: ·) Z.e, congrArg (Value.ref a :: ·) Z.v, ⟨a, b, t, m, ws, vs', rfl, e1, e2, e3, Z.r⟩, Z.t, (show 3 + (i + 1 + pre.length) = 3 + (i + (q :: pre).length) from congrArg (3 + ·) (Nat.add_right_comm i 1 pre.length)) ▸ Z.o, Z.w⟩
theorem addLast_i {pre l' : List (List Nat × List V)} {c : List Nat} {us : List V} (h : addLast v (pre ++ [(c, us)]) = some l') : sm us = true ∧ l' = pre ++ [(c, us ++ [v])] := by
  induction pre generalizing l' with
  | nil => exact bf_e (show (bif sm us then some [(c, us ++ [v])] else none) = some l' from h) fun a e => ⟨a, (Option.some.inj e).symm⟩
  | cons q pre ih =>
    have h : bnd (addLast v (pre ++ [(c, us)])) (fun r => some (q :: r)) = some l' := by
      cases pre <;> exact h
    exact bnd_e h fun r e h => ⟨(ih e).1, (Option.some.inj h).symm.trans (congrArg (q :: ·) (ih e).2)⟩
theorem rows_put {o' : Obj} {o : Obj} {l' : List (List Nat × List V)} {t : Nat} {b : Addr} {h' : Heap} {tk : Nat} {C : Prop} (I : J X W s) (R : FrR X.G W ks ow E env) (hy : okN y) (ha : W.rl b = some (.fr t (nm y) o)) (ht : 2 ≤ t) (hs : Heap.ExtBut b s.heap h') (hg : h'.get? b = some o')
    (hen : Le W (W.upd b (.fr t (nm y) o')) → EntR X.G (W.upd b (.fr t (nm y) o')) (Slot (W.upd b (.fr t (nm y) o')) ks env) y (.mr l')) (P : ∀ W', Sx W W' → J X W' { s with heap := h', toks := tk } → FrR X.G W' ks ow (putE (nm y) (.mr l') E) env → C) : C :=
  own_put (en := .mr l') I R hy ha ht hs hg (fun _ e => nomatch e) (fun _ e => nomatch e) rfl (fun W' e L => by subst e; exact hen L) P
theorem growM (S : Snd X kv) {l : List (List Nat × List V)} (I : J X W s) (R : FrR X.G W ks ow E env) (hy : okN y) (z1 : Slot W ks env y (some (.ref a))) (z2 : OwnL W 2 (nm y) a vs) (z3 : RowsR X.G W (nm y) 0 l vs)
    (h : optW (oneL as) fun e => optW (rowX e) fun r => gd (noStar r.1) (kv.e ks r.1 E fun v => optW (strOf v) fun s => gd (sm l) (k (putE (nm y) (.mr (l ++ [(s, [])])) E)))) (P : PX X W ks ow env k Q) : Do X (callWith pos (.builtin "list.append") [.ref a] (backTo pos (starEach as env)) []) (Qx Q) s :=
  oneL_e (P := fun as => Do X (callWith pos (.builtin "list.append") [.ref a] (backTo pos (starEach as env)) []) (Qx Q) s) h fun e h => optW_e h fun r e1 h => gd_e h fun hs h => by
    rw [sub_i (p := fun r : PySem.Expr × Nat × Pos × Pos => e = .Tuple [r.1, .List [] r.2.2.2] r.2.1 r.2.2.1) e1]
    refine call_b1 rfl (wpAny_Tuple ?_)
    rw [backTo_cons hs, backTo_cons rfl]
    refine Calls.spliced_cons (S.e I R.toEnvR h fun v h u W₁ s₁ X₁ I₁ hu => str_e hu.o h fun c t h => gd_e h fun hl h => Calls.spliced_cons (wpAny_List (Calls.spliced_nil ⟨Nat.zero_le _, Calls.spliced_nil ⟨by rw [sizeLine_eq]; show 2 ≤ 16777216; decide, ?_⟩⟩)))
    have X₂ := Ex.upd (r := .fr (3 + (0 + l.length)) (nm y) (seqO "list" [] 0)) I₁.new
    have I₂ := I₁.push (o := seqO "list" [] 0) (.fr (3 + (0 + l.length)) (nm y) _) rfl rfl s₁.toks
    have X₃ := Ex.upd (r := .fz (seqO "tuple" [.str ⟨c.toArray⟩ t, .ref s₁.heap.objs.size] 0)) I₂.new
    have I₃ := I₂.push (o := seqO "tuple" [.str ⟨c.toArray⟩ t, .ref s₁.heap.objs.size] 0) (.fz _) rfl rfl s₁.toks
    have XX := X₁.trans (X₂.trans X₃)
    obtain ⟨h0, m, ha⟩ := z2
    have ha3 := XX.rl _ _ ha
    have R₃ := R.ex XX
    refine wpAny_list_append_plain ⟨m, I₃.rl _ _ ha3⟩ (fun h' hL hs => hL.elim fun m' hL => rows_put (C := Q () _) (tk := s₁.toks) (l' := l ++ [(c, [])]) I₃ R₃ hy ha3 (Nat.le_refl 2) hs.extBut (by rw [List.push_toArray] at hL; exact hL) (fun L => ?_) fun W' x1 x2 x3 => P _ h W' _ (XX.sx.trans x1) x2 x3) (by
      rw [List.size_toArray, z3.len]; exact sizeLine_ge hl)
    exact ⟨a, vs ++ [.ref (s₁.heap.push (seqO "list" [] 0)).objs.size], slot_fr R₃ ha3 (Nat.le_refl 2) hy (z1.mono XX.rl), ⟨h0, m', Wd.upd_self⟩, RowsR.snoc (t := t) (b := s₁.heap.objs.size) (L.f ⟨Wd.upd_self, I₂.ne_sys⟩) (show Rels X.G _ [] [] from rfl) ⟨I₁.ne_sys, 0, (Wd.upd_ne (ne_none I₁.new (X₁.rl _ _ ha))).trans (X₃.rl _ _ Wd.upd_self)⟩
      (z3.mono (XX.le.trans L) fun q b o _ e => (Wd.upd_ne (fr_ne ha e (by omega))).trans (XX.rl _ _ e))⟩
theorem growR_sound (S : Snd X kv) {o : PySem.Expr} (I : J X W s) (R : FrR X.G W ks ow E env) (hf : as.all noStar = true) (h30 : Nat.blt as.length 30 = true) (hl : Nat.beq ap.endLine p.line = true) (h : growR kv ks o (nmS n) as E k) (P : PX X W ks ow env k Q) :
    Do X (eval (.Call (.Attribute o n ap) as [] p) env) (Qx Q) s := by
  refine optW_e h fun w e h => optW_e h fun l e1 h => gd_e h fun hb h => and_e hb fun hb b5 => and_e hb fun hb b4 => and_e hb fun hb b3 => and_e hb fun b1 b2 => ?_
  rw [sub_i (p := fun r : (Str × Pos) × PySem.Expr × PySem.Expr × Pos × Pos => o = .Subscript (.Subscript (.Name r.1.1 r.1.2) r.2.1 r.2.2.2.1) r.2.2.1 r.2.2.2.2) e, nmS_is (t := "append") (by decide +kernel) (by decide +kernel) (beqN.mp b1)]
  have e2 : entOf ks w.1.1 E = .mr l := by
    cases q : entOf ks w.1.1 E with
    | mr l' => rw [q] at e1; rw [Option.some.inj e1]
    | _ => rw [q] at e1; exact none_i e1
  refine ent_at R.toEnvR e2 En.noConfusion fun f1 f2 f3 ⟨a, vs, z1, ⟨h0, m, ha⟩, z3⟩ => z3.last (not_t b3) fun pre c us vs' r b t m' ws Z => ?_
  obtain ⟨Ze, Zv, Zr, Zt, Zo, Zw⟩ := Z
  subst Ze Zv
  refine call_method (base_plain rfl) (few_sound hf h30) (line_eq hl) (Subscript_ (Subscript_ (wpAny_Name (load_slot I R.toEnvR f1 z1 (S.e I R.toEnvR h fun iv h ui W₁ s₁ X₁ I₁ hi => int_e hi.o h fun i t1 h => gd_e h fun hi h => ?_)) (fine_ne f1).1)))
  rw [of_decide_eq_true hi]
  refine tail_got (got_lst (by decide) rfl (by rw [List.length_append]; exact idx_last _) (I₁.rl _ _ (X₁.rl _ _ ha)) get_snoc ?_) (Option.isNone_iff_eq_none.mp b4)
  refine S.e I₁ (R.ex X₁).toEnvR h fun jv h uj W₂ s₂ X₂ I₂ hj => int_e hj.o h fun j t2 h => gd_e h fun hj h => ?_
  rw [of_decide_eq_true hj]
  have X12 := X₁.trans X₂
  refine tail_got (got_at (vs := [.str ⟨c.toArray⟩ t, .ref b]) rfl rfl (I₂.fz (X12.le.f Zt)) rfl fun pl => ?_) (Option.isNone_iff_eq_none.mp b5)
  obtain ⟨hb0, mb, hb⟩ := Zo
  have hb2 := I₂.rl _ _ (X12.rl _ _ hb)
  refine getMethod_builtin ⟨_, hb2, rfl⟩ PySem.F.plainAttrs_list PySem.F.slot_list_append type_list_append (fun b' e => ⟨_, Value.ref.inj e ▸ hb2, rfl⟩) ?_
  refine oneA_e (P := fun as => Do X (callWith p (.builtin "list.append") [.ref b] (backTo p (starEach as env)) []) (Qx Q) s₂) h fun e hs h => call_b1 hs (S.e I₂ (R.ex X12).toEnvR h fun v h u W₃ s₃ X₃ I₃ hv => optW_e h fun l' e3 h => ?_)
  obtain ⟨hsm, rfl⟩ := addLast_i e3
  have XX := X12.trans X₃
  have R₃ := R.ex XX
  have hb3 := XX.rl _ _ hb
  have Zw3 := Rels.le XX.le Zw
  refine wpAny_list_append_plain ⟨mb, I₃.rl _ _ hb3⟩ (fun h' hL hs' => hL.elim fun mb' hL => rows_put (C := Q () _) (tk := s₃.toks) (l' := pre ++ [(c, us ++ [v])]) I₃ R₃ (fine_ok f1) hb3 (Nat.le_trans (by decide) (Nat.le_add_right 3 _)) hs'.extBut (by rw [List.push_toArray] at hL; exact hL) (fun L => ?_) fun W' x1 x2 x3 => P _ h W' _ (XX.sx.trans x1) x2 x3) (list_sz Zw3 hsm)
  exact ⟨a, vs' ++ [.ref r], slot_fr R₃ hb3 (Nat.le_trans (by decide) (Nat.le_add_right 3 _)) (fine_ok f1) (z1.mono XX.rl), ⟨h0, m, (Wd.upd_ne (fr_ne hb ha (by omega))).trans (XX.rl _ _ ha)⟩, RowsR.snoc (t := t) (b := b) (L.f (XX.le.f Zt)) (Rels.le L (All2.app (All2.one hv) Zw3)) ⟨hb0, mb', Wd.upd_self⟩
    (Zr.mono (XX.le.trans L) fun q b' o' hq e => (Wd.upd_ne (fr_ne hb e (by omega))).trans (XX.rl _ _ e))⟩
end
end Mine
end
section
open PySem PySem.W PyProof.Rows
set_option maxRecDepth 100000
set_option genInjectivity false
set_option genSizeOf false
set_option backward.match.sparseCases false
namespace Mine
section
variable {X : Cx} {cl : Cl} {kv : KEv} {W W' : Wd} {s : Shared} {env : Env} {ks : Ks} {ow : List Nat} {E E' : VEnv} {x y n f : Str} {u w : Value} {v : V} {p pos xp ap fp : Pos} {Q : Unit → Shared → Prop} {a : Addr} {vs us : List Value} {l : List V} {as es : List PySem.Expr} {k : VEnv → Prop}
theorem mlOf_i {en : En} {l : List V} (h : mlOf en = some l) : en = .ml l := by
  cases en with
  | ml q => exact congrArg En.ml (Option.some.inj h)
  | _ => exact none_i h
theorem mrOf_i {en : En} {l : List (List Nat × List V)} (h : mrOf en = some l) : en = .mr l := by
  cases en with
  | mr q => exact congrArg En.mr (Option.some.inj h)
  | _ => exact none_i h
theorem list_meth {id : String} {o : Obj} (h : s.heap.get? a = some o) (hc : o.cls = .type "list") (hd : o.dict = none) (sl : PySem.Slot "list" n id) (ty : typeOf (.builtin id) = pure (.type "method_descriptor")) {Q : Value → Shared → Prop} (hq : Do X (callWith pos (.builtin id) [.ref a] (backTo pos (starEach as env)) []) Q s) : MC X pos as env n (.ref a) Q s :=
  fun pl => @getMethod_builtin _ _ _ _ (.ref a) "list" n id pl _ ⟨o, h, hc⟩ PySem.F.plainAttrs_list sl ty (fun b e => ⟨o, Value.ref.inj e ▸ h, hd⟩) hq
theorem growW_sound (S : Snd X kv) (F : Fx X cl) (I : J X W s) (R : FrR X.G W ks ow E env) (hs : as.all noStar = true) (h30 : Nat.blt as.length 30 = true) (hl : Nat.beq ap.endLine p.line = true) (h : growW kv ks (nm y) (entOf ks y E) (nmS n) as E k) (P : PX X W ks ow env k Q) :
    Do X (eval (.Call (.Attribute (.Name y xp) n ap) as [] p) env) (Qx Q) s := by
  unfold growW at h
  cases e1 : mlOf (entOf ks y E) with
  | some l =>
    rw [e1] at h
    refine ent_at R.toEnvR (mlOf_i e1) En.noConfusion fun f1 f2 f3 ⟨a, vs, z1, z2, z3⟩ => call_method (base_plain rfl) (few_sound hs h30) (line_eq hl) (wpAny_Name (load_slot I R.toEnvR f1 z1 ?_) (fine_ne f1).1)
    obtain ⟨h0, m, ha⟩ := id z2
    refine br_e h (fun hn h => ?_) fun _ h => gd_e h fun hn h => ?_
    · rw [nmS_is (t := "append") (by decide +kernel) (by decide +kernel) (beqN.mp hn)]
      exact list_meth (I.rl _ _ ha) rfl rfl PySem.F.slot_list_append type_list_append (oneA_e (P := fun as => Do X (callWith p (.builtin "list.append") [.ref a] (backTo p (starEach as env)) []) (Qx Q) s) h fun e hs h => growL_sound S F hs I R (fine_ok f1) f3 z1 z2 z3 h P)
    · rw [nmS_is (t := "insert") (by decide +kernel) (by decide +kernel) (beqN.mp hn)]
      exact list_meth (I.rl _ _ ha) rfl rfl PySem.F.slot_list_insert PySem.F.type_list_insert (ins_sound S I R (fine_ok f1) f3 z1 z2 z3 h P)
  | none =>
    rw [e1] at h
    refine optW_e h fun l e2 h => gd_e h fun hn h => ent_at R.toEnvR (mrOf_i e2) En.noConfusion fun f1 f2 f3 ⟨a, vs, z1, z2, z3⟩ => call_method (base_plain rfl) (few_sound hs h30) (line_eq hl) (wpAny_Name (load_slot I R.toEnvR f1 z1 ?_) (fine_ne f1).1)
    obtain ⟨h0, m, ha⟩ := id z2
    rw [nmS_is (t := "append") (by decide +kernel) (by decide +kernel) (beqN.mp hn)]
    exact list_meth (I.rl _ _ ha) rfl rfl PySem.F.slot_list_append type_list_append (growM S I R (fine_ok f1) z1 z2 z3 h P)
theorem growB (S : Snd X kv) (I : J X W s) (R : FrR X.G W ks ow E env) (h : optW (apOf (entOf ks f E)) fun y => optW (mlOf (lookE y E)) fun l => oneA as fun e => kv.e ks e E fun v => brW (sm l) (k (putE y (.ml (l ++ [v])) E)) False) (P : PX X W ks ow env k Q) :
    Do X (eval (.Call (.Name f fp) as [] p) env) (Qx Q) s := by
  refine optW_e h fun j e1 h => optW_e h fun l e2 h => ?_
  have e3 : entOf ks f E = .ap j := by
    cases q : entOf ks f E with
    | ap z => rw [q] at e1; rw [Option.some.inj e1]
    | _ => rw [q] at e1; exact none_i e1
  refine entOf_e e3 En.noConfusion fun f1 f2 f3 => ?_
  obtain ⟨b, c, z1, z2, z3, z4, z5⟩ := R.ap f j (fine_ok f1) f2 f3
  refine wpAny_Call_NameR (wpAny_Name (load_slot I R.toEnvR f1 z1 (oneA_e (P := fun as => Do X (callWith p (.ref b) [] (backTo p (starEach as env)) []) (Qx Q) s) h fun e hs h => ?_)) (fine_ne f1).1)
  have ej : j = nm (Str.ofString "res") := beqN.mp z3
  subst ej
  have ok : okN (Str.ofString "res") := okB_i (by decide +kernel)
  have hz := z5 (Str.ofString "res") l ok rfl (mlOf_i e2)
  have hv : isVar (look (nm (Str.ofString "res")) ks) = true := slot_e hz (fun e _ => by rw [e]; rfl) fun e _ => by rcases e with e | e <;> rw [e] <;> rfl
  have en := R.ent _ ok hv
  rw [mlOf_i e2] at en
  obtain ⟨a', vs, w1, ⟨w0, m, w2⟩, w3⟩ := en
  have e4 := Value.ref.inj (Option.some.inj (slot_val hz w1))
  subst e4
  refine bapp_callWith (l := c) (any_one hs) ?_
  rw [backTo_cons hs]
  refine Calls.evalArgs_plain (Calls.spliced_cons (S.e I R.toEnvR h fun v h u W₁ s₁ X₁ I₁ hv => gd_e h fun hl h => Calls.spliced_nil ⟨I₁.fz (X₁.le.f z2), ?_⟩))
  have w3' := Rels.le X₁.le w3
  exact bapp_call (I₁.fz (X₁.le.f z2)) (I₁.rl _ _ (X₁.rl _ _ w2)) (w3'.len.symm ▸ bltN.mp hl) fun h' n' hg hs' => list_put (C := Q () _) (tk := s₁.toks) I₁ (R.ex X₁) ok (mlOf_i e2) (w1.mono X₁.rl) ⟨w0, m, X₁.rl _ _ w2⟩ hs'.extBut hg (All2.app (All2.one hv) w3') fun W' x1 x2 x3 => P _ h W' _ (X₁.sx.trans x1) x2 x3
theorem stepG_sound (S : Snd X kv) (F : Fx X cl) {e : PySem.Expr} (I : J X W s) (R : FrR X.G W ks ow E env) (h : stepG kv ks e E k) (P : PX X W ks ow env k Q) : Do X (eval e env) (Qx Q) s := by
  have V := view_is e
  unfold stepG at h
  generalize view e = v at V h
  cases v with
  | meth o n ap as p =>
    rw [show e = _ from V]
    refine gd_e h fun hb h => and_e hb fun hb b4 => and_e hb fun hb _ => and_e hb fun b1 b2 => ?_
    cases q : nameX o with
    | some x => rw [q] at h; rw [nameX_i q]; exact growW_sound S F I R b4 b2 b1 h P
    | none => rw [q] at h; exact growR_sound S I R b4 b2 b1 h P
  | call f fp as p => rw [show e = _ from V]; exact growB S I R h P
  | _ => exact h.elim
theorem del_sound (S : Snd X kv) {i : PySem.Expr} {q : Pos} {k : List V → Prop} {Q : Flow → Shared → Prop} (I : J X W s) (R : FrR X.G W ks ow E env) (h : optW (mlOf (entOf ks y E)) fun l => kv.e ks i E fun iv => optW (intOf iv) fun i => delW l i k) (P : ∀ l, k l → PE X W ks ow (putE (nm y) (.ml l) E) env fun _ => Q .next) :
    Do X (exec (.Delete [.Subscript (.Name y xp) i p] q) env) Q s := by
  refine wpAny_Delete (wpAny_deleteEach_cons (wpAny_delete_Subscript (optW_e h fun l e1 h => ent_at R.toEnvR (mlOf_i e1) En.noConfusion fun f1 f2 f3 ⟨a, vs, z1, z2, z3⟩ => wpAny_Name (load_slot I R.toEnvR f1 z1 (S.e I R.toEnvR h fun iv h ui W₁ s₁ X₁ I₁ hi => int_e hi.o h fun i t h => gd_e h fun hf h => optW_e h fun j ej h => gd_e h fun hl h => ?_)) (fine_ne f1).1)))
  obtain ⟨h0, m, ha⟩ := z2
  have z3' := Rels.le X₁.le z3
  refine del_list (I₁.rl _ _ (X₁.rl _ _ ha)) hf (z3'.len.symm ▸ ej) (list_sz z3' hl) fun h' n' hs hg => wpAny_deleteEach_nil (list_put (C := Q .next _) (tk := s₁.toks) I₁ (R.ex X₁) (fine_ok f1) f3 (z1.mono X₁.rl) ⟨h0, m, X₁.rl _ _ ha⟩ hs.extBut hg ?_ fun W' x1 x2 x3 => P _ h W' _ (X₁.sx.trans x1) x2 x3)
  rw [List.eraseIdx_eq_take_drop_succ, List.eraseIdx_eq_take_drop_succ]
  exact All2.app (z3'.drop (j + 1)) (z3'.take j)
end
end Mine
end
section
open PySem PySem.W PyProof.Rows
set_option maxRecDepth 100000
set_option genInjectivity false
set_option genSizeOf false
set_option backward.match.sparseCases false
namespace Mine
section
variable {X : Cx} {cl : Cl} {kv : KEv} {W W' : Wd} {s : Shared} {env : Env} {ks : Ks} {ow : List Nat} {x y : Str} {u w : Value} {v : V} {p pos : Pos} {Q : Unit → Shared → Prop} {a : Addr} {es : List PySem.Expr}
theorem putGo_e {E E' : VEnv} {e : PySem.Expr} {r : List PySem.Expr} {q : List V} {C : Prop} (h : putGo ks (e :: r) (v :: q) E = some E') (c : ∀ x p, e = .Name x p → kSt ks x = true → putGo ks r q (putE (nm x) (.val v) E) = some E' → C) : C :=
  bnd_e (show bnd (nameX e) (fun x => bif kSt ks x.1 then putGo ks r q (putE (nm x.1) (.val v) E) else none) = some E' from h) fun x e1 h => bf_e h fun hk h => c x.1 x.2 (nameX_i e1) hk h
theorem go_len (es : List PySem.Expr) : ∀ {l : List V} {E E' : VEnv}, putGo ks es l E = some E' → (assignEach es env).length = l.length ∧ (assignEach es env).findIdx? (fun x => x.1) = none := by
  induction es with
  | nil =>
    intro l E E' h
    cases l with
    | nil => exact ⟨rfl, rfl⟩
    | cons => exact none_i h
  | cons e es ih =>
    intro l E E' h
    cases l with
    | nil => exact none_i h
    | cons v l =>
      refine putGo_e h fun x p e1 _ h => ?_
      have z := ih h
      rw [e1]
      refine ⟨congrArg Nat.succ z.1, ?_⟩
      show List.findIdx? (fun x => x.1) ((false, assign (.Name x p) env) :: assignEach es env) = none
      rw [List.findIdx?_cons, z.2]; rfl
theorem order_sound (es : List PySem.Expr) : ∀ {W : Wd} {s : Shared} {l : List V} {E E' : VEnv} {us : List Value}, J X W s → FrR X.G W ks ow E env → putGo ks es l E = some E' → Rels X.G W l us → PE X W ks ow E' env Q → Do X (assignInOrder ((assignEach es env).map (·.2)) us) Q s := by
  induction es with
  | nil =>
    intro W s l E E' us I R h hu P
    cases l with
    | nil =>
      rw [show us = [] from hu]
      exact assignInOrder_nil (P W s (Sx.refl W) I (Option.some.inj h ▸ R))
    | cons => exact none_i h
  | cons e es ih =>
    intro W s l E E' us I R h hu P
    cases l with
    | nil => exact none_i h
    | cons v l =>
      obtain ⟨u, r, rfl, h1, h2⟩ := hu
      refine putGo_e h fun x p e1 hk h => ?_
      rw [e1]
      exact assignInOrder_cons (wpAny_assign_Name (store_val I R hk h1 fun W₁ s₁ X₁ I₁ R₁ => ih I₁ R₁ h (Rels.le X₁.le h2) (P.aft X₁)))
theorem unpack_tup {E E' : VEnv} {l : List V} {k : Nat} (hh : X.A.handled = none) (I : J X W s) (R : FrR X.G W ks ow E env) (h : putGo ks es l E = some E') (hu : Rel X.G W (.tup l) u) (P : PE X W ks ow E' env Q) : Do X (assign (.Tuple es k p) env u) Q s := by
  obtain ⟨t, vs, n, rfl, h1, h2⟩ := hu.un
  have z := go_len (env := env) es h
  rw [arm_assign_Tuple]
  refine wpAny_bind (wpAny_standAt ?_)
  unfold unpack
  rw [z.2, z.1.trans h2.len.symm]
  refine wpAny_bind (wpAny_holding ?_)
  exact wpAny_unpackItems_tuple (prog := X.G.prog) (w := X.G.w) hh (tupO (I.fz h1)) (Q := fun items s' => Do X (assignInOrder ((assignEach es env).map (·.2)) items) Q s') fun h' he => order_sound es (I.keep (tk := s.toks) fun b o e => he b o (Nat.ne_of_lt (Heap.lt_size e)) e) R h h2 P
theorem assign_sound {E E' : VEnv} {tgt : PySem.Expr} (hh : X.A.handled = none) (I : J X W s) (R : FrR X.G W ks ow E env) (h : putT ks tgt v E = some E') (hu : Rel X.G W v u) (P : PE X W ks ow E' env Q) : Do X (assign tgt env u) Q s := by
  cases tgt
  case Name x q => exact bf_e (show (bif kSt ks x then some (putE (nm x) (.val v) E) else none) = some E' from h) fun hk e => wpAny_assign_Name (store_val I R hk hu (Option.some.inj e ▸ P))
  case Tuple es k q =>
    refine bnd_e (show bnd (tupOf v) (fun l => putGo ks es l E) = some E' from h) fun l e h => ?_
    cases v with
    | tup q => exact unpack_tup hh I R (Option.some.inj (show some q = some l from e) ▸ h) hu P
    | _ => exact none_i e
  all_goals exact none_i h
theorem twoL_i {α : Type} {l : List α} {p : α × α} (h : twoL l = some p) : l = [p.1, p.2] := by
  rcases l with _ | ⟨a, _ | ⟨b, _ | ⟨_, _⟩⟩⟩
  · exact none_i h
  · exact none_i h
  · rw [← Option.some.inj h]
  · exact none_i h
theorem t2_i {e : PySem.Expr} {t : T2} (h : t2Of es e = some t) : es = [.Name t.x t.p, .Name t.y t.q] ∧ ∃ k p, e = .Tuple [t.e1, t.e2] k p :=
  bnd_e h fun a e1 h => bnd_e h fun x e2 h => bnd_e h fun y e3 h => bnd_e h fun b e4 h => bnd_e h fun z e5 h => by
    obtain ⟨k, p, e6⟩ := sub_i (p := fun r : List PySem.Expr => ∃ k p, e = .Tuple r k p) e4
    rw [twoL_i e1, nameX_i e2, nameX_i e3, e6, twoL_i e5, ← Option.some.inj h]
    exact ⟨rfl, k, p, rfl⟩
theorem any_star {e1 e2 : PySem.Expr} (c1 : noStar e1 = true) (c2 : noStar e2 = true) {f : PySem.Expr → Bool} (hf : ∀ e, noStar e = true → f e = false) : ¬ ([e1, e2].any f) = true := by
  rw [List.any_cons, List.any_cons, hf _ c1, hf _ c2]
  exact Bool.false_ne_true
theorem swapped {t : T2} {k k' : Nat} {p p' : Pos} {E : VEnv} (R : FrR X.G W ks ow E env) (h : t2Ok ks t = true) : swappedStores [.Tuple [.Name t.x t.p, .Name t.y t.q] k p] (.Tuple [t.e1, t.e2] k' p') env = pure (some [t.x, t.y]) := by
  refine and_e h fun h c8 => and_e h fun h c7 => and_e h fun h c6 => and_e h fun h c5 => and_e h fun h ly => and_e h fun h oky => and_e h fun h lx => and_e h fun h okx => and_e h fun c1 c2 => ?_
  have hxy : t.x ≠ t.y := fun q => by rw [q, Nat.beq_refl] at c6; exact ff_i c6
  have bk : env.blockKind = .function := by
    unfold Env.blockKind
    rw [R.kind]; rfl
  have kx : env.kindOf t.x = some .local := (R.kinds t.x (okB_i okx)).symm.trans (isLocK_i lx)
  have ky : env.kindOf t.y = some .local := (R.kinds t.y (okB_i oky)).symm.trans (isLocK_i ly)
  have f1 : ([t.e1, t.e2].all (foldedForSure 8)) = false := by rw [List.all_cons, List.all_cons, List.all_nil, Bool.and_true]; exact not_t c7
  have f2 : ([t.e1, t.e2].all (constantsAlone 8)) = false := by rw [List.all_cons, List.all_cons, List.all_nil, Bool.and_true]; exact not_t c8
  have ed : ([t.x, t.y].eraseDups).length = 2 := by
    have : (t.y == t.x) = false := beq_eq_false_iff_ne.mpr (Ne.symm hxy)
    simp [List.eraseDups_cons, this, List.filter]
  unfold swappedStores
  dsimp only
  rw [bk]
  refine (if_neg (by simp)).trans ?_
  refine (if_neg (any_star c1 c2 fun e h => by cases e <;> first | rfl | exact ff_i h)).trans ?_
  have hl : (t.q.line == t.p.line) = true := by rw [beq_iff_eq]; exact (beqN.mp c5).symm
  simp only [List.filterMap_cons, List.filterMap_nil, List.head?_cons, Option.map_some, Option.getD_some, kx, ky, PySem.Expr.pos, hl, beq_self_eq_true, Bool.and_self, if_true]
  refine (if_neg (by rw [ed]; simp)).trans ?_
  refine (if_neg (by rw [f1]; simp)).trans ?_
  exact (if_neg (by rw [f2]; simp))
theorem loc_st {z : Str} (h1 : okB z = true) (h2 : isLocK (look (nm z) ks) = true) : kSt ks z = true := by
  unfold kSt
  rw [h1, isLocK_i h2]; rfl
theorem asgT_sound (S : Snd X kv) (hh : X.A.handled = none) {E : VEnv} {e : PySem.Expr} {n : Nat} {k : VEnv → Prop} {Q : Flow → Shared → Prop} (I : J X W s) (R : FrR X.G W ks ow E env) (h : asgT kv ks es e E k) (P : PX X W ks ow env k fun _ => Q .next) :
    Do X (exec (.Assign [.Tuple es n p] e pos) env) Q s := by
  unfold asgT at h
  cases ht : t2Of es e with
  | none =>
    rw [ht] at h
    refine gd_e h fun hb h => and_e hb fun h1 h2 => Assign_Tuple (S.e I R.toEnvR h fun v h u W₁ s₁ X₁ I₁ hu => ?_) (swaps_none h1 : swapsWith e (some (.Tuple es n p)) pos.line env = pure false) (by cases e <;> first | rfl | exact ff_i h2)
    cases v with
    | tup l => exact optW_e (show optW (putGo ks es l E) k from h) fun E' e' h => unpack_tup hh I₁ (R.ex X₁) e' hu ((P _ h).aft X₁.sx)
    | _ => exact h.elim
  | some t =>
    rw [ht] at h
    obtain ⟨e1, k', p', e2⟩ := t2_i ht
    refine gd_e h fun hb h => ?_
    rw [e2] at h
    rw [e1, e2]
    refine Assign_Tuple_swapped (S.e I R.toEnvR h fun v h u W₁ s₁ X₁ I₁ hu => ?_) rfl (swapped R hb)
    refine and_e hb fun hb _ => and_e hb fun hb _ => and_e hb fun hb _ => and_e hb fun hb _ => and_e hb fun hb ly => and_e hb fun hb oky => and_e hb fun hb lx => and_e hb fun hb okx => ?_
    have go : ∀ (l : List V) (a : Addr) (vs : List Value) (m : Nat), s₁.heap.get? a = some (seqO "tuple" vs m) → Rels X.G W₁ l vs → optW (twoL l) (fun v => k (putE (nm t.x) (.val v.1) (putE (nm t.y) (.val v.2) E))) → Do X (unpackItems (.ref a) 2 none) (fun items s' => Do X (assignInOrder [bindName env t.y, bindName env t.x] items.reverse) (fun _ => Q .next) s') s₁ := fun l a vs m g1 g2 h => optW_e h fun q e3 h => by
      rw [twoL_i e3] at g2
      obtain ⟨w1, r, rfl, hw1, w2, r', rfl, hw2, rfl⟩ := g2
      have key := wpAny_unpackItems_tuple (prog := X.G.prog) (w := X.G.w) (E := fun _ _ => False) hh (tupO g1) (Q := fun items s' => Do X (assignInOrder [bindName env t.y, bindName env t.x] items.reverse) (fun _ => Q .next) s') fun h' he => assignInOrder_cons (wpAny_bindName (store_val (I₁.keep (tk := s₁.toks) (h' := h') fun b o e => he b o (Nat.ne_of_lt (Heap.lt_size e)) e) (R.ex X₁) (loc_st oky ly) hw2 fun W₂ s₂ X₂ I₂ R₂ => assignInOrder_cons (wpAny_bindName (store_val I₂ R₂ (loc_st okx lx) (hw1.le X₂.le) fun W₃ s₃ X₃ I₃ R₃ => assignInOrder_nil (P _ h W₃ s₃ (X₁.sx.trans (X₂.trans X₃)) I₃ R₃)))))
      exact key
    exact tup_e (Pm := fun u => Do X (unpackItems u 2 none) (fun items s' => Do X (assignInOrder [bindName env t.y, bindName env t.x] items.reverse) (fun _ => Q .next) s') s₁) I₁ hu.o h go
end
end Mine
end
section
open PySem PySem.W PyProof.Rows
set_option maxRecDepth 100000
set_option genInjectivity false
set_option genSizeOf false
set_option backward.match.sparseCases false
namespace Mine
section
variable {X : Cx} {cl : Cl} {kv : KEv} {W W' : Wd} {s : Shared} {env : Env} {ks : Ks} {ow : List Nat} {E : VEnv} {p pos : Pos} {Q : Flow → Shared → Prop} {k : Fl → VEnv → Prop}
theorem PF.aft (P : PF X W ks ow env k Q) (h : Sx W W') : PF X W' ks ow env k Q := fun fl E' hk f V s' e => P fl E' hk f V s' (h.trans e)
theorem execs_sound (S : Snd X kv) (T : OwOk X ow) (b : List PySem.Stmt) : ∀ {W : Wd} {s : Shared} {E : VEnv} {k : Fl → VEnv → Prop} {Q : Flow → Shared → Prop}, J X W s → FrR X.G W ks ow E env → xsW kv ks ow b E k → PF X W ks ow env k Q → Do X (execs b env) Q s := by
  induction b with
  | nil => intro W s E k Q I R h P; exact wpAny_execs_nil (P .next E h .next W s (Sx.refl W) I R rfl)
  | cons st b ih =>
    intro W s E k Q I R h P
    refine wpAny_execs_cons (S.x I R T h fun fl E' h f W₁ s₁ X₁ I₁ R₁ hf => ?_)
    cases fl with
    | next => rw [show f = .next from hf]; exact ih I₁ R₁ h (PF.aft P X₁)
    | brk => rw [show f = .brk from hf]; exact P .brk E' h .brk W₁ s₁ X₁ I₁ R₁ rfl
    | ret v => obtain ⟨u, rfl, hu⟩ := hf; exact P (.ret v) E' h (.ret u) W₁ s₁ X₁ I₁ R₁ ⟨u, rfl, hu⟩
theorem le_frz : Le W W.frz := ⟨fun a o e => by unfold Wd.frz; dsimp only; rw [e], fun _ _ e => e⟩
theorem frz_fr {a : Addr} {t j : Nat} {o : Obj} (h : W.rl a = some (.fr t j o)) : W.frz.rl a = some (.fz o) := by unfold Wd.frz; dsimp only; rw [h]
theorem rows_frz {G : GI} {j : Nat} {l : List (List Nat × List V)} : ∀ {i : Nat} {us : List Value}, RowsR G W j i l us → Rels G W.frz (l.map fun p => .tup [.str p.1, .lst p.2]) us := by
  induction l with
  | nil => exact fun e => e
  | cons p l ih =>
    intro i us h
    obtain ⟨a, b, t, n, vs, r, e, h1, ⟨h0, m, h2⟩, h4, h5⟩ := h
    exact ⟨_, _, e, relTup (le_frz.f h1) ⟨_, _, rfl, rStr _ t, _, _, rfl, relLst ⟨frz_fr h2, h0⟩ (Rels.le le_frz h4), rfl⟩, ih h5⟩
abbrev PRet (X : Cx) (W : Wd) (k : V → Prop) (Q : Value → Shared → Prop) : Prop := ∀ v, k v → ∀ u W' s', Ex W W' → J X W' s' → Rel X.G W'.frz v u → Q u s'
theorem ret_sound (S : Snd X kv) {e : PySem.Expr} {k : V → Prop} {Q : Value → Shared → Prop} (I : J X W s) (R : FrR X.G W ks ow E env) (h : retW kv ks e E k) (P : PRet X W k Q) : Do X (eval e env) Q s := by
  have h : (match nameX e with
    | some x => enR (entOf ks x.1 E) k
    | none => kv.e ks e E k) := h
  cases e1 : nameX e with
  | none =>
    rw [e1] at h
    exact S.e I R.toEnvR h fun v q u W' s' a b c => P v q u W' s' a b (c.le le_frz)
  | some x =>
    rw [e1] at h
    have h : enR (entOf ks x.1 E) k := h
    rw [nameX_i e1]
    refine entOf_e (ks := ks) (x := x.1) (E := E) rfl (fun q => by rw [q] at h; exact h) fun h1 h2 h3 => ?_
    have z := R.ent x.1 (fine_ok h1) h2
    rw [← h3] at h
    have ld : ∀ v u, k v → Slot W ks env x.1 (some u) → Rel X.G W.frz v u → Do X (eval (.Name x.1 x.2) env) Q s := fun v u q a b => wpAny_Name (load_slot I R.toEnvR h1 a (P v q u W s (Ex.refl W) I b)) (fine_ne h1).1
    generalize lookE (nm x.1) E = en at z h
    clear h3 R
    cases en with
    | val v => exact z.elim fun u z => ld v u h z.1 (z.2.le le_frz)
    | ml l => obtain ⟨a, vs, z1, ⟨z0, n, z2⟩, z3⟩ := z; exact ld (.lst l) _ h z1 (relLst ⟨frz_fr z2, z0⟩ (Rels.le le_frz z3))
    | md kx l => obtain ⟨a, o, kvs, z1, z2, z3, z4, z5, z6⟩ := z; exact ld (.dct kx l) _ h z1 (.mk ⟨a, o, kvs, rfl, ⟨frz_fr z3, z2⟩, z4, z5, Rels.le le_frz z6⟩)
    | mr l => obtain ⟨a, vs, z1, ⟨z0, n, z2⟩, z3⟩ := z; exact ld _ _ h z1 (relLst ⟨frz_fr z2, z0⟩ (rows_frz z3))
    | _ => exact h.elim
structure LoopJ (X : Cx) (W : Wd) (ks : Ks) (ow : List Nat) (env : Env) (h : Nat → VEnv → Prop) (n : Nat) (s₁ : Shared) : Prop where
  ex : ∃ W₁ E₁, Sx W W₁ ∧ J X W₁ s₁ ∧ FrR X.G W₁ ks ow E₁ env ∧ h n E₁
theorem while_sound (S : Snd X kv) (T : OwOk X ow) {t : PySem.Expr} {b : List PySem.Stmt} {n : Nat} (I : J X W s) (R : FrR X.G W ks ow E env) (h : whileW kv ks ow t b n E k) (P : PF X W ks ow env k Q) : Do X (exec (.While t b [] pos) env) Q s := by
  refine wpAny_While (codeAny_whileLoop (LoopJ X W ks ow env fun n E => whileW kv ks ow t b n E k) (fun n s₁ hI => ?_) n ⟨W, E, Sx.refl W, I, R, h⟩)
  obtain ⟨W₁, E₁, X₁, I₁, R₁, h⟩ := hI
  cases n with
  | zero => exact h.elim
  | succ n =>
    refine Do.any (S.t I₁ R₁.toEnvR h fun c h W₂ s₂ X₂ I₂ => ?_)
    cases c with
    | false =>
      rw [if_neg Bool.false_ne_true]
      exact wpAny_execs_nil (P .next E₁ h .next W₂ s₂ (X₁.trans X₂.sx) I₂ (R₁.ex X₂) rfl)
    | true =>
      rw [if_pos rfl]
      refine Do.any (execs_sound S T b I₂ (R₁.ex X₂) h fun fl E' h f W₃ s₃ X₃ I₃ R₃ hf => ?_)
      cases fl with
      | next => rw [show f = .next from hf]; exact ⟨n, Nat.lt_succ_self n, W₃, E', X₁.trans (X₂.sx.trans X₃), I₃, R₃, h⟩
      | brk => rw [show f = .brk from hf]; exact P .next E' h .next W₃ s₃ (X₁.trans (X₂.sx.trans X₃)) I₃ R₃ rfl
      | ret v => obtain ⟨u, rfl, hu⟩ := hf; exact P (.ret v) E' h (.ret u) W₃ s₃ (X₁.trans (X₂.sx.trans X₃)) I₃ R₃ ⟨u, rfl, hu⟩
end
end Mine
end
section
open PySem PySem.W PyProof.Rows
set_option maxRecDepth 100000
set_option genInjectivity false
set_option genSizeOf false
set_option backward.match.sparseCases false
namespace Mine
section
variable {X : Cx} {cl : Cl} {kv : KEv} {W W' : Wd} {s : Shared} {env : Env} {ks : Ks} {ow : List Nat} {E : VEnv} {p pos : Pos} {Q : Flow → Shared → Prop} {k : Fl → VEnv → Prop} {it : Addr} {tt : Bool}
structure Ready (X : Cx) (W : Wd) (tt : Bool) (it : Addr) (l : List V) (s : Shared) : Prop where
  ex : ∃ o g, W.rl it = some (.hd o) ∧ (∀ a ob, g a ob → s.heap.get? a = some ob) ∧ IterO X.G W g tt l o ∧ (l ≠ [] → IterO X.G W W.fz tt l o)
abbrev ForI (X : Cx) (kv : KEv) (W : Wd) (ks : Ks) (ow : List Nat) (env : Env) (tt : Bool) (it : Addr) (t : PySem.Expr) (b : List PySem.Stmt) (k : Fl → VEnv → Prop) (n : Nat) (s₁ : Shared) : Prop :=
  ∃ l W₁ E₁, l.length = n ∧ Sx W W₁ ∧ J X W₁ s₁ ∧ FrR X.G W₁ ks ow E₁ env ∧ Ready X W₁ tt it l s₁ ∧ forW kv ks ow t b l E₁ k
theorem FrR.mv {a : Addr} {o : Obj} (R : FrR X.G W ks ow E env) (M : Mv a W W') (ha : W.rl a = some (.hd o)) (hf : flatO o = true) : FrR X.G W' ks ow E env :=
  ⟨R.toEnvR.mv M ha hf, R.loc.imp fun _ e => mv_fr M ha e, fun y hy hk => (R.cel y hy hk).imp fun _ q => q.imp fun _ q => ⟨q.1, mv_fr M ha q.2⟩,
    fun y z hy hv e => (R.ap y z hy hv e).imp fun _ q => q.imp fun _ q => ⟨q.1.mv M ha hf, (M.le ha).f q.2.1, q.2.2.mono fun _ _ _ k => k.mv M ha hf⟩, fun x a b c => M.tk ▸ R.tok x a b c, R.nf⟩
def ForB (RR : Result → Shared → Prop) (JJ : Nat → Shared → Prop) (n : Nat) (f : Flow) (s : Shared) : Prop := match f with
  | .next => ∃ m, m < n ∧ JJ m s
  | .cont => ∃ m, m < n ∧ JJ m s
  | .brk => RR (.ok .next) s
  | .ret v => RR (.ok (.ret v)) s
theorem let_at {it : Addr} {o : Obj} {n : String} {v : Value} {N : Value → Shared → Prop} {Q : Unit → Shared → Prop} {es : List PySem.Expr} {k : Nat} {p : Pos} (ho : s.heap.get? it = some o) (hc : o.cls = .type n) (hn : gens7.contains n = false) (hQ : Q () s) :
    wpAny X.G.M X.A (letOwnedTupleGo (.Tuple es k p) (.ref it) v) Q N s := by
  cases v
  case ref a =>
    refine wpAny_bind (wpAny_load ho ?_)
    obtain ⟨c, d, dd⟩ := o
    have hc : c = .type n := hc
    subst hc
    cases dd with
    | fields vs =>
      show wpAny _ _ (if (gens7.contains n && _) = true then _ else _) _ _ _
      rw [hn, Bool.false_and, if_neg (by decide)]
      exact wpAny_pure hQ
    | _ => exact wpAny_pure hQ
  all_goals exact wpAny_pure hQ
theorem let_plain {target : PySem.Expr} {it : Addr} {o : Obj} {n : String} {v : Value} {N : Value → Shared → Prop} {Q : Unit → Shared → Prop} (ho : s.heap.get? it = some o) (hc : o.cls = .type n) (hn : gens7.contains n = false) (hQ : Q () s) : wpAny X.G.M X.A (letOwnedTupleGo target (.ref it) v) Q N s := by
  cases target
  case Tuple es k p => exact let_at ho hc hn hQ
  case List es p => exact let_at (es := es) (k := 0) (p := p) ho hc hn hQ
  all_goals exact wpAny_pure hQ
theorem for_sound (S : Snd X kv) (hh : X.A.handled = none) (T : OwOk X ow) {t : PySem.Expr} {b : List PySem.Stmt} {l : List V} {RR : Result → Shared → Prop} {W₀ : Wd} (hn : W₀.rl it = none) (X0 : Sx W₀ W) (I : J X W s) (R : FrR X.G W ks ow E env) (hr : Ready X W (isTup t) it l s) (h : forW kv ks ow t b l E k) (P : PF X W₀ ks ow env k fun f => RR (.ok f)) :
    codeAny X.G.M X.A (.forLoop t (.ref it) b [] env) RR s := by
  refine codeAny_forLoop_any (ForI X kv W₀ ks ow env (isTup t) it t b k) (fun n s₁ hI => ?_) _ ⟨l, W, E, rfl, X0, I, R, hr, h⟩
  obtain ⟨l, W₁, E₁, hl, X₁, I₁, R₁, ⟨o, g, hi, hg, H, HF⟩, h⟩ := hI
  cases l with
  | nil =>
    refine Do.any (next_nil (K := fun v s₁ => wpAny X.G.M X.A (letOwnedTupleGo t (.ref it) v) _ _ s₁) hh I₁ hi hg H fun h' hs => ?_)
    have M : Mv it W₁ (W₁.del it) := Wd.mv_del
    exact wpAny_execs_nil (P .next E₁ h .next _ _ (X₁.mv hn M) (J.del (tk := s₁.toks) I₁ hs hi) (R₁.mv M hi H.flat) rfl)
  | cons v l =>
    have H := HF (List.cons_ne_nil _ _)
    refine optW_e (show optW (putT ks t v E₁) (fun env => xsW kv ks ow b env fun fl env => match fl with
      | .next => forW kv ks ow t b l env k
      | .brk => k .next env
      | .ret v => k (.ret v) env) from h) fun E₂ e2 h => ?_
    refine Do.any (next_cons (K := fun v s₁ => wpAny X.G.M X.A (letOwnedTupleGo t (.ref it) v) _ _ s₁) I₁ hi (fun _ _ => I₁.fz) H ⟨fun v s' o n ho hc hn hq => let_plain ho hc hn hq, fun ht a d i n ep ok ov s' ho hq => ?_⟩ fun u W₂ s₂ o' I₂ M hi' H' hv => ?_)
    · cases t
      case Tuple es c p => exact wpAny_letOwnedTupleGo_items ho hq
      all_goals exact ff_i ht
    · refine Do.any (assign_sound hh I₂ (R₁.mv M hi H.flat) e2 hv fun W₃ s₃ X₃ I₃ R₃ => ?_)
      refine Do.any (execs_sound S T b I₃ R₃ h fun fl E' h f W₄ s₄ X₄ I₄ R₄ hf => ?_)
      have XX := X₃.trans X₄
      have XW := (X₁.mv hn M).trans XX
      have L := (M.le hi).trans XX.le
      have H4 : IterO X.G W₄ W₄.fz (isTup t) l o' := H'.mono XX.le fun a ob z => L.f z
      cases fl with
      | next => rw [show f = .next from hf]; exact ⟨l.length, hl ▸ Nat.lt_succ_self _, l, W₄, E', rfl, XW, I₄, R₄, ⟨o', W₄.fz, XX.rl _ _ hi' rfl, fun _ _ => I₄.fz, H4, fun _ => H4⟩, h⟩
      | brk => rw [show f = .brk from hf]; exact P .next E' h .next W₄ s₄ XW I₄ R₄ rfl
      | ret v => obtain ⟨u, rfl, hu⟩ := hf; exact P (.ret v) E' h (.ret u) W₄ s₄ XW I₄ R₄ ⟨u, rfl, hu⟩
end
end Mine
end
section
open PySem PySem.W PyProof.Rows
set_option maxRecDepth 100000
set_option genInjectivity false
set_option genSizeOf false
set_option backward.match.sparseCases false
namespace Mine
def SvIs (s : PySem.Stmt) (v : SV) : Prop := match v with
  | .asgN x p e q => s = .Assign [.Name x p] e q
  | .asgT es k p e q => s = .Assign [.Tuple es k p] e q
  | .asgS x xp i p e q => s = .Assign [.Subscript (.Name x xp) i p] e q
  | .augN x p e q => s = .AugAssign (.Name x p) .Add e q
  | .augS o op x xp p e q => s = .AugAssign (.Subscript (.Name o op) (.Name x xp) p) .Add e q
  | .expr e q => s = .Expr e q
  | .ret e q => s = .Return (some e) q
  | .ite t b o q => s = .If t b o q
  | .whl t b q => s = .While t b [] q
  | .for_ t it b q => s = .For t it b [] q
  | .asrt t q => s = .Assert t none q
  | .brk q => s = .Break q
  | .del x xp i p q => s = .Delete [.Subscript (.Name x xp) i p] q
  | .bad => True
theorem sAsg1_is (t e : PySem.Expr) (q : Pos) : SvIs (.Assign [t] e q) (sAsg [t] e q) := by
  cases t with
  | Name x p => exact rfl
  | Tuple es k p => exact rfl
  | Subscript o i p =>
    show SvIs _ (match nameX o with
      | some x => SV.asgS x.1 x.2 i p e q
      | none => .bad)
    cases h : nameX o with
    | none => exact trivial
    | some x => exact congrArg (fun o => PySem.Stmt.Assign [.Subscript o i p] e q) (nameX_i h)
  | _ => exact trivial
theorem sAsg_is (ts : List PySem.Expr) (e : PySem.Expr) (q : Pos) : SvIs (.Assign ts e q) (sAsg ts e q) := by
  rcases ts with _ | ⟨t, _ | ⟨_, _⟩⟩
  · exact trivial
  · exact sAsg1_is t e q
  · exact trivial
theorem sAugS_is (o i : PySem.Expr) (p : Pos) (e : PySem.Expr) (q : Pos) : SvIs (.AugAssign (.Subscript o i p) .Add e q) (sAug (.Subscript o i p) .Add e q) := by
  show SvIs _ (match nameX o with
      | some o => match nameX i with
        | some x => SV.augS o.1 o.2 x.1 x.2 p e q
        | none => .bad
      | none => .bad)
  cases h : nameX o with
  | none => exact trivial
  | some x =>
    show SvIs _ (match nameX i with
        | some y => SV.augS x.1 x.2 y.1 y.2 p e q
        | none => .bad)
    cases h' : nameX i with
    | none => exact trivial
    | some y => rw [nameX_i h, nameX_i h']; exact rfl
theorem sAug_is (t : PySem.Expr) (op : Operator) (e : PySem.Expr) (q : Pos) : SvIs (.AugAssign t op e q) (sAug t op e q) := by
  cases op with
  | Add =>
    cases t with
    | Name x p => exact rfl
    | Subscript o i p => exact sAugS_is o i p e q
    | _ => exact trivial
  | _ => exact trivial
theorem sDel_is (ts : List PySem.Expr) (q : Pos) : SvIs (.Delete ts q) (sDel ts q) := by
  rcases ts with _ | ⟨t, _ | ⟨_, _⟩⟩
  · exact trivial
  · cases t with
    | Subscript o i p => cases o <;> first | exact rfl | exact trivial
    | _ => exact trivial
  · cases t with
    | Subscript o i p => cases o <;> exact trivial
    | _ => exact trivial
theorem sview_is (s : PySem.Stmt) : SvIs s (sview s) := by
  cases s with
  | Assign ts e q => exact sAsg_is ts e q
  | AugAssign t op e q => exact sAug_is t op e q
  | Expr e q => exact rfl
  | Return e q => cases e <;> first | exact rfl | exact trivial
  | If t b o q => exact rfl
  | While t b o q => cases o <;> first | exact rfl | exact trivial
  | For t it b o q => cases o <;> first | exact rfl | exact trivial
  | Assert t m q => cases m <;> first | exact rfl | exact trivial
  | Break q => exact rfl
  | Delete ts q => exact sDel_is ts q
  | _ => exact trivial
section
variable {X : Cx} {cl : Cl} {kv : KEv} {W W' : Wd} {s : Shared} {env : Env} {ks : Ks} {ow : List Nat} {E : VEnv} {p pos : Pos} {Q : Flow → Shared → Prop} {k : Fl → VEnv → Prop}
theorem For_sound (S : Snd X kv) (F : Fx X cl) (T : OwOk X ow) {t it : PySem.Expr} {b : List PySem.Stmt} (I : J X W s) (R : FrR X.G W ks ow E env) (h : gd (noSet it) (iterW kv ks false (isTup t) it E fun l => forW kv ks ow t b l E k)) (P : PF X W ks ow env k Q) : Do X (exec (.For t it b [] pos) env) Q s :=
  gd_e h fun hs h => wpAny_For (iter_sound S F I R.toEnvR h fun l q _ ia o W₁ s₁ X₁ nI I₁ hi H HF => for_sound S F.hh T nI X₁.sx I₁ (R.ex X₁) ⟨o, _, hi, fun _ _ z => I₁.on z.1, H, HF rfl⟩ q P) (noSet_fold hs)
theorem if_sound (S : Snd X kv) (T : OwOk X ow) {t : PySem.Expr} {b o : List PySem.Stmt} (I : J X W s) (R : FrR X.G W ks ow E env) (h : kv.t ks t E fun c => brW c (xsW kv ks ow b E k) (xsW kv ks ow o E k)) (P : PF X W ks ow env k Q) : Do X (exec (.If t b o pos) env) Q s :=
  wpAny_If (S.t I R.toEnvR h fun c h _ _ X₁ I₁ => by
    cases c with
    | true => exact (if_pos rfl).symm ▸ execs_sound S T b I₁ (R.ex X₁) h (PF.aft P X₁.sx)
    | false => exact (if_neg Bool.false_ne_true).symm ▸ execs_sound S T o I₁ (R.ex X₁) h (PF.aft P X₁.sx))
theorem expr_sound (S : Snd X kv) (F : Fx X cl) {e : PySem.Expr} (I : J X W s) (R : FrR X.G W ks ow E env) (h : gd (notComp e) (stepG kv ks e E fun E => k .next E)) (P : PF X W ks ow env k Q) : Do X (exec (.Expr e pos) env) Q s :=
  gd_e h fun hn h => wpAny_Expr_any (stepG_sound (Q := fun _ s => Q .next s) S F I R h fun E' q W' s' x1 x2 x3 => P .next E' q .next W' s' x1 x2 x3 rfl) (by unfold PySem.interactive; rw [R.kind]; rfl) (swaps_none hn)
theorem stepX_sound (S : Snd X kv) (F : Fx X cl) {st : PySem.Stmt} (I : J X W s) (R : FrR X.G W ks ow E env) (T : OwOk X ow) (h : stepX kv ks ow st E k) (P : PF X W ks ow env k Q) : Do X (exec st env) Q s := by
  have V := sview_is st
  have h : stepS kv ks ow (sview st) E k := h
  have PE' : ∀ E', k .next E' → PE X W ks ow E' env fun _ => Q .next := fun E' q W' s' x1 x2 x3 => P .next E' q .next W' s' x1 x2 x3 rfl
  generalize sview st = v at V h
  cases v with
  | bad => exact h.elim
  | asgN x p e q => exact (show st = _ from V) ▸ asgN_sound S F T I R h fun en q => PE' _ q
  | asgT es n p e q => exact (show st = _ from V) ▸ asgT_sound S F.hh I R h PE'
  | asgS x xp i p e q => exact (show st = _ from V) ▸ asgS_sound S I R h fun en q => PE' _ q
  | augN x p e q => exact (show st = _ from V) ▸ augN_sound (k := fun en => k .next (putE (nm x) en E)) S I R h fun en q => PE' _ q
  | augS o op x xp p e q => exact (show st = _ from V) ▸ augS_sound (k := fun en => k .next (putE (nm o) en E)) S I R h fun en q => PE' _ q
  | expr e q => exact (show st = _ from V) ▸ expr_sound S F I R h P
  | ret e q => exact (show st = _ from V) ▸ wpAny_Return_some (ret_sound S I R h fun v q u W' s' x1 x2 x3 => P (.ret v) E q (.ret u) W' s' x1.sx x2 (R.ex x1) ⟨u, rfl, x3⟩)
  | ite t b o q => exact (show st = _ from V) ▸ if_sound S T I R h P
  | whl t b q => exact (show st = _ from V) ▸ while_sound S T I R h P
  | for_ t it b q => exact (show st = _ from V) ▸ For_sound S F T I R h P
  | asrt t q => exact (show st = _ from V) ▸ wpAny_Assert_holds (S.t I R.toEnvR h fun c h W' s' x1 x2 => gd_e h fun hc h => ⟨hc, PE' _ h W' s' x1.sx x2 (R.ex x1)⟩)
  | brk q => exact (show st = _ from V) ▸ wpAny_Break (P .brk E h .brk W s (Sx.refl W) I R rfl)
  | del x xp i p q => exact (show st = _ from V) ▸ del_sound S I R h fun l q => PE' _ q
theorem kev_z (cl : Cl) : kev cl 0 = kev0 := by kernel_rfl
theorem kev_s (cl : Cl) (n : Nat) : kev cl (n + 1) = stepK cl (kev cl n) := by kernel_rfl
theorem kev_sound (F : Fx X cl) (Z : ∀ {kv : KEv}, Snd X kv → GenOk X kv) (n : Nat) : Snd X (kev cl n) := by
  induction n with
  | zero => exact (kev_z cl).symm ▸ ⟨fun _ _ h _ => h.elim, fun _ _ h _ => h.elim, fun _ _ _ h _ => h.elim⟩
  | succ n ih => exact (kev_s cl n).symm ▸ ⟨fun I R h P => stepE_sound ih F (Z ih) I R h P, fun I R h P => stepT_sound ih F I R h P, fun I R T h P => stepX_sound ih F I R T h P⟩
end
end Mine
end
section
open PySem PySem.W PyProof.Rows
set_option maxRecDepth 100000
set_option genInjectivity false
set_option genSizeOf false
set_option backward.match.sparseCases false
namespace Mine
structure TAt (i l : Addr) (xs : Array Value) (k : Nat) (h : Heap) : Prop where
  it : h.IsTupleIter i l k
  tup : h.IsTuple l xs
theorem TAt.ext {i l b : Addr} {xs : Array Value} {k : Nat} {h h' : Heap} (x : TAt i l xs k h) (hs : Heap.ExtBut b h h') (h1 : i ≠ b) (h2 : l ≠ b) : TAt i l xs k h' := ⟨x.it.extBut hs h1, x.tup.extBut hs h2⟩
theorem TAt.at {i l : Addr} {xs : Array Value} {k : Nat} {h h' : Heap} (x : TAt i l xs k h) (h1 : ∀ o, h.get? i = some o → h'.get? i = some o) (h2 : ∀ o, h.get? l = some o → h'.get? l = some o) : TAt i l xs k h' := by
  obtain ⟨⟨o, e1, r1⟩, ⟨o2, e2, r2⟩⟩ := x
  exact ⟨⟨o, h1 _ e1, r1⟩, ⟨o2, h2 _ e2, r2⟩⟩
theorem TAt.lt {i l : Addr} {xs : Array Value} {k : Nat} {h : Heap} (x : TAt i l xs k h) : i < h.objs.size ∧ l < h.objs.size := by
  obtain ⟨⟨o, e1, r1⟩, ⟨o2, e2, r2⟩⟩ := x
  exact ⟨Heap.lt_size e1, Heap.lt_size e2⟩
section
variable {prog : Program} {w : World} {A : Around} {E : Value → Shared → Prop} {s : Shared}
theorem t_next {i l : Addr} {xs : Array Value} {k : Nat} {x : Value} {Q : Value → Shared → Prop} (hne : l ≠ i) (a : TAt i l xs k s.heap) (hx : xs[k]? = some x)
    (hQ : ∀ h', TAt i l xs (k + 1) h' → Heap.SameBut i s.heap h' → Q x { s with heap := h' }) : wpAny (model prog w) A (Builtin.SmallTypes.nextOf (.ref i)) Q E s := by
  obtain ⟨o, ho, hc, hd⟩ := id a.it
  obtain ⟨ol, hol, _, nl, hdl⟩ := id a.tup
  unfold Builtin.SmallTypes.nextOf
  refine wpAny_bind (wpAny_callSpecial?_slot (name := Str.ofString "__next__") a.it.typeIs PySem.F.slot_tuple_iterator_next
    (wpAny_call_entry PySem.F.slot_tuple_iterator_next a.it.typeIs PySem.F.entry_tuple_iterator_next ?_ (PySem.F.args_tuple_iterator_next_1 _)))
  show wpAny _ _ (field (.ref i) 0 >>= _) _ _ s
  refine wpAny_bind (wpAny_field ho hd (x := .ref l) rfl ?_)
  show wpAny _ _ (if (Value.ref l == Value.none) = true then _ else _) _ _ s
  rw [if_neg (show ¬ ((Value.ref l == Value.none) = true) from Bool.false_ne_true)]
  show wpAny _ _ (field (.ref i) 1 >>= _) _ _ s
  refine wpAny_bind (wpAny_field ho hd (x := .int k 0) rfl ?_)
  show wpAny _ _ (seqItems? (.ref l) >>= _) _ _ s
  refine wpAny_bind (wpAny_seqItems hol hdl ?_)
  simp only [Int.toNat_natCast, hx]
  refine wpAny_bind (wpAny_setField ho hd (by simp) (wpAny_pure ⟨x, rfl, wpAny_pure (hQ _ ⟨?_, a.tup.extBut (Heap.SameBut.update ..).extBut hne⟩ (Heap.SameBut.update ..))⟩))
  exact ⟨_, Heap.get?_update_self _ ho (Obj.isFreed_of_fields (Obj.data_mapFields hd _)), (Obj.cls_mapFields ..).trans hc, by
    rw [Obj.data_mapFields hd]; simp [rawInt]⟩
theorem t_end {i l : Addr} {xs : Array Value} {k : Nat} {Q : Value → Shared → Prop} (hh : A.handled = none) (a : TAt i l xs k s.heap) (hx : xs[k]? = none)
    (hE : ∀ h' e, Heap.ExtBut i s.heap h' → (∃ o, h'.get? e = some o ∧ o.cls = .type "StopIteration") → E (.ref e) { s with heap := h' }) : wpAny (model prog w) A (Builtin.SmallTypes.nextOf (.ref i)) Q E s := by
  obtain ⟨o, ho, hc, hd⟩ := id a.it
  obtain ⟨ol, hol, _, nl, hdl⟩ := id a.tup
  unfold Builtin.SmallTypes.nextOf
  refine wpAny_bind (wpAny_callSpecial?_slot (name := Str.ofString "__next__") a.it.typeIs PySem.F.slot_tuple_iterator_next
    (wpAny_call_entry PySem.F.slot_tuple_iterator_next a.it.typeIs PySem.F.entry_tuple_iterator_next ?_ (PySem.F.args_tuple_iterator_next_1 _)))
  show wpAny _ _ (field (.ref i) 0 >>= _) _ _ s
  refine wpAny_bind (wpAny_field ho hd (x := .ref l) rfl ?_)
  show wpAny _ _ (if (Value.ref l == Value.none) = true then _ else _) _ _ s
  rw [if_neg (show ¬ ((Value.ref l == Value.none) = true) from Bool.false_ne_true)]
  show wpAny _ _ (field (.ref i) 1 >>= _) _ _ s
  refine wpAny_bind (wpAny_field ho hd (x := .int k 0) rfl ?_)
  show wpAny _ _ (seqItems? (.ref l) >>= _) _ _ s
  refine wpAny_bind (wpAny_seqItems hol hdl ?_)
  simp only [Int.toNat_natCast, hx]
  refine wpAny_bind (wpAny_rule (wpAny_bind (wpAny_setField ho hd (by simp) ?_)))
  show wpAny _ _ (newExc (.type "StopIteration") [] >>= _) _ _ _
  refine wpAny_bind ?_
  simp only [newExc, newTuple]
  refine wpAny_bind (wpAny_newObj_type ?_ (by size_fits))
  refine wpAny_bind (m := firstArgMember _ _) (wpAny_of_eq (a := Value.none) (by first | rfl | (simp only [firstArgMember]; rfl)) ?_)
  refine wpAny_newObj_type ?_ (by size_fits)
  simp only [raiseNew]
  refine wpAny_bind (wpAny_handled ?_)
  first | rw [show A.in1.handled = none from hh] | rw [hh]
  refine wpAny_bind (wpAny_pure (wpAny_throw ?_))
  exact hE _ _ (((Heap.SameBut.update ..).extBut.push _).push _) ⟨_, Heap.get?_push_size _ rfl, rfl⟩
structure ZAt (z TI TO i1 i2 l1 l2 : Addr) (xs ys : Array Value) (k : Nat) (f0 : Value) (h : Heap) : Prop where
  z : IsZip h z TI TO f0
  TI : IsPair h TI (.ref i1) (.ref i2)
  TO : ∃ a b, IsPair h TO a b
  s1 : TAt i1 l1 xs k h
  s2 : TAt i2 l2 ys k h
theorem zipT_item {z TI TO i1 i2 l1 l2 : Addr} {k : Nat} {xs ys : Array Value} {x y : Value} {Q : Value → Shared → Prop} (D : ZipApart z TI TO i1 i2 l1 l2) (Z : ZAt z TI TO i1 i2 l1 l2 xs ys k .none s.heap) (hx : xs[k]? = some x) (hy : ys[k]? = some y)
    (hQ : ∀ h', ZAt z TI TO i1 i2 l1 l2 xs ys (k + 1) (rawInt s.heap.objs.size) h' → IsPair h' s.heap.objs.size x y → (∀ c o, c ≠ z → c ≠ TO → c ≠ i1 → c ≠ i2 → s.heap.get? c = some o → h'.get? c = some o) → Q (.ref s.heap.objs.size) { s with heap := h' }) :
    wpAny (model prog w) A (Builtin.«zip.__next__» ⟨[.ref z], []⟩) (fun fin s' => ∃ v, fin = .done (.ret v) ∧ Q v s') E s := by
  obtain ⟨hz, hTI, ⟨a, b, hTO⟩, h1, h2⟩ := Z
  show wpAny _ _ (field (.ref z) 2 >>= _) _ _ _
  refine wpAny_bind (wpAny_field hz rfl (x := .bool false) rfl ?_)
  show wpAny _ _ (field (.ref z) 3 >>= _) _ _ _
  refine wpAny_bind (wpAny_field hz rfl (x := .ref TI) rfl (wpAny_bind (wpAny_seqItems hTI rfl ?_)))
  show wpAny _ _ (Builtin.SmallTypes.ownedTupleIsFree (.ref z) >>= _) _ _ _
  refine wpAny_bind ?_
  unfold Builtin.SmallTypes.ownedTupleIsFree
  refine wpAny_bind (wpAny_field hz rfl (x := .none) rfl (wpAny_pure ?_))
  simp only [if_true]
  refine wpAny_bind (wpAny_rule (wpAny_bind (wpAny_field hz rfl (x := .ref TO) rfl (wpAny_bind (wpAny_setField_rec hz (by simp) fun ha za sa => ?_)))))
  replace za : IsZip ha z TI TO .ellipsis := za
  refine wpAny_bind ?_
  simp only [List.zipIdx_cons, List.zipIdx_nil, List.forIn_cons, List.forIn_nil]
  have n1 : TAt i1 l1 xs k ha := h1.ext sa.extBut D.i1z D.l1z
  have n2 : TAt i2 l2 ys k ha := h2.ext sa.extBut D.i2z D.l2z
  have Oa : IsPair ha TO a b := sa.extBut _ _ D.TOz hTO
  refine wpAny_bind (wpAny_bind (wpAny_onRaise ?_))
  show wpAny _ _ (Builtin.SmallTypes.nextOf (.ref i1) >>= _) _ _ _
  refine wpAny_bind (t_next D.l1i1 n1 hx fun hb nb sb => wpAny_pure ?_)
  have Ob : IsPair hb TO a b := sb.extBut _ _ D.TOi1 Oa
  refine wpAny_bind (wpAny_seqItems Ob rfl (wpAny_bind (wpAny_updateSeq_pair Ob fun hc Oc sc => ?_)))
  replace Oc : IsPair hc TO x b := Oc
  have nc2 : TAt i2 l2 ys k hc := (n2.ext sb.extBut D.i12.symm D.l2i1).ext sc.extBut D.TOi2.symm D.l2TO
  refine wpAny_bind (wpAny_letGo (wpAny_pure (wpAny_bind (wpAny_bind (wpAny_onRaise ?_)))))
  show wpAny _ _ (Builtin.SmallTypes.nextOf (.ref i2) >>= _) _ _ _
  refine wpAny_bind (t_next D.l2i2 nc2 hy fun hd nd sd => wpAny_pure ?_)
  have Od : IsPair hd TO x b := sd.extBut _ _ D.TOi2 Oc
  refine wpAny_bind (wpAny_seqItems Od rfl (wpAny_bind (wpAny_updateSeq_pair Od fun he Oe se => ?_)))
  replace Oe : IsPair he TO x y := Oe
  refine wpAny_bind (wpAny_letGo (wpAny_pure (wpAny_pure (wpAny_bind (wpAny_seqItems Oe rfl (wpAny_bind (wpAny_newTuple ?_)))))))
  have hsz : he.objs.size = s.heap.objs.size := by rw [se.1, sd.1, sc.1, sb.1, sa.1]
  have ze : IsZip he z TI TO .ellipsis := se.extBut _ _ D.TOz.symm (sd.extBut _ _ D.i2z.symm (sc.extBut _ _ D.TOz.symm (sb.extBut _ _ D.i1z.symm za)))
  have keep : ∀ c o, c ≠ z → c ≠ TO → c ≠ i1 → c ≠ i2 → s.heap.get? c = some o → he.get? c = some o := fun c o c1 c2 c3 c4 e =>
    se.extBut _ _ c2 (sd.extBut _ _ c4 (sc.extBut _ _ c2 (sb.extBut _ _ c3 (sa.extBut _ _ c1 e))))
  have e1 : TAt i1 l1 xs (k + 1) he := ((nb.ext sc.extBut D.TOi1.symm D.l1TO).ext sd.extBut D.i12 D.l1i2).ext se.extBut D.TOi1.symm D.l1TO
  have e2 : TAt i2 l2 ys (k + 1) he := nd.ext se.extBut D.TOi2.symm D.l2TO
  show wpAny _ _ (Builtin.SmallTypes.ownedTupleHandOut (.ref z) (.ref he.objs.size) >>= _) _ _ _
  refine wpAny_bind ?_
  unfold Builtin.SmallTypes.ownedTupleHandOut
  have zf : IsZip (he.push { cls := .type "tuple", data := .seq #[x, y] }) z TI TO .ellipsis := Heap.get?_push_of_some _ ze
  refine wpAny_bind (wpAny_setField_rec zf (by simp) fun hg zg sg => ?_)
  replace zg : IsZip hg z TI TO (rawInt he.objs.size) := zg
  refine wpAny_setField_rec zg (by simp) fun hi zi si => ?_
  replace zi : IsZip hi z TI TO (rawInt he.objs.size) := zi
  have up : ∀ c o, c ≠ z → he.get? c = some o → hi.get? c = some o := fun c o c1 e => si.extBut _ _ c1 (sg.extBut _ _ c1 (Heap.get?_push_of_some _ e))
  have hzl : he.objs.size ≠ z := Nat.ne_of_gt (Heap.lt_size ze)
  have new : IsPair hi he.objs.size x y := si.extBut _ _ hzl (sg.extBut _ _ hzl (Heap.get?_push_size _ rfl))
  refine wpAny_pure ⟨_, rfl, ?_⟩
  show Q (.ref he.objs.size) _
  rw [hsz] at zi new ⊢
  exact hQ hi ⟨zi, up _ _ D.TIz (keep _ _ D.TIz D.TITO D.TIi1 D.TIi2 hTI), ⟨_, _, up _ _ D.TOz Oe⟩, e1.at (fun o e => up _ o D.i1z e) fun o e => up _ o D.l1z e, e2.at (fun o e => up _ o D.i2z e) fun o e => up _ o D.l2z e⟩ new
    fun c o c1 c2 c3 c4 e => up c o c1 (keep c o c1 c2 c3 c4 e)
theorem zipT_end {z TI TO i1 i2 l1 l2 : Addr} {k : Nat} {xs ys : Array Value} {Q : Fin → Shared → Prop} (hh : A.handled = none) (D : ZipApart z TI TO i1 i2 l1 l2) (Z : ZAt z TI TO i1 i2 l1 l2 xs ys k .none s.heap) (hend : xs[k]? = none ∨ ys[k]? = none)
    (hE : ∀ h' e, (∀ c o, c ≠ z → c ≠ TO → c ≠ i1 → c ≠ i2 → s.heap.get? c = some o → h'.get? c = some o) → (∃ o, h'.get? e = some o ∧ o.cls = .type "StopIteration") → E (.ref e) { s with heap := h' }) :
    wpAny (model prog w) A (Builtin.«zip.__next__» ⟨[.ref z], []⟩) Q E s := by
  obtain ⟨hz, hTI, ⟨a, b, hTO⟩, h1, h2⟩ := Z
  show wpAny _ _ (field (.ref z) 2 >>= _) _ _ _
  refine wpAny_bind (wpAny_field hz rfl (x := .bool false) rfl ?_)
  show wpAny _ _ (field (.ref z) 3 >>= _) _ _ _
  refine wpAny_bind (wpAny_field hz rfl (x := .ref TI) rfl (wpAny_bind (wpAny_seqItems hTI rfl ?_)))
  show wpAny _ _ (Builtin.SmallTypes.ownedTupleIsFree (.ref z) >>= _) _ _ _
  refine wpAny_bind ?_
  unfold Builtin.SmallTypes.ownedTupleIsFree
  refine wpAny_bind (wpAny_field hz rfl (x := .none) rfl (wpAny_pure ?_))
  simp only [if_true]
  refine wpAny_bind (wpAny_rule (wpAny_bind (wpAny_field hz rfl (x := .ref TO) rfl (wpAny_bind (wpAny_setField_rec hz (by simp) fun ha za sa => ?_)))))
  replace za : IsZip ha z TI TO .ellipsis := za
  refine wpAny_bind ?_
  simp only [List.zipIdx_cons, List.zipIdx_nil, List.forIn_cons, List.forIn_nil]
  have n1 : TAt i1 l1 xs k ha := h1.ext sa.extBut D.i1z D.l1z
  have n2 : TAt i2 l2 ys k ha := h2.ext sa.extBut D.i2z D.l2z
  have Oa : IsPair ha TO a b := sa.extBut _ _ D.TOz hTO
  refine wpAny_bind (wpAny_bind (wpAny_onRaise ?_))
  show wpAny _ _ (Builtin.SmallTypes.nextOf (.ref i1) >>= _) _ _ _
  have fin : ∀ {hm : Heap} {e : Addr}, IsZip hm z TI TO .ellipsis → (∃ o, hm.get? e = some o ∧ o.cls = .type "StopIteration") → e ≠ z := fun hzm he q => by
    obtain ⟨o, e1, e2⟩ := he
    rw [q, hzm] at e1; cases e1; simp at e2
  cases hx : xs[k]? with
  | none =>
    refine wpAny_bind (t_end hh n1 hx fun hb e sb he => ?_)
    have zb : IsZip hb z TI TO .ellipsis := sb _ _ D.i1z.symm za
    have hez := fin zb he
    obtain ⟨oe, k1, k2⟩ := he
    exact wpAny_setField_rec zb (by simp) fun hc _ sc => hE hc e (fun c o c1 _ c3 _ q => sc.extBut _ _ c1 (sb _ _ c3 (sa.extBut _ _ c1 q))) ⟨oe, sc.extBut _ _ hez k1, k2⟩
  | some x =>
    have hy : ys[k]? = none := hend.elim (fun h => by rw [hx] at h; cases h) id
    refine wpAny_bind (t_next D.l1i1 n1 hx fun hb nb sb => wpAny_pure ?_)
    have Ob : IsPair hb TO a b := sb.extBut _ _ D.TOi1 Oa
    refine wpAny_bind (wpAny_seqItems Ob rfl (wpAny_bind (wpAny_updateSeq_pair Ob fun hc Oc sc => ?_)))
    have nc2 : TAt i2 l2 ys k hc := (n2.ext sb.extBut D.i12.symm D.l2i1).ext sc.extBut D.TOi2.symm D.l2TO
    refine wpAny_bind (wpAny_letGo (wpAny_pure (wpAny_bind (wpAny_bind (wpAny_onRaise ?_)))))
    show wpAny _ _ (Builtin.SmallTypes.nextOf (.ref i2) >>= _) _ _ _
    refine wpAny_bind (t_end hh nc2 hy fun hd e sd he => ?_)
    have zd : IsZip hd z TI TO .ellipsis := sd _ _ D.i2z.symm (sc.extBut _ _ D.TOz.symm (sb.extBut _ _ D.i1z.symm za))
    have hez := fin zd he
    obtain ⟨oe, k1, k2⟩ := he
    exact wpAny_setField_rec zd (by simp) fun hf _ sf => hE hf e (fun c o c1 c2 c3 c4 q => sf.extBut _ _ c1 (sd _ _ c4 (sc.extBut _ _ c2 (sb.extBut _ _ c3 (sa.extBut _ _ c1 q))))) ⟨oe, sf.extBut _ _ hez k1, k2⟩
theorem zipT_walks (hh : A.handled = none) (z TI TO i1 i2 l1 l2 : Addr) (D : ZipApart z TI TO i1 i2 l1 l2) (xs ys : Array Value) :
    WalksT prog w A z [z, TI, TO, i1, i2, l1, l2] [z, TO, i1, i2] (min xs.size ys.size) (fun i vals => ∃ x y, xs[i]? = some x ∧ ys[i]? = some y ∧ vals = #[x, y])
      (fun i h => ZAt z TI TO i1 i2 l1 l2 xs ys i .none h)
      (fun i T h => ZAt z TI TO i1 i2 l1 l2 xs ys (i + 1) (rawInt T) h ∧ T ≠ z ∧ T ≠ TO ∧ T ≠ i1 ∧ T ≠ i2) where
  sub := fun c hc => by simp at hc ⊢; rcases hc with rfl | rfl | rfl | rfl <;> simp
  frame := fun i h h' Z hk => by
    obtain ⟨a, b, hTO⟩ := Z.TO
    exact ⟨hk z (by simp) _ Z.z, hk TI (by simp) _ Z.TI, ⟨a, b, hk TO (by simp) _ hTO⟩, Z.s1.at (fun o e => hk i1 (by simp) o e) fun o e => hk l1 (by simp) o e, Z.s2.at (fun o e => hk i2 (by simp) o e) fun o e => hk l2 (by simp) o e⟩
  item := fun i s Q E hi Z hQ => by
    have hix : i < xs.size := Nat.lt_of_lt_of_le hi (Nat.min_le_left ..)
    have hiy : i < ys.size := Nat.lt_of_lt_of_le hi (Nat.min_le_right ..)
    have hT : s.TypeIs (.ref z) "zip" := ⟨_, Z.z, rfl⟩
    unfold pyNext
    refine wpAny_bind (wpAny_attempt (wpAny_callSpecial?_slot (name := Str.ofString "__next__") hT PySem.F.slot_zip_next (wpAny_call_entry PySem.F.slot_zip_next hT PySem.F.entry_zip_next
      (zipT_item D Z (Array.getElem?_eq_getElem hix) (Array.getElem?_eq_getElem hiy) fun h' Z' hp hk => wpAny_pure ?_) (PySem.F.args_zip_next_1 _))))
    obtain ⟨a, b, hTO⟩ := Z.TO
    exact hQ s.heap.objs.size #[xs[i], ys[i]] h' s.toks ⟨_, _, Array.getElem?_eq_getElem hix, Array.getElem?_eq_getElem hiy, rfl⟩ (Nat.le_refl _) ⟨_, hp, rfl, _, rfl⟩
      ⟨Z', Nat.ne_of_gt (Heap.lt_size Z.z), Nat.ne_of_gt (Heap.lt_size hTO), Nat.ne_of_gt Z.s1.lt.1, Nat.ne_of_gt Z.s2.lt.1⟩
      fun c o hc e => hk c o (fun x => hc (by simp [x])) (fun x => hc (by simp [x])) (fun x => hc (by simp [x])) (fun x => hc (by simp [x])) e
  go := fun elts k pos i T s Q E hm hQ => by
    obtain ⟨Z, _⟩ := hm
    obtain ⟨a, b, hTO⟩ := Z.TO
    refine wpAny_letOwnedTupleGo_zip Z.z fun h' hz' hs' => hQ h' ⟨hz', hs'.extBut _ _ D.TIz Z.TI, ⟨a, b, hs'.extBut _ _ D.TOz hTO⟩, Z.s1.ext hs'.extBut D.i1z D.l1z, Z.s2.ext hs'.extBut D.i2z D.l2z⟩
      fun c o hc e => hs'.extBut _ _ (fun x => hc (by simp [x])) e
  apart := fun i T h hm hT => by
    obtain ⟨_, t1, t2, t3, t4⟩ := hm
    simp at hT
    rcases hT with rfl | rfl | rfl | rfl
    · exact t1 rfl
    · exact t2 rfl
    · exact t3 rfl
    · exact t4 rfl
  done := fun s Q E Z hQ => by
    have hend : xs[min xs.size ys.size]? = none ∨ ys[min xs.size ys.size]? = none := by
      rcases Nat.le_total xs.size ys.size with h | h
      · exact .inl (by rw [Nat.min_eq_left h]; exact Array.getElem?_eq_none (Nat.le_refl _))
      · exact .inr (by rw [Nat.min_eq_right h]; exact Array.getElem?_eq_none (Nat.le_refl _))
    have hT : s.TypeIs (.ref z) "zip" := ⟨_, Z.z, rfl⟩
    unfold pyNext
    refine wpAny_bind (wpAny_attempt (wpAny_callSpecial?_slot (name := Str.ofString "__next__") hT PySem.F.slot_zip_next
      (wpAny_call_entry PySem.F.slot_zip_next hT PySem.F.entry_zip_next (zipT_end (A := A.in1) hh D Z hend fun h' e hk he => ?_) (PySem.F.args_zip_next_1 _))))
    obtain ⟨o, ho, hc⟩ := he
    refine wpAny_bind (wpAny_isInstance (T := "StopIteration") (b := true) ⟨o, ho, hc⟩ isSubtype_stop ?_)
    exact wpAny_pure (hQ h' s.toks fun c o hc e => hk c o (fun x => hc (by simp [x])) (fun x => hc (by simp [x])) (fun x => hc (by simp [x])) (fun x => hc (by simp [x])) e)
  self := fun i s Q E Z hQ => wpAny_pyIter_zip Z.z hQ
end
def itObj (l : Addr) : Obj := { cls := .type "tuple_iterator", data := .fields #[.ref l, .int 0 0] }
def zipHeap (h : Heap) (l1 l2 : Addr) : Heap :=
  let a := (h.push (itObj l1)).push (itObj l2)
  let b := a.push { cls := .type "tuple", data := .seq #[.ref h.objs.size, .ref (h.push (itObj l1)).objs.size] }
  let c := b.push { cls := .type "tuple", data := .seq #[.none, .none] }
  c.push { cls := .type "zip", data := .fields #[.none, .bool false, .bool false, .ref a.objs.size, .ref b.objs.size] }
def zipAddr (h : Heap) (l1 l2 : Addr) : Addr :=
  let a := (h.push (itObj l1)).push (itObj l2)
  let b := a.push { cls := .type "tuple", data := .seq #[.ref h.objs.size, .ref (h.push (itObj l1)).objs.size] }
  (b.push { cls := .type "tuple", data := .seq #[.none, .none] }).objs.size
theorem zipAddr_is (h : Heap) (l1 l2 : Addr) : zipAddr h l1 l2 = h.objs.size + 4 := by
  simp only [zipAddr, Heap.size_push]
theorem zipT_new (l1 l2 : Addr) (xs ys : Array Value) :
    Meets (Builtin.«zip.__new__» ⟨[.type "zip", .ref l1, .ref l2], []⟩) (fun _ R s => s.heap.IsTuple l1 xs ∧ s.heap.IsTuple l2 ys ∧ R (.ok (.ret (.ref (zipAddr s.heap l1 l2)))) { s with heap := zipHeap s.heap l1 l2 }) :=
  .of_wp fun prog w A R s h => by
    obtain ⟨hp, g, d, tk, os⟩ := s; obtain ⟨hl1, hl2, h⟩ := h
    have hsub := sub_zip
    have hL1 : Heap.IsTuple (Shared.heap ⟨hp, g, d, tk, os⟩) l1 xs := hl1
    have hL2 : Heap.IsTuple (Shared.heap ⟨hp.push { cls := .type "tuple_iterator", data := .fields #[.ref l1, .int 0 0] }, g, d, tk, os⟩) l2 ys := Heap.IsTuple.push hl2 _
    wp_walk using wpAny_pyIter_tuple hL1, wpAny_pyIter_tuple hL2
    exact ⟨_, rfl, h⟩
theorem zipApartT {n l1 l2 : Addr} (h1 : l1 < n) (h2 : l2 < n) : ZipApart (n + 4) (n + 2) (n + 3) n (n + 1) l1 l2 := zipApart_new h1 h2
section
variable {prog : Program} {w : World} {A : Around} {E : Value → Shared → Prop} {s : Shared}
theorem zipT_call {l1 l2 : Addr} {xs ys : Array Value} {Q : Value → Shared → Prop} (hl1 : s.heap.IsTuple l1 xs) (hl2 : s.heap.IsTuple l2 ys)
    (h : ∀ h', ZAt (s.heap.objs.size + 4) (s.heap.objs.size + 2) (s.heap.objs.size + 3) s.heap.objs.size (s.heap.objs.size + 1) l1 l2 xs ys 0 .none h' → (∀ c o, s.heap.get? c = some o → h'.get? c = some o) → s.heap.objs.size + 5 = h'.objs.size →
      Q (.ref (s.heap.objs.size + 4)) { s with heap := h' }) : wpAny (model prog w) A (call (.type "zip") [.ref l1, .ref l2]) Q E s := by
  refine callType_new PySem.F.called_zip (by decide) (PySem.F.typeCall_zip_2 _ _) (PySem.F.newCall_zip_2 _ _) (fun obj => PySem.F.args_object_init_3 obj _ _) PySem.F.entry_zip_new (zipT_new l1 l2 xs ys) ⟨hl1, hl2, ?_⟩
  rw [zipAddr_is]
  have up : ∀ c o, s.heap.get? c = some o → (zipHeap s.heap l1 l2).get? c = some o := fun c o x =>
    Heap.get?_push_of_some _ (Heap.get?_push_of_some _ (Heap.get?_push_of_some _ (Heap.get?_push_of_some _ (Heap.get?_push_of_some _ x))))
  have g1 : (zipHeap s.heap l1 l2).get? s.heap.objs.size = some (itObj l1) := Heap.get?_push_of_some _ (Heap.get?_push_of_some _ (Heap.get?_push_of_some _ (Heap.get?_push_of_some _ (Heap.get?_push_size _ rfl))))
  have g2 : (zipHeap s.heap l1 l2).get? (s.heap.push (itObj l1)).objs.size = some (itObj l2) := Heap.get?_push_of_some _ (Heap.get?_push_of_some _ (Heap.get?_push_of_some _ (Heap.get?_push_size _ rfl)))
  have z1 : (s.heap.push (itObj l1)).objs.size = s.heap.objs.size + 1 := Heap.size_push ..
  have z2 : ((s.heap.push (itObj l1)).push (itObj l2)).objs.size = s.heap.objs.size + 2 := by rw [Heap.size_push, z1]
  have z3 : (((s.heap.push (itObj l1)).push (itObj l2)).push { cls := .type "tuple", data := .seq #[.ref s.heap.objs.size, .ref (s.heap.push (itObj l1)).objs.size] }).objs.size = s.heap.objs.size + 3 := by rw [Heap.size_push, z2]
  have g3 : (zipHeap s.heap l1 l2).get? ((s.heap.push (itObj l1)).push (itObj l2)).objs.size = some { cls := .type "tuple", data := .seq #[.ref s.heap.objs.size, .ref (s.heap.push (itObj l1)).objs.size] } :=
    Heap.get?_push_of_some _ (Heap.get?_push_of_some _ (Heap.get?_push_size _ rfl))
  have g4 : (zipHeap s.heap l1 l2).get? (((s.heap.push (itObj l1)).push (itObj l2)).push { cls := .type "tuple", data := .seq #[.ref s.heap.objs.size, .ref (s.heap.push (itObj l1)).objs.size] }).objs.size = some { cls := .type "tuple", data := .seq #[.none, .none] } :=
    Heap.get?_push_of_some _ (Heap.get?_push_size _ rfl)
  have g5 : (zipHeap s.heap l1 l2).get? (zipAddr s.heap l1 l2) = some { cls := .type "zip", data := .fields #[.none, .bool false, .bool false, .ref ((s.heap.push (itObj l1)).push (itObj l2)).objs.size, .ref (((s.heap.push (itObj l1)).push (itObj l2)).push { cls := .type "tuple", data := .seq #[.ref s.heap.objs.size, .ref (s.heap.push (itObj l1)).objs.size] }).objs.size] } := Heap.get?_push_size _ rfl
  rw [zipAddr_is, z2, z3] at g5
  rw [z2, z1] at g3
  rw [z3] at g4
  rw [z1] at g2
  refine ⟨⟨_, g5, rfl⟩, h _ ⟨g5, g3, ⟨_, _, g4⟩, ⟨⟨_, g1, rfl, rfl⟩, ?_⟩, ⟨⟨_, g2, rfl, rfl⟩, ?_⟩⟩ up ?_⟩
  · obtain ⟨o, e, r⟩ := hl1; exact ⟨o, up _ _ e, r⟩
  · obtain ⟨o, e, r⟩ := hl2; exact ⟨o, up _ _ e, r⟩
  · simp only [zipHeap, Heap.size_push]
end
end Mine
end
section
open PySem PySem.W PySem.Builtin PySem.Builtin.Re
set_option maxRecDepth 100000
set_option genInjectivity false
set_option genSizeOf false
set_option backward.match.sparseCases false
namespace Mine
theorem re_plain : PlainAttrs "re.Pattern" :=
  ⟨⟨"object.__getattribute__", by rw [typeLookup_type, builtinLookup_eq_fast]; kernel_rfl, by decide +kernel⟩, by rw [typeLookup_type, builtinLookup_eq_fast]; kernel_rfl⟩
theorem slot_re_sub : PySem.Slot "re.Pattern" "sub" "re.Pattern.sub" :=
  .of (owner := "re.Pattern") (n := "sub") (by rw [typeLookup_type, builtinLookup_eq_fast]; kernel_rfl) (by decide +kernel) (by decide +kernel) (by decide +kernel)
    (by first | exact .inl (by decide +kernel) | exact .inr (by decide +kernel)) (by rw [isSubtype_type]; kernel_rfl)
theorem type_re_sub : typeOf (.builtin "re.Pattern.sub") = pure (.type "method_descriptor") := by show builtinType _ = _; rw [builtinType_eq_fast]; kernel_rfl
theorem entry_re_sub : entryFor table "re.Pattern.sub" = some Builtin.«re.Pattern.sub» := entryFor_of_tree (by kernel_rfl)
theorem entry_re_loop : entryFor table "re.Pattern.sub.loop" = some Builtin.«re.Pattern.sub.loop» := entryFor_of_tree (by kernel_rfl)
theorem plain_re_loop : plainId "re.Pattern.sub.loop" = true := by decide +kernel
theorem args_re_sub (a b c : Value) : argsOk "re.Pattern.sub" ⟨[a, b, c], []⟩ := by
  unfold argsOk; kernel_rfl
theorem fnty_call : typeLookup (.type "function") "__call__" = pure (some (.builtin "function.__call__")) := by rw [typeLookup_type, builtinLookup_eq_fast]; kernel_rfl
theorem re_names (a b : Value) : reNamed "re.Pattern.sub" "sub" ["repl", "string", "count"] 2 [a, b] [] = pure [some a, some b, none] := by kernel_rfl
end Mine
end
section
open PySem PySem.W PyProof.Rows
set_option maxRecDepth 100000
set_option genInjectivity false
set_option genSizeOf false
set_option backward.match.sparseCases false
namespace Mine
def CdOk (G : GI) : Prop := ∀ q ∈ codesOf, CodeHd G.hB q.1 q.2
section
variable {X : Cx} {W : Wd} {s s' s₂ : Shared} {env : Env} {q : Addr × Addr}
theorem J.grown (I : J X W s) (m : q ∈ codesOf) {h' : Heap} {tk : Nat} {ps : Array Value} (hx : Heap.ExtBut q.2 s.heap h') (hp : h'.get? q.2 = some (tabObj ps)) (ht : TriplesOk ps.toList) : J X W { s with heap := h', toks := tk } := by
  refine ⟨fun a r e => hx a _ (I.tab_ne e m).symm (I.rl a r e), I.base, I.tk, I.inj, I.lv, fun r n => ⟨(I.tab r n).1, ?_⟩, I.sys, I.os, I.gens, I.t0⟩
  by_cases e : r.2 = q.2
  · exact ⟨ps, e ▸ hp, ht⟩
  · exact (I.tab r n).2.imp fun _ z => z.imp (hx _ _ e) id
theorem J.later (I₀ : J X W s) (I : J X W s') (hk : ∀ b o, b < s.heap.objs.size → s'.heap.get? b = some o → s₂.heap.get? b = some o) (ho : s₂.os = s'.os) (hg : AllBare s₂.gens) : J X W s₂ :=
  ⟨fun a r e => hk a _ (I₀.lt e) (I.rl a r e), I.base, I.tk, I.inj, I.lv, fun q m => ⟨(I.tab q m).1, (I.tab q m).2.imp fun _ e => e.imp (hk _ _ ((I₀.tab q m).2.elim fun _ e => Heap.lt_size e.1)) id⟩, I.sys, ho.trans I.os, hg, I.t0⟩
theorem triples_snoc {ps : Array Value} {a b : Int} {c : Value} (h : TriplesOk ps.toList) : TriplesOk (ps ++ #[rawInt a, rawInt b, c]).toList := by
  rw [show (ps ++ #[rawInt a, rawInt b, c]).toList = ps.toList ++ [rawInt a, rawInt b, c] by simp]
  exact TriplesOk_snoc _ _ _ _ h
theorem gcode (C : CdOk X.G) (I : J X W s) (hq : q ∈ codesOf) (hc : env.code = .ref q.1) {pos : Pos} {qual : Str} {sc : Scope} {Q : Value → Shared → Prop}
    (P : ∀ c' h' tk, J X W { s with heap := h', toks := tk } → s.heap.objs.size ≤ h'.objs.size → (∀ b o, b ≠ q.2 → s.heap.get? b = some o → h'.get? b = some o) → Q c' { s with heap := h', toks := tk }) : Do X (genexprCode env pos qual sc) Q s := by
  obtain ⟨ps, e, t⟩ := (I.tab q hq).2
  have hd := (C q hq).keeps fun _ _ => I.hB
  cases hf : codeAmong pos ps.toList with
  | some c' => exact wpAny_genexprCode_hit hc (hd.code e t) hf (P c' s.heap s.toks I (Nat.le_refl _) fun _ _ _ e => e)
  | none => exact wpAny_genexprCodeX hc (hd.code e t) (hd.tab e) hf fun c' h' tk hx l1 l2 _ _ htb _ => P _ h' tk (I.grown hq hx htb.2 (triples_snoc t)) (Nat.le_trans l1 (Nat.le_of_lt l2)) hx
theorem bt_for {Q : Addr → Shared → Prop} (O : GOk X.G) (I : J X W s) (hg : env.globals = mainGlobals) (P : Q builtinsNs s) : Do X (builtinsFor env.globals env.builtins) Q s := by
  obtain ⟨bm, o, b1, b2, b3, b4, b5, b6, b7⟩ := O.bm
  rw [hg]
  exact wpAny_builtinsFor (O.g.keeps fun _ _ => I.hB) b1 b2 (I.hB b4) b5 b6 b7 P
def GenG (prog : Program) (w : World) (A : Around) (N : Nat) (a : Addr) (n : Nat) (Fi : Nat → Value → Prop) (s : Shared) : Prop :=
  ∃ fp wr g St, WalksS prog w A.in4 a fp wr (GenOnlyQ g) n Fi St ∧ St 0 s ∧ (∀ i s', St i s' → s'.TypeIs (.ref a) "generator") ∧ a ∈ fp ∧ (∀ b ∈ fp, b < s.heap.objs.size) ∧ (∀ b ∈ wr, N ≤ b) ∧ N ≤ a ∧ a ∉ wr
theorem all_passing (n : Nat) : passing (fun _ => true) n 0 = List.range n := by simp [passing]
theorem far_tab (I : J X W s) (hq : q ∈ codesOf) {a : Addr} (h : s.heap.objs.size ≤ a) : a ≠ q.2 := fun e => (I.tab q hq).2.elim fun _ z => absurd (Heap.lt_size z.1) (Nat.not_lt.mpr (e ▸ h))
theorem gen_list (C : CdOk X.G) (O : GOk X.G) (hh : X.A.handled = none) (hd : X.A.depth < recursionLimit) {elt iter : PySem.Expr} {x : Str} {px pos : Pos} {sc : Scope} {Q : Value → Shared → Prop}
    (hq : q ∈ codesOf) (hc : env.code = .ref q.1) (hg : env.globals = mainGlobals) (hco : sc.isCoroutine = false) (hclos : closureFor sc env = pure []) (hcell : ∀ y ∈ sc.names, y.2 ≠ .cell) (h0 : sc.names.lookup (".0" : Str) = some NameKind.local)
    (hx : sc.names.lookup x = some .local) (hkind : sc.kind = .function) (hs : ∀ x, genFold iter env x = pure x)
    (h : Do X (eval iter env) (fun xv s₁ => ∃ l vs n W₁ Fi, xv = .ref l ∧ W₁.on l (seqO "list" vs n) ∧ J X W₁ s₁ ∧
      (∀ (cenv : Env) (A' : Around) (E' : Value → Shared → Prop) i v (s₂ : Shared) m₂, cenv.scope = sc → vs[i]? = some v → s₂.heap.Ns cenv.locals m₂ → m₂ x = some v → wpAny X.G.M A' (eval elt cenv) (fun y s₃ => Fi i y ∧ Keeps s₂ s₃) E' s₂) ∧
      ∀ g s₅, J X W₁ s₅ → GenG X.G.prog X.G.w X.A s₁.heap.objs.size g vs.length Fi s₅ → Q (.ref g) s₅) s) :
    Do X (eval (.GeneratorExp elt [⟨.Name x px, iter, [], 0⟩] sc pos) env) Q s := by
  refine wpAny_GeneratorExp_walksQ hh hco hclos hcell h0 hx hkind hd (wpAny_mono h (fun xv s₁ h₁ => ?_) fun _ _ e => e) hs
  obtain ⟨l, vs, n, W₁, Fi, rfl, hr, I, helt, hQ⟩ := h₁
  have hl : s₁.heap.IsList l vs.toArray := listO (I.on hr)
  refine wpAny_pyIter_list hl ?_
  have I2 := I.keep (h' := s₁.heap.push { cls := .type "list_iterator", data := .fields #[.ref l, .int 0 0] }) (tk := s₁.toks) fun _ _ e => Heap.get?_push_of_some _ e
  have nl : ∀ {s₂ : Shared}, J X W₁ s₂ → s₂.heap.NoLimit := fun J => O.nolim.keeps fun _ _ => J.hB
  refine ⟨nl I2, gcode C I2 hq hc fun c' h₃ tk I3 hz₃ hx₃ => bt_for O I3 hg ?_⟩
  have hz3 : s₁.heap.objs.size < h₃.objs.size := Nat.lt_of_lt_of_le (by rw [Heap.size_push]; exact Nat.lt_succ_self _) hz₃
  have hIt : h₃.IsListIter s₁.heap.objs.size l 0 := ⟨_, hx₃ _ _ (far_tab I hq (Nat.le_refl _)) (Heap.get?_push_size _ rfl), rfl, rfl⟩
  have hL : h₃.IsList l vs.toArray := listO (I3.on hr)
  have hlt : l < s₁.heap.objs.size := Heap.lt_size (I.on hr)
  refine ⟨s₁.heap.objs.size, [s₁.heap.objs.size, l], [s₁.heap.objs.size], vs.toArray.size, fun i v => vs.toArray[i]? = some v, fun i h => h.IsListIter s₁.heap.objs.size l i ∧ h.IsList l vs.toArray, fun _ => true, Fi, rfl,
    fun A' hA => Walks.list hA _ _ (Nat.ne_of_lt hlt) vs.toArray, ⟨hIt, hL⟩, ?_, nl I3, ?_, fun href hhref => ⟨fun A' E' i v s₂ m₂ hA hP hn hm hk => wpAny_tests_nil ⟨rfl, _, _, rfl, fun _ _ e => e⟩, fun A' E' i v s₂ m₂ hA hP _ hn hm hk => helt _ A' E' i v s₂ m₂ rfl (toA.symm.trans hP) hn hm⟩, fun g h₅ tk' gs hgb hag hsz₅ hk₅ Wk hat => ?_⟩
  · intro b hb
    rcases List.mem_cons.mp hb with rfl | hb
    · exact hz3
    · exact (List.mem_singleton.mp hb).symm ▸ Nat.lt_trans hlt hz3
  · exact fun hb => (nl I).elim fun _ z => absurd z.1.lt (List.mem_singleton.mp hb ▸ Nat.lt_irrefl _)
  · rw [all_passing, List.length_range] at Wk
    have hgt : s₁.heap.objs.size < g := Nat.lt_trans hz3 hag
    refine hQ g _ (I.later I3 (fun b o _ e => hk₅ b o e) rfl (I3.gens.push hgb)) ⟨_, _, _, _, Wk.imp fun j y hy => ?_, hat, (fun i s' st => st.1.typeIs), List.mem_cons_self, ?_, ?_, Nat.le_of_lt hgt, ?_⟩
    · obtain ⟨i, hi, hF⟩ := hy
      obtain ⟨hj, e⟩ := List.getElem?_eq_some_iff.mp hi
      rw [List.getElem_range] at e
      exact e ▸ hF
    · intro b hb
      show b < h₅.objs.size
      rw [hsz₅]
      rcases List.mem_cons.mp hb with rfl | hb
      · exact Nat.lt_succ_self _
      · rcases List.mem_cons.mp hb with rfl | hb
        · exact Nat.lt_succ_of_lt hag
        · exact Nat.lt_succ_of_lt (Nat.lt_trans (List.mem_range.mp hb) hag)
    · intro b hb
      rcases List.mem_cons.mp hb with rfl | hb
      · exact Nat.le_of_lt hz3
      · exact List.mem_singleton.mp hb ▸ Nat.le_refl _
    · intro hb
      rcases List.mem_cons.mp hb with e | hb
      · exact absurd (show g = h₃.objs.size from e) (Nat.ne_of_gt hag)
      · exact absurd (List.mem_singleton.mp hb) (Nat.ne_of_gt hgt)
end
end Mine
end
section
open PySem PySem.W PyProof.Rows
set_option maxRecDepth 100000
set_option genInjectivity false
set_option genSizeOf false
set_option backward.match.sparseCases false
namespace Mine
section
variable {X : Cx} {cl : Cl} {kv : KEv} {W W' : Wd} {s : Shared} {env : Env} {ks : Ks} {E : VEnv} {Q : Value → Shared → Prop} {k : V → Prop} {p ap : Pos}
@[elab_as_elim] theorem lstO_e {x : V} {u : Value} {Pm : Value → Prop} {f : List V → Prop} (hx : RelO X.G W x u) (h : optW (lstOf x) f) (c : ∀ l a vs n, W.on a (seqO "list" vs n) → Rels X.G W l vs → f l → Pm (.ref a)) : Pm u := by
  cases x with
  | lst l => obtain ⟨a, vs, n, rfl, h1, h2⟩ := hx; exact c l a vs n h1 h2 h
  | _ => exact h.elim
theorem two_args {f : Value} {x y : Str} {k1 k2 : Nat} {p1 p2 pos : Pos} {Q : Args → Shared → Prop} (P : ∀ t u tk, Q ⟨[.str x t, .str y u], []⟩ { s with toks := tk }) :
    Do X (evalArgs f true (backTo pos (starEach [.Constant (.str x) k1 p1, .Constant (.str y) k2 p2] env)) []) Q s := by
  rw [backTo_cons rfl, backTo_cons rfl]
  exact Calls.evalArgs_plain (Calls.spliced_cons (Calls.Constant_str (Calls.spliced_cons (Calls.Constant_str (Calls.spliced_nil (P _ _ _))))))
theorem repl_call {o : PySem.Expr} {n x y : Str} {c q : List Nat} {k1 k2 : Nat} {p1 p2 : Pos} (hb : plainBase o = true) (hn : Nat.beq (nmS n) (N "replace") = true) (hl : Nat.beq ap.endLine p.line = true) (hx : x.cps.toList = c) (hq : noneIn q c = true)
    (h : Do X (eval o env) (fun ov s₁ => ∃ t, ov = .str (toS q) t ∧ ∀ tk, Q (.str (toS q) t) { s₁ with toks := tk }) s) : Do X (eval (.Call (.Attribute o n ap) [.Constant (.str x) k1 p1, .Constant (.str y) k2 p2] [] p) env) Q s := by
  refine call_method (base_plain hb) (few_sound rfl rfl) (line_eq hl) (wpAny_mono h (fun ov s₁ h₁ => ?_) fun _ _ e => e)
  obtain ⟨t, rfl, P⟩ := h₁
  rw [nmS_is (t := "replace") (by decide +kernel) (by decide +kernel) (beqN.mp hn)]
  exact str_meth PySem.F.slot_str_replace PySem.F.type_str_replace (Calls.callWith_builtin (any_noStar rfl) (two_args fun t1 t2 tk => repl_g (c := x.cps.toList) (z := y.cps.toList) (hx.symm ▸ hq) (P tk)))
theorem isMeth_i {e : PySem.Expr} {n : Nat} {r : PySem.Expr × Str × List PySem.Expr} {P : Prop} (h : isMeth n (view e) = some r) (c : ∀ ap pos, e = .Call (.Attribute r.1 r.2.1 ap) r.2.2 [] pos → Nat.beq (nmS r.2.1) n = true → Nat.beq ap.endLine pos.line = true → P) : P := by
  have V := view_is e
  generalize view e = v at V h
  cases v with
  | meth o m ap as pos => exact bf_e h fun hb h => and_e hb fun h1 h2 => by obtain rfl := Option.some.inj h; exact c ap pos V h1 h2
  | _ => exact none_i h
theorem strX_i {e : PySem.Expr} {r : Str} (h : strX e = some r) : ∃ k p, e = .Constant (.str r) k p := sub_i (p := fun r : Str => ∃ k p, e = .Constant (.str r) k p) h
theorem twoStr_i {as : List PySem.Expr} {r : Str} {P : Prop} (h : twoStr as = some r) (c : ∀ y k1 k2 p1 p2, as = [.Constant (.str r) k1 p1, .Constant (.str y) k2 p2] → P) : P := by
  refine bnd_e h fun t e h => bnd_e h fun a e1 h => bnd_e h fun b e2 h => ?_
  obtain ⟨k1, p1, z1⟩ := strX_i e1
  obtain ⟨k2, p2, z2⟩ := strX_i e2
  refine c b k1 k2 p1 p2 (Option.some.inj h ▸ ?_)
  rw [← z1, ← z2]
  exact twoL_e (P := fun as => as = [t.1, t.2]) (optW_i (k := fun q => q = t) e rfl) fun x y q => q ▸ rfl
theorem isVarOf_i {x : Str} {e : PySem.Expr} {P : Prop} (h : isVarOf x e = true) (c : ∀ p, e = .Name x p → (x == Str.ofString "__debug__") = false → P) : P := by
  unfold isVarOf at h
  cases q : nameX e with
  | none => rw [q] at h; exact nomatch h
  | some y =>
    rw [q] at h
    exact and_e h fun h1 h2 => c y.2 (eq_of_beq h1 ▸ nameX_i q) (eq_of_beq h1 ▸ not_t h2)
theorem repl_elt {elt : PySem.Expr} {x : Str} {q : List Nat} {t : Tok} {m : Str → Option Value} (hr : isRepl x elt = true) (hk : env.scope.kind = .function) (hx : env.scope.names.lookup x = some .local) (hn : s.heap.Ns env.locals m) (hm : m x = some (.str (toS q) t))
    (h1 : noneIn q [92] = true) (h2 : noneIn q [45] = true) : Do X (eval elt env) (fun y s₃ => (∃ u, y = .str (toS q) u) ∧ Keeps s s₃) s := by
  refine bnd_e (eq_of_beq hr) fun a e1 h => bnd_e h fun b e2 h => bnd_e h fun c e3 h => bnd_e h fun d e4 h => and_e (Option.some.inj h) fun h h6 => and_e h fun h4 h5 => isMeth_i e1 fun ap1 p1 z1 y1 l1 => isMeth_i e2 fun ap2 p2 z2 y2 l2 => twoStr_i e3 fun _ _ _ _ _ w1 => twoStr_i e4 fun _ _ _ _ _ w2 => isVarOf_i h4 fun p z3 hd => ?_
  rw [z1, w1]
  refine repl_call (by rw [z2, w2]; rfl) y1 l1 (of_decide_eq_true h6) h2 ?_
  rw [z2, w2, z3]
  exact repl_call rfl y2 l2 (of_decide_eq_true h5) h1 (ldG hn hm ⟨t, rfl, fun tk => ⟨t, rfl, fun tk' => ⟨⟨t, rfl⟩, _, _, rfl, fun _ _ e => e⟩⟩⟩ hk hx hd)
structure LocOk (sc : Scope) : Prop where
  kind : sc.kind = .function
  co : sc.isCoroutine = false
  cell : ∀ y ∈ sc.names, y.2 ≠ .cell
  clos : ∀ env, closureFor sc env = pure []
  it : sc.names.lookup (".0" : Str) = some NameKind.local
theorem clos_nil {sc : Scope} (h : ∀ y ∈ sc.names, y.2 = .local) (env : Env) : closureFor sc env = pure [] := by
  obtain ⟨cl, h1, h2⟩ := closure_fold (env := env) sc.names [] fun n hm => NameKind.noConfusion (h _ hm : NameKind.free = .local)
  have e : cl = [] := by
    cases cl with
    | nil => rfl
    | cons p r =>
      have z := (lookup_cons' (x := p.1) (y := p.1) (k := p.2) (r := r)).symm.trans (h2 p.1)
      rw [if_pos rfl, if_neg (fun hm => NameKind.noConfusion (h _ hm : NameKind.free = .local))] at z
      exact nomatch z
  subst e
  exact congrArg (· >>= fun cs => pure cs) h1
theorem allLoc_ok {sc : Scope} (h : allLoc sc = true) : LocOk sc :=
  and_e h fun h h4 => and_e h fun h h3 => and_e h fun h1 h2 =>
    have hl : ∀ y ∈ sc.names, y.2 = .local := fun y hy => Option.some.inj (isLocK_i (List.all_eq_true.mp h3 y hy))
    ⟨isFn_i h1, not_t h2, fun y hy e => (nomatch (hl y hy).symm.trans e), clos_nil hl, isLocK_i h4⟩
theorem gView_i {g : Comprehension} {r : PySem.Expr × PySem.Expr} (h : gView g = some r) : g = ⟨r.1, r.2, [], 0⟩ := by
  obtain ⟨t, i, f, a⟩ := g
  cases f with
  | nil => exact bf_e h fun h1 h2 => by rw [← Option.some.inj h2, show a = 0 from of_decide_eq_true h1]
  | cons x f => exact none_i h
end
end Mine
end
section
open PySem PySem.W PySem.Builtin PySem.Builtin.Re PyProof.Rows
set_option maxRecDepth 100000
set_option genInjectivity false
set_option genSizeOf false
set_option backward.match.sparseCases false
namespace Mine
section
variable {prog : Program} {w : World} {A : Around} {E : Value → Shared → Prop} {s : Shared}
theorem rules_loop {M : Model} {c : Nat → Bool} {f : Nat → String} {Q : PUnit → Shared → Prop} (h : Q PUnit.unit s) : ∀ l : List Nat, wpAny M A (forIn l PUnit.unit fun i (_ : PUnit) => (if c i = true then (do rule (f i); pure (ForInStep.yield PUnit.unit)) else pure (ForInStep.yield PUnit.unit) : Sem (ForInStep PUnit))) Q E s
  | [] => by rw [List.forIn_nil]; exact wpAny_pure h
  | i :: r => by
    rw [List.forIn_cons]
    refine wpAny_bind ?_
    cases hc : c i with
    | true => rw [if_pos rfl]; exact wpAny_bind (wpAny_rule (wpAny_pure (rules_loop h r)))
    | false => rw [if_neg (by simp)]; exact wpAny_pure (rules_loop h r)
theorem drive_one {M : Model} {m : Sre.M} {Q : Sre.M → Shared → Prop} (hm : (m.runFor 4).outcome.isSome = true) (h : Q (m.runFor 4) s) : wpAny M A (reDrive (2 ^ 64) m) Q E s := by
  rw [show (2 ^ 64 : Nat) = 18446744073709551615 + 1 from rfl]
  unfold reDrive
  show wpAny M A (if (m.runFor 4).outcome.isSome = true then pure (m.runFor 4) else _) Q E s
  rw [if_pos hm]
  exact wpAny_pure h
theorem run_none {M : Model} {m : Sre.M} {Q : Option Sre.M → Shared → Prop} (hm : (m.runFor 4).outcome = some .failed) (h : Q none s) : wpAny M A (reRunToEnd m) Q E s := by
  unfold reRunToEnd
  refine wpAny_bind (drive_one (by rw [hm]; rfl) ?_)
  refine wpAny_bind (rules_loop (c := fun i => (m.runFor 4).seen.has i) (f := fun i => Sre.names.getD i "") ?_ _)
  rw [hm]
  exact wpAny_pure h
theorem none_found : ∀ txt : List Nat, (txt = [33, 98] ∨ txt = [97] ∨ txt = [97, 98]) → ((Sre.forSearch reCode txt.toArray 1 0 txt.toArray.size false).runFor 4).outcome = some .failed := by
  rintro txt (rfl | rfl | rfl)
  · kernel_rfl
  · kernel_rfl
  · kernel_rfl
theorem whole_target {p : Addr} {txt : Str} {t : Tok} {Q : ReTarget → Shared → Prop} (hp : TwinRe s.heap p) (h : Q ⟨.ref p, .str txt t, reCode, txt.cps, 0, 1, 0, txt.cps.size⟩ s) : wpAny (model prog w) A (reWholeTarget (.ref p) (.str txt t)) Q E s := by
  obtain ⟨ca, c, d, cs, n, a0, a1, t2, t6, h1, h2, h3⟩ := hp
  unfold reWholeTarget
  refine wpAny_bind (wpAny_fieldsOf h1 rfl ?_)
  refine wpAny_bind (m := reTextOf _) (wpAny_pure ?_)
  dsimp only
  rw [show (#[a0, a1, Value.int 1 t2, c, d, Value.ref ca, Value.int 0 t6] : Array Value).getD 6 Value.none = .int 0 t6 from rfl, show (#[a0, a1, Value.int 1 t2, c, d, Value.ref ca, Value.int 0 t6] : Array Value).getD 5 Value.none = .ref ca from rfl, show (#[a0, a1, Value.int 1 t2, c, d, Value.ref ca, Value.int 0 t6] : Array Value).getD 2 Value.none = .int 1 t2 from rfl]
  rw [show reRawNat (.int 0 t6) = 0 from rfl, show reRawNat (.int 1 t2) = 1 from rfl]
  rw [if_neg (show ¬ ((((0 : Nat) == 0) && ((0 : Nat) == 1)) = true) by decide), if_neg (show ¬ ((((0 : Nat) == 1) && ((0 : Nat) == 0)) = true) by decide)]
  refine wpAny_bind (m := reNoCollectionInside _ _) (wpAny_pure ?_)
  refine wpAny_bind (m := reRawItems _) ?_
  unfold reRawItems
  refine wpAny_bind (m := seqItems? _) (wpAny_seqItems h2 rfl (wpAny_pure ?_))
  refine wpAny_pure ?_
  have e : (((some cs).getD #[]).map reRawOf).map (·.toNat) = reCode := by
    rw [← h3]; simp
  show Q ⟨_, _, (((some cs).getD #[]).map reRawOf).map (·.toNat), _, _, _, _, _⟩ s
  rw [show (((some cs).getD #[]).map reRawOf).map (·.toNat) = reCode from e]
  exact h
theorem sub_loop {p fa : Addr} {txt : List Nat} {t : Tok} {D : Addr} {R : Result → Shared → Prop} (hp : TwinRe s.heap p) (ht : txt = [33, 98] ∨ txt = [97] ∨ txt = [97, 98]) (hD : s.heap.get? D = some { cls := .type "list", data := .seq #[] })
    (hQ : ∀ h' tk t', (∀ b o, b ≠ D → s.heap.get? b = some o → h'.get? b = some o) → R (.ok (.ret (.str ⟨txt.toArray⟩ t'))) { s with heap := h', toks := tk }) :
    codeAny (model prog w) A (.builtin "re.Pattern.sub.loop" ⟨[.ref p, .str ⟨txt.toArray⟩ t, .ref fa, rawInt 1, rawInt 0, rawInt 0, rawInt 0, rawInt 0, .bool false, .ref D, .bool false], []⟩) R s := by
  refine codeAny_builtin entry_re_loop ?_
  rw [Around.under_plainId plain_re_loop _]
  unfold Builtin.«re.Pattern.sub.loop»
  refine wpAny_bind (whole_target hp ?_)
  show wpAny (model prog w) A.in1 (reNextFound _ 0 false >>= _) _ _ s
  refine wpAny_bind (run_none (none_found txt ht) ?_)
  have hlen : 0 < txt.toArray.size := by rcases ht with rfl | rfl | rfl <;> decide
  unfold reSlice
  dsimp only
  rw [if_pos (show Int.toNat 0 < txt.toArray.size from hlen)]
  simp only [beq_self_eq_true, if_true, Bool.false_eq_true, if_false]
  have hsz : txt.toArray.size ≤ 2 := by rcases ht with rfl | rfl | rfl <;> decide
  have e0 : (⟨txt.toArray.extract (Int.toNat 0) txt.toArray.size⟩ : Str) = ⟨txt.toArray⟩ := by
    show (⟨txt.toArray.extract 0 txt.toArray.size⟩ : Str) = _
    rw [Array.extract_size]
  rw [e0]
  refine wpAny_bind (wpAny_mkStr ?_ (by rw [sizeLine_eq]; show txt.toArray.size ≤ _; omega))
  refine wpAny_bind (wpAny_updateSeq hD rfl ?_)
  have hD' := Heap.get?_update_self (Obj.mapSeq (·.push (Value.str ⟨txt.toArray⟩ s.toks))) hD rfl
  have oth : ∀ b o, b ≠ D → s.heap.get? b = some o → (s.heap.update D (Obj.mapSeq (·.push (Value.str ⟨txt.toArray⟩ s.toks)))).get? b = some o := fun b o hb e => (Heap.get?_update_other _ _ (Ne.symm hb)).trans e
  refine wpAny_bind (wpAny_mkStr ?_ (by rw [sizeLine_eq]; show (txt.toArray.extract 0 0).size ≤ _; simp))
  refine wpAny_bind (wpAny_seqItems hD' rfl ?_)
  rw [if_neg (by simp)]
  refine wpAny_bind (join_list (items := #[Value.str ⟨txt.toArray⟩ s.toks]) (ys := [⟨txt.toArray⟩]) ⟨_, hD', rfl, _, rfl⟩ (.cons _ _ .nil) ?_ fun t' k => ?_)
  · have : Str.length ⟨txt.toArray⟩ ≤ 2 := hsz
    simp [Str.length] at this ⊢
    omega
  · rw [show Txt.join (⟨txt.toArray.extract 0 0⟩ : Str) [⟨txt.toArray⟩] = ⟨txt.toArray⟩ from rfl]
    exact wpAny_pure (hQ _ k t' oth)
theorem sub_call {p fa : Addr} {txt : List Nat} {t : Tok} {Q : Value → Shared → Prop} (hp : TwinRe s.heap p) (hf : s.TypeIs (.ref fa) "function") (ht : txt = [33, 98] ∨ txt = [97] ∨ txt = [97, 98])
    (hQ : ∀ h' tk t', (∀ b o, s.heap.get? b = some o → h'.get? b = some o) → Q (.str ⟨txt.toArray⟩ t') { s with heap := h', toks := tk }) :
    wpAny (model prog w) A (call (.builtin "re.Pattern.sub") [.ref p, .ref fa, .str ⟨txt.toArray⟩ t]) Q E s := by
  have hT : s.TypeIs (.ref p) "re.Pattern" := by obtain ⟨_, _, _, _, _, _, _, _, _, h1, _⟩ := hp; exact ⟨_, h1, rfl⟩
  refine wpAny_call (codeAny_call_builtin slot_re_sub.plain entry_re_sub (slot_re_sub.check _ _ _ _ _ _ _ _ hT (args_re_sub _ _ _) ?_))
  unfold Builtin.«re.Pattern.sub» reSubstitute
  dsimp only
  rw [re_names]
  refine wpAny_bind (wpAny_pure ?_)
  dsimp only
  refine wpAny_bind (wpAny_pure ?_)
  refine wpAny_bind (wpAny_specialOf hf fnty_call ?_)
  dsimp only [Option.isSome]
  simp only [if_true]
  refine wpAny_bind (wpAny_pure ?_)
  refine wpAny_bind (wpAny_pure ?_)
  dsimp only
  refine wpAny_bind (wpAny_holding (whole_target hp ?_))
  simp only [beq_self_eq_true, if_true]
  refine wpAny_bind ?_
  unfold reNotHeld
  refine wpAny_bind (wpAny_isInstance (T := "str") (b := false) (typeIs_str _ _ _) (by rw [isSubtype_type]; kernel_rfl) ?_)
  rw [if_neg (by simp)]
  refine wpAny_pure ?_
  refine wpAny_bind (wpAny_newList ?_ (Nat.zero_le _))
  refine wpAny_pure ⟨plainId_quiet plain_re_loop _, ?_⟩
  have keep : ∀ b o, s.heap.get? b = some o → (s.heap.push { cls := .type "list", data := .seq ([] : List Value).toArray }).get? b = some o := fun b o e => Heap.get?_push_of_some _ e
  refine sub_loop (s := { s with heap := s.heap.push { cls := .type "list", data := .seq ([] : List Value).toArray } }) (D := s.heap.objs.size) ?_ ht (Heap.get?_push_size _ rfl) fun h' tk t' k => ?_
  · obtain ⟨ca, c, d, cs, n, a0, a1, t2, t6, h1, h2, h3⟩ := hp
    exact ⟨ca, c, d, cs, n, a0, a1, t2, t6, keep _ _ h1, keep _ _ h2, h3⟩
  · exact hQ h' tk t' fun b o e => k b o (Nat.ne_of_lt (Heap.lt_size e)) (keep b o e)
end
end Mine
end
section
open PySem PySem.W PyProof.Rows
set_option maxRecDepth 100000
set_option genInjectivity false
set_option genSizeOf false
set_option backward.match.sparseCases false
namespace Mine
section
variable {X : Cx} {cl : Cl} {kv : KEv} {W W' : Wd} {s : Shared} {env : Env} {ks : Ks} {E : VEnv} {Q : Value → Shared → Prop} {k : V → Prop} {p ap q : Pos}
theorem lam_make {c : Addr × Addr} {as : Arguments} {b : PySem.Expr} {sc : Scope} {lp : Pos} (C : CdOk X.G) (O : GOk X.G) (I : J X W s) (hq : c ∈ codesOf) (hc : env.code = .ref c.1) (hg : env.globals = mainGlobals)
    (hd : defaultsOf as env = ([], [])) (hcl : closureFor sc env = pure []) (P : ∀ f o W' s', Ex W W' → J X W' s' → W'.rl f = some (.hd o) → o.cls = .type "function" → Q (.ref f) s') : Do X (eval (.Lambda as b sc lp) env) Q s := by
  obtain ⟨ps, e, t⟩ := (I.tab c hq).2
  have hd' := (C c hq).keeps fun _ _ => I.hB
  have ne : ∀ {a o}, X.G.hB.get? a = some o → a ≠ c.2 := fun e z => I.tab_ne (I.base _ _ e) hq z.symm
  have fin : ∀ {h' : Heap} {tk : Nat} {o : Obj}, J X W { s with heap := h', toks := tk } → o.isFreed = false → o.cls = .type "function" → Q (.ref h'.objs.size) { s with heap := h'.push o, toks := tk } := fun {h' tk o} I f z => P _ o _ _ (Ex.upd I.new) (I.push (.hd o) rfl f tk) Wd.upd_self z
  obtain ⟨bm, o, b1, b2, b3, b4, b5, b6, b7⟩ := O.bm
  have hb : s.heap.BuiltinsAt X.G.mg c.2 := ⟨bm, o, b1, b2, b3, ne b4, I.hB b4, b5, b6, b7⟩
  refine kla_eval hd ?_
  cases hf : codeAmong lp ps.toList with
  | none => exact kla_makeFunction hcl hg (O.g.keeps fun _ _ => I.hB) hc hd' e t hf (O.g.elim fun _ z => z.elim fun _ z => z.elim fun _ z => ne z.1) hb fun c' ctv h' tk hx _ _ _ htb => fin (I.grown (tk := tk) hq hx htb (triples_snoc t)) rfl rfl
  | some cv => exact kla_makeFunctionHit hcl hg (O.g.keeps fun _ _ => I.hB) hc hd' e t hf hb fun ctv h' tk hk _ => fin (I.keep (tk := tk) hk) rfl rfl
theorem lamFit_i {as : Arguments} {sc : Scope} (h : lamFit as sc = true) : (∀ env, defaultsOf as env = ([], [])) ∧ ∀ env, closureFor sc env = pure [] :=
  and_e h fun h h3 => and_e h fun h1 h2 => ⟨fun env => by
    obtain ⟨a1, a2, a3, a4, a5, a6, a7⟩ := as
    obtain rfl := List.isEmpty_iff.mp h1
    obtain rfl := List.isEmpty_iff.mp h2
    rfl, fun env => clos_nil (fun y hy => Option.some.inj (isLocK_i (List.all_eq_true.mp h3 y hy))) env⟩
theorem TwinRe.keep {h h' : Heap} {a : Addr} (k : ∀ b o, h.get? b = some o → h'.get? b = some o) (x : TwinRe h a) : TwinRe h' a := by
  obtain ⟨ca, c, d, cs, n, a0, a1, t2, t6, g1, g2, g3⟩ := x
  exact ⟨ca, c, d, cs, n, a0, a1, t2, t6, k _ _ g1, k _ _ g2, g3⟩
theorem TwinRe.ob {h : Heap} {a : Addr} (x : TwinRe h a) : ∃ o, h.get? a = some o ∧ o.cls = .type "re.Pattern" ∧ o.dict = none := by
  obtain ⟨ca, c, d, cs, n, a0, a1, t2, t6, g1, _⟩ := x
  exact ⟨_, g1, rfl, rfl⟩
theorem subIn_i {l : List Nat} (h : subIn l = true) : l = [33, 98] ∨ l = [97] ∨ l = [97, 98] :=
  (Bool.or_eq_true_iff.mp h).elim (fun h => (Bool.or_eq_true_iff.mp h).elim (fun h => .inl (of_decide_eq_true h)) fun h => .inr (.inl (of_decide_eq_true h))) fun h => .inr (.inr (of_decide_eq_true h))
theorem subRe_sound (C : CdOk X.G) (S : Snd X kv) (F : Fx X cl) {o e b : PySem.Expr} {n : Str} {as : Arguments} {sc : Scope} (I : J X W s) (R : EnvR X.G W ks E env) (h0 : (plainBase o && Nat.beq ap.endLine p.line) = true) (h : subRe kv ks o (nmS n) as sc e E k) (P : PK X W k Q) :
    Do X (eval (.Call (.Attribute o n ap) [.Lambda as b sc q, e] [] p) env) Q s := by
  refine optW_e h fun x e1 h => gd_e h fun hb h => and_e hb fun hb h5 => and_e hb fun hb h4 => and_e hb fun hb h3 => and_e hb fun h1 h2 => ?_
  have hs : [PySem.Expr.Lambda as b sc q, e].all noStar = true := by rw [List.all_cons, List.all_cons, h5]; rfl
  obtain ⟨pa, hp1, hp2⟩ := F.bok.twin
  obtain ⟨ob, k1, k2, k3⟩ := (hp2.keep fun _ _ => I.hB).ob
  rw [nmS_is (t := "sub") (by decide +kernel) (by decide +kernel) (beqN.mp h2)]
  refine and_e h0 fun b1 b2 => call_method (base_plain b1) (few_sound hs rfl) (line_eq b2) ?_
  rw [nameX_i e1]
  refine biIs_e h1 fun h1 => name_bi F.ok I R (by decide +kernel) hp1 h1 fun pl => getMethod_builtin ⟨ob, k1, k2⟩ re_plain slot_re_sub type_re_sub (fun q hq => ⟨ob, Value.ref.inj hq ▸ k1, k3⟩) (Calls.callWith_builtin (any_noStar hs) ?_)
  rw [backTo_cons rfl, backTo_cons h5]
  exact Calls.evalArgs_plain (Calls.spliced_cons (lam_make (c := (61, 57)) C F.ok I (.head _) (R.tr h3) R.glob ((lamFit_i h4).1 _) ((lamFit_i h4).2 _) fun f o W₁ s₁ X₁ I₁ hf hc => Calls.spliced_cons (S.e I₁ (R.ex X₁) h fun v h u W₂ s₂ X₂ I₂ hu => Calls.spliced_nil
    (str_e (Pm := fun u => Do X (call (.builtin "re.Pattern.sub") [.ref pa, .ref f, u]) Q s₂) hu.o h fun l t h => gd_e h fun hl h => sub_call (hp2.keep fun _ _ => I₂.hB) ⟨o, I₂.rl _ _ (X₂.rl _ _ hf), hc⟩ (subIn_i hl) fun h' tk t' k => P _ h _ _ _ (X₁.trans X₂) (I₂.keep k) (rStr l t')))))
end
end Mine
end
section
open PySem PySem.W PyProof.Rows
set_option maxRecDepth 100000
set_option genInjectivity false
set_option genSizeOf false
set_option backward.match.sparseCases false
namespace Mine
section
variable {X : Cx} {cl : Cl} {kv : KEv} {W W' : Wd} {s : Shared} {env : Env} {ks : Ks} {E : VEnv} {Q : Value → Shared → Prop} {k : V → Prop} {p ap q : Pos}
theorem strs_at {l : List (List Nat)} : ∀ {vs : List Value} {i : Nat} {v : Value}, StrsAre vs (l.map toS) → vs[i]? = some v → ∃ q u, l[i]? = some q ∧ v = .str (toS q) u := by
  induction l with
  | nil => intro vs i v h e; cases h; exact nomatch e
  | cons x l ih =>
    intro vs i v h e
    cases h with
    | cons _ t r =>
      cases i with
      | zero => exact ⟨x, t, rfl, (Option.some.inj e).symm⟩
      | succ i => exact ih (i := i) r e
theorem fst_is {l : List (List Nat)} : ∀ {lt : List (Str × Tok)}, lt.length = l.length → (∀ (j : Nat) (v : Value), (strValues lt)[j]? = some v → ∃ q u, l[j]? = some q ∧ v = .str (toS q) u) → lt.map (·.1) = l.map toS := by
  induction l with
  | nil => intro lt h _; rw [List.eq_nil_of_length_eq_zero h]; rfl
  | cons x l ih =>
    intro lt h e
    cases lt with
    | nil => exact nomatch h
    | cons z lt =>
      obtain ⟨q, u, e1, e2⟩ := e 0 _ rfl
      rw [List.map_cons, List.map_cons, ih (Nat.succ.inj h) fun j v hv => e (j + 1) v hv, Option.some.inj e1, show z.1 = toS q from (Value.str.inj e2).1]
theorem join_gg {G : Array GenState → Array GenState → Prop} {sep : List Nat} {l : List (List Nat)} {t : Tok} {I : Addr} {fp wr : List Addr} {n : Nat} {St : Nat → Shared → Prop} (Wg : WalksS X.G.prog X.G.w X.A.in4 I fp wr G n (fun i y => ∃ q u, l[i]? = some q ∧ y = .str (toS q) u) St) (hT : ∀ i s, St i s → s.TypeIs (.ref I) "generator") (hst : St 0 s) (hfp : ∀ b ∈ fp, b < s.heap.objs.size) (hI : I ∈ fp)
    (hn : n = l.length) (hs : sm l = true) (hj : joinOk' sep l = true) (hq : ∀ s', Moved wr G s s' → ∀ t' k, Q (.str (Txt.join (toS sep) (l.map toS)) t') { s' with toks := k }) : Do X (call (.builtin "str.join") [.str (toS sep) t, .ref I]) Q s :=
  SC.joinGen Wg.in4_2 hT hst hfp hI (fun j w hw => let ⟨q, u, _, e⟩ := hw; ⟨_, u, e⟩) (fun s' lt hm hacc => by
    have e : lt.map (·.1) = l.map toS := fst_is (((List.length_map (as := lt) fun p => Value.str p.1 p.2).symm.trans hacc.1).trans hn) fun j v h => hacc.2 j v (toA.trans h)
    rw [e]
    exact ⟨joinOk_of (bleN.mp hj), hq s' hm⟩) (hn.symm ▸ sizeLine_ge hs)
theorem joinGen_sound (C : CdOk X.G) (S : Snd X kv) (F : Fx X cl) {o elt : PySem.Expr} {g : Comprehension} {n : Str} {sc : Scope} (I : J X W s) (R : EnvR X.G W ks E env) (h0 : (plainBase o && Nat.beq ap.endLine p.line) = true) (h : joinGen kv ks o (nmS n) elt g sc E k) (P : PK X W k Q) :
    Do X (eval (.Call (.Attribute o n ap) [.GeneratorExp elt [g] sc q] [] p) env) Q s := by
  refine gd_e h fun hb h => and_e hb fun hb h3 => and_e hb fun h1 h2 => bnd_e (eq_of_beq h3) fun r e1 h' => bnd_e h' fun x e2 h' => bnd_e h' fun y e3 h' => and_e (Option.some.inj h') fun h' l3 => and_e h' fun l1 l2 => ?_
  obtain rfl := gView_i e1
  have L := allLoc_ok l1
  rw [nmS_is (t := "join") (by decide +kernel) (by decide +kernel) (beqN.mp h1), nameX_i e2]
  refine and_e h0 fun b1 b2 => call_method (base_plain b1) (few_sound rfl rfl) (line_eq b2) (S.e I R h fun ov h u W₁ s₁ X₁ I₁ hu => str_e (Pm := fun u => MC X p [.GeneratorExp elt [⟨.Name x.1 x.2, r.2, [], 0⟩] sc q] env (Str.ofString "join") u Q s₁) hu.o h fun sep t h => str_meth PySem.F.slot_str_join PySem.F.type_str_join (call_b1 rfl ?_))
  refine gen_list (q := (61, 57)) C F.ok F.hh F.dp (.head _) (R.tr h2) R.glob L.co (L.clos _) L.cell L.it (isLocK_i l2) L.kind (fun _ => by rw [nameX_i e3]; rfl) (cw_sound S I₁ (R.ex X₁) h fun v h u W₂ s₂ X₂ I₂ hu => lstO_e hu h fun l a vs n ha hr h => optW_e h fun l e h => gd_e h fun hb h => gd_e h fun hj h => and_e hb fun hb hl => ?_)
  have hs := allStr_are e hr
  refine ⟨a, vs, n, W₂, fun i y => ∃ q u, l[i]? = some q ∧ y = .str (toS q) u, rfl, ha, I₂, fun cenv A' E' i w s₃ m₂ hsc hw hn hm => ?_, fun gg s₅ I₅ hG => ?_⟩
  · obtain ⟨q, u, hq, rfl⟩ := strs_at hs hw
    exact and_e (List.all_eq_true.mp hb q (List.mem_of_getElem? hq)) fun q1 q2 => wpAny_mono (repl_elt (X := { X with A := A' }) l3 (hsc ▸ L.kind) (hsc ▸ isLocK_i l2) hn hm q1 q2) (fun y s₄ hy => ⟨hy.1.imp' (fun u => q) fun u hu => ⟨u, hq, hu⟩, hy.2⟩) fun _ _ h => h.elim
  · obtain ⟨fp, wr, gk, St, Wg, hst, hT, ha, hfp, hwr, _⟩ := hG
    exact join_gg Wg hT hst hfp ha (hs.length.trans (List.length_map ..)) hl hj fun s' hm t' tk =>
      P _ h _ _ _ (X₁.trans X₂) ((I₂.later I₅ (fun b o hb e => hm.heap b o (fun hw => Nat.lt_irrefl _ (Nat.lt_of_lt_of_le hb (hwr b hw))) e) hm.os (I₅.gens.movedS hm)).toks tk) (rStr _ t')
end
end Mine
end
section
open PySem PySem.W PyProof.Rows
set_option maxRecDepth 100000
set_option genInjectivity false
set_option genSizeOf false
set_option backward.match.sparseCases false
namespace Mine
theorem ex9_i {a₁ a₂ a₃ a₄ a₅ a₆ a₇ a₈ a₉ : Sort _} {p : a₁ → a₂ → a₃ → a₄ → a₅ → a₆ → a₇ → a₈ → a₉ → Prop} (x₁ : a₁) (x₂ : a₂) (x₃ : a₃) (x₄ : a₄) (x₅ : a₅) (x₆ : a₆) (x₇ : a₇) (x₈ : a₈) (x₉ : a₉) (h : p x₁ x₂ x₃ x₄ x₅ x₆ x₇ x₈ x₉) : ∃ x₁ x₂ x₃ x₄ x₅ x₆ x₇ x₈ x₉, p x₁ x₂ x₃ x₄ x₅ x₆ x₇ x₈ x₉ := ⟨x₁, x₂, x₃, x₄, x₅, x₆, x₇, x₈, x₉, h⟩
structure ZMade (X : Cx) (W : Wd) (n l1 l2 : Addr) (xs ys : Array Value) (s₀ : Shared) (h' : Heap) : Prop where
  I : J X W s₀
  sz : s₀.heap.objs.size = n
  k : ∀ b o, s₀.heap.get? b = some o → h'.get? b = some o
  z : ZAt (n + 4) (n + 2) (n + 3) n (n + 1) l1 l2 xs ys 0 .none h'
  lt1 : l1 < n
  lt2 : l2 < n
  t : ∀ q ∈ codesOf, q.2 ≠ l1 ∧ q.2 ≠ l2
section
variable {X : Cx} {cl : Cl} {kv : KEv} {W W' : Wd} {s s' : Shared} {env : Env} {ks : Ks} {E : VEnv} {k : V → Prop} {p q : Pos} {n l1 l2 : Addr} {xs ys : Array Value} {h h' : Heap}
theorem ZAt.at {z TI TO i1 i2 : Addr} {k : Nat} {f0 : Value} (Z : ZAt z TI TO i1 i2 l1 l2 xs ys k f0 h) (hk : ∀ b, b ∈ [z, TI, TO, i1, i2, l1, l2] → ∀ o, h.get? b = some o → h'.get? b = some o) : ZAt z TI TO i1 i2 l1 l2 xs ys k f0 h' := by
  obtain ⟨a, b, hTO⟩ := Z.TO
  exact ⟨hk z (by simp) _ Z.z, hk TI (by simp) _ Z.TI, ⟨a, b, hk TO (by simp) _ hTO⟩, Z.s1.at (fun o e => hk i1 (by simp) o e) fun o e => hk l1 (by simp) o e, Z.s2.at (fun o e => hk i2 (by simp) o e) fun o e => hk l2 (by simp) o e⟩
theorem ZAt.lt {z TI TO i1 i2 : Addr} {k : Nat} {f0 : Value} (Z : ZAt z TI TO i1 i2 l1 l2 xs ys k f0 h) : ∀ b ∈ [z, TI, TO, i1, i2, l1, l2], b < h.objs.size := by
  obtain ⟨a, b, hTO⟩ := Z.TO
  intro b hb
  simp only [List.mem_cons, List.not_mem_nil, or_false] at hb
  rcases hb with rfl | rfl | rfl | rfl | rfl | rfl | rfl
  · exact Heap.lt_size Z.z
  · exact Heap.lt_size Z.TI
  · exact Heap.lt_size hTO
  · exact Z.s1.lt.1
  · exact Z.s2.lt.1
  · exact Z.s1.lt.2
  · exact Z.s2.lt.2
theorem ZMade.low (Z : ZMade X W n l1 l2 xs ys s h') : ∀ b ∈ [n + 4, n + 3, n, n + 1], n ≤ b := by
  intro b hb
  simp only [List.mem_cons, List.not_mem_nil, or_false] at hb
  rcases hb with rfl | rfl | rfl | rfl <;> first | exact Nat.le_add_right _ _ | exact Nat.le_refl _
theorem ZMade.far (Z : ZMade X W n l1 l2 xs ys s h') {c : Addr × Addr} (hc : c ∈ codesOf) : ∀ b ∈ [n + 4, n + 2, n + 3, n, n + 1, l1, l2], b ≠ c.2 := by
  intro b hb
  have e : ∀ m, n ≤ m → m ≠ c.2 := fun m hm => far_tab Z.I hc (Z.sz ▸ hm)
  simp only [List.mem_cons, List.not_mem_nil, or_false] at hb
  rcases hb with rfl | rfl | rfl | rfl | rfl | rfl | rfl
  · exact e _ (Nat.le_add_right _ _)
  · exact e _ (Nat.le_add_right _ _)
  · exact e _ (Nat.le_add_right _ _)
  · exact e _ (Nat.le_refl _)
  · exact e _ (Nat.le_add_right _ _)
  · exact (Z.t c hc).1.symm
  · exact (Z.t c hc).2.symm
theorem gen_zip {c : Addr × Addr} (C : CdOk X.G) (O : GOk X.G) (hh : X.A.handled = none) (hd : X.A.depth < recursionLimit) {elt iter : PySem.Expr} {xa xb : Str} {pa pb pt pos : Pos} {kt : Nat} {sc : Scope} {Q : Value → Shared → Prop}
    (hq : c ∈ codesOf) (hc : env.code = .ref c.1) (hg : env.globals = mainGlobals) (L : LocOk sc)
    (hxa : sc.names.lookup xa = some .local) (hxb : sc.names.lookup xb = some .local) (hab : xa ≠ xb) (hs : ∀ x, genFold iter env x = pure x)
    (h : Do X (eval iter env) (fun xv s₁ => ∃ n l1 l2 xs ys W₁ s₀ h' Fi, xv = .ref (n + 4) ∧ s₁ = { s₀ with heap := h' } ∧ ZMade X W₁ n l1 l2 xs ys s₀ h' ∧
      (∀ (cenv : Env) (A' : Around) (E' : Value → Shared → Prop) i va vb (s₂ : Shared) m₂, cenv.scope = sc → xs[i]? = some va → ys[i]? = some vb → s₂.heap.Ns cenv.locals m₂ → m₂ xa = some va → m₂ xb = some vb →
        wpAny X.G.M A' (eval elt cenv) (fun y s₃ => Fi i y ∧ Keeps s₂ s₃) E' s₂) ∧
      ∀ g s₅, J X W₁ s₅ → GenG X.G.prog X.G.w X.A n g (min xs.size ys.size) Fi s₅ → Q (.ref g) s₅) s) :
    Do X (eval (.GeneratorExp elt [⟨.Tuple [.Name xa pa, .Name xb pb] kt pt, iter, [], 0⟩] sc pos) env) Q s := by
  refine wpAny_GeneratorExp_walksQT hh L.co (L.clos _) L.cell L.it hxa hxb hab L.kind hd (wpAny_mono h (fun xv s₁ h₁ => ?_) fun _ _ e => e) hs
  obtain ⟨n, l1, l2, xs, ys, W₁, s₀, h', Fi, rfl, rfl, Z, helt, hQ⟩ := h₁
  refine wpAny_pyIter_zip Z.z.z ?_
  have I2 := Z.I.keep (tk := s₀.toks) Z.k
  have nl : ∀ {s₂ : Shared}, J X W₁ s₂ → s₂.heap.NoLimit := fun I => O.nolim.keeps fun _ _ => I.hB
  refine ⟨nl I2, gcode C I2 hq hc fun c' h₃ tk I3 hz₃ hx₃ => bt_for O I3 hg ?_⟩
  have Z3 : ZAt (n + 4) (n + 2) (n + 3) n (n + 1) l1 l2 xs ys 0 .none h₃ := Z.z.at fun b hb o e => hx₃ b o (Z.far hq b hb) e
  have hn : n < h₃.objs.size := Z3.s1.lt.1
  refine ex9_i (n + 4) [n + 4, n + 2, n + 3, n, n + 1, l1, l2] [n + 4, n + 3, n, n + 1] (min xs.size ys.size) (fun i vals => ∃ x y, xs[i]? = some x ∧ ys[i]? = some y ∧ vals = #[x, y]) _ _ (fun _ => true) Fi ⟨rfl,
    fun A' hA => (zipT_walks hA (n + 4) (n + 2) (n + 3) n (n + 1) l1 l2 (zipApartT Z.lt1 Z.lt2) xs ys).toU, fun i vals hv => (by obtain ⟨x, y, _, _, e⟩ := hv; exact ⟨x, y, e⟩), Z3, Z3.lt, nl I3, fun hb => (nl Z.I).elim fun _ z => absurd z.1.lt (Nat.not_lt.mpr (Z.sz.symm ▸ Z.low _ hb)),
    fun href hhref => ⟨fun A' E' i va vb s₂ m₂ hA hP hn hma hmb hk => wpAny_tests_nil ⟨rfl, _, _, rfl, fun _ _ e => e⟩, fun A' E' i va vb s₂ m₂ hA hP _ hn hma hmb hk => ?_⟩, fun g h₅ tk' gs hgb hag hsz₅ hk₅ Wk hat => ?_⟩
  · obtain ⟨x, y, e1, e2, e3⟩ := hP
    have e4 := congrArg Array.toList e3
    rw [← (List.cons.inj e4).1] at e1
    rw [← (List.cons.inj (List.cons.inj e4).2).1] at e2
    exact helt _ A' E' i _ _ s₂ m₂ rfl e1 e2 hn hma hmb
  · rw [all_passing, List.length_range] at Wk
    have hgt : n < g := Nat.lt_trans hn hag
    refine hQ g _ (Z.I.later I3 (fun b o _ e => hk₅ b o e) rfl (I3.gens.push hgb)) ⟨_, _, _, _, Wk.imp fun j y hy => ?_, hat, (fun i s' st => st.1.typeIs), List.mem_cons_self, ?_, ?_, Nat.le_of_lt hgt, ?_⟩
    · obtain ⟨i, hi, hF⟩ := hy
      obtain ⟨hj, e⟩ := List.getElem?_eq_some_iff.mp hi
      rw [List.getElem_range] at e
      exact e ▸ hF
    · intro b hb
      show b < h₅.objs.size
      rw [hsz₅]
      rcases List.mem_cons.mp hb with rfl | hb
      · exact Nat.lt_succ_self _
      · rcases List.mem_cons.mp hb with rfl | hb
        · exact Nat.lt_succ_of_lt hag
        · exact Nat.lt_succ_of_lt (Nat.lt_trans (List.mem_range.mp hb) hag)
    · intro b hb
      rcases List.mem_cons.mp hb with rfl | hb
      · exact Nat.le_of_lt hn
      · exact Z.low b hb
    · intro hb
      rcases List.mem_cons.mp hb with e | hb
      · exact absurd (show g = h₃.objs.size from e) (Nat.ne_of_gt hag)
      · have : g < h₃.objs.size := Z3.lt g (by
          simp only [List.mem_cons, List.not_mem_nil, or_false] at hb ⊢
          rcases hb with rfl | rfl | rfl | rfl <;> simp)
        exact absurd (Nat.lt_trans hag this) (Nat.lt_irrefl _)
end
end Mine
end
section
open PySem PySem.W PyProof.Rows
set_option maxRecDepth 100000
set_option genInjectivity false
set_option genSizeOf false
set_option backward.match.sparseCases false
namespace Mine
section
variable {X : Cx} {cl : Cl} {kv : KEv} {W W' : Wd} {s : Shared} {env : Env} {ks : Ks} {E : VEnv} {Q : Value → Shared → Prop} {k : V → Prop} {p fp q : Pos}
theorem ints_at {ns : List Int} : ∀ {vs : List Value} {i : Nat} {v : Value}, IntsAre vs ns → vs[i]? = some v → ∃ n t, ns[i]? = some n ∧ v = .int n t := by
  induction ns with
  | nil => intro vs i v h e; cases h; exact nomatch e
  | cons x l ih =>
    intro vs i v h e
    cases h with
    | cons _ t r =>
      cases i with
      | zero => exact ⟨x, t, rfl, (Option.some.inj e).symm⟩
      | succ i => exact ih (i := i) r e
theorem sums_rel {x : List Int} : ∀ {y : List Int} {us : List Value}, us.length = min x.length y.length → (∀ (i : Nat) (v : Value), us[i]? = some v → ∃ a b t, x[i]? = some a ∧ y[i]? = some b ∧ v = .int (a + b) t) → Rels X.G W (addAll x y) us := by
  have nil : ∀ {us : List Value}, us.length = 0 → us = [] := fun h => List.eq_nil_of_length_eq_zero h
  induction x with
  | nil => intro y us h _; exact nil (h.trans (Nat.zero_min _))
  | cons a x ih =>
    intro y us h e
    cases y with
    | nil => exact nil (h.trans (Nat.min_zero _))
    | cons b y =>
      cases us with
      | nil => rw [List.length_cons, List.length_cons, Nat.succ_min_succ] at h; exact nomatch h
      | cons u us =>
        obtain ⟨m, n, t, e1, e2, e3⟩ := e 0 u rfl
        rw [List.length_cons, List.length_cons, List.length_cons, Nat.succ_min_succ] at h
        refine ⟨u, us, rfl, ?_, ih (Nat.succ.inj h) fun i v hv => e (i + 1) v hv⟩
        rw [e3, ← Option.some.inj e1, ← Option.some.inj e2]
        exact rInt _ _
theorem zipSum_e {x y : List V} {vs : List V} {P : Prop} (h : zipSum x y = some vs) (c : ∀ a b, allInt x = some a → allInt y = some b → sm a = true → vs = addAll a b → P) : P :=
  bnd_e h fun a e1 h => bnd_e h fun b e2 h => bf_e h fun hb h => and_e hb fun h1 _ => c a b e1 e2 h1 (Option.some.inj h).symm
theorem tuple_gg {G : Array GenState → Array GenState → Prop} {a b : List Int} {I : Addr} {fp wr : List Addr} {n : Nat} {St : Nat → Shared → Prop} (Wg : WalksS X.G.prog X.G.w X.A.in4 I fp wr G n (fun i y => ∃ x z t, a[i]? = some x ∧ b[i]? = some z ∧ y = .int (x + z) t) St) (hT : ∀ i s, St i s → s.TypeIs (.ref I) "generator") (hst : St 0 s) (hfp : ∀ b ∈ fp, b < s.heap.objs.size) (hI : I ∈ fp)
    (hn : n = min a.length b.length) (hs : sm a = true) (hq : ∀ s' us, Moved wr G s s' → Rels X.G W (addAll a b) us → Q (.ref s'.heap.objs.size) { s' with heap := s'.heap.push (seqO "tuple" us 0) }) : Do X (call (.type "tuple") [.ref I]) Q s :=
  call_tuple_gen Wg.in4_3 hT hst hfp hI (fun s' acc hm hacc => hq s' acc.toList hm (sums_rel ((Array.length_toList ..).trans (hacc.1.trans hn)) fun i v h => hacc.2 i v (Array.getElem?_toList.symm.trans h)))
    (hn.symm ▸ Nat.le_trans (Nat.min_le_left _ _) (sizeLine_ge hs))
theorem add_names {e : PySem.Expr} {r : PySem.Expr × PySem.Expr × Pos} (h : addX e = some r) : e = .BinOp r.1 .Add r.2.1 r.2.2 := sub_i (p := fun r : PySem.Expr × PySem.Expr × Pos => e = .BinOp r.1 .Add r.2.1 r.2.2) h
theorem tupX_i {e : PySem.Expr} {r : List PySem.Expr} (h : tupX e = some r) : ∃ k p, e = .Tuple r k p := sub_i (p := fun r : List PySem.Expr => ∃ k p, e = .Tuple r k p) h
theorem zipX_i {e : PySem.Expr} {r : Str × Pos × PySem.Expr × PySem.Expr} (h : zipX e = some r) : ∃ p, e = .Call (.Name r.1 r.2.1) [r.2.2.1, r.2.2.2] [] p := by
  have V := view_is e
  unfold zipX at h
  generalize view e = v at V h
  cases v with
  | call z zp as p => exact bnd_e h fun t e1 h => ⟨p, by rw [← Option.some.inj h, ← twoL_i e1]; exact V⟩
  | _ => exact none_i h
theorem tup_far {c : Addr × Addr} {a : Addr} {vs : List Value} {n : Nat} (I : J X W s) (m : c ∈ codesOf) (h : s.heap.get? a = some (seqO "tuple" vs n)) : c.2 ≠ a := fun e => (I.tab c m).2.elim fun ps z => absurd (congrArg Obj.data (Option.some.inj ((congrArg s.heap.get? e).symm.trans z.1 |>.symm.trans h))) Data.noConfusion
theorem zip_sound (C : CdOk X.G) (S : Snd X kv) (F : Fx X cl) {f : Str} {elt : PySem.Expr} {g : Comprehension} {sc : Scope} (I : J X W s) (R : EnvR X.G W ks E env) (h : zipW kv ks f elt g sc E k) (P : PK X W k Q) :
    Do X (eval (.Call (.Name f fp) [.GeneratorExp elt [g] sc q] [] p) env) Q s := by
  refine optW_e h fun w e0 h => gd_e h fun hb h7 => and_e hb fun hb h6 => and_e hb fun hb h5 => and_e hb fun hb h4 => and_e hb fun hb h3 => and_e hb fun h1 h2 => ?_
  refine bnd_e (eq_of_beq h4) fun r e1 h' => bnd_e h' fun es e2 h' => bnd_e h' fun t e3 h' => bnd_e h' fun x e4 h' => bnd_e h' fun y e5 h' => bnd_e h' fun z e6 h' => and_e (Option.some.inj h') fun h' l6 => and_e h' fun h' l5 => and_e h' fun h' l4 => and_e h' fun h' l3 => and_e h' fun l1 l2 => ?_
  obtain rfl := gView_i e1
  obtain ⟨zc, e0⟩ := zipX_i e0
  obtain ⟨kt, pt, e2⟩ := tupX_i e2
  have L := allLoc_ok l1
  have e0 : r.2 = _ := e0
  rw [e2, twoL_i e3, nameX_i e4, nameX_i e5, e0, add_names e6]
  refine isVarOf_i l5 fun p1 v1 d1 => isVarOf_i l6 fun p2 v2 d2 => ?_
  rw [v1, v2]
  refine biIs_e h1 fun h1 => biIs_e h2 fun h2 => wpAny_Call_NameR (name_bi F.ok I R (by decide +kernel) F.bok.tuple h1 (call_t1 rfl ?_))
  refine gen_zip (c := (117, 113)) C F.ok F.hh F.dp (.tail _ (.head _)) (R.ac h3) R.glob L (isLocK_i l2) (isLocK_i l3) (beq_eq_false_iff_ne.mp (not_t l4)) (fun _ => rfl) (wpAny_Call_NameR (name_bi F.ok I R (by decide +kernel) F.bok.zip h2 (PySem.callWith_type (any_noStar (by rw [List.all_cons, List.all_cons, h5, h6]; rfl)) ?_)))
  rw [backTo_cons h5, backTo_cons h6]
  refine Calls.evalArgs_plain (Calls.spliced_cons (S.e I R h7 fun v h u W₁ s₁ X₁ I₁ hu => optW_e h fun pl ep h => Calls.spliced_cons (S.e I₁ (R.ex X₁) h fun v' h u' W₂ s₂ X₂ I₂ hu' => Calls.spliced_nil (optW_e h fun ql eq h => optW_e h fun vs ev h => zipSum_e ev fun na nb ea eb hl e => ?_))))
  refine tup_e I₂ (hu.le X₂.le).o (optW_i (k := (· = pl)) ep rfl) fun l a xs n ha hr el => ?_
  refine tup_e I₂ hu'.o (optW_i (k := (· = ql)) eq rfl) fun l' a' ys n' ha' hr' el' => ?_
  have ia := allInt_are ea (el ▸ hr)
  have ib := allInt_are eb (el' ▸ hr')
  refine zipT_call (tupO ha) (tupO ha') fun h' Z hk hz => ex9_i _ a a' xs.toArray ys.toArray W₂ s₂ h' (fun i y => ∃ x z t, na[i]? = some x ∧ nb[i]? = some z ∧ y = .int (x + z) t) ⟨rfl, rfl, ⟨I₂, rfl, hk, Z, Heap.lt_size ha, Heap.lt_size ha', fun c m => ⟨tup_far I₂ m ha, tup_far I₂ m ha'⟩⟩, fun cenv A' E' i va vb s₃ m₂ hsc hva hvb hn hma hmb => ?_, fun gg s₅ I₅ hG => ?_⟩
  · obtain ⟨m, t1, k1, rfl⟩ := ints_at ia (toA.symm.trans hva)
    obtain ⟨m', t2, k2, rfl⟩ := ints_at ib (toA.symm.trans hvb)
    exact wpAny_BinOp (ldG hn hma (ldG hn hmb (wpAny_add_int ⟨⟨m, m', _, k1, k2, rfl⟩, _, _, rfl, fun _ _ e => e⟩) (hsc ▸ L.kind) (hsc ▸ isLocK_i l3) d2) (hsc ▸ L.kind) (hsc ▸ isLocK_i l2) d1)
  · obtain ⟨fp, wr, gk, St, Wg, hst, hT, hg, hfp, hwr, _⟩ := hG
    refine tuple_gg (W := W₂) Wg hT hst hfp hg (by rw [← ia.length, ← ib.length]; rfl) hl fun s' us hm hus => ?_
    exact Post.tuple (s := s') (l := addAll na nb) (e ▸ (P _ h).aft (X₁.trans X₂)) (I₂.later I₅ (fun b o hb e => hm.heap b o (fun hw => Nat.lt_irrefl _ (Nat.lt_of_lt_of_le hb (hwr b hw))) e) hm.os (I₅.gens.movedS hm)) hus _
theorem gen_ok (C : CdOk X.G) (F : Fx X cl) (S : Snd X kv) : GenOk X kv := ⟨fun I R h P => zip_sound C S F I R h P, fun I R h0 h P => joinGen_sound C S F I R h0 h P, fun I R h0 h P => subRe_sound C S F I R h0 h P⟩
end
end Mine
end
section
open PySem PySem.W PyProof.Rows
set_option maxRecDepth 100000
set_option genInjectivity false
set_option genSizeOf false
set_option backward.match.sparseCases false
namespace Mine
def Role.hid (r : Role) : Role := match r with
  | .fr _ _ o => .hd o
  | r => r
theorem Role.hid_ob (r : Role) : r.hid.ob = r.ob := by cases r <;> rfl
theorem Role.hid_fix (r : Role) : r.hid.fix = true := by cases r <;> rfl
theorem Role.hid_fz {r : Role} {o : Obj} (h : r.hid = .fz o) : r = .fz o := by
  cases r with
  | fr t j o => exact nomatch h
  | _ => exact h
def Role.fzn (r : Role) : Role := .fz r.ob
def Wd.hid (W : Wd) : Wd := { W with rl := fun a => (W.rl a).map Role.hid }
def Wd.back (W U : Wd) : Wd := { W with rl := fun a => match W.rl a with
  | some r => some r
  | none => (U.rl a).map Role.fzn }
section
variable {X : Cx} {W W' U : Wd} {s s' : Shared}
theorem J.at (I : J X W s) (A : Around) : J { X with A := A } W s := ⟨I.rl, I.base, I.tk, I.inj, I.lv, I.tab, I.sys, I.os, I.gens, I.t0⟩
theorem lv_mono {lw lw' : Nat} (h : lw ≤ lw') (L : LvOk lw W) : LvOk lw' W :=
  ⟨fun e => L.1 (Nat.le_zero.mp (e ▸ h)), fun e => by
    rcases Nat.le_one_iff_eq_zero_or_eq_one.mp (e ▸ h) with q | q
    · exact L.1 q _
    · exact L.2 q⟩
theorem hid_e {a : Addr} {r : Role} {P : Prop} (h : W.hid.rl a = some r) (c : ∀ q, W.rl a = some q → q.hid = r → P) : P := (Option.map_eq_some_iff.mp h).elim fun q z => c q z.1 z.2
theorem hid_le : Le W W.hid := ⟨fun a o e => congrArg (Option.map Role.hid) e, fun _ _ e => e⟩
noncomputable abbrev Cx.call (X : Cx) (W : Wd) (lw : Nat) (ow : List Nat) : Cx := { X with lw := lw, tk0 := W.tk, tn := fun z => ow.any (Nat.beq z) && tokN z }
theorem J.call (I : J X W s) {lw : Nat} (ow : List Nat) (h : X.lw ≤ lw) : J (X.call W lw ow) W.hid s :=
  ⟨fun a r e => hid_e e fun q e1 e2 => e2 ▸ (I.rl a q e1).trans (congrArg some q.hid_ob.symm), fun a o e => hid_le.fz a o (I.base a o e), fun k a e => (I.tk k a e).imp fun o z => ⟨hid_le.fz a o z.1, z.2⟩, I.inj, lv_mono (W := W) h I.lv,
    fun q m => ⟨congrArg (Option.map Role.hid) (I.tab q m).1, (I.tab q m).2⟩, I.sys, I.os, I.gens, fun _ _ => rfl⟩
theorem back_e {a : Addr} {r : Role} {P : Prop} (h : (W.back U).rl a = some r) (c : W.rl a = some r → P) (d : ∀ q, W.rl a = none → U.rl a = some q → .fz q.ob = r → P) : P := by
  have h : (match W.rl a with
    | some r => some r
    | none => (U.rl a).map Role.fzn) = some r := h
  cases e : W.rl a with
  | some q => rw [e] at h; exact c (e.trans h)
  | none =>
    rw [e] at h
    exact (Option.map_eq_some_iff.mp h).elim fun q z => d q e z.1 z.2
theorem back_ex : Ex W (W.back U) := by
  refine ⟨fun a r e => ?_, rfl⟩
  show (match W.rl a with
    | some r => some r
    | none => (U.rl a).map Role.fzn) = _
  rw [e]
theorem back_no {a : Addr} (h : W.rl a = none) : (W.back U).rl a = (U.rl a).map Role.fzn := by
  show (match W.rl a with
    | some r => some r
    | none => (U.rl a).map Role.fzn) = _
  rw [h]
theorem back_frz (S : Sx W.hid U) {a : Addr} {o : Obj} (h : U.frz.rl a = some (.fz o)) : (W.back U).rl a = some (.fz o) := by
  have h : (match U.rl a with
    | some (.fr _ _ o) => some (.fz o)
    | r => r) = some (.fz o) := h
  cases e : W.rl a with
  | some r =>
    rw [S.rl a r.hid (congrArg (Option.map Role.hid) e) r.hid_fix] at h
    have h : some r.hid = some (.fz o) := by
      cases r <;> exact h
    exact back_ex.rl a _ (e.trans (congrArg some (Role.hid_fz (Option.some.inj h))))
  | none =>
    rw [back_no e]
    cases q : U.rl a with
    | none => rw [q] at h; exact nomatch h
    | some r =>
      rw [q] at h
      cases r with
      | hd o => exact nomatch h
      | fz o => exact h
      | fr t j o => exact h
theorem back_fz (S : Sx W.hid U) {a : Addr} {o : Obj} (h : U.frz.fz a o) : (W.back U).fz a o := ⟨back_frz S h.1, h.2⟩
theorem J.back {X' : Cx} (I : J X W s) (S : Sx W.hid U) (K : J X' U s') (hG : X'.G = X.G) (ho : X'.os = X.os) : J X (W.back U) s' :=
  ⟨fun a r e => back_e e (fun e => (K.rl a _ (S.rl a _ (congrArg (Option.map Role.hid) e) r.hid_fix)).trans (congrArg some r.hid_ob)) fun q _ e1 e2 => (K.rl a q e1).trans (congrArg some (e2 ▸ rfl)),
    fun a o e => back_ex.rl a _ (I.base a o e), fun k a e => (I.tk k a e).imp fun o z => ⟨back_ex.rl a _ z.1, z.2⟩, I.inj, I.lv, fun q m => ⟨(back_no (I.tab q m).1).trans (congrArg (Option.map _) (K.tab q m).1), (K.tab q m).2⟩, I.sys, K.os.trans ho, K.gens, I.t0⟩
theorem noAtms_all {f : V → Bool} {P R : V → Value → Prop} (H : ∀ v u, f v = true → P v u → R v u) {l : List V} : ∀ {us : List Value}, noAtms f l = true → All2 P l us → All2 R l us := by
  induction l with
  | nil => exact fun _ e => e
  | cons x l ih =>
    intro us h e
    obtain ⟨u, r, e, a, b⟩ := e
    exact and_e h fun h1 h2 => ⟨u, r, e, H _ _ h1 a, ih h2 b⟩
theorem rel_na {G : GI} (hf : ∀ a o, W.fz a o → W'.fz a o) (n : Nat) : ∀ v u, noAtm n v = true → Rel G W v u → Rel G W' v u := by
  induction n with
  | zero => exact fun _ _ h _ => nomatch h
  | succ n ih =>
    intro v u h r
    have h : noAtm1 (noAtm n) v = true := h
    have r := r.un
    refine .mk ?_
    cases v with
    | tup l => obtain ⟨a, vs, m, e, h1, h2⟩ := r; exact ⟨a, vs, m, e, hf _ _ h1, noAtms_all ih h h2⟩
    | lst l => obtain ⟨a, vs, m, e, h1, h2⟩ := r; exact ⟨a, vs, m, e, hf _ _ h1, noAtms_all ih h h2⟩
    | dct ks vs => obtain ⟨a, o, kvs, e, h1, h2, h3, h4⟩ := r; exact ⟨a, o, kvs, e, hf _ _ h1, h2, h3, noAtms_all ih h h4⟩
    | bool b => exact r
    | int b => exact r
    | str b => exact r
    | _ => exact nomatch h
theorem env0_no (x : Nat) (ks : Ks) : lookE x (env0 ks) = .no := by
  induction ks with
  | nil => rfl
  | cons p r ih =>
    show (bif Nat.beq p.1 x then En.no else lookE x (env0 r)) = .no
    rw [ih]; cases Nat.beq p.1 x <;> rfl
theorem bindW_len {ks : Ks} {ps : List Str} : ∀ {vs : List V} {E E' : VEnv}, bindW ks ps vs E = some E' → vs.length = ps.length := by
  induction ps with
  | nil =>
    intro vs E E' h
    cases vs with
    | nil => rfl
    | cons v vs => exact nomatch h
  | cons p ps ih =>
    intro vs E E' h
    cases vs with
    | nil => exact nomatch h
    | cons v vs => exact bf_e h fun _ h => congrArg Nat.succ (ih h)
abbrev bindF (env : Env) (x : Str × Value) (_ : PUnit) : Sem (ForInStep PUnit) := match x with
  | (name, v) => do storeName env name v; pure (ForInStep.yield PUnit.unit)
theorem binds_sound {env : Env} {ks : Ks} {ow : List Nat} {ps : List Str} : ∀ {vs : List V} {us : List Value} {E E' : VEnv} {W : Wd} {s : Shared} {Q : PUnit → Shared → Prop}, J X W s → FrR X.G W ks ow E env → bindW ks ps vs E = some E' → Rels X.G W vs us → PE X W ks ow E' env Q →
    Do X (forIn (ps.zip us) PUnit.unit (bindF env)) Q s := by
  induction ps with
  | nil =>
    intro vs us E E' W s Q I R h hu P
    cases vs with
    | nil =>
      rw [List.zip_nil_left, List.forIn_nil]
      exact wpAny_pure (P W s (Sx.refl W) I (Option.some.inj h ▸ R))
    | cons v vs => exact nomatch h
  | cons p ps ih =>
    intro vs us E E' W s Q I R h hu P
    cases vs with
    | nil => exact nomatch h
    | cons v vs =>
      obtain ⟨u, r, rfl, h1, h2⟩ := hu
      rw [List.zip_cons_cons, List.forIn_cons]
      exact bf_e h fun hk h => wpAny_bind (wpAny_bind (store_val I R hk h1 fun W₁ s₁ X₁ I₁ R₁ => wpAny_pure (ih I₁ R₁ h (Rels.le X₁.le h2) fun W₂ s₂ X₂ => P W₂ s₂ (X₁.trans X₂))))
theorem frame_new {sc : Scope} {ow : List Nat} {env : Env} {cl : List (Str × Addr)} {L : Addr} {W₁ W₂ : Wd} (hk : isFn sc = true) (hs : scOk sc = true) (hf : (kindsOf sc).all fnKind = true) (e1 : env.scope = sc) (e2 : env.globals = mainGlobals) (e3 : env.builtins = builtinsNs) (e4 : env.locals = L) (e5 : env.cells = cl)
    (hL : W₂.rl L = some (.fr 0 0 { cls := .type "frame", data := .dict #[] })) (H : ∀ y, CellN (fun n => .fr 1 (nm n)) W₁ W₂ sc.names [] cl y) (ht : ∀ x, ow.any (Nat.beq x) = true → tokN x = true → W₂.tk x = none)
    (tr : isTr (kindsOf sc) = true → env.code = .ref 61) (ac : isAc (kindsOf sc) = true → env.code = .ref 117) : FrR X.G W₂ (kindsOf sc) ow (env0 (kindsL sc)) env := by
  have hn := scOk_iff hs
  subst e1 e4 e5
  have nf : ∀ x, look x (kindsOf env.scope) ≠ some .free := fun x e => nomatch List.all_eq_true.mp hf _ (look_mem e)
  have cel : ∀ x, okN x → look (nm x) (kindsOf env.scope) = some .cell → ∃ c o, env.cells.lookup x = some c ∧ W₂.rl c = some (.fr 1 (nm x) o) ∧ o.data = .cell none := fun x hx e => by
    rcases H x with ⟨c, o, q1, _, q3, q4, _⟩ | ⟨q, _⟩
    · exact ⟨c, o, q1, q3, q4⟩
    · exact absurd (look_scope hn hx e) q
  refine ⟨⟨isFn_i hk, e2, e3, fun x hx => look_map hn hx, fun x hx hv => ?_, tr, ac⟩, ⟨_, hL⟩, fun x hx e => (cel x hx e).imp fun c z => z.imp fun o z => ⟨z.1, z.2.1⟩, fun x y _ _ e => (nomatch (env0_no _ _).symm.trans e), fun x a b _ => ht x a b, nf⟩
  rw [env0_no]
  cases e : look (nm x) (kindsOf env.scope) with
  | none => rw [e] at hv; exact nomatch hv
  | some k =>
    cases k with
    | «local» => exact ⟨none, slot_loc e ⟨_, fun _ => none, hL, ⟨_, _, rfl, fun e he => by simp at he, fun x => rfl⟩, rfl⟩⟩
    | cell =>
      obtain ⟨c, o, q1, q2, q3⟩ := cel x hx e
      exact ⟨none, slot_cell (.inl e) ⟨c, _, q1, q2, q3⟩⟩
    | free => exact absurd e (nf _)
    | _ => rw [e] at hv; exact absurd (show false = true from hv) Bool.false_ne_true
end
end Mine
end
section
open PySem PySem.W PyProof.Rows
set_option maxRecDepth 100000
set_option genInjectivity false
set_option genSizeOf false
set_option backward.match.sparseCases false
namespace Mine
theorem dfsOf_lv {f : Nat} {d : Df} {l : List PySem.Stmt} (h : look f (dfsOf l) = some d) : d.lv = lvOf f ∧ d.lw = lwOf f := by
  induction l with
  | nil => exact nomatch h
  | cons s l ih =>
    cases s with
    | FunctionDef n a b _ _ _ sc =>
      have h : (bif Nat.beq (nm n) f then some (⟨a.args.map (·.arg), b, sc, ownsOf (nm n), lvOf (nm n), lwOf (nm n)⟩ : Df) else look f (dfsOf l)) = some d := h
      cases e : Nat.beq (nm n) f with
      | true =>
        rw [e] at h
        rw [← Option.some.inj h, ← beqN.mp e]; exact ⟨rfl, rfl⟩
      | false => rw [e] at h; exact ih h
    | _ => exact ih h
theorem look_app {α : Type} {x : Nat} {v : α} {b a : List (Nat × α)} (h : look x (a ++ b) = some v) : look x a = some v ∨ look x b = some v := by
  induction a with
  | nil => exact .inr h
  | cons p a ih =>
    have h : (bif Nat.beq p.1 x then some p.2 else look x (a ++ b)) = some v := h
    show (bif Nat.beq p.1 x then some p.2 else look x a) = some v ∨ _
    cases e : Nat.beq p.1 x with
    | true => rw [e] at h; exact .inl h
    | false => rw [e] at h; exact ih h
theorem clsDfs_lv {f : Nat} {d : Df} {l : List PySem.Stmt} (h : look f (clsDfs l) = some d) : d.lv = lvOf f ∧ d.lw = lwOf f := by
  induction l with
  | nil => exact nomatch h
  | cons s l ih =>
    cases s with
    | ClassDef n a k b => exact (look_app (a := dfsOf b) h).elim dfsOf_lv ih
    | _ => exact ih h
theorem dfs_lv {f : Nat} {d : Df} (h : look f dfs = some d) : d.lv = lvOf f ∧ d.lw = lwOf f := (look_app h).elim dfsOf_lv clsDfs_lv
theorem tokFit_e {lv lw x : Nat} {P : Prop} (h : tokFit lv lw x = true) (ht : tokN x = true) (c : (lv = 0 ∨ (lv = 1 ∧ x = N "STAR")) → (lw = 2 ∨ (lw = 1 ∧ x ≠ N "STAR")) → P) : P := by
  unfold tokFit at h
  rw [ht] at h
  refine and_e (a := Nat.beq lv 0 || (Nat.beq lv 1 && Nat.beq x (N "STAR"))) h fun h1 h2 => c ?_ ?_
  · exact (Bool.or_eq_true_iff.mp h1).imp beqN.mp fun h => and_e h fun a b => ⟨beqN.mp a, beqN.mp b⟩
  · exact (Bool.or_eq_true_iff.mp h2).imp beqN.mp fun h => and_e h fun a b => ⟨beqN.mp a, beqF (not_t b)⟩
theorem any_mem {x : Nat} {l : List Nat} (h : l.any (Nat.beq x) = true) : x ∈ l := (List.any_eq_true.mp h).elim fun y z => beqN.mp z.2 ▸ z.1
section
variable {X : Cx} {cl : Cl} {W W' U : Wd} {s s' : Shared} {k : V → Prop} {Q : Value → Shared → Prop} {d : Df}
theorem same_tk (ht : d.owns.all (tokFit d.lv d.lw) = true) (e : d.lv = d.lw) (z : Nat) : (d.owns.any (Nat.beq z) && tokN z) = false := by
  refine Bool.eq_false_iff.mpr fun h => and_e h fun h1 h2 => tokFit_e (List.all_eq_true.mp ht z (any_mem h1)) h2 fun a b => ?_
  rcases a with a | ⟨a, a'⟩ <;> rcases b with b | ⟨b, b'⟩
  · rw [a, b] at e; exact nomatch e
  · rw [a, b] at e; exact nomatch e
  · rw [a, b] at e; exact nomatch e
  · exact b' a'
theorem back_rel {A : Around} {v : V} {u : Value} (ht : d.owns.all (tokFit d.lv d.lw) = true) (hb : (Nat.beq d.lv d.lw || noAtm 9 v) = true) (S : Sx W.hid U) (K : J { X.call W d.lw d.owns with A := A } U s') (h : Rel X.G U.frz v u) : Rel X.G (W.back U) v u := by
  rcases Bool.or_eq_true_iff.mp hb with e | e
  · exact h.le ⟨fun a o z => back_frz S z, fun z a q => (K.t0 z (same_tk ht (beqN.mp e) z)).symm.trans q⟩
  · exact rel_na (fun a o z => back_fz S z) 9 v u e h
theorem run_sound {f : Nat} {fv : Value} {us : List Value} {as : List V} (C : CdOk X.G) (O : GOk X.G) (B : BOk X.G) (K : FnOk X.G) (hh : X.A.handled = none) (hu : X.A.units + 80 < cLine) (hd : X.A.depth + 1 < recursionLimit)
    (calls : ∀ (lw : Nat) (ow : List Nat) (env : Env), ClAt { X.call W lw ow with A := X.A.deeper env } (clF lw cl)) (I : J X W s) (hf : FnIs X.G f fv) (hl : Nat.ble X.lw (lvOf f) = true) (h : optW (look f dfs) fun d => runW cl d as k) (hr : Rels X.G W as us) (P : PK X W k Q) : Do X (call fv us) Q s := by
  obtain ⟨d, a, o, fd, hd0, rfl, ho, hfd, e1, e2, e3, e4, e5, e6, e7, e8, tr, ac, bnd⟩ := hf
  rw [hd0] at h
  refine gd_e (show gd _ _ from h) fun hb h => optW_e h fun E eE h => and_e hb fun hb b5 => and_e hb fun hb b4 => and_e hb fun hb b3 => and_e hb fun b1 b2 => ?_
  have lv := (dfs_lv hd0).1
  have hle : X.lw ≤ d.lw := Nat.le_trans (bleN.mp hl) (lv ▸ bleN.mp b5)
  refine wpAny_call (codeAny_call_function (Nat.lt_of_succ_lt hd) (I.hB ho) hfd e7 e6 e2 (e8.keeps fun _ _ => I.hB) (bnd (hr.len.trans (bindW_len eE)) ?_))
  rw [e1, e4, e3, e5]
  simp only [newFunctionEnv, Option.isSome_none, Bool.false_eq_true, if_false]
  have I0 := I.call d.owns hle
  have Y := Ex.upd (r := .fr 0 0 { cls := .type "frame", data := .dict #[] }) I0.new
  have lvo := lv_mono (W := W) (lv ▸ bleN.mp hl : X.lw ≤ d.lv) I.lv
  refine wpAny_bind (wpAny_alloc (wpAny_bind (cells_sound (X := { X.call W d.lw d.owns with A := X.A.in1 }) (ρ := fun n => .fr 1 (nm n)) (fun _ _ => rfl) ((I0.push (o := { cls := .type "frame", data := .dict #[] }) (.fr 0 0 _) rfl rfl s.toks).at _) fun cl' W₁ s₁ X₁ I₁ H => ?_)))
  have YY := Y.trans X₁
  refine wpAny_bind (binds_sound (ow := d.owns) I₁ (frame_new (X := X.call W d.lw d.owns) b2 b1 b3 rfl rfl rfl rfl rfl (X₁.rl _ _ Wd.upd_self) H (fun x h1 h2 => (congrFun YY.tk x).trans (tokFit_e (List.all_eq_true.mp b4 x (any_mem h1)) h2 fun a _ => a.elim (fun a => lvo.1 a x) fun a => (congrArg W.tk a.2).trans (lvo.2 a.1))) tr ac) eE (Rels.le (Le.trans hid_le YY.le) hr) fun W₂ s₂ X₂ I₂ R₂ => wpAny_pure ⟨O.nolim.keeps fun _ _ => I₂.hB, codeAny_func ?_⟩)
  have F : ∀ env, Fx { X.call W d.lw d.owns with A := X.A.deeper env } (clF d.lw cl) := fun env => ⟨O, B, K, hh, Nat.lt_of_le_of_lt (Nat.add_le_add_left (by decide : 3 + 64 ≤ 80) X.A.units) hu, hd, calls d.lw d.owns _⟩
  refine wpAny_mono (execs_sound (kev_sound (F _) (gen_ok C (F _)) 40) (fun x h1 h2 => ⟨tokFit_e (List.all_eq_true.mp b4 x (any_mem h1)) h2 fun _ b => b, Bool.and_eq_true_iff.mpr ⟨h1, h2⟩⟩) d.body (I₂.at _) R₂ h fun fl E' hk f W₃ s₃ X₃ I₃ _ hf => ?_) (fun _ _ q => q) fun _ _ q => q.elim
  have SS := YY.sx.trans (X₂.trans X₃)
  cases fl with
  | ret v =>
    obtain ⟨u, rfl, hv⟩ := hf
    exact gd_e (show gd (Nat.beq d.lv d.lw || noAtm 9 v) (k v) from hk) fun hb hk => P v hk u (W.back W₃) s₃ back_ex (I.back SS I₃ rfl rfl) (back_rel b4 hb SS I₃ hv)
  | _ => exact hk.elim
structure MkAt (X : Cx) : Prop where
  cls : ∀ {W : Wd} {s : Shared} {v : V} {fv u : Value} {Q : Value → Shared → Prop}, J X W s → intish v = true → X.G.gval "TupleComp" = some fv → Rel X.G W v u → Post X W (.inst v) Q → Do X (call fv [u]) Q s
  srt : ∀ {W : Wd} {s : Shared} {v : V} {u : Value} {k : V → Prop} {Q : Value → Shared → Prop}, J X W s → sortW v k → RelO X.G W v u → PK X W k Q → Do X (call (.builtin "sorted") [u]) Q s
theorem calls_sound {G : GI} (C : CdOk G) (O : GOk G) (B : BOk G) (K : FnOk G) (M : ∀ X : Cx, X.G = G → X.A.handled = none → X.A.depth + 1 < recursionLimit → MkAt X) (n : Nat) : ∀ X : Cx, X.G = G → X.A.handled = none → X.A.units + 80 + 3 * n < cLine → X.A.depth + n + 1 < recursionLimit → ClAt X (clF X.lw (clN n)) := by
  induction n with
  | zero => exact fun X e hh hu hd => have m := M X e hh hd; ⟨fun _ h => gd_e h fun _ h => (clN_z ▸ h : False).elim, m.cls, m.srt⟩
  | succ n ih =>
    intro X e hh hu hd
    have d1 : X.A.depth + 1 + n + 1 < recursionLimit := Nat.add_right_comm X.A.depth 1 n ▸ hd
    have m := M X e hh (Nat.lt_of_le_of_lt (Nat.succ_le_succ (Nat.le_add_right _ _)) hd)
    subst e
    exact ⟨fun I h hf hr P => gd_e h fun hb h => run_sound C O B K hh (Nat.lt_of_le_of_lt (Nat.le_add_right _ _) hu) (Nat.lt_of_le_of_lt (Nat.succ_le_succ (Nat.le_add_right _ _)) hd) (fun lw ow env => ih _ rfl hh (by show X.A.units + 3 + 80 + 3 * n < _; omega) d1) I hf hb (clN_s ▸ h) hr P, m.cls, m.srt⟩
end
end Mine
end
section
open PySem PySem.W PySem.Calls PyProof.Rows
set_option maxRecDepth 100000
set_option maxHeartbeats 4000000
set_option genInjectivity false
set_option genSizeOf false
set_option backward.match.sparseCases false
namespace Mine
structure MkFrag (G : GI) : Prop where
  gv : G.gval "TupleComp" = some (.ref G.C)
  ex : ∃ (K : Frag) (fI : Addr), K.In G.hB ∧ makesIn K G.C = true ∧ findIn K (.ref G.C) "__init__" = some (some (.ref fI)) ∧ typeIn K (.ref fI) = some (.type "function") ∧ FnIs G (N "__init__") (.ref fI) ∧
    findIn K (.ref G.C) "__setattr__" = some (some (.builtin "object.__setattr__")) ∧ plainOver K G.C = true ∧ takerIn K G.C (Str.ofString "comp_select_list") = some none ∧ (clsIn K G.C).any (·.hasDict) = true
noncomputable def initD : Df := (look (N "__init__") dfs).getD ⟨[], [], default, [], 0, 0⟩
theorem init_is : look (N "__init__") dfs = some initD := by kernel_rfl
theorem init_body : initD.body = [.Assign [.Attribute (.Name (Str.ofString "self") { line := 110, col := 8, endLine := 110, endCol := 12 }) (Str.ofString "comp_select_list") { line := 110, col := 8, endLine := 110, endCol := 29 }]
    (.Name (Str.ofString "comp_select_list") { line := 110, col := 32, endLine := 110, endCol := 48 }) { line := 110, col := 8, endLine := 110, endCol := 48 }] := by kernel_rfl
theorem init_params : initD.params = [Str.ofString "self", Str.ofString "comp_select_list"] := by kernel_rfl
theorem init_kind : initD.scope.kind = .function := by kernel_rfl
theorem init_names : initD.scope.names = [(Str.ofString "self", NameKind.local), (Str.ofString "comp_select_list", NameKind.local)] := by kernel_rfl
theorem init_self : initD.scope.names.lookup (Str.ofString "self") = some .local := by kernel_rfl
theorem init_csl : initD.scope.names.lookup (Str.ofString "comp_select_list") = some .local := by kernel_rfl
section
variable {X : Cx} {W : Wd} {s : Shared} {v : V} {u : Value} {Q : Value → Shared → Prop}
theorem inst_made {h : Heap} {tk : Nat} {o : Obj} (I : J X W s) (hv : Rel X.G W v u) (k : ∀ b o, s.heap.get? b = some o → h.get? b = some o) (h1 : h.get? (s.heap.objs.size + 1) = some (instObj X.G.C s.heap.objs.size)) (h2 : h.get? s.heap.objs.size = some o) (hi : InstO o u)
    (P : Post X W (.inst v) Q) : Q (.ref (s.heap.objs.size + 1)) { s with heap := h, toks := tk } := by
  have n1 : W.rl (s.heap.objs.size + 1) = none := Option.eq_none_iff_forall_ne_some.mpr fun _ e => absurd (I.lt e) (Nat.not_lt.mpr (Nat.le_succ _))
  have I1 : J X (W.upd s.heap.objs.size (.fz o)) { s with heap := h, toks := tk } := (I.keep (tk := tk) k).put (Heap.ExtBut.refl _ _) h2 (fun _ e => nomatch I.new.symm.trans e) fun q m => (far_tab I m (Nat.le_refl _)).symm
  have n2 : (W.upd s.heap.objs.size (.fz o)).rl (s.heap.objs.size + 1) = none := (Wd.upd_ne (Nat.succ_ne_self _)).trans n1
  have I2 := I1.put (tk := tk) (r := .fz (instObj X.G.C s.heap.objs.size)) (Heap.ExtBut.refl _ _) h1 (fun _ e => nomatch n2.symm.trans e) fun q m => (far_tab I m (Nat.le_succ _)).symm
  have E1 := (Ex.upd (r := .fz o) I.new).trans (Ex.upd (r := .fz (instObj X.G.C s.heap.objs.size)) n2)
  have hs : sysModules < s.heap.objs.size := I.sys.elim fun a h => h.elim fun o h => Nat.lt_of_le_of_lt h.2 (I.lt (I.base a o h.1))
  exact P _ _ _ E1 I2 (.mk ⟨_, _, o, u, rfl, ⟨Wd.upd_self, Nat.ne_of_gt (Nat.lt_succ_of_lt hs)⟩, ⟨(Wd.upd_ne (Nat.ne_of_lt (Nat.lt_succ_self _))).trans Wd.upd_self, Nat.ne_of_gt hs⟩, hi, hv.le E1.le⟩)
theorem inst_o {n t : Nat} {h : Int} {u : Value} : InstO { cls := .type "dict", data := .dict #[{ hash := h, key := .str (Str.ofString "comp_select_list") t, val := u }] n } u := by
  refine ⟨rfl, fun y => if y = Str.ofString "comp_select_list" then some u else none, ⟨_, _, rfl, fun e he => ?_, fun y => ?_⟩, fun y hy => if_neg hy, if_pos rfl⟩
  · rw [show e = _ from List.mem_singleton.mp (Array.mem_toList_iff.mpr he)]
    exact ⟨_, _, rfl⟩
  · by_cases hy : y = Str.ofString "comp_select_list"
    · subst hy
      simp [nsFind, findBy, Value.isStr]
    · have : ¬ (Str.ofString "comp_select_list" = y) := fun e => hy e.symm
      simp [nsFind, findBy, Value.isStr, hy, this]
end
end Mine
end
section
open PySem PySem.W PySem.Calls PyProof.Rows
set_option maxRecDepth 1000000
set_option maxHeartbeats 4000000
set_option genInjectivity false
set_option genSizeOf false
set_option backward.match.sparseCases false
namespace Mine
noncomputable def fdOf (d : Data) : Option FuncData := match d with
  | .func fd => some fd
  | _ => none
theorem fdOf_i {d : Data} {fd : FuncData} (h : fdOf d = some fd) : d = .func fd := by
  cases d with
  | func f => exact congrArg _ (Option.some.inj h)
  | _ => exact none_i h
noncomputable def fdIn (K : Frag) (a : Addr) : Option FuncData := (K.lookup a).bind fun o => fdOf o.data
theorem fdIn_at {K : Frag} {a : Addr} {fd : FuncData} (h : fdIn K a = some fd) : ∃ o, K.lookup a = some o ∧ o.data = .func fd :=
  (Option.bind_eq_some_iff.mp h).elim fun o e => ⟨o, e.1, fdOf_i e.2⟩
noncomputable def vsOf (d : Data) : Option (Array Value) := match d with
  | .fields vs => some vs
  | _ => none
theorem vsOf_i {d : Data} {vs : Array Value} (h : vsOf d = some vs) : d = .fields vs := by
  cases d with
  | fields f => exact congrArg _ (Option.some.inj h)
  | _ => exact none_i h
noncomputable def refO (v : Value) : Option Addr := match v with
  | .ref a => some a
  | _ => none
theorem refO_i {v : Value} {a : Addr} (h : refO v = some a) : v = .ref a := by
  cases v with
  | ref b => exact congrArg _ (Option.some.inj h)
  | _ => exact none_i h
noncomputable def strO (v : Option Value) : Option Str := match v with
  | some (.str q _) => some q
  | _ => none
theorem strO_i {v : Option Value} {q : Str} (h : strO v = some q) : ∃ t, v = some (.str q t) := by
  cases v with
  | none => exact none_i h
  | some v =>
    cases v with
    | str q' t => exact ⟨t, Option.some.inj h ▸ rfl⟩
    | _ => exact none_i h
noncomputable def codeIn (K : Frag) (fd : FuncData) : Option Str := (refO fd.code).bind fun c => (K.lookup c).bind fun o => (vsOf o.data).bind fun vs => strO vs[1]?
theorem codeIn_at {K : Frag} {fd : FuncData} {h : Heap} (X : K.In h) (e : codeIn K fd = some fd.qualname) : h.CodeRec fd.code fd.qualname := by
  obtain ⟨c, hc, e⟩ := Option.bind_eq_some_iff.mp e
  obtain ⟨o, ho, e⟩ := Option.bind_eq_some_iff.mp e
  obtain ⟨vs, hv, e⟩ := Option.bind_eq_some_iff.mp e
  obtain ⟨t, hq⟩ := strO_i e
  exact ⟨c, o, vs, t, refO_i hc, X _ _ ho, vsOf_i hv, hq⟩
noncomputable def fnSum (K : Frag) (a : Addr) : Option (Scope × FuncBody × List (Str × Addr) × Addr × Addr × Option Str × Bool × Bool × Value) := (fdIn K a).map fun fd => (fd.scope, fd.body, fd.closure, fd.globals, fd.builtins, codeIn K fd, fd.scope.isGenerator, fd.scope.isCoroutine, fd.code)
noncomputable def dfSum (K : Frag) (a : Addr) (f : Nat) (c : Addr) : Option (Scope × FuncBody × List (Str × Addr) × Addr × Addr × Option Str × Bool × Bool × Value) := (look f dfs).map fun d => (d.scope, .stmts d.body, [], mainGlobals, builtinsNs, (fdIn K a).map (·.qualname), false, false, .ref c)
noncomputable def parOf (f : Nat) : Option (List Str) := (look f dfs).map (·.params)
noncomputable def bindIn (K : Frag) (a : Addr) (vals : List Value) : Option (Sem (List (Str × Value))) := (fdIn K a).map fun fd => bindArgs fd ⟨vals, []⟩
structure FT where
  n : String
  a : Addr
  c : Addr
  ps : List String
noncomputable def glF : List FT := [⟨"translate", 43, 42, ["pat"]⟩, ⟨"escape", 55, 54, ["pattern"]⟩, ⟨"_translate", 62, 61, ["pat", "STAR", "QUESTION_MARK"]⟩, ⟨"_join_translated_parts", 69, 68, ["inp", "STAR"]⟩, ⟨"func_std_string", 104, 103, ["func_name"]⟩, ⟨"add_func_stats", 111, 110, ["target", "source"]⟩, ⟨"add_callers", 118, 117, ["target", "source"]⟩, ⟨"_law_in", 125, 124, ["item", "sign"]⟩, ⟨"_law_field", 132, 131, ["k"]⟩, ⟨"_law_rule", 139, 138, ["x"]⟩, ⟨"_law_entry", 146, 145, ["x"]⟩, ⟨"_law_counts", 153, 152, ["x", "k", "fours"]⟩, ⟨"_law_runs", 158, 157, ["text"]⟩, ⟨"_law_fits", 163, 162, ["runs", "name"]⟩, ⟨"_law_in_order", 168, 167, ["rules", "way"]⟩, ⟨"_law_report", 173, 172, ["rules", "way", "entries", "counts"]⟩, ⟨"_law_shown", 180, 179, ["entry"]⟩, ⟨"_law_takes", 185, 184, ["items", "name"]⟩, ⟨"_law_built_in", 192, 191, ["rule"]⟩, ⟨"_law_means", 199, 198, ["rule", "entry"]⟩, ⟨"_law_due", 206, 205, ["rules", "way", "entry"]⟩, ⟨"_law_told", 211, 210, ["rules", "way", "entries", "counts"]⟩, ⟨"_law_numbers", 216, 215, ["script"]⟩, ⟨"law", 221, 220, ["script"]⟩]
noncomputable def initT : FT := ⟨"__init__", 83, 82, ["self", "comp_select_list"]⟩
noncomputable def cmpT : FT := ⟨"compare", 90, 89, ["self", "left", "right"]⟩
noncomputable def tabF : List FT := initT :: cmpT :: glF
noncomputable def psO (q : FT) : List Str := q.ps.map Str.ofString
noncomputable def tokOk (q : FT) : Bool := (look (N q.n) dfs).all fun d => (!isTr (kindsOf d.scope) || Nat.beq q.c 61) && (!isAc (kindsOf d.scope) || Nat.beq q.c 117)
theorem tab_p : tabF.map (fun q => parOf (N q.n)) = tabF.map (fun q => some (psO q)) := by kernel_rfl
theorem tab_t : tabF.all tokOk = true := by kernel_rfl
structure DefsIn (K : Frag) : Prop where
  s : tabF.map (fun q => fnSum K q.a) = tabF.map (fun q => dfSum K q.a (N q.n) q.c)
  b : ∀ v : Nat → Value, tabF.map (fun q => bindIn K q.a ((List.range q.ps.length).map v)) = tabF.map (fun q => some (pure ((psO q).zip ((List.range q.ps.length).map v))))
theorem rng_is (l : List Value) : (List.range l.length).map (fun j => l.getD j .none) = l := List.ext_getElem (by rw [List.length_map, List.length_range]) fun j h _ => by
  rw [List.getElem_map, List.getElem_range, List.getD_eq_getElem?_getD, List.getElem?_eq_getElem]; rfl
theorem fn_at {G : GI} {K : Frag} (D : DefsIn K) (X : K.In G.hB) (q : FT) (m : q ∈ tabF) : FnIs G (N q.n) (.ref q.a) := by
  have h1 := List.map_inj_left.mp D.s q m
  obtain ⟨d, hd, hp⟩ := Option.map_eq_some_iff.mp (List.map_inj_left.mp tab_p q m)
  have ht := List.all_eq_true.mp tab_t q m
  unfold fnSum dfSum at h1
  unfold tokOk at ht
  rw [hd] at h1 ht
  obtain ⟨fd, hf, h1⟩ := Option.map_eq_some_iff.mp h1
  rw [hf] at h1
  have c2 := congrArg Prod.snd h1
  have c3 := congrArg Prod.snd c2
  have c4 := congrArg Prod.snd c3
  have c5 := congrArg Prod.snd c4
  have c6 := congrArg Prod.snd c5
  have c7 := congrArg Prod.snd c6
  have c8 := congrArg Prod.snd c7
  obtain ⟨o, ho, hod⟩ := fdIn_at hf
  refine ⟨d, q.a, o, fd, hd, rfl, X _ _ ho, hod, congrArg Prod.fst h1, congrArg Prod.fst c2, congrArg Prod.fst c3, congrArg Prod.fst c4, congrArg Prod.fst c5, congrArg Prod.fst c7, congrArg Prod.fst c8, codeIn_at X (congrArg Prod.fst c6), ?_, ?_, fun {A E s vals Q} hl hq => ?_⟩
  · exact fun t => and_e ht fun h _ => (congrArg Prod.snd c8).trans (congrArg Value.ref (beqN.mp ((Bool.or_eq_true_iff.mp h).resolve_left fun e => Bool.false_ne_true ((congrArg (!·) t).symm.trans e))))
  · exact fun t => and_e ht fun _ h => (congrArg Prod.snd c8).trans (congrArg Value.ref (beqN.mp ((Bool.or_eq_true_iff.mp h).resolve_left fun e => Bool.false_ne_true ((congrArg (!·) t).symm.trans e))))
  · have hb := List.map_inj_left.mp (D.b fun j => vals.getD j .none) q m
    have hl : q.ps.length = vals.length := (List.length_map Str.ofString).symm.trans ((congrArg List.length hp).symm.trans hl.symm)
    unfold bindIn at hb
    rw [hf, hl, rng_is] at hb
    exact wpAny_of_eq (Option.some.inj hb) (hp ▸ hq)
end Mine
end
section
open PySem PySem.W PySem.Calls PyProof.Rows
set_option maxRecDepth 1000000
set_option maxHeartbeats 1000000
set_option genInjectivity false
set_option genSizeOf false
set_option backward.match.sparseCases false
namespace Mine
theorem mg_none {K : Frag} {h : Heap} {mg : Str → Option Value} {n : Str} (X : K.In h) (g : h.Ns mainGlobals mg) (e : nsIn K mainGlobals n = some none) : mg n = none := by
  obtain ⟨o, es, ep, ho, hd, hs, hf⟩ := g
  unfold nsIn at e
  split at e
  · rename_i cl di es' ep' sl hk
    have := X _ _ hk
    rw [ho] at this
    cases this
    cases hd
    split at e
    · cases e
    · rename_i hn
      rw [← hf n]
      unfold nsFind findBy
      rw [← Array.find?_toList, hn]
      rfl
  · cases e
noncomputable def joinG (w : World) (mg mb : Str → Option Value) (h : Heap) : GI := { prog := PySem.Challenge.rw_in0232_01.row.prog, w, hB := hideAll h [57, 113], mg, mb, C := 93, cmpv := .ref 90 }
noncomputable def bT : List (String × Value) := [("len", .builtin "len"), ("range", .type "range"), ("list", .type "list"), ("tuple", .type "tuple"), ("sum", .builtin "sum"), ("min", .builtin "min"), ("sorted", .builtin "sorted"), ("str", .type "str"), ("isinstance", .builtin "isinstance"), ("object", .type "object"), ("zip", .type "zip")]
noncomputable def gT : List (String × Value) := ("TupleComp", .ref 93) :: ("_special_chars_map", .ref 45) :: ("_twin_re_1", .ref 36) :: glF.map fun q => (q.n, .ref q.a)
noncomputable def specL : List (Nat × Nat × Nat) := [(40, 334, 338), (41, 340, 344), (91, 346, 350), (93, 352, 356), (123, 358, 362), (125, 364, 368), (63, 370, 374), (42, 376, 380), (43, 382, 386), (45, 388, 392), (124, 394, 398), (94, 400, 404), (36, 406, 410), (92, 412, 416), (46, 418, 422), (38, 424, 428), (126, 430, 434), (35, 436, 440), (32, 442, 446), (9, 448, 452), (10, 454, 458), (13, 460, 464), (11, 466, 470), (12, 472, 476)]
noncomputable def specE (p : Nat × Nat × Nat) : DictEntry := { hash := p.1, key := .int p.1 p.2.1, val := .str ⟨#[92, p.1]⟩ p.2.2 }
structure HeadOk (K : Frag) : Prop where
  D : DefsIn K
  bn : bT.map (fun q => nsIn K mainGlobals (Str.ofString q.1)) = bT.map (fun _ => some none)
  gn : gT.map (fun q => nsIn K mainGlobals (Str.ofString q.1)) = gT.map (fun q => some (some q.2))
  no : [57, 113].map (fun a => K.lookup a) = [57, 113].map (fun _ => none)
  so : K.lookup 45 = some { cls := .type "dict", data := .dict (specL.map specE).toArray 24 }
  to : K.lookup 36 = some { cls := .type "re.Pattern", data := .fields #[.str (Str.ofString "([&~|])") 285, .int 32 320, .int 1 0, .none, .none, .ref 35, .int 0 0] }
  tc : K.lookup 35 = some { cls := .type "tuple", data := .seq (reCode.map fun (c : Nat) => Value.int (c : Int) 0) }
  f5 : ["__getattribute__", "comp_select_list", "__getattr__", "compare", "__init__", "__setattr__"].map (fun n => findIn K (.ref 93) (Str.ofString n)) = [some (some (.builtin "object.__getattribute__")), some none, some none, some (some (.ref 90)), some (some (.ref 83)), some (some (.builtin "object.__setattr__"))]
  ty : [Value.ref 90, .ref 83].map (typeIn K) = [some (.type "function"), some (.type "function")]
  b5 : [hasDictIn K 93, makesIn K 93, plainOver K 93, (clsIn K 93).any (·.hasDict), keepIn K (.ref 93)] = [true, true, true, true, true]
  tk : takerIn K 93 (Str.ofString "comp_select_list") = some none
theorem bT_b : bT.map (fun q => bootBuiltins (Str.ofString q.1)) = bT.map (fun q => some q.2) := by kernel_rfl
theorem bT_x : bT.all (fun q => !decide (Str.ofString q.1 = "__name__")) = true := by decide +kernel
theorem l_at {α : Type} {l k : List α} (h : l = k) (j : Nat) {x y : α} (h1 : l[j]? = some x) (h2 : k[j]? = some y) : x = y := Option.some.inj (h1.symm.trans (h ▸ h2))
structure Base (K : Frag) (mg mb : Str → Option Value) (h : Heap) : Prop where
  X : K.In h
  H : HeadOk K
  g : h.Ns mainGlobals mg
  b : h.Ns builtinsNs mb
  bt : ∀ x : Str, x ≠ "__name__" → mb x = bootBuiltins x
  nl : h.NoLimit
  bm : ∃ bm ob, mg "__builtins__" = some (.ref bm) ∧ bm ≠ builtinsNs ∧ h.get? bm = some ob ∧ ob.cls = .type "module" ∧ ob.dict = some builtinsNs ∧ ob.data = .plain
  t1 : CodeHd h 61 57 ∧ h.get? 57 = some (tabObj #[])
  t2 : CodeHd h 117 113 ∧ h.get? 113 = some (tabObj #[])
theorem not_two {l : List Addr} {a : Addr} (h : l.contains a = false) : a ∉ l := fun m => Bool.false_ne_true (h.symm.trans (List.elem_iff.mpr m))
section
variable {w : World} {K : Frag} {mg mb : Str → Option Value} {h : Heap}
theorem hB_get {b : Addr} {o : Obj} (e : h.get? b = some o) (hb : b ∉ [57, 113]) : (joinG w mg mb h).hB.get? b = some o := hideAll_get _ e hb
theorem KB (B : Base K mg mb h) : K.In (joinG w mg mb h).hB := fun a o e => hB_get (B.X a o e) fun m => none_i ((List.map_inj_left.mp B.H.no a m).symm.trans e)
theorem gv_bi (B : Base K mg mb h) (j : Nat) {n : String} {v : Value} (m : bT[j]? = some (n, v)) : (joinG w mg mb h).gval (Str.ofString n) = some v := by
  have m := List.mem_of_getElem? m
  show (match mg (Str.ofString n) with | some v => some v | none => mb (Str.ofString n)) = some v
  rw [mg_none B.X B.g (List.map_inj_left.mp B.H.bn _ m)]
  refine (B.bt _ fun e => ?_).trans (List.map_inj_left.mp bT_b _ m)
  have := List.all_eq_true.mp bT_x _ m
  exact Bool.false_ne_true ((congrArg (!·) (decide_eq_true e)).symm.trans this)
theorem gv_mem (B : Base K mg mb h) {q : String × Value} (m : q ∈ gT) : (joinG w mg mb h).gval (Str.ofString q.1) = some q.2 := by
  show (match mg (Str.ofString q.1) with | some v => some v | none => mb (Str.ofString q.1)) = some q.2
  rw [mg_of B.X B.g (List.map_inj_left.mp B.H.gn q m)]
theorem gv_mg (B : Base K mg mb h) (j : Nat) {n : String} {v : Value} (m : gT[j]? = some (n, v)) : (joinG w mg mb h).gval (Str.ofString n) = some v := gv_mem B (List.mem_of_getElem? m)
theorem spec_names : special = specL.map (·.1) := by kernel_rfl
theorem spec_find (c : Nat) (L : List (Nat × Nat × Nat)) : (strIn c (L.map (·.1)) = true → ∃ t, ((L.map specE).find? fun e => Value.isInt (c : Int) e.key).map (·.val) = some (.str ⟨#[92, c]⟩ t)) ∧
    (strIn c (L.map (·.1)) = false → ((L.map specE).find? fun e => Value.isInt (c : Int) e.key).map (·.val) = none) := by
  induction L with
  | nil => exact ⟨fun h => (nomatch h), fun _ => rfl⟩
  | cons p L ih =>
    rw [List.map_cons, List.map_cons, List.find?_cons, show strIn c (p.1 :: L.map (·.1)) = (bif Nat.beq c p.1 then true else strIn c (L.map (·.1))) from rfl]
    by_cases e : c = p.1
    · rw [show Value.isInt (c : Int) (specE p).key = true from e ▸ (by simp [specE, Value.isInt]), e, Nat.beq_refl]
      exact ⟨fun _ => ⟨p.2.2, rfl⟩, fun h => (nomatch h)⟩
    · rw [show Value.isInt (c : Int) (specE p).key = false from beq_eq_false_iff_ne.mpr fun q => e (Int.ofNat_inj.mp q).symm, show Nat.beq c p.1 = false from Bool.eq_false_iff.mpr fun q => e (beqN.mp q)]
      exact ih
theorem spec_keys : KeysOf (PySem.intKind (PySem.Challenge.rw_in0232_01.row.prog) w) (specL.map specE).toArray := fun e he => by
  obtain ⟨p, hp, rfl⟩ := List.mem_map.mp (List.mem_toArray.mp he)
  refine ⟨(p.1 : Int), beq_self_eq_true _, ?_⟩
  exact of_decide_eq_true (List.all_eq_true.mp (show specL.all (fun q => decide (((q.1 : Nat) : Int) = hashInt (q.1 : Int))) = true by kernel_rfl) p hp)
theorem spec_tab (B : Base K mg mb h) : SpecTab (joinG w mg mb h).prog w (joinG w mg mb h).hB 45 := by
  refine ⟨by decide, _, ⟨_, _, _, KB B _ _ B.H.so, ⟨rfl, rfl, rfl⟩, rfl, spec_keys, fun k => rfl⟩, fun c => ?_⟩
  have := spec_find c specL
  rw [← spec_names] at this
  unfold findBy
  rw [← Array.find?_toList]
  exact this
theorem twin_ok (B : Base K mg mb h) : TwinRe (joinG w mg mb h).hB 36 :=
  ⟨35, _, _, _, _, _, _, _, _, KB B _ _ B.H.to, KB B _ _ B.H.tc, by kernel_rfl⟩
theorem cls_ok (B : Base K mg mb h) : ClsOk (joinG w mg mb h) := ⟨K, KB B, l_at B.H.f5 0 rfl rfl, l_at B.H.b5 0 rfl rfl, l_at B.H.f5 1 rfl rfl, l_at B.H.f5 2 rfl rfl, 90, rfl, l_at B.H.f5 3 rfl rfl, l_at B.H.ty 0 rfl rfl⟩
theorem b_ok (B : Base K mg mb h) : BOk (joinG w mg mb h) where
  len := gv_bi B 0 rfl
  range := gv_bi B 1 rfl
  list := gv_bi B 2 rfl
  tuple := gv_bi B 3 rfl
  sum := gv_bi B 4 rfl
  min := gv_bi B 5 rfl
  sorted := gv_bi B 6 rfl
  str := gv_bi B 7 rfl
  isinstance := gv_bi B 8 rfl
  object := gv_bi B 9 rfl
  zip := gv_bi B 10 rfl
  cls := cls_ok B
  twin := ⟨36, gv_mg B 2 rfl, twin_ok B⟩
  spec := ⟨45, gv_mg B 1 rfl, spec_tab B⟩
noncomputable def okName (y : Nat) : Bool := Nat.beq y (N "TupleComp") || glF.any fun q => Nat.beq y (N q.n)
theorem fn_names : fnNames.all okName = true := by kernel_rfl
theorem fn_fine : glF.all (fun q => okB (Str.ofString q.n)) = true := by kernel_rfl
theorem tc_fine : okB (Str.ofString "TupleComp") = true := by kernel_rfl
theorem fn_cmp (B : Base K mg mb h) : FnIs (joinG w mg mb h) (N "compare") (joinG w mg mb h).cmpv := by
  have h := fn_at B.H.D (KB (w := w) B) cmpT (.tail _ (.head _))
  exact h
theorem fn_init (B : Base K mg mb h) : FnIs (joinG w mg mb h) (N "__init__") (.ref 83) := by
  have h := fn_at B.H.D (KB (w := w) B) initT (.head _)
  exact h
theorem fn_law (B : Base K mg mb h) : FnIs (joinG w mg mb h) (N "law") (.ref 221) := by
  have h := fn_at B.H.D (KB (w := w) B) ⟨"law", 221, 220, ["script"]⟩ (List.mem_of_getElem? (show tabF[25]? = _ from rfl))
  exact h
theorem fn_ok (B : Base K mg mb h) : FnOk (joinG w mg mb h) where
  cmp := fn_cmp B
  fn := fun x hx hf => by
    obtain ⟨y, hy, he⟩ := List.any_eq_true.mp hf
    refine (Bool.or_eq_true_iff.mp (List.all_eq_true.mp fn_names y hy)).elim (fun e => ?_) fun e => ?_
    · have e := (beqN.mp he).trans (beqN.mp e)
      exact ⟨_, (nm_is hx tc_fine e).symm ▸ gv_mg B 0 rfl, .inr e⟩
    · obtain ⟨q, hq, e⟩ := List.any_eq_true.mp e
      have e := (beqN.mp he).trans (beqN.mp e)
      exact ⟨.ref q.a, (nm_is hx (List.all_eq_true.mp fn_fine q hq) e).symm ▸ gv_mem B (q := (q.n, .ref q.a)) (.tail _ (.tail _ (.tail _ (List.mem_map_of_mem (f := fun q : FT => (q.n, Value.ref q.a)) hq)))), .inl (e.symm ▸ fn_at B.H.D (KB B) q (.tail _ (.tail _ hq)))⟩
  cw := fun {A E s pos args fv Q} hg hs hw => by
    have e : fv = .ref 93 := Option.some.inj (hg.symm.trans (gv_mg B 0 rfl))
    subst e
    exact callWith_of (P := fun h' => K.In h') (by rw [hs]; rfl) (keeps_K (l_at B.H.b5 4 rfl rfl)) (wpAny_mono hw (fun a s₁ h₁ => ⟨fun b o e => h₁.1 b o (KB B b o e), by simpa using h₁.2⟩) fun _ _ e => e)
theorem ns_hide {a : Addr} {m : Str → Option Value} (g : h.Ns a m) (hb : a ∉ [57, 113]) : (hideAll h [57, 113]).Ns a m := by
  obtain ⟨o, es, ep, ho, r⟩ := g
  exact ⟨o, es, ep, hideAll_get _ ho hb, r⟩
theorem g_ok (B : Base K mg mb h) : GOk (joinG w mg mb h) where
  g := ns_hide B.g (by decide)
  b := ns_hide B.b (by decide)
  nolim := B.nl.elim fun mc h => ⟨mc, ns_hide h.1 (by decide), h.2⟩
  bm := by
    obtain ⟨bm, ob, b1, b2, b3, b4, b5, b6⟩ := B.bm
    refine ⟨bm, ob, b1, b2, fun q => ?_, hB_get b3 fun m => ?_, b4, b5, b6⟩
    · obtain ⟨o, es, ep, ho, hd, _⟩ := B.g
      rw [q, ho] at b3; cases b3; rw [hd] at b6; cases b6
    · rcases List.mem_cons.mp m with rfl | m
      · rw [B.t1.2] at b3; cases b3; cases b4
      · rw [List.mem_singleton.mp m, B.t2.2] at b3; cases b3; cases b4
theorem mk_frag (B : Base K mg mb h) : MkFrag (joinG w mg mb h) :=
  ⟨gv_mg B 0 rfl, K, 83, KB B, l_at B.H.b5 1 rfl rfl, l_at B.H.f5 4 rfl rfl, l_at B.H.ty 1 rfl rfl, fn_init B, l_at B.H.f5 5 rfl rfl, l_at B.H.b5 2 rfl rfl, B.H.tk, l_at B.H.b5 3 rfl rfl⟩
theorem hd_hide {c P : Addr} (x : CodeHd h c P) (hb : c ∉ [57, 113]) : CodeHd (hideAll h [57, 113]) c P :=
  x.imp fun _ => .imp fun _ => .imp fun _ => .imp fun _ => .imp fun _ => .imp fun _ => .imp fun _ => .imp fun _ => .imp fun _ => And.imp_left (hideAll_get _ · hb)
theorem cd_ok (B : Base K mg mb h) : CdOk (joinG w mg mb h) := fun q m => by
  rcases List.mem_cons.mp m with rfl | m
  · exact hd_hide B.t1.1 (by decide)
  · rw [List.mem_singleton.mp m]
    exact hd_hide B.t2.1 (by decide)
end
end Mine
end
section
open PySem PySem.W PySem.Calls PyProof.Rows
set_option maxRecDepth 100000
set_option maxHeartbeats 4000000
set_option genInjectivity false
set_option genSizeOf false
set_option backward.match.sparseCases false
namespace Mine
section
variable {X : Cx} {W : Wd} {s : Shared} {v : V} {u : Value} {Q : Value → Shared → Prop}
theorem init_exec {K : Frag} {h₀ : Heap} {A : Around} {a d C : Addr} {env : Env} {m : Str → Option Value} {E : Value → Shared → Prop} {prog : Program} {w : World} {Q : Flow → Shared → Prop} (hX : K.In s.heap) (m6 : findIn K (.ref C) "__setattr__" = some (some (.builtin "object.__setattr__"))) (m7 : plainOver K C = true)
    (m8 : takerIn K C (Str.ofString "comp_select_list") = some none) (m9 : (clsIn K C).any (·.hasDict) = true) (F : Fr h₀ env.locals s.heap m) (Nn : News h₀ env.locals s.heap ([(a, instObj C d)] ++ (d, emptyDict) :: [])) (hne : a ≠ d) (e1 : env.scope = initD.scope)
    (ms : m (Str.ofString "self") = some (.ref a)) (mc : m (Str.ofString "comp_select_list") = some u)
    (P : ∀ h' tk n t, (∀ b o, h₀.get? b = some o → h'.get? b = some o) → h'.get? a = some (instObj C d) → h'.get? d = some { cls := .type "dict", data := .dict #[{ hash := t, key := .str (Str.ofString "comp_select_list") n, val := u }] 1 } → Q .next { s with heap := h', toks := tk }) :
    wpAny (model prog w) A (execs initD.body env) Q E s := by
  have k := (congrArg Scope.kind e1).trans init_kind
  have l1 := (congrArg (fun sc : Scope => sc.names.lookup (Str.ofString "self")) e1).trans init_self
  have l2 := (congrArg (fun sc : Scope => sc.names.lookup (Str.ofString "comp_select_list")) e1).trans init_csl
  have ha := (Nn _ (.head _)).1
  have hd := (Nn _ (.tail _ (.head _))).1
  rw [init_body]
  refine wpAny_execs_cons (plainObj_wpAny_Assign_Attribute (ldG (v := u) F.ns mc (ldG (v := .ref a) F.ns ms ?_ k l1 (by decide +kernel)) k l2 (by decide +kernel)) rfl)
  refine set_plain (K := K) hX (ox := instObj C d) (C := C) (od := some emptyDict) ⟨ha, rfl, rfl, hd⟩ m6 ?_
  refine osa_dict (K := K) (C := C) (x := a) (ox := instObj C d) (od := emptyDict) (dx := d) (es := [{ hash := PyData.keyHash w.params (Str.ofString "comp_select_list"), key := .str (Str.ofString "comp_select_list") (s.toks + 1), val := u }]) (n := 1) F Nn hX
      ⟨ha, rfl, rfl, hd⟩ rfl m7 m8 m9 rfl (fun p hq => List.mem_singleton.mp hq ▸ hne) (fun p hq => nomatch hq) rfl rfl (show 1 ≤ 1000 by decide) fun h2 F2 N2 => ?_
  exact wpAny_execs_nil (P _ _ _ _ F2.keep (N2 _ (.head _)).1 (N2 _ (.tail _ (.head _))).1)
theorem mk_cls (M : MkFrag X.G) (O : GOk X.G) (hd : X.A.depth + 1 < recursionLimit) {fv : Value} (I : J X W s) (hg : X.G.gval "TupleComp" = some fv) (hv : Rel X.G W v u) (P : Post X W (.inst v) Q) : Do X (call fv [u]) Q s := by
  obtain ⟨K, fI, m1, m2, m3, m4, m5, m6, m7, m8, m9⟩ := M.ex
  obtain rfl : fv = .ref X.G.C := Option.some.inj (hg.symm.trans M.gv)
  have hK : K.In s.heap := fun b ob hb => I.hB (m1 b ob hb)
  obtain ⟨d, a0, o0, fd, q0, ea, ho, hfd, e1, e2, e3, e4, e5, e6, e7, e8, _, _, bnd⟩ := m5
  obtain rfl : d = initD := Option.some.inj (q0.symm.trans init_is)
  obtain rfl := Value.ref.inj ea
  obtain ⟨hp, g, dr, t, os⟩ := s
  refine wpAny_call (make_core (makes_of hK m2) (looks_findIn hK m3) (fun self => bind_fn hK self m4) (.inl rfl) ?_)
  have k2 : ∀ b o, hp.get? b = some o → ((hp.push emptyDict).push (instObj X.G.C hp.objs.size)).get? b = some o := fun b o e => Heap.get?_push_of_some _ (Heap.get?_push_of_some _ e)
  have kB : ∀ b o, X.G.hB.get? b = some o → ((hp.push emptyDict).push (instObj X.G.C hp.objs.size)).get? b = some o := fun b o e => k2 b o (I.hB e)
  refine codeAny_call_function hd (kB _ _ ho) hfd e7 e6 e2 (e8.keeps kB) (bnd (vals := [.ref (hp.objs.size + 1), u]) (by rw [init_params]; rfl) ?_)
  rw [init_params]
  refine wpAny_newFunctionEnv (fun x hx => ?_) (fun x hx => ?_) (fun h₁ hns hsb => ⟨(O.nolim.keeps kB).fresh _ hsb, codeAny_func ?_⟩) ((congrArg Scope.kind e1).trans init_kind)
  · rw [e1, init_names] at hx
    rcases List.mem_cons.mp hx with rfl | hx
    · exact NameKind.noConfusion
    · rw [List.mem_singleton.mp hx]; exact NameKind.noConfusion
  · rw [e1]
    rcases List.mem_cons.mp hx with rfl | hx
    · exact init_self
    · rw [List.mem_singleton.mp hx]; exact init_csl
  have hL : ((hp.push emptyDict).push (instObj X.G.C hp.objs.size)).objs.size = hp.objs.size + 2 := by rw [Heap.size_push, Heap.size_push]
  have up : ∀ b o, ((hp.push emptyDict).push (instObj X.G.C hp.objs.size)).get? b = some o → h₁.get? b = some o := fun b o e => hsb.extBut b o (Nat.ne_of_lt (Heap.lt_size e)) (Heap.get?_push_of_some _ e)
  have hx : h₁.get? (hp.objs.size + 1) = some (instObj X.G.C hp.objs.size) := up _ _ (Heap.size_push (h := hp) emptyDict ▸ Heap.get?_push_size (hp.push emptyDict) (o := instObj X.G.C hp.objs.size) rfl)
  have fr : ∀ b, hp.objs.size ≤ b → hp.get? b = none := fun b hb => Heap.get?_none_of_le hb
  refine init_exec (h₀ := hp) (a := hp.objs.size + 1) (d := hp.objs.size) (u := u) (fun b ob hb => up b ob (kB b ob (m1 b ob hb))) m6 m7 m8 m9 ⟨hns, fun b o e => up b o (k2 b o e), by rw [hL]; exact Nat.le_add_right _ _⟩ (fun p hq => ?_) (Nat.succ_ne_self _) e1 rfl rfl fun h' tk n t k h1 h2 => ⟨rfl, inst_made I hv k h1 h2 inst_o P⟩
  rw [hL]
  rcases List.mem_cons.mp hq with rfl | hq
  · exact ⟨hx, Nat.ne_of_lt (Nat.lt_succ_self _), fr _ (Nat.le_succ _)⟩
  · rw [List.mem_singleton.mp hq]
    exact ⟨up _ _ (Heap.get?_push_of_some _ (Heap.get?_push_size _ rfl)), Nat.ne_of_lt (Nat.lt_add_of_pos_right (by decide)), fr _ (Nat.le_refl _)⟩
end
end Mine
end
section
open PySem PySem.W PySem.Calls PyProof.Rows
set_option maxRecDepth 100000
set_option maxHeartbeats 4000000
set_option genInjectivity false
set_option genSizeOf false
set_option backward.match.sparseCases false
namespace Mine
section
variable {prog : Program} {w : World} {A : Around} {E : Value → Shared → Prop} {s : Shared} {vs : List Value} {Rz : List Value → Prop}
def SortP (Rz : List Value → Prop) (a : Addr) (s : Shared) (f : PySem.Fin) (s' : Shared) : Prop := f = .done (.ret .none) ∧ ∃ h' us c, s' = { s with heap := h' } ∧ (∀ b o, b ≠ a → s.heap.get? b = some o → h'.get? b = some o) ∧ h'.get? a = some (seqO "list" us c) ∧ Rz us
def MidP (prog : Program) (w : World) (A : Around) (vs : List Value) (Rz : List Value → Prop) (s : Shared) : Prop :=
  wpAny (model prog w) A (if vs.toArray.size < 2 then pure general' else keyKind' vs.toArray) (fun κ s1 => wpAny (model prog w) A ((if vs.toArray.size < 2 then pure () else sortRuns').run (SortSt.mk' κ (vs.toArray.zip vs.toArray) #[] 7 none))
    (fun p s' => s' = s ∧ failedOf p.2 = none ∧ ∃ us, (arrOf p.2).map (·.2) = us.toArray ∧ us.length < 64 ∧ Rz us) (fun _ _ => False) s1) (fun _ _ => False) s
theorem sz_line {n : Nat} (h : n < 64) : n ≤ sizeLine := sizeLine_eq ▸ Nat.le_trans (Nat.le_of_lt h) (by decide)
theorem if_bind {M : Model} {α β : Type} {c : Prop} [Decidable c] {x y : Sem α} {f : α → Sem β} {Q : β → Shared → Prop} (h : wpAny M A (if c then x else y) (fun a s => wpAny M A (f a) Q E s) E s) : wpAny M A (if c then x >>= f else y >>= f) Q E s := by
  by_cases hc : c
  · rw [if_pos hc] at h ⊢; exact wpAny_bind h
  · rw [if_neg hc] at h ⊢; exact wpAny_bind h
theorem own_list_sort {a : Addr} {n : Nat} (ho : s.heap.get? a = some (seqO "list" vs n)) (h64 : vs.length < 64) (hm : ∀ h', (∀ b o, b ≠ a → s.heap.get? b = some o → h'.get? b = some o) → MidP prog w A vs Rz { s with heap := h' }) :
    wpAny (model prog w) A (Builtin.«list.sort» ⟨[.ref a], []⟩) (SortP Rz a s) E s := by
  have s1 := Heap.SameBut.update s.heap a (Obj.mapSeq fun _ => (#[] : Array Value))
  obtain ⟨e1, ho1⟩ : ∃ e1, (s.heap.update a (Obj.mapSeq fun _ => (#[] : Array Value))).get? a = some (seqO "list" [] e1) := ⟨_, get?_update_seq ho fun _ => #[]⟩
  rw [list_sort_plain]
  refine wpAny_bind (listItems_at ho rfl (wpAny_bind (listUpdate_at ho rfl ?_ (sz_line h64) (Nat.zero_le _))))
  generalize s.heap.update a (Obj.mapSeq fun _ => (#[] : Array Value)) = h1 at s1 ho1 ⊢
  refine wpAny_bind (seqEpoch_at ho1 rfl (wpAny_bind (wpAny_newTuple (wpAny_bind (wpAny_newList (wpAny_holding ?_) (Nat.zero_le _))) (sz_line h64))))
  have hoA : ((h1.push (seqO "tuple" vs 0)).push (seqO "list" [] 0)).get? a = some (seqO "list" [] e1) := Heap.get?_push_of_some _ (Heap.get?_push_of_some _ ho1)
  have k : ∀ b o, b ≠ a → s.heap.get? b = some o → ((h1.push (seqO "tuple" vs 0)).push (seqO "list" [] 0)).get? b = some o := fun b o hb e => Heap.get?_push_of_some _ (Heap.get?_push_of_some _ ((s1.2 b hb).trans e))
  have hm := hm _ k
  change wpAny (model prog w) A _ _ E { s with heap := (h1.push (seqO "tuple" vs 0)).push (seqO "list" [] 0) }
  generalize (h1.push (seqO "tuple" vs 0)).push (seqO "list" [] 0) = h2 at hoA k hm ⊢
  dsimp only
  refine if_bind (wpAny_mono hm (fun κ s0 hk => wpAny_bind (wpAny_mono hk (fun p s' hp => ?_) fun _ _ x => x.elim)) fun _ _ x => x.elim)
  obtain ⟨⟨⟩, st⟩ := p
  obtain ⟨rfl, hf, us, hu, hz, hr⟩ := hp
  dsimp only at hf hu ⊢
  rw [hu, hf]
  obtain ⟨c2, hc2⟩ : ∃ c2, (h2.update a (Obj.mapSeq fun _ => us.toArray)).get? a = some (seqO "list" us c2) := ⟨_, get?_update_seq hoA fun _ => us.toArray⟩
  refine wpAny_bind (seqEpoch_at hoA rfl (wpAny_bind (listUpdate_at hoA rfl ?_ (Nat.zero_le _) (Nat.le_succ_of_le (sz_line hz)))))
  simp only [bne_self_eq_false, Bool.false_eq_true, if_false]
  exact wpAny_pure ⟨rfl, _, us, c2, rfl, fun b o hb e => ((Heap.SameBut.update h2 a _).2 b hb).trans (k b o hb e), hc2, hr⟩
theorem own_sorted {l : Addr} {Q : Value → Shared → Prop} (hl : s.heap.IsList l vs.toArray) (h64 : vs.length < 64) (hm : ∀ h', (∀ b o, s.heap.get? b = some o → h'.get? b = some o) → MidP prog w A.in1.in1 vs Rz { s with heap := h' })
    (hQ : ∀ D h' us c, s.heap.objs.size ≤ D → (∀ b o, s.heap.get? b = some o → h'.get? b = some o) → h'.get? D = some (seqO "list" us c) → Rz us → Q (.ref D) { s with heap := h' }) :
    wpAny (model prog w) A (call (.builtin "sorted") [.ref l]) Q E s := by
  refine Calls.call_function_entry kind_sorted plain_sorted entry_sorted (args_sorted1 _) ?_
  unfold Builtin.«sorted»
  refine wpAny_bind (m := checkCount "sorted" 1 1 _) (wpAny_pure ?_)
  refine wpAny_bind (collect_list hl (wpAny_bind (wpAny_newList ?_ (sz_line h64))) (sz_line h64))
  have k1 : ∀ b o, s.heap.get? b = some o → ((s.heap.push (seqO "list" [] 0)).update s.heap.objs.size (Obj.mapSeq (· ++ vs.toArray))).get? b = some o := fun b o e => by
    rw [Heap.get?_update_ne _ _ _ _ (Nat.ne_of_lt (Heap.lt_size e))]; exact Heap.get?_push_of_some _ e
  have z1 : ((s.heap.push (seqO "list" [] 0)).update s.heap.objs.size (Obj.mapSeq (· ++ vs.toArray))).objs.size = s.heap.objs.size + 1 := by rw [Heap.size_update, size_push']
  change wpAny (model prog w) _ _ _ _ { s with heap := ((s.heap.push (seqO "list" [] 0)).update s.heap.objs.size (Obj.mapSeq (· ++ vs.toArray))).push (seqO "list" vs 0) }
  change wpAny _ _ (holding _ (call _ [Value.ref ((s.heap.push (seqO "list" [] 0)).update s.heap.objs.size (Obj.mapSeq (· ++ vs.toArray))).objs.size]) >>= _) _ _ _
  generalize (s.heap.push (seqO "list" [] 0)).update s.heap.objs.size (Obj.mapSeq (· ++ vs.toArray)) = h1 at k1 z1 ⊢
  have hD := Heap.get?_push_size h1 (o := seqO "list" vs 0) rfl
  have k2 : ∀ b o, s.heap.get? b = some o → (h1.push (seqO "list" vs 0)).get? b = some o := fun b o e => Heap.get?_push_of_some _ (k1 b o e)
  have hz : s.heap.objs.size ≤ h1.objs.size := z1 ▸ Nat.le_succ _
  have ne : ∀ b o, s.heap.get? b = some o → b ≠ h1.objs.size := fun b o e => Nat.ne_of_lt (Nat.lt_of_lt_of_le (Heap.lt_size e) hz)
  refine wpAny_bind (wpAny_holding (wpAny_call_entry slot_list_sort ⟨_, hD, rfl⟩ entry_list_sort (wpAny_mono (own_list_sort (Rz := Rz) hD h64 fun h' k => hm h' fun b o e => k b o (ne b o e) (k2 b o e)) (fun f s' hf => ?_) fun _ _ e => e) (args_list_sort _)))
  obtain ⟨rfl, h', us, c, rfl, k, e, hr⟩ := hf
  exact ⟨_, rfl, wpAny_pure ⟨_, rfl, hQ _ h' us c hz (fun b o e => k b o (ne b o e) (k2 b o e)) e hr⟩⟩
end
end Mine
end
section
open PySem PySem.W PySem.Calls PyProof.Rows
set_option maxRecDepth 100000
set_option maxHeartbeats 4000000
set_option genInjectivity false
set_option genSizeOf false
set_option backward.match.sparseCases false
namespace Mine
theorem ltL_irr (l : List Int) : ltL l l = false := by
  induction l with
  | nil => rfl
  | cons a r ih =>
    show (bif decide (a = a) then ltL r r else decide (a < a)) = false
    rw [decide_eq_true rfl]; exact ih
theorem not_ltI {x y : Int} (h : x < y) : decide (y < x) = false := decide_eq_false (Int.not_lt.mpr (Int.le_of_lt h))
theorem ltL_asym {a : List Int} : ∀ {b : List Int}, ltL a b = true → ltL b a = false := by
  induction a with
  | nil => intro b h; cases b <;> rfl
  | cons x a ih =>
    intro b h
    cases b with
    | nil => exact ff_i h
    | cons y b =>
      have h : (bif decide (x = y) then ltL a b else decide (x < y)) = true := h
      show (bif decide (y = x) then ltL b a else decide (y < x)) = false
      by_cases e : x = y
      · rw [decide_eq_true e] at h
        rw [decide_eq_true e.symm]
        exact ih h
      · rw [decide_eq_false e] at h
        rw [decide_eq_false (Ne.symm e)]
        exact not_ltI (of_decide_eq_true h)
theorem ltL_anti {a : List Int} : ∀ {b : List Int}, ltL a b = false → ltL b a = false → a = b := by
  induction a with
  | nil =>
    intro b h _
    cases b with
    | nil => rfl
    | cons y b => exact ff_i h.symm
  | cons x a ih =>
    intro b h h'
    cases b with
    | nil => exact ff_i h'.symm
    | cons y b =>
      have h : (bif decide (x = y) then ltL a b else decide (x < y)) = false := h
      have h' : (bif decide (y = x) then ltL b a else decide (y < x)) = false := h'
      by_cases e : x = y
      · rw [decide_eq_true e] at h
        rw [decide_eq_true e.symm] at h'
        rw [e, ih h h']
      · rw [decide_eq_false e] at h
        rw [decide_eq_false (Ne.symm e)] at h'
        exact absurd (Int.le_antisymm (Int.not_lt.mp (of_decide_eq_false h')) (Int.not_lt.mp (of_decide_eq_false h))) e
theorem ltL_trans {a : List Int} : ∀ {b c : List Int}, ltL b a = false → ltL c b = false → ltL c a = false := by
  induction a with
  | nil => intro b c _ _; cases c <;> rfl
  | cons x a ih =>
    intro b c h h'
    cases b with
    | nil => exact ff_i h.symm
    | cons y b =>
      cases c with
      | nil => exact ff_i h'.symm
      | cons z c =>
        have h : (bif decide (y = x) then ltL b a else decide (y < x)) = false := h
        have h' : (bif decide (z = y) then ltL c b else decide (z < y)) = false := h'
        show (bif decide (z = x) then ltL c a else decide (z < x)) = false
        by_cases e : y = x
        · rw [decide_eq_true e] at h
          rw [← e]
          by_cases e' : z = y
          · rw [decide_eq_true e'] at h' ⊢
            exact ih h h'
          · rw [decide_eq_false e'] at h' ⊢
            exact h'
        · rw [decide_eq_false e] at h
          have h1 : x < y := (Int.lt_or_eq_of_le (Int.not_lt.mp (of_decide_eq_false h))).resolve_right (Ne.symm e)
          by_cases e' : z = y
          · rw [e', decide_eq_false e]
            exact h
          · rw [decide_eq_false e'] at h'
            have h2 : x < z := Int.lt_of_lt_of_le h1 (Int.not_lt.mp (of_decide_eq_false h'))
            rw [decide_eq_false (Int.ne_of_gt h2)]
            exact not_ltI h2
abbrev LeL (a b : List Int) : Prop := ltL b a = false
theorem insL_perm (x : List Int) (l : List (List Int)) : (insL x l).Perm (x :: l) := by
  induction l with
  | nil => exact .refl _
  | cons y r ih =>
    show (bif ltL x y then x :: y :: r else y :: insL x r).Perm _
    cases ltL x y with
    | true => exact .refl _
    | false => exact (ih.cons y).trans (.swap x y r)
theorem sortL_perm (l : List (List Int)) : (sortL l).Perm l := by
  induction l with
  | nil => exact .refl _
  | cons x r ih => exact (insL_perm x (sortL r)).trans (ih.cons x)
theorem insL_asc (x : List Int) {l : List (List Int)} (h : l.Pairwise LeL) : (insL x l).Pairwise LeL := by
  induction h with
  | nil => exact List.pairwise_singleton ..
  | @cons y r h1 h2 ih =>
    show (bif ltL x y then x :: y :: r else y :: insL x r).Pairwise LeL
    cases e : ltL x y with
    | true =>
      have e1 : LeL x y := ltL_asym e
      exact .cons (fun b hb => (List.mem_cons.mp hb).elim (fun q => q ▸ e1) fun q => ltL_trans e1 (h1 b q)) (.cons h1 h2)
    | false => exact .cons (fun b hb => (List.mem_cons.mp ((insL_perm x r).mem_iff.mp hb)).elim (fun q => q ▸ e) (h1 b)) ih
theorem sortL_asc (l : List (List Int)) : (sortL l).Pairwise LeL := by
  induction l with
  | nil => exact .nil
  | cons x r ih => exact insL_asc x ih
theorem sorted_uniq {a : List (List Int)} : ∀ {b : List (List Int)}, a.Perm b → a.Pairwise LeL → b.Pairwise LeL → a = b := by
  induction a with
  | nil => exact fun p _ _ => p.nil_eq
  | cons x r ih =>
    intro b p ha hb
    cases b with
    | nil => exact nomatch p.length_eq
    | cons y t =>
      have e : x = y := by
        rcases List.mem_cons.mp (p.mem_iff.mp (.head _) : x ∈ y :: t) with h | h
        · exact h
        · rcases List.mem_cons.mp (p.mem_iff.mpr (.head _) : y ∈ x :: r) with h' | h'
          · exact h'.symm
          · exact ltL_anti ((List.pairwise_cons.mp hb).1 x h) ((List.pairwise_cons.mp ha).1 y h')
      subst e
      rw [ih (List.Perm.cons_inv p) (List.pairwise_cons.mp ha).2 (List.pairwise_cons.mp hb).2]
end Mine
end
section
open PySem PySem.W PySem.Calls PyProof.Rows
set_option maxRecDepth 100000
set_option maxHeartbeats 4000000
set_option genInjectivity false
set_option genSizeOf false
set_option backward.match.sparseCases false
namespace Mine
noncomputable def runT {β : Type} (f : Nat → Nat → Bool) (t : KasT β) : β := KasT.rec (fun a => a) (fun i j _ ih => ih (f i j)) t
noncomputable def okT {β : Type} (n : Nat) (t : KasT β) : Bool := KasT.rec (fun _ => true) (fun i j _ ih => Nat.blt i n && Nat.blt j n && ih true && ih false) t
theorem okT_e {β : Type} {n i j : Nat} {k : Bool → KasT β} {P : Prop} (h : okT n (.ask i j k) = true) (c : i < n → j < n → (∀ b, okT n (k b) = true) → P) : P :=
  and_e (a := Nat.blt i n && Nat.blt j n && okT n (k true)) h fun h h4 => and_e h fun h h3 => and_e h fun h1 h2 => c (bltN.mp h1) (bltN.mp h2) fun b => by cases b <;> assumption
theorem run_wp {β : Type} {n : Nat} {f : Nat → Nat → Bool} {cmp : Nat → Nat → (Bool → Shared → Prop) → Shared → Prop} {Q : β → Shared → Prop} {s : Shared}
    (hc : ∀ i j C, i < n → j < n → C (f i j) s → cmp i j C s) (t : KasT β) (ho : okT n t = true) (h : Q (runT f t) s) : t.kasWp cmp Q s := by
  induction t with
  | ret a => exact h
  | ask i j k ih => exact okT_e ho fun h1 h2 h3 => hc i j _ h1 h2 (ih (f i j) (h3 _) h)
theorem run_agree {β : Type} {n : Nat} {f g : Nat → Nat → Bool} (hc : ∀ i j, i < n → j < n → f i j = g i j) (t : KasT β) (ho : okT n t = true) : runT f t = runT g t := by
  induction t with
  | ret a => rfl
  | ask i j k ih =>
    show runT f (k (f i j)) = runT g (k (g i j))
    exact okT_e ho fun h1 h2 h3 => (hc i j h1 h2) ▸ ih (f i j) (h3 _)
noncomputable def ascF (f : Nat → Nat → Bool) : List Nat → Bool
  | [] => true
  | i :: r => (r.all fun j => !f j i) && ascF f r
noncomputable def tab3 (a b c d e g : Bool) : Nat → Nat → Bool
  | 0, 1 => a
  | 1, 0 => b
  | 0, 2 => c
  | 2, 0 => d
  | 1, 2 => e
  | 2, 1 => g
  | _, _ => false
noncomputable def consF (n : Nat) (f : Nat → Nat → Bool) : Bool :=
  (List.range n).all fun i => (List.range n).all fun j => !(f i j && f j i) && (List.range n).all fun k => !(!f j i && !f k j) || !f k i
theorem good3 : ∀ a b c d e g : Bool, consF 3 (tab3 a b c d e g) = true →
    ((runT (tab3 a b c d e g) (kas_sort 3)).toList.isPerm (List.range 3) && ascF (tab3 a b c d e g) (runT (tab3 a b c d e g) (kas_sort 3)).toList) = true := by decide +kernel
theorem good2 : ∀ a b : Bool, consF 2 (tab3 a b false false false false) = true →
    ((runT (tab3 a b false false false false) (kas_sort 2)).toList.isPerm (List.range 2) && ascF (tab3 a b false false false false) (runT (tab3 a b false false false false) (kas_sort 2)).toList) = true := by decide +kernel
theorem ok3 : okT 3 (kas_sort 3) = true := by decide +kernel
theorem ok2 : okT 2 (kas_sort 2) = true := by decide +kernel
noncomputable def lt_of (gs : List (List Int)) (i j : Nat) : Bool := ltL (gs.getD i []) (gs.getD j [])
theorem cons_lt (gs : List (List Int)) (n : Nat) : consF n (lt_of gs) = true := by
  simp only [consF, List.all_eq_true, Bool.and_eq_true]
  intro i _ j _
  refine ⟨?_, fun k _ => ?_⟩
  · cases h : lt_of gs i j with
    | false => rfl
    | true => rw [show lt_of gs j i = false from ltL_asym h]; rfl
  · cases h : lt_of gs j i with
    | true => rfl
    | false =>
      cases h' : lt_of gs k j with
      | true => rfl
      | false => rw [show lt_of gs k i = false from ltL_trans h h']; rfl
theorem ascF_pw {gs : List (List Int)} {l : List Nat} (h : ascF (lt_of gs) l = true) : (l.map fun i => gs.getD i []).Pairwise LeL := by
  induction l with
  | nil => exact .nil
  | cons i r ih =>
    refine and_e h fun h1 h2 => .cons (fun b hb => ?_) (ih h2)
    obtain ⟨j, hj, rfl⟩ := List.mem_map.mp hb
    exact not_t (List.all_eq_true.mp h1 j hj)
theorem all_agree {α : Type} {f g : α → Bool} {l : List α} (h : ∀ x ∈ l, f x = g x) : l.all f = l.all g := by
  induction l with
  | nil => rfl
  | cons x l ih => rw [List.all_cons, List.all_cons, h x (.head _), ih fun y hy => h y (.tail _ hy)]
theorem ascF_agree {n : Nat} {f g : Nat → Nat → Bool} (hc : ∀ i j, i < n → j < n → f i j = g i j) {l : List Nat} (h : ∀ i ∈ l, i < n) : ascF f l = ascF g l := by
  induction l with
  | nil => rfl
  | cons i r ih =>
    show ((r.all fun j => !f j i) && ascF f r) = ((r.all fun j => !g j i) && ascF g r)
    rw [ih fun j hj => h j (.tail _ hj), all_agree fun j hj => congrArg (!·) (hc j i (h j (.tail _ hj)) (h i (.head _)))]
theorem consF_agree {n : Nat} {f g : Nat → Nat → Bool} (hc : ∀ i j, i < n → j < n → f i j = g i j) : consF n f = consF n g :=
  all_agree fun i hi => all_agree fun j hj => by
    have li := List.mem_range.mp hi
    have lj := List.mem_range.mp hj
    rw [hc i j li lj, hc j i lj li, all_agree fun k hk => by rw [hc k j (List.mem_range.mp hk) lj, hc k i (List.mem_range.mp hk) li]]
theorem range_map {β : Type} (d : β) : ∀ l : List β, ((List.range l.length).map fun i => l.getD i d) = l := fun l => by
  refine List.ext_getElem (by simp) fun i h1 h2 => ?_
  simp [List.getD, List.getElem?_eq_getElem h2]
theorem run_sorts {gs : List (List Int)} {n : Nat} {t : KasT (Array Nat)} {g : Nat → Nat → Bool} (hn : gs.length = n) (ho : okT n t = true) (hc : ∀ i j, i < n → j < n → g i j = lt_of gs i j)
    (hg : consF n g = true → ((runT g t).toList.isPerm (List.range n) && ascF g (runT g t).toList) = true) :
    ((runT (lt_of gs) t).toList.map fun i => gs.getD i []) = sortL gs := by
  have h := hg ((consF_agree hc).trans (cons_lt gs n))
  rw [run_agree hc t ho] at h
  simp only [Bool.and_eq_true, List.isPerm_iff] at h
  obtain ⟨h1, h2⟩ := h
  rw [ascF_agree hc fun i hi => List.mem_range.mp (h1.mem_iff.mp hi)] at h2
  refine sorted_uniq ?_ (ascF_pw h2) (sortL_asc gs)
  refine ((h1.map fun i => gs.getD i []).trans ?_).trans (sortL_perm gs).symm
  rw [← hn, range_map]
theorem tab_3 {f : Nat → Nat → Bool} (hf : ∀ i, f i i = false) : ∀ i j, i < 3 → j < 3 → tab3 (f 0 1) (f 1 0) (f 0 2) (f 2 0) (f 1 2) (f 2 1) i j = f i j
  | 0, 0, _, _ | 1, 1, _, _ | 2, 2, _, _ => (hf _).symm
  | 0, 1, _, _ | 0, 2, _, _ | 1, 0, _, _ | 1, 2, _, _ | 2, 0, _, _ | 2, 1, _, _ => rfl
theorem sorts3 {gs : List (List Int)} (hn : gs.length = 3) : ((runT (lt_of gs) (kas_sort 3)).toList.map fun i => gs.getD i []) = sortL gs :=
  run_sorts hn ok3 (tab_3 (f := lt_of gs) fun _ => ltL_irr _) (good3 _ _ _ _ _ _)
theorem tab_2 {f : Nat → Nat → Bool} (hf : ∀ i, f i i = false) : ∀ i j, i < 2 → j < 2 → tab3 (f 0 1) (f 1 0) false false false false i j = f i j
  | 0, 0, _, _ | 1, 1, _, _ => (hf _).symm
  | 0, 1, _, _ | 1, 0, _, _ => rfl
theorem sorts2 {gs : List (List Int)} (hn : gs.length = 2) : ((runT (lt_of gs) (kas_sort 2)).toList.map fun i => gs.getD i []) = sortL gs :=
  run_sorts hn ok2 (tab_2 (f := lt_of gs) fun _ => ltL_irr _) (good2 _ _)
abbrev tupV (g : List Int) : V := .tup (g.map .int)
theorem intOf_i {x : V} {i : Int} (h : intOf x = some i) : x = .int i := by
  cases x with
  | int j => exact congrArg V.int (Option.some.inj h)
  | _ => exact none_i h
theorem tupOf_i {x : V} {l : List V} (h : tupOf x = some l) : x = .tup l := by
  cases x with
  | tup j => exact congrArg V.tup (Option.some.inj h)
  | _ => exact none_i h
theorem allInt_i {l : List V} : ∀ {g : List Int}, allInt l = some g → l = g.map .int := by
  induction l with
  | nil => intro g h; rw [← Option.some.inj h]; rfl
  | cons x l ih => intro g h; exact bnd_e h fun i e1 h => bnd_e h fun q e2 h => by rw [← Option.some.inj h, intOf_i e1, ih e2]; rfl
theorem tupInts_i {l : List V} : ∀ {t : List (List Int)}, tupInts l = some t → l = t.map tupV := by
  induction l with
  | nil => intro g h; rw [← Option.some.inj h]; rfl
  | cons x l ih => intro g h; exact bnd_e h fun q e1 h => bnd_e h fun a e2 h => bnd_e h fun b e3 h => by rw [← Option.some.inj h, tupOf_i e1, allInt_i e2, ih e3]; rfl
theorem allInt_map (g : List Int) : allInt (g.map .int) = some g := by
  induction g with
  | nil => rfl
  | cons x g ih =>
    show bnd (some x) (fun s => bnd (allInt (g.map .int)) fun l => some (s :: l)) = _
    rw [ih]; rfl
section
variable {prog : Program} {w : World} {A : Around} {E : Value → Shared → Prop} {s : Shared}
theorem lex_ints {Q : Bool → Shared → Prop} {g : List Int} : ∀ {xs ys : List Value} {g' : List Int}, IntsAre xs g → IntsAre ys g' → g.length = g'.length → ∀ i, Q (ltL g g') s → KatLex prog w A true false Q (xs.zip ys) i s := by
  induction g with
  | nil =>
    intro xs ys g' h k e i hq
    cases h
    cases k with
    | nil => exact kat_nil hq
    | cons => exact nomatch e
  | cons a g ih =>
    intro xs ys g' h k e i hq
    cases h with
    | cons _ t r =>
      cases k with
      | nil => exact nomatch e
      | cons b u q =>
        rw [List.zip_cons_cons]
        refine kat_cons (wpAny_eqBool_int ?_)
        unfold ltL at hq
        by_cases ab : a = b
        · rw [decide_eq_true ab] at hq
          rw [show (a == b) = true from beq_iff_eq.mpr ab]
          exact kat_yes (ih r q (Nat.succ.inj e) (i + 1) hq)
        · rw [decide_eq_false ab] at hq
          rw [show (a == b) = false from beq_eq_false_iff_ne.mpr ab]
          refine kat_no ?_
          cases i with
          | zero => exact oneLt_int hq
          | succ i => exact kat_one _ _ (lt_int hq)
end
section
variable {X : Cx} {W : Wd} {s : Shared} {A : Around} {E : Value → Shared → Prop} {gs : List (List Int)} {vs : List Value}
theorem tup_ints {g : List Int} {v : Value} (I : J X W s) (h : Rel X.G W (tupV g) v) : ∃ a us n, v = .ref a ∧ s.heap.get? a = some (seqO "tuple" us n) ∧ IntsAre us g := by
  obtain ⟨a, us, n, e, h1, h2⟩ := h.un
  exact ⟨a, us, n, e, I.fz h1, allInt_are (allInt_map g) h2⟩
theorem ti_lt {x y : Value} {g g' : List Int} {C : Bool → Shared → Prop} (I : J X W s) (hx : Rel X.G W (tupV g) x) (hy : Rel X.G W (tupV g') y) (hl : g.length = g'.length) (h : C (ltL g g') s) : wpAny X.G.M A (keyLt' (tuples' true) x y) C E s := by
  obtain ⟨a, vs, n, rfl, h1, h2⟩ := tup_ints I hx
  obtain ⟨b, us, m, rfl, h3, h4⟩ := tup_ints I hy
  refine kat_lt h1 rfl h3 rfl ?_
  rw [show decide (vs.toArray.size < us.toArray.size) = false from decide_eq_false (Nat.not_lt.mpr (Nat.le_of_eq (h4.length.trans (hl.symm.trans h2.length.symm))))]
  exact lex_ints h2 h4 hl 0 h
theorem ti_kat (I : J X W s) : ∀ {vs : List Value}, Rels X.G W (gs.map tupV) vs → (gs.all fun x => Nat.beq x.length 4) = true → ∃ fs, fs.length = vs.length ∧ KatTups s.heap vs fs ∧ ∀ v ∈ fs, ∃ i t, v = .int i t := by
  induction gs with
  | nil => intro vs e _; rw [show vs = [] from e]; exact ⟨[], rfl, .nil, fun _ h => nomatch h⟩
  | cons g gs ih =>
    intro vs e h
    obtain ⟨u, r, rfl, e1, e2⟩ := e
    refine and_e h fun h1 h2 => ?_
    obtain ⟨fs, k1, k2, k3⟩ := ih e2 h2
    obtain ⟨p, us, n, rfl, h5, h6⟩ := tup_ints I e1
    cases h6 with
    | nil => exact nomatch h1
    | cons i t q =>
      refine ⟨.int i t :: fs, congrArg Nat.succ k1, .cons h5 rfl rfl (toA.trans rfl) k2, fun v hv => ?_⟩
      rcases List.mem_cons.mp hv with rfl | hv
      · exact ⟨i, t, rfl⟩
      · exact k3 v hv
theorem getD_at {α : Type} {l : List α} {i : Nat} {d : α} (h : i < l.length) : l[i]? = some (l.getD i d) := by rw [List.getElem?_eq_getElem h, List.getD, List.getElem?_eq_getElem h]; rfl
theorem tup_at (h : Rels X.G W (gs.map tupV) vs) {i : Nat} (hi : i < gs.length) : Rel X.G W (tupV (gs.getD i [])) (vs.getD i Value.none) := by
  obtain ⟨u, e, r⟩ := All2.get (k := i) h ((List.getElem?_map ..).trans (congrArg (Option.map tupV) (getD_at hi)))
  rw [show vs.getD i Value.none = u from congrArg (Option.getD · Value.none) e]; exact r
theorem ti_asks {n : Nat} {G : Array Nat → Shared → Prop} (I : J X W s) (x : Rels X.G W (gs.map tupV) vs) (h4 : (gs.all fun x => Nat.beq x.length 4) = true) (hn : gs.length = n) (h0 : 0 < n) (ho : okT n (kas_sort n) = true)
    (hG : G (runT (lt_of gs) (kas_sort n)) s) :
    wpAny X.G.M A (keyKind' vs.toArray) (fun κ s' => (kas_sort vs.length).kasWp (kas_ask X.G.prog X.G.w A κ vs) G s') E s := by
  obtain ⟨fs, h1, h2, h3⟩ := ti_kat I x h4
  have hv : vs.length = n := x.len.trans ((List.length_map _).trans hn)
  have l4 : ∀ i, i < gs.length → (gs.getD i []).length = 4 := fun i hi => beqN.mp (List.all_eq_true.mp h4 _ (List.mem_of_getElem? (getD_at hi)))
  refine kat_kind (T := .type "int") h2 (h1 ▸ hv.symm ▸ h0) (fun v hv => ?_) rfl ?_
  · obtain ⟨i, t, rfl⟩ := h3 v hv
    exact .now
  · rw [show (Value.type "int" != Value.type "tuple") = true from rfl, hv]
    subst hn
    exact run_wp (f := lt_of gs) (fun i j C hi hj hC => ti_lt I (tup_at x hi) (tup_at x hj) ((l4 i hi).trans (l4 j hj).symm) hC) _ ho hG
theorem mid_asks {n : Nat} (I : J X W s) (x : Rels X.G W (gs.map tupV) vs) (h4 : (gs.all fun x => Nat.beq x.length 4) = true) (hn : gs.length = n) (h2 : 2 ≤ n) (h64 : n < 64) (ho : okT n (kas_sort n) = true) (hs : (runT (lt_of gs) (kas_sort n)).toList.map (fun i => gs.getD i []) = sortL gs) :
    MidP X.G.prog X.G.w A vs (fun us => Rels X.G W ((sortL gs).map tupV) us) s := by
  have hv : vs.length = n := x.len.trans ((List.length_map _).trans hn)
  have hlt : ¬ vs.toArray.size < 2 := Nat.not_lt.mpr (show 2 ≤ vs.length from hv.symm ▸ h2)
  unfold MidP
  rw [if_neg hlt, if_neg hlt]
  refine wpAny_mono (ti_asks (G := fun p s' => p = runT (lt_of gs) (kas_sort n) ∧ s' = s) I x h4 hn (Nat.lt_of_lt_of_le (by decide) h2) ho ⟨rfl, rfl⟩) (fun κ s0 hk => ?_) fun _ _ x => x
  refine kat_run (Q := fun st s' => s' = s ∧ failedOf st = none ∧ ∃ us, (arrOf st).map (·.2) = us.toArray ∧ us.length < 64 ∧ Rels X.G W ((sortL gs).map tupV) us) rfl (hv.symm ▸ h2) (hv.symm ▸ h64) (fun p' st' s' a1 a2 a3 a4 => ⟨a4.2, a3, _, kat_snds rfl a2, ?_, ?_⟩) hk
  · rw [List.length_map, Array.length_toList, a1, hv]; exact h64
  · rw [a4.1, ← hs]
    have hlen : ∀ i ∈ (runT (lt_of gs) (kas_sort n)).toList, i < gs.length := fun i hi => by
      rcases Nat.lt_or_ge i gs.length with h | h
      · exact h
      · have hm : gs.getD i [] ∈ gs := (sortL_perm gs).mem_iff.mp (hs ▸ List.mem_map.mpr ⟨i, hi, rfl⟩)
        rw [List.getD, List.getElem?_eq_none h] at hm
        exact nomatch List.all_eq_true.mp h4 _ hm
    generalize (runT (lt_of gs) (kas_sort n)).toList = l at hlen
    induction l with
    | nil => exact rfl
    | cons i r ih => exact ⟨_, _, rfl, tup_at x (hlen i (.head _)), ih fun j hj => hlen j (.tail _ hj)⟩
theorem snd_zip {vs : List Value} (h : vs.length < 2) : (vs.toArray.zip vs.toArray).map (·.2) = vs.toArray := by
  cases vs with
  | nil => simp
  | cons x r =>
    cases r with
    | nil => simp
    | cons y r => exact absurd h (Nat.not_lt.mpr (Nat.le_add_left 2 _))
theorem sort_01 {gs : List (List Int)} (h : gs.length < 2) : sortL gs = gs := by
  cases gs with
  | nil => rfl
  | cons x r =>
    cases r with
    | nil => rfl
    | cons y r => exact absurd h (Nat.not_lt.mpr (Nat.le_add_left 2 _))
theorem mid_01 (x : Rels X.G W (gs.map tupV) vs) (h2 : gs.length < 2) : MidP X.G.prog X.G.w A vs (fun us => Rels X.G W ((sortL gs).map tupV) us) s := by
  have hv : vs.length = gs.length := x.len.trans (List.length_map _)
  have hlt : vs.toArray.size < 2 := show vs.length < 2 from hv.symm ▸ h2
  unfold MidP
  rw [if_pos hlt, if_pos hlt]
  refine wpAny_pure (wpAny_pure ⟨rfl, rfl, vs, ?_, Nat.lt_of_lt_of_le hlt (by decide), ?_⟩)
  · exact snd_zip hlt
  · rw [sort_01 h2]; exact x
theorem srt_sound {v : V} {u : Value} {k : V → Prop} {Q : Value → Shared → Prop} (I : J X W s) (h : sortW v k) (hx : RelO X.G W v u) (P : PK X W k Q) : Do X (call (.builtin "sorted") [u]) Q s :=
  lst_e I hx h fun l a vs n h1 hr h => optW_e h fun t et h => gd_e h fun hb h => and_e hb fun b1 b4 => by
    rw [tupInts_i et] at hr
    have b1 := bltN.mp b1
    have hv : vs.length = t.length := hr.len.trans (List.length_map _)
    refine own_sorted (Rz := fun us => Rels X.G W ((sortL t).map tupV) us) (listO h1) (hv.symm ▸ Nat.lt_of_lt_of_le b1 (by decide)) (fun h' hk => ?_) fun D h' us c hD hk hd hus => ?_
    · have I' := I.keep (tk := s.toks) hk
      rcases Nat.lt_or_ge t.length 2 with h2 | h2
      · exact mid_01 hr h2
      · rcases Nat.eq_or_lt_of_le h2 with h2 | h2
        · exact mid_asks I' hr b4 h2.symm (Nat.le_refl _) (by decide) ok2 (sorts2 h2.symm)
        · have h3 := Nat.le_antisymm (Nat.le_of_lt_succ b1) h2
          exact mid_asks I' hr b4 h3 (by decide) (by decide) ok3 (sorts3 h3)
    · have nD : W.rl D = none := Option.eq_none_iff_forall_ne_some.mpr fun _ e => absurd (I.lt e) (Nat.not_lt.mpr hD)
      have hs : sysModules < s.heap.objs.size := I.sys.elim fun a h => h.elim fun o h => Nat.lt_of_le_of_lt h.2 (I.lt (I.base a o h.1))
      have E1 := Ex.upd (r := .fz (seqO "list" us c)) nD
      exact P _ h _ _ _ E1 ((I.keep (tk := s.toks) hk).put (Heap.ExtBut.refl _ _) hd (fun _ e => nomatch nD.symm.trans e) fun q m => (far_tab I m hD).symm) (relLst ⟨Wd.upd_self, Nat.ne_of_gt (Nat.lt_of_lt_of_le hs hD)⟩ (Rels.le E1.le hus))
end
end Mine
end
section
open PySem PySem.W PyProof.Rows
set_option maxRecDepth 100000
set_option genInjectivity false
set_option genSizeOf false
set_option backward.match.sparseCases false
namespace Mine
theorem mk_at {G : GI} (M : MkFrag G) (O : GOk G) (X : Cx) (e : X.G = G) (_ : X.A.handled = none) (hd : X.A.depth + 1 < recursionLimit) : MkAt X := by
  subst e
  exact ⟨fun I _ hg hv P => mk_cls M O hd I hg hv P, fun I h hx P => srt_sound I h hx P⟩
end Mine
end
section
open PySem PySem.W PyProof.Rows
set_option maxRecDepth 1000000
set_option genInjectivity false
set_option genSizeOf false
set_option backward.match.sparseCases false
namespace Mine
def Ans (n f : Nat) (as : List V) (r : V) : Prop := ∀ k : V → Prop, k r → clN n f as k
theorem ans {n f : Nat} {as : List V} {r : V} (h : Ans n f as r) {k : V → Prop} (hk : k r) : clN n f as k := h k hk
noncomputable def kRet (d : Df) (k : V → Prop) (fl : Fl) (_ : VEnv) : Prop := match fl with
  | .ret v => brW (Nat.beq d.lv d.lw || noAtm 9 v) (k v) False
  | _ => False
noncomputable def guardD (d : Df) : Bool := scOk d.scope && isFn d.scope && (kindsOf d.scope).all fnKind && d.owns.all (tokFit d.lv d.lw) && Nat.ble d.lv d.lw
theorem run_i {n f : Nat} {as : List V} {d : Df} {env : VEnv} {k : V → Prop} (hd : look f dfs = some d) (hg : guardD d = true) (hb : bindW (kindsOf d.scope) d.params as (env0 (kindsL d.scope)) = some env)
    (h : xsW (kev (clF d.lw (clN n)) 40) (kindsOf d.scope) d.owns d.body env (kRet d k)) : clN (n + 1) f as k := by
  rw [clN_s, hd]
  show brW (guardD d) (optW (bindW (kindsOf d.scope) d.params as (env0 (kindsL d.scope))) fun env => xsW (kev (clF d.lw (clN n)) 40) (kindsOf d.scope) d.owns d.body env (kRet d k)) False
  rw [hg, hb]
  exact h
theorem of_eq {A B : Prop} (h : A = B) (b : B) : A := h ▸ b
theorem brW_i {b : Bool} {x : Prop} (h : b = true) (hx : x) : brW b x False := by rw [h]; exact hx
theorem gd_t {x : Prop} (hx : x) : brW true x False := hx
theorem brW_n {b : Bool} {x : Prop} (h : b = false) (hx : x) : brW b False x := by rw [h]; exact hx
theorem brW_c {b : Bool} {x y : Prop} (h1 : b = true → x) (h2 : b = false → y) : brW b x y := by
  cases b with
  | true => exact h1 rfl
  | false => exact h2 rfl
theorem brW_d {p : Prop} [Decidable p] {x y : Prop} (h1 : p → x) (h2 : ¬ p → y) : brW (decide p) x y := brW_c (fun h => h1 (of_decide_eq_true h)) fun h => h2 (of_decide_eq_false h)
theorem and_i {a b : Bool} (h : a = true) (k : b = true) : (a && b) = true := Bool.and_eq_true_iff.mpr ⟨h, k⟩
theorem fits_n {n : Nat} (h : n < 4000000000000000000) : Fits (n : Int) = true := bltN.mpr (Nat.lt_trans h (by decide))
theorem fits_i {i : Int} (h1 : -4000000000000000000 < i) (h2 : i < 4000000000000000000) : Fits i = true := by
  cases i with
  | ofNat n => exact bltN.mpr (by have : ((n : Int)) < 4000000000000000000 := h2; omega)
  | negSucc n => exact bltN.mpr (by omega)
theorem getI_nat {α : Type} {l : List α} {j : Nat} {x : α} (h : l[j]? = some x) : getI l (j : Int) = some x := by
  unfold getI
  have e : idx l.length (j : Int) = some j := by
    show (bif Nat.blt j l.length then some j else none) = some j
    rw [bltN.mpr (List.getElem?_eq_some_iff.mp h).1]; rfl
  rw [e]; exact h
noncomputable def dOf (f : Nat) : Df := (look f dfs).getD ⟨[], [], default, [], 0, 0⟩
def st0 : PySem.Stmt := .Pass ⟨0, 0, 0, 0⟩
def ex0 : PySem.Expr := .Tuple [] 0 ⟨0, 0, 0, 0⟩
noncomputable def stm (f : String) (i : Nat) : PySem.Stmt := (dOf (N f)).body.getD i st0
noncomputable def forT (s : PySem.Stmt) : PySem.Expr := match s with
  | .For t _ _ _ _ => t
  | _ => ex0
noncomputable def bodyS (s : PySem.Stmt) : List PySem.Stmt := match s with
  | .For _ _ b _ _ => b
  | .While _ b _ _ => b
  | .If _ b _ _ => b
  | _ => []
noncomputable def elseS (s : PySem.Stmt) : List PySem.Stmt := match s with
  | .If _ _ b _ => b
  | _ => []
noncomputable def testS (s : PySem.Stmt) : PySem.Expr := match s with
  | .While t _ _ _ => t
  | .If t _ _ _ => t
  | _ => ex0
noncomputable def valS (s : PySem.Stmt) : PySem.Expr := match s with
  | .Assign _ e _ => e
  | .Return (some e) _ => e
  | .Expr e _ => e
  | _ => ex0
noncomputable def nthS (l : List PySem.Stmt) (i : Nat) : PySem.Stmt := l.getD i st0
noncomputable def nthE (l : List PySem.Expr) (i : Nat) : PySem.Expr := l.getD i ex0
noncomputable def argsE (e : PySem.Expr) : List PySem.Expr := match e with
  | .Call _ as _ _ => as
  | .BoolOp _ es _ => es
  | .List es _ => es
  | .Tuple es _ _ => es
  | .BinOp a _ b _ => [a, b]
  | .Compare a _ bs _ => a :: bs
  | .UnaryOp _ e _ => [e]
  | .Subscript a b _ => [a, b]
  | _ => []
noncomputable def cElt (e : PySem.Expr) : PySem.Expr := match e with
  | .ListComp e _ _ _ => e
  | .GeneratorExp e _ _ _ => e
  | _ => ex0
noncomputable def cGen (e : PySem.Expr) : Option Comprehension := match e with
  | .ListComp _ [g] _ _ => some g
  | .GeneratorExp _ [g] _ _ => some g
  | _ => none
noncomputable def cTgt (e : PySem.Expr) : PySem.Expr := match cGen e with
  | some g => g.target
  | none => ex0
noncomputable def cIfs (e : PySem.Expr) : List PySem.Expr := match cGen e with
  | some g => g.ifs
  | none => []
noncomputable def cSc (e : PySem.Expr) : Scope := match e with
  | .ListComp _ _ sc _ => sc
  | .GeneratorExp _ _ sc _ => sc
  | _ => PySem.Challenge.pw_in0232_01.main.scope
noncomputable abbrev ksOf (f : String) : Ks := kindsOf (dOf (N f)).scope
noncomputable abbrev owOf (f : String) : List Nat := (dOf (N f)).owns
noncomputable abbrev lwF (f : String) : Nat := (dOf (N f)).lw
noncomputable abbrev kvL (lw n m : Nat) : KEv := kev (clF lw (clN n)) m
noncomputable abbrev kvP (n m : Nat) : KEv := kvL 2 n m
noncomputable abbrev cKs (ks : Ks) (e : PySem.Expr) : Ks := relabK (kindsOf (cSc e)) ks
noncomputable abbrev compG (kv : KEv) (ks : Ks) (e : PySem.Expr) (env : VEnv) (l acc : List V) (K : List V → Prop) : Prop := compLoopW kv (cKs ks e) (cTgt e) (cIfs e) (cElt e) ((N ".0", .no) :: env) l acc K
noncomputable abbrev forG (kv : KEv) (f : String) (s : PySem.Stmt) (l : List V) (env : VEnv) (K : Fl → VEnv → Prop) : Prop := forW kv (ksOf f) (owOf f) (forT s) (bodyS s) l env K
noncomputable abbrev restG (kv : KEv) (f : String) (B : List PySem.Stmt) (i : Nat) (env : VEnv) (K : Fl → VEnv → Prop) : Prop := xsW kv (ksOf f) (owOf f) (B.drop i) env K
noncomputable def contL (kv : KEv) (f : String) (s : PySem.Stmt) (r : List V) (k : Fl → VEnv → Prop) (fl : Fl) (env : VEnv) : Prop := match fl with
  | .next => forG kv f s r env k
  | .brk => k .next env
  | .ret v => k (.ret v) env
noncomputable def contX (kv : KEv) (f : String) (B : List PySem.Stmt) (i : Nat) (k : Fl → VEnv → Prop) (fl : Fl) (env : VEnv) : Prop := match fl with
  | .next => restG kv f B i env k
  | .brk => k .brk env
  | .ret v => k (.ret v) env
theorem forG_cons {kv : KEv} {f : String} {s : PySem.Stmt} {v : V} {r : List V} {env env' : VEnv} {K : Fl → VEnv → Prop} (h : putT (ksOf f) (forT s) v env = some env') (H : restG kv f (bodyS s) 0 env' (contL kv f s r K)) : forG kv f s (v :: r) env K := by
  show optW (putT (ksOf f) (forT s) v env) _
  rw [h]
  exact H
noncomputable abbrev compL (n m : Nat) (ks : Ks) (e : PySem.Expr) (env : VEnv) (l acc : List V) (K : List V → Prop) : Prop := compLoopW (kvP n m) (cKs ks e) (cTgt e) (cIfs e) (cElt e) ((N ".0", .no) :: env) l acc K
noncomputable abbrev forL (n m : Nat) (f : String) (s : PySem.Stmt) (l : List V) (env : VEnv) (K : Fl → VEnv → Prop) : Prop := forW (kvP n m) (ksOf f) (owOf f) (forT s) (bodyS s) l env K
noncomputable def kEnd (k : V → Prop) (fl : Fl) (_ : VEnv) : Prop := match fl with
  | .ret v => k v
  | _ => False
noncomputable def cont (n : Nat) (f : String) (i : Nat) (k : Fl → VEnv → Prop) (fl : Fl) (env : VEnv) : Prop := match fl with
  | .next => xsW (kvP n 40) (ksOf f) (owOf f) ((dOf (N f)).body.drop (i + 1)) env k
  | .brk => k .brk env
  | .ret v => k (.ret v) env
noncomputable def contB (n m : Nat) (f : String) (l : List PySem.Stmt) (i : Nat) (k : Fl → VEnv → Prop) (fl : Fl) (env : VEnv) : Prop := match fl with
  | .next => xsW (kvP n m) (ksOf f) (owOf f) (l.drop (i + 1)) env k
  | .brk => k .brk env
  | .ret v => k (.ret v) env
noncomputable def contF (n m : Nat) (f : String) (s : PySem.Stmt) (r : List V) (k : Fl → VEnv → Prop) (fl : Fl) (env : VEnv) : Prop := match fl with
  | .next => forL n m f s r env k
  | .brk => k .next env
  | .ret v => k (.ret v) env
noncomputable def inL (item : List Nat) (c : Nat) : Bool := match item with
  | [] => false
  | c0 :: l => strIn c l == decide ([c0] = [43])
theorem plus_is : (Str.ofString "+").cps.toList = [43] := by decide +kernel
theorem cut_one (c0 : Nat) (l : List Nat) : cut (c0 :: l) (some 1) none = l := by
  show ((c0 :: l).take (c0 :: l).length).drop (min 1 (c0 :: l).length) = l
  rw [List.take_length, Nat.min_eq_left (show 1 ≤ (c0 :: l).length from Nat.succ_le_succ (Nat.zero_le _))]; rfl
theorem law_in_is (n : Nat) (item : List Nat) (c : Nat) (h0 : item ≠ []) (hl : item.length < 65536) : Ans (n + 1) (N "_law_in") [.str item, .str [c]] (.bool (inL item c)) := by
  cases item with
  | nil => exact absurd rfl h0
  | cons c0 l =>
    intro k hk
    refine of_eq (show _ = brW (sm (c0 :: l)) (k (V.bool (strIn c (cut (c0 :: l) (some 1) none) == decide ([c0] = (Str.ofString "+").cps.toList)))) False from by kernel_rfl) (brW_i (bltN.mpr hl) ?_)
    rw [cut_one, plus_is]; exact hk
end Mine
end
section
open PySem PySem.W PyProof.Rows
set_option maxRecDepth 1000000
set_option genInjectivity false
set_option genSizeOf false
set_option backward.match.sparseCases false
namespace Mine
theorem lt_sm {n : Nat} (h : n < 5000) : Nat.blt n 65536 = true := bltN.mpr (Nat.lt_trans h (by decide))
theorem lt_k {a b : Nat} (h : a < 3000) (hb : 3000 < b) : Nat.blt a b = true := bltN.mpr (Nat.lt_trans h hb)
theorem fits_k {n : Nat} (h : n < 5000) : Fits (n : Int) = true := fits_n (Nat.lt_trans h (by decide))
theorem get_cons {α : Type} {l r : List α} {j : Nat} {x : α} (h : l.drop j = x :: r) : l[j]? = some x ∧ l.drop (j + 1) = r ∧ j < l.length :=
  have e : l[j]? = some x := by rw [← List.head?_drop, h]; rfl
  ⟨e, by rw [← List.tail_drop, h]; rfl, (List.getElem?_eq_some_iff.mp e).1⟩
theorem snoc_i {α : Type} {l r : List α} {x : α} {K : List α → Prop} (h : K (l ++ (x :: r))) : K (l ++ [x] ++ r) := by rw [List.append_assoc]; exact h
theorem nil_i {α : Type} {l : List α} {K : List α → Prop} (h : K (l ++ [])) : K l := List.append_nil l ▸ h
noncomputable abbrev tkS := stm "_law_takes" 1
noncomputable abbrev tkC := valS (nthS (elseS (nthS (bodyS tkS) 0)) 0)
abbrev natsV (l : List Nat) : List V := l.map fun (p : Nat) => V.int (p : Int)
abbrev strsV (l : List (List Nat)) : List V := l.map V.str
noncomputable def nextP (name item : List Nat) : List Nat → List Nat
  | [] => []
  | p :: r => match name[p]? with
    | some c => bif inL item c then (p + 1) :: nextP name item r else nextP name item r
    | none => nextP name item r
noncomputable abbrev tkEnv (I P : V) (name : List Nat) (e : En) : VEnv := [(N "items", .val I), (N "name", .val (.str name)), (N "places", .val P), (N "item", e)]
theorem takes_comp (n : Nat) (name item : List Nat) (I P : V) (h0 : item ≠ []) (hi : item.length < 65536) (hn : name.length < 3000) (K : List V → Prop) (ps : List Nat) : ∀ (acc : List V), (∀ p ∈ ps, p < 5000) → K (acc ++ natsV (nextP name item ps)) →
    compL (n + 1) 37 (ksOf "_law_takes") tkC (tkEnv I P name (.val (.str item))) (natsV ps) acc K := by
  induction ps with
  | nil => exact fun acc _ h => nil_i (K := K) h
  | cons p r ih =>
    intro acc hp h
    have ih := fun acc h' => ih acc (fun q hq => hp q (.tail _ hq)) h'
    have h : K (acc ++ natsV (match name[p]? with
      | some c => bif inL item c then (p + 1) :: nextP name item r else nextP name item r
      | none => nextP name item r)) := h
    refine of_eq (show _ = brW (sm name) (brW (decide ((p : Int) < name.length)) (brW (Fits p) (optW (getI name p) fun q => clN (n + 1) (N "_law_in") [.str item, .str [q]] fun r' => truthW r' fun b => brW b
      (compL (n + 1) 37 (ksOf "_law_takes") tkC (tkEnv I P name (.val (.str item))) (natsV r) (acc ++ [.int (p + 1)]) K) (compL (n + 1) 37 (ksOf "_law_takes") tkC (tkEnv I P name (.val (.str item))) (natsV r) acc K)) False)
      (compL (n + 1) 37 (ksOf "_law_takes") tkC (tkEnv I P name (.val (.str item))) (natsV r) acc K)) False from by kernel_rfl) ?_
    refine brW_i (lt_k hn (by decide)) (brW_d (fun hb => ?_) fun hb => ?_)
    · obtain ⟨c, hg⟩ : ∃ c, name[p]? = some c := ⟨_, List.getElem?_eq_getElem (Int.ofNat_lt.mp hb)⟩
      refine brW_i (fits_k (hp p (.head _))) (optW_i (getI_nat hg) (law_in_is n item _ h0 hi _ ?_))
      rw [hg] at h
      have h : K (acc ++ natsV (bif inL item c then (p + 1) :: nextP name item r else nextP name item r)) := h
      refine brW_c (fun e => ih _ (snoc_i (K := K) ?_)) fun e => ih _ ?_ <;> (rw [e] at h; exact h)
    · rw [List.getElem?_eq_none (Nat.le_of_not_lt fun q => hb (Int.ofNat_lt.mpr q))] at h
      exact ih _ h
noncomputable def minN : List Nat → Nat → Nat
  | [], a => a
  | b :: r, a => minN r (bif Nat.blt b a then b else a)
noncomputable def rangeN (a : Nat) : Nat → List Nat
  | 0 => []
  | n + 1 => a :: rangeN (a + 1) n
theorem rngL_nat (n : Nat) : ∀ a : Nat, rngL n (a : Int) = natsV (rangeN a n) := by
  induction n with
  | zero => exact fun _ => rfl
  | succ n ih => exact fun a => congrArg (V.int (a : Int) :: ·) (ih (a + 1))
theorem blt_int (b a : Nat) : decide ((b : Int) < a) = Nat.blt b a := Bool.eq_iff_iff.mpr (decide_eq_true_iff.trans (Int.ofNat_lt.trans bltN.symm))
theorem minL_nat (r : List Nat) : ∀ a : Nat, minL (r.map fun (p : Nat) => (p : Int)) (a : Int) = (minN r a : Nat) := by
  induction r with
  | nil => exact fun _ => rfl
  | cons b r ih =>
    intro a
    show minL (r.map fun (p : Nat) => (p : Int)) (bif decide ((b : Int) < a) then (b : Int) else a) = ((minN r (bif Nat.blt b a then b else a) : Nat) : Int)
    rw [blt_int, ← ih]
    cases Nat.blt b a <;> rfl
theorem allInt_nat (l : List Nat) : allInt (natsV l) = some (l.map fun (p : Nat) => (p : Int)) := by
  induction l with
  | nil => rfl
  | cons p l ih =>
    show bnd (some (p : Int)) (fun s => bnd (allInt (natsV l)) fun l => some (s :: l)) = _
    rw [ih]; rfl
theorem minV_nat (p : Nat) (r : List Nat) : minV (natsV (p :: r)) = some ((minN r p : Nat) : Int) := by
  unfold minV
  rw [allInt_nat, ← minL_nat]; rfl
noncomputable def stepP (name : List Nat) (ps : List Nat) (item : List Nat) : List Nat := bif decide (item = [42]) then (match ps with
  | p :: r => rangeN (minN r p) (name.length + 1 - minN r p)
  | [] => []) else nextP name item ps
noncomputable def takesP (name : List Nat) : List (List Nat) → List Nat → Option (List Nat)
  | [], ps => some ps
  | item :: r, ps => bif (stepP name ps item).isEmpty then none else takesP name r (stepP name ps item)
noncomputable def hasN (c : Nat) : List Nat → Bool
  | [] => false
  | d :: r => bif Nat.beq d c then true else hasN c r
noncomputable def takesL (name : List Nat) (items : List (List Nat)) : Bool := match takesP name items [0] with
  | some ps => hasN name.length ps
  | none => false
structure PsOk (name ps : List Nat) : Prop where
  le : ∀ p ∈ ps, p ≤ name.length
  len : ps.length ≤ name.length + 1
theorem nextP_ok {name item ps : List Nat} : (∀ p ∈ nextP name item ps, p ≤ name.length) ∧ (nextP name item ps).length ≤ ps.length := by
  induction ps with
  | nil => exact ⟨fun _ h => (nomatch h), Nat.le_refl _⟩
  | cons p r ih =>
    show (∀ q ∈ (match name[p]? with
      | some c => bif inL item c then (p + 1) :: nextP name item r else nextP name item r
      | none => nextP name item r), q ≤ name.length) ∧ (match name[p]? with
      | some c => bif inL item c then (p + 1) :: nextP name item r else nextP name item r
      | none => nextP name item r).length ≤ r.length + 1
    have no := And.intro ih.1 (Nat.le_succ_of_le ih.2)
    cases hc : name[p]? with
    | none => exact no
    | some c =>
      have key : ∀ b : Bool, (∀ q ∈ (bif b then (p + 1) :: nextP name item r else nextP name item r), q ≤ name.length) ∧ (bif b then (p + 1) :: nextP name item r else nextP name item r).length ≤ r.length + 1 := fun b => by
        cases b with
        | true => exact ⟨fun q hq => (List.mem_cons.mp hq).elim (fun e => e.symm ▸ (List.getElem?_eq_some_iff.mp hc).1) (ih.1 q), Nat.succ_le_succ ih.2⟩
        | false => exact no
      exact key (inL item c)
theorem rangeN_mem {n : Nat} : ∀ {a p : Nat}, p ∈ rangeN a n → p < a + n := by
  induction n with
  | zero => exact fun h => nomatch h
  | succ n ih => exact fun {a p} h => (List.mem_cons.mp h).elim (fun e => e ▸ Nat.lt_add_of_pos_right (Nat.succ_pos n)) fun h => Nat.add_right_comm a 1 n ▸ ih h
theorem rangeN_len (n : Nat) : ∀ a : Nat, (rangeN a n).length = n := by
  induction n with
  | zero => exact fun _ => rfl
  | succ n ih => exact fun a => congrArg Nat.succ (ih (a + 1))
theorem minN_le (r : List Nat) : ∀ a : Nat, minN r a ≤ a := by
  induction r with
  | nil => exact fun _ => Nat.le_refl _
  | cons b r ih =>
    intro a
    show minN r (bif Nat.blt b a then b else a) ≤ a
    cases hb : Nat.blt b a with
    | true => exact Nat.le_trans (ih b) (Nat.le_of_lt (bltN.mp hb))
    | false => exact ih a
theorem stepP_ok {name item ps : List Nat} (h : PsOk name ps) : PsOk name (stepP name ps item) := by
  unfold stepP
  cases decide (item = [42]) with
  | false => exact ⟨nextP_ok.1, Nat.le_trans nextP_ok.2 h.len⟩
  | true =>
    cases ps with
    | nil => exact ⟨fun _ h => (nomatch h), Nat.zero_le _⟩
    | cons p r =>
      have hm : minN r p ≤ name.length + 1 := Nat.le_succ_of_le (Nat.le_trans (minN_le r p) (h.le p (.head _)))
      exact ⟨fun q hq => Nat.le_of_lt_succ (Nat.lt_of_lt_of_eq (rangeN_mem hq) (Nat.add_sub_cancel' hm)), (rangeN_len _ _).symm ▸ Nat.sub_le _ _⟩
theorem star_is : (Str.ofString "*").cps.toList = [42] := by decide +kernel
structure ItOk (item : List Nat) : Prop where
  ne : item ≠ []
  len : item.length < 65536
theorem takes_loop (n : Nat) (name : List Nat) (I : V) (hn : name.length < 3000) (K : Fl → VEnv → Prop) (items : List (List Nat)) : ∀ (ps : List Nat) (e : En), ps ≠ [] → PsOk name ps → (∀ it ∈ items, ItOk it) →
    (takesP name items ps = none → ∀ env, K (.ret (.bool false)) env) → (∀ qs, takesP name items ps = some qs → ∀ e, K .next (tkEnv I (.lst (natsV qs)) name e)) →
    forL (n + 1) 39 "_law_takes" tkS (strsV items) (tkEnv I (.lst (natsV ps)) name e) K := by
  induction items with
  | nil => exact fun ps e _ hp _ _ hs => hs ps rfl e
  | cons item r ih =>
    intro ps e hps hp hit hn' hs
    have hi := hit item (.head _)
    have go : ∀ (q : List Nat) (env : VEnv), stepP name ps item = q → brW (natsV q).isEmpty (K (.ret (.bool false)) env) (forL (n + 1) 39 "_law_takes" tkS (strsV r) (tkEnv I (.lst (natsV q)) name (.val (.str item))) K) := by
      intro q env hq
      have et : takesP name (item :: r) ps = bif q.isEmpty then none else takesP name r q := hq ▸ rfl
      cases q with
      | nil => exact hn' et env
      | cons p q => exact ih (p :: q) _ (List.cons_ne_nil _ _) (hq ▸ stepP_ok (item := item) hp) (fun it h => hit it (.tail _ h)) (fun h => hn' (et.trans h)) fun qs h => hs qs (et.trans h)
    refine of_eq (show _ = brW (decide (item = (Str.ofString "*").cps.toList))
      (optW (minV (natsV ps)) fun q => brW (sm name) (brW (Fits (name.length + 1) && Fits q && ((name.length : Int) + 1 - q).toNat.blt 4000)
        (brW (rngL ((name.length : Int) + 1 - q).toNat q).isEmpty (K (.ret (.bool false)) (tkEnv I (.lst (rngL ((name.length : Int) + 1 - q).toNat q)) name (.val (.str item))))
          (forL (n + 1) 39 "_law_takes" tkS (strsV r) (tkEnv I (.lst (rngL ((name.length : Int) + 1 - q).toNat q)) name (.val (.str item))) K)) False) False)
      (brW ((natsV ps).length.blt 4000) (compL (n + 1) 37 (ksOf "_law_takes") tkC (tkEnv I (.lst (natsV ps)) name (.val (.str item))) (natsV ps) [] fun vs =>
        brW vs.isEmpty (K (.ret (.bool false)) (tkEnv I (.lst vs) name (.val (.str item)))) (forL (n + 1) 39 "_law_takes" tkS (strsV r) (tkEnv I (.lst vs) name (.val (.str item))) K)) False) from by kernel_rfl) ?_
    rw [star_is]
    have hl1 : name.length + 1 < 4000 := Nat.lt_of_le_of_lt hn (by decide)
    refine brW_d (fun hb => ?_) fun hb => ?_
    · cases ps with
      | nil => exact absurd rfl hps
      | cons p q =>
        have hpl := Nat.le_trans (minN_le q p) (hp.le p (.head _))
        refine optW_i (minV_nat p q) (brW_i (lt_k hn (by decide)) ?_)
        have ez : ((name.length : Int) + 1 - ((minN q p : Nat) : Int)).toNat = name.length + 1 - minN q p := Int.toNat_sub _ _
        rw [ez, rngL_nat]
        refine brW_i (and_i (and_i (fits_k (n := name.length + 1) (Nat.lt_trans hl1 (by decide))) (fits_k (Nat.lt_trans (Nat.lt_of_le_of_lt hpl hn) (by decide)))) (bltN.mpr (Nat.lt_of_le_of_lt (Nat.sub_le _ _) hl1))) (go _ _ ?_)
        subst hb; rfl
    · refine brW_i ((List.length_map (as := ps) _).symm ▸ bltN.mpr (Nat.lt_of_le_of_lt hp.len hl1)) ?_
      exact takes_comp n name item I _ hi.ne hi.len hn _ ps [] (fun q hq => Nat.lt_trans (Nat.lt_of_le_of_lt (hp.le q hq) hn) (by decide)) (go _ _ (by unfold stepP; rw [decide_eq_false hb]; rfl))
theorem eq_int (d c : Nat) : decide ((d : Int) = (c : Int)) = Nat.beq d c := Bool.eq_iff_iff.mpr (decide_eq_true_iff.trans (Int.ofNat_inj.trans beqN.symm))
theorem any_nat (c : Nat) (l : List Nat) : ((l.map fun (p : Nat) => (p : Int)).any fun x => decide (x = (c : Int))) = hasN c l := by
  induction l with
  | nil => rfl
  | cons d l ih =>
    show (decide ((d : Int) = (c : Int)) || _) = (bif Nat.beq d c then true else hasN c l)
    rw [← ih, eq_int]
    cases Nat.beq d c <;> rfl
theorem takes_is (n : Nat) (items : List (List Nat)) (name : List Nat) (hn : name.length < 3000) (hi : ∀ it ∈ items, ItOk it) (hl : items.length < 4000) :
    Ans (n + 2) (N "_law_takes") [.lst (strsV items), .str name] (.bool (takesL name items)) := by
  intro k hk
  refine of_eq (show _ = brW ((strsV items).length.blt 4000)
    (forL (n + 1) 39 "_law_takes" tkS (strsV items) (tkEnv (.lst (strsV items)) (.lst (natsV [0])) name .no) (cont (n + 1) "_law_takes" 1 (kEnd k))) False from by kernel_rfl) ?_
  unfold takesL at hk
  refine brW_i ((List.length_map (as := items) _).symm ▸ bltN.mpr hl) (takes_loop n name _ hn _ items [0] .no (List.cons_ne_nil _ _) ⟨fun p hp => List.mem_singleton.mp hp ▸ Nat.zero_le _, Nat.succ_le_succ (Nat.zero_le _)⟩ hi (fun h env => ?_) fun qs h e => ?_)
  · rw [h] at hk; exact hk
  · rw [h] at hk
    refine of_eq (show _ = brW (sm name) (inW (.int name.length) (.lst (natsV qs)) fun b => k (V.bool b)) False from by kernel_rfl) (brW_i (lt_k hn (by decide)) ?_)
    exact optW_i (allInt_nat qs) (any_nat name.length qs ▸ hk)
end Mine
end
section
open PySem PySem.W PyProof.Rows
set_option maxRecDepth 1000000
set_option genInjectivity false
set_option genSizeOf false
set_option backward.match.sparseCases false
namespace Mine
noncomputable abbrev fiS := stm "_law_fits" 1
noncomputable abbrev fiP := nthS (bodyS fiS) 4
noncomputable abbrev fiC := nthE (argsE (nthE (argsE (testS (nthS (bodyS fiP) 0))) 2)) 0
noncomputable abbrev fiEnv (Rs : V) (name : List Nat) (at_ : Int) (kind run last tries good p : En) : VEnv := [(N "runs", .val Rs), (N "name", .val (.str name)), (N "at", .val (.int at_)), (N "kind", kind), (N "run", run), (N "last", last), (N "tries", tries), (N "good", good), (N "p", p)]
abbrev intsV (l : List Int) : List V := l.map V.int
theorem drop_of {α : Type} {l : List α} {j : Nat} {x : α} (h : l[j]? = some x) : l.drop j = x :: l.drop (j + 1) := by
  obtain ⟨h1, h2⟩ := List.getElem?_eq_some_iff.mp h
  rw [← h2]; exact List.drop_eq_getElem_cons h1
theorem map_at {α β : Type} {f : α → β} {l : List α} {j : Nat} {x : α} (h : l[j]? = some x) : (l.map f)[j]? = some (f x) := by rw [List.getElem?_map, h]; rfl
noncomputable def runAt : List (List Nat) → List Nat → Bool
  | [], _ => true
  | it :: r, cs => match cs with
    | c :: cs => bif inL it c then runAt r cs else false
    | [] => false
noncomputable def badL : List (List Nat) → List Nat → Nat → List V
  | [], _, _ => []
  | it :: r, cs, j => match cs with
    | c :: cs => bif inL it c then badL r cs (j + 1) else .int j :: badL r cs (j + 1)
    | [] => []
theorem badL_is (r : List (List Nat)) : ∀ (cs : List Nat) (j : Nat), r.length ≤ cs.length → (badL r cs j).isEmpty = runAt r cs := by
  induction r with
  | nil => exact fun _ _ _ => rfl
  | cons it r ih =>
    intro cs j h
    cases cs with
    | nil => exact nomatch h
    | cons c cs =>
      show (bif inL it c then badL r cs (j + 1) else V.int j :: badL r cs (j + 1)).isEmpty = bif inL it c then runAt r cs else false
      cases inL it c with
      | true => exact ih cs (j + 1) (Nat.le_of_succ_le_succ h)
      | false => rfl
theorem fits_comp (n : Nat) (name : List Nat) (run : List (List Nat)) (Rs : V) (at_ : Int) (kind last tries good : En) (p : Nat) (hi : ∀ it ∈ run, ItOk it) (hn : name.length < 3000) (hp : p + run.length ≤ name.length) (K : List V → Prop) (rest : List (List Nat)) :
    ∀ (j : Nat) (acc : List V), run.drop j = rest → K (acc ++ badL rest (name.drop (p + j)) j) →
    compL (n + 1) 34 (ksOf "_law_fits") fiC (fiEnv Rs name at_ kind (.val (.lst (strsV run))) last tries good (.val (.int p))) (rngL rest.length j) acc K := by
  induction rest with
  | nil => exact fun j acc _ h => nil_i (K := K) h
  | cons it rest ih =>
    intro j acc hd h
    obtain ⟨hj, hd', hjl⟩ := get_cons hd
    have ho := hi it (List.mem_of_getElem? hj)
    have hl : p + j < name.length := Nat.lt_of_lt_of_le (Nat.add_lt_add_left hjl p) hp
    obtain ⟨c, hg⟩ : ∃ c, name[p + j]? = some c := ⟨_, List.getElem?_eq_getElem hl⟩
    rw [drop_of hg] at h
    have h : K (acc ++ bif inL it c then badL rest (name.drop (p + (j + 1))) (j + 1) else V.int j :: badL rest (name.drop (p + (j + 1))) (j + 1)) := h
    refine of_eq (show _ = brW (Fits j) (optW (getI (strsV run) j) fun v => brW (Fits ((p : Int) + j)) (optW (getI name ((p : Int) + j)) fun c => clN (n + 1) (N "_law_in") [v, .str [c]] fun r' => truthW r' fun b => brW (!b)
      (compL (n + 1) 34 (ksOf "_law_fits") fiC (fiEnv Rs name at_ kind (.val (.lst (strsV run))) last tries good (.val (.int p))) (rngL rest.length ((j : Int) + 1)) (acc ++ [.int j]) K)
      (compL (n + 1) 34 (ksOf "_law_fits") fiC (fiEnv Rs name at_ kind (.val (.lst (strsV run))) last tries good (.val (.int p))) (rngL rest.length ((j : Int) + 1)) acc K)) False) False from by kernel_rfl) ?_
    have lk := Nat.lt_trans (Nat.lt_trans hl hn) (show 3000 < 5000 by decide)
    refine brW_i (fits_k (Nat.lt_of_le_of_lt (Nat.le_add_left j p) lk)) (optW_i (getI_nat (map_at hj)) (brW_i (fits_k lk) (optW_i (getI_nat hg) (law_in_is n it c ho.ne ho.len _ ?_))))
    show brW (!inL it c) _ _
    cases e : inL it c with
    | true => rw [e] at h; exact ih (j + 1) acc hd' h
    | false => rw [e] at h; exact ih (j + 1) _ hd' (snoc_i (K := K) h)
noncomputable def okI (name : List Nat) (run : List (List Nat)) (at_ : Nat) (p : Int) : Bool := decide ((at_ : Int) ≤ p) && (decide (p ≤ (name.length : Int) - run.length) && runAt run (name.drop p.toNat))
theorem okI_i {name : List Nat} {run : List (List Nat)} {at_ : Nat} {p : Int} (h : okI name run at_ p = true) : ∃ q : Nat, p = q ∧ q + run.length ≤ name.length :=
  and_e h fun h1 h => and_e h fun h2 _ => (Int.eq_ofNat_of_zero_le (Int.le_trans (Int.natCast_nonneg _) (of_decide_eq_true h1))).elim fun q e => ⟨q, e, Int.ofNat_le.mp (Int.add_le_of_le_sub_right (e ▸ of_decide_eq_true h2))⟩
theorem fits_inner (n : Nat) (name : List Nat) (run : List (List Nat)) (Rs : V) (at_ : Nat) (kind tries : En) (hi : ∀ it ∈ run, ItOk it) (hn : name.length < 3000) (K : Fl → VEnv → Prop) (ts : List Int) : ∀ (g : List Int) (e : En), g.length + ts.length < 5000 →
    (∀ e, K .next (fiEnv Rs name at_ kind (.val (.lst (strsV run))) (.val (.int ((name.length : Int) - run.length))) tries (.ml (intsV (g ++ ts.filter (okI name run at_)))) e)) →
    forL (n + 1) 38 "_law_fits" fiP (intsV ts) (fiEnv Rs name at_ kind (.val (.lst (strsV run))) (.val (.int ((name.length : Int) - run.length))) tries (.ml (intsV g)) e) K := by
  induction ts with
  | nil => exact fun g e _ h => nil_i (K := fun l => K .next (fiEnv Rs name at_ kind (.val (.lst (strsV run))) (.val (.int ((name.length : Int) - run.length))) tries (.ml (intsV l)) e)) (h e)
  | cons p r ih =>
    intro g e hl h
    have hrl : (strsV run).length = run.length := List.length_map _
    have hgl : (intsV g).length = g.length := List.length_map _
    refine of_eq (show _ = brW (decide ((at_ : Int) ≤ p)) (brW (decide (p ≤ (name.length : Int) - run.length)) (brW (sm (strsV run)) (brW (Fits (strsV run).length && ((strsV run).length : Int).toNat.blt 4000)
      (compL (n + 1) 34 (ksOf "_law_fits") fiC (fiEnv Rs name at_ kind (.val (.lst (strsV run))) (.val (.int ((name.length : Int) - run.length))) tries (.ml (intsV g)) (.val (.int p))) (rngL ((strsV run).length : Int).toNat 0) [] fun vs =>
        brW vs.isEmpty (brW (sm (intsV g)) (forL (n + 1) 38 "_law_fits" fiP (intsV r) (fiEnv Rs name at_ kind (.val (.lst (strsV run))) (.val (.int ((name.length : Int) - run.length))) tries (.ml (intsV g ++ [.int p])) (.val (.int p))) K) False)
          (forL (n + 1) 38 "_law_fits" fiP (intsV r) (fiEnv Rs name at_ kind (.val (.lst (strsV run))) (.val (.int ((name.length : Int) - run.length))) tries (.ml (intsV g)) (.val (.int p))) K)) False) False)
      (forL (n + 1) 38 "_law_fits" fiP (intsV r) (fiEnv Rs name at_ kind (.val (.lst (strsV run))) (.val (.int ((name.length : Int) - run.length))) tries (.ml (intsV g)) (.val (.int p))) K))
      (forL (n + 1) 38 "_law_fits" fiP (intsV r) (fiEnv Rs name at_ kind (.val (.lst (strsV run))) (.val (.int ((name.length : Int) - run.length))) tries (.ml (intsV g)) (.val (.int p))) K) from by kernel_rfl) ?_
    have no : okI name run at_ p = false → forL (n + 1) 38 "_law_fits" fiP (intsV r) (fiEnv Rs name at_ kind (.val (.lst (strsV run))) (.val (.int ((name.length : Int) - run.length))) tries (.ml (intsV g)) (.val (.int p))) K :=
      fun q => ih g _ (Nat.lt_of_succ_lt hl) fun e => List.filter_cons_of_neg (show ¬ okI name run at_ p = true by rw [q]; exact Bool.false_ne_true) ▸ h e
    refine brW_d (fun h1 => brW_d (fun h2 => ?_) fun h2 => no (by unfold okI; rw [decide_eq_false h2, Bool.false_and, Bool.and_false])) fun h1 => no (by unfold okI; rw [decide_eq_false h1]; rfl)
    obtain ⟨q, rfl⟩ := Int.eq_ofNat_of_zero_le (Int.le_trans (Int.natCast_nonneg _) h1)
    have hq : q + run.length ≤ name.length := Int.ofNat_le.mp (Int.add_le_of_le_sub_right h2)
    have hr : run.length < 3000 := Nat.lt_of_le_of_lt (Nat.le_trans (Nat.le_add_left _ _) hq) hn
    unfold sm
    rw [hrl]
    refine brW_i (lt_k hr (by decide)) (brW_i (and_i (fits_k (Nat.lt_trans hr (by decide))) (lt_k (a := run.length) hr (by decide))) (fits_comp n name run Rs at_ kind (.val (.int ((name.length : Int) - run.length))) tries (.ml (intsV g)) q hi hn hq _ run 0 [] rfl ?_))
    rw [List.nil_append, badL_is _ _ _ (by rw [List.length_drop]; exact Nat.le_sub_of_add_le' hq)]
    refine brW_c (fun e => brW_i (hgl.symm ▸ lt_sm (Nat.lt_of_le_of_lt (Nat.le_add_right _ _) hl)) ?_) fun e => no (by unfold okI; rw [decide_eq_true h1, decide_eq_true h2]; exact e)
    have eg : intsV g ++ [V.int q] = intsV (g ++ [(q : Int)]) := (List.map_append (f := V.int) (l₁ := g) (l₂ := [(q : Int)])).symm
    rw [eg]
    refine ih (g ++ [(q : Int)]) _ (by rw [List.length_append]; exact (Nat.add_right_comm g.length r.length 1) ▸ hl) fun e' => ?_
    have := h e'
    rw [List.filter_cons_of_pos (by unfold okI; rw [decide_eq_true h1, decide_eq_true h2]; exact e)] at this
    exact snoc_i (K := fun l => K .next (fiEnv Rs name at_ kind (.val (.lst (strsV run))) (.val (.int ((name.length : Int) - run.length))) tries (.ml (intsV l)) e')) this
noncomputable abbrev fiRest (n : Nat) (env : VEnv) (K : Fl → VEnv → Prop) : Prop := xsW (kvP n 39) (ksOf "_law_fits") (owOf "_law_fits") ((bodyS fiS).drop 3) env K
noncomputable def endI (run : List (List Nat)) (l : List Int) : Option Nat := match l with
  | [] => none
  | p :: _ => some (p.toNat + run.length)
theorem fits_rest (n : Nat) (name k : List Nat) (run : List (List Nat)) (Rs : V) (at_ : Nat) (hi : ∀ it ∈ run, ItOk it) (hn : name.length < 3000) (hr : run.length < 3000) (ts : List Int) (hts : ts.length < 4000) (good e : En) (K : Fl → VEnv → Prop)
    (h0 : endI run (ts.filter (okI name run at_)) = none → ∀ env, K (.ret (.bool false)) env)
    (h1 : ∀ q : Nat, endI run (ts.filter (okI name run at_)) = some q → q ≤ name.length → ∀ good e, K .next (fiEnv Rs name q (.val (.str k)) (.val (.lst (strsV run))) (.val (.int ((name.length : Int) - run.length))) (.val (.lst (intsV ts))) good e)) :
    fiRest (n + 1) (fiEnv Rs name at_ (.val (.str k)) (.val (.lst (strsV run))) (.val (.int ((name.length : Int) - run.length))) (.val (.lst (intsV ts))) good e) K := by
  have hrl : (strsV run).length = run.length := List.length_map _
  have htl : (intsV ts).length = ts.length := List.length_map _
  refine of_eq (show _ = brW ((intsV ts).length.blt 4000) (forL (n + 1) 38 "_law_fits" fiP (intsV ts) (fiEnv Rs name at_ (.val (.str k)) (.val (.lst (strsV run))) (.val (.int ((name.length : Int) - run.length))) (.val (.lst (intsV ts))) (.ml (intsV [])) e)
    (contB (n + 1) 39 "_law_fits" (bodyS fiS) 4 K)) False from by kernel_rfl) ?_
  refine brW_i (htl.symm ▸ bltN.mpr hts) (fits_inner n name run Rs at_ _ _ hi hn _ ts [] e (by rw [List.length_nil, Nat.zero_add]; exact Nat.lt_trans hts (by decide)) fun e' => ?_)
  rw [List.nil_append]
  have hok : ∀ p ∈ ts.filter (okI name run at_), okI name run at_ p = true := fun p hp => (List.mem_filter.mp hp).2
  generalize ts.filter (okI name run at_) = l at h0 h1 hok
  cases l with
  | nil => exact of_eq (show _ = K (.ret (.bool false)) (fiEnv Rs name at_ (.val (.str k)) (.val (.lst (strsV run))) (.val (.int ((name.length : Int) - run.length))) (.val (.lst (intsV ts))) (.ml []) e') from by kernel_rfl) (h0 rfl _)
  | cons p g =>
    obtain ⟨q, rfl, hq⟩ := okI_i (hok p (.head _))
    refine of_eq (show _ = brW (sm (strsV run)) (K .next (fiEnv Rs name ((q : Int) + (strsV run).length) (.val (.str k)) (.val (.lst (strsV run))) (.val (.int ((name.length : Int) - run.length))) (.val (.lst (intsV ts))) (.ml (.int q :: intsV g)) e')) False from by kernel_rfl) ?_
    unfold sm
    rw [hrl]
    exact brW_i (lt_k hr (by decide)) (h1 (q + run.length) rfl hq _ _)
noncomputable def rngI : Nat → Int → List Int
  | 0, _ => []
  | n + 1, a => a :: rngI n (a + 1)
theorem rngL_int (n : Nat) : ∀ a : Int, rngL n a = intsV (rngI n a) := by
  induction n with
  | zero => exact fun _ => rfl
  | succ n ih => exact fun a => congrArg (V.int a :: ·) (ih (a + 1))
theorem rngI_len (n : Nat) : ∀ a : Int, (rngI n a).length = n := by
  induction n with
  | zero => exact fun _ => rfl
  | succ n ih => exact fun a => congrArg Nat.succ (ih (a + 1))
noncomputable def triesI (name : List Nat) (at_ : Nat) (k : List Nat) (run : List (List Nat)) : List Int :=
  bif decide (k = [104, 111, 108, 100]) then rngI ((name.length : Int) - run.length + 1 - at_).toNat at_ else bif decide (k = [114, 101, 115, 116]) then [(name.length : Int) - run.length] else [(at_ : Int)]
noncomputable def turnF (name : List Nat) (at_ : Nat) (k : List Nat) (run : List (List Nat)) : Option Nat :=
  bif decide (k = [119, 114, 111, 110, 103]) then none else endI run ((triesI name at_ k run).filter (okI name run at_))
noncomputable def fitsR (name : List Nat) : List (List Nat × List (List Nat)) → Nat → Option Nat
  | [], at_ => some at_
  | p :: r, at_ => bnd (turnF name at_ p.1 p.2) (fitsR name r)
noncomputable def fitsL (name : List Nat) (runs : List (List Nat × List (List Nat))) : Bool := match fitsR name runs 0 with
  | some q => Nat.beq q name.length
  | none => false
abbrev runV (p : List Nat × List (List Nat)) : V := .tup [.str p.1, .lst (strsV p.2)]
abbrev runsV (l : List (List Nat × List (List Nat))) : List V := l.map runV
theorem wrong_is : (Str.ofString "wrong").cps.toList = [119, 114, 111, 110, 103] := by decide +kernel
theorem hold_is : (Str.ofString "hold").cps.toList = [104, 111, 108, 100] := by decide +kernel
theorem rest_is : (Str.ofString "rest").cps.toList = [114, 101, 115, 116] := by decide +kernel
structure RunOk (p : List Nat × List (List Nat)) : Prop where
  it : ∀ it ∈ p.2, ItOk it
  len : p.2.length < 3000
noncomputable abbrev fiI (n : Nat) (env : VEnv) (K : Fl → VEnv → Prop) : Prop := (kvP n 39).x (ksOf "_law_fits") (owOf "_law_fits") (nthS (bodyS fiS) 2) env K
theorem fi_if (n : Nat) (Rs : V) (name k : List Nat) (at_ l : Int) (run good e : En) (K : Fl → VEnv → Prop) : fiI n (fiEnv Rs name at_ (.val (.str k)) run (.val (.int l)) (.val (.lst [.int at_])) good e) K = brW (decide (k = (Str.ofString "wrong").cps.toList))
      (K .next (fiEnv Rs name at_ (.val (.str k)) run (.val (.int l)) (.ml []) good e))
      (brW (decide (k = (Str.ofString "hold").cps.toList))
        (brW (Fits (l + 1) && Fits at_ && (l + 1 - at_).toNat.blt 4000) (K .next (fiEnv Rs name at_ (.val (.str k)) run (.val (.int l)) (.val (.lst (rngL (l + 1 - at_).toNat at_))) good e)) False)
        (brW (decide (k = (Str.ofString "rest").cps.toList))
          (K .next (fiEnv Rs name at_ (.val (.str k)) run (.val (.int l)) (.val (.lst (intsV [l]))) good e))
          (K .next (fiEnv Rs name at_ (.val (.str k)) run (.val (.int l)) (.val (.lst (intsV [at_]))) good e)))) := by kernel_rfl
theorem fits_loop (n : Nat) (name : List Nat) (Rs : V) (hn : name.length < 3000) (K : Fl → VEnv → Prop) (runs : List (List Nat × List (List Nat))) : ∀ (at_ : Nat) (kind rn last tries good e : En), at_ ≤ name.length → (∀ p ∈ runs, RunOk p) →
    (fitsR name runs at_ = none → ∀ env, K (.ret (.bool false)) env) → (∀ q : Nat, fitsR name runs at_ = some q → ∀ kind rn last tries good e, K .next (fiEnv Rs name q kind rn last tries good e)) →
    forL (n + 1) 39 "_law_fits" fiS (runsV runs) (fiEnv Rs name at_ kind rn last tries good e) K := by
  induction runs with
  | nil => exact fun at_ kind rn last tries good e ha _ _ hs => hs at_ rfl _ _ _ _ _ _
  | cons p r ih =>
    intro at_ kind rn last tries good e ha ho h0 hs
    obtain ⟨k, run⟩ := p
    have hro := ho (k, run) (.head _)
    have hl : run.length < 3000 := hro.len
    have hrl : (strsV run).length = run.length := List.length_map _
    have h0 : bnd (turnF name at_ k run) (fitsR name r) = none → ∀ env, K (.ret (.bool false)) env := h0
    have hs : ∀ q : Nat, bnd (turnF name at_ k run) (fitsR name r) = some q → ∀ kind rn last tries good e, K .next (fiEnv Rs name q kind rn last tries good e) := hs
    refine of_eq (show _ = brW (sm name) (brW (sm (strsV run)) (fiI (n + 1) (fiEnv Rs name at_ (.val (.str k)) (.val (.lst (strsV run))) (.val (.int ((name.length : Int) - (strsV run).length))) (.val (.lst [.int at_])) good e) (contB (n + 1) 39 "_law_fits" (bodyS fiS) 2 (contF (n + 1) 39 "_law_fits" fiS (runsV r) K))) False) False from by kernel_rfl) ?_
    unfold sm
    rw [hrl]
    refine brW_i (lt_k hn (by decide)) (brW_i (lt_k hl (by decide)) (of_eq (fi_if ..) ?_))
    rw [wrong_is, hold_is, rest_is, rngL_int]
    refine brW_d (fun hw => ?_) fun hw => ?_
    · refine of_eq (show _ = K (.ret (.bool false)) (fiEnv Rs name at_ (.val (.str k)) (.val (.lst (strsV run))) (.val (.int ((name.length : Int) - run.length))) (.ml []) (.ml []) e) from by kernel_rfl) (h0 ?_ _)
      unfold turnF
      rw [decide_eq_true hw]; rfl
    have go : ∀ ts : List Int, ts.length < 4000 → triesI name at_ k run = ts →
        fiRest (n + 1) (fiEnv Rs name at_ (.val (.str k)) (.val (.lst (strsV run))) (.val (.int ((name.length : Int) - run.length))) (.val (.lst (intsV ts))) good e) (contF (n + 1) 39 "_law_fits" fiS (runsV r) K) := by
      intro ts htl ht
      have et : turnF name at_ k run = endI run (ts.filter (okI name run at_)) := by unfold turnF; rw [decide_eq_false hw, ht]; rfl
      rw [et] at h0 hs
      refine fits_rest n name k run Rs at_ hro.it hn hl ts htl good e _ (fun hf env => h0 (by rw [hf]; rfl) env) fun q hf hq good e => ?_
      rw [hf] at h0 hs
      exact ih q _ _ _ _ _ _ hq (fun p hp => ho p (.tail _ hp)) h0 hs
    have tr : ∀ b c : Bool, decide (k = [104, 111, 108, 100]) = b → decide (k = [114, 101, 115, 116]) = c → triesI name at_ k run = bif b then rngI ((name.length : Int) - run.length + 1 - at_).toNat at_ else bif c then [(name.length : Int) - run.length] else [(at_ : Int)] := fun b c h h' => by
      unfold triesI; rw [h, h']
    refine brW_c (fun hh => brW_i (and_i (and_i ?_ (fits_k (Nat.lt_trans (Nat.lt_of_le_of_lt ha hn) (by decide)))) (bltN.mpr ?_)) (go _ ((rngI_len _ _).symm ▸ ?_) (tr true _ hh rfl))) fun hh => brW_c (fun hr => go _ (show 1 < 4000 by decide) (tr false true hh hr)) fun hr => go _ (show 1 < 4000 by decide) (tr false false hh hr)
    · exact fits_i (by omega) (by omega)
    all_goals omega
theorem fits_is (n : Nat) (runs : List (List Nat × List (List Nat))) (name : List Nat) (hn : name.length < 3000) (ho : ∀ p ∈ runs, RunOk p) (hl : runs.length < 4000) :
    Ans (n + 2) (N "_law_fits") [.lst (runsV runs), .str name] (.bool (fitsL name runs)) := by
  intro k hk
  refine of_eq (show _ = brW ((runsV runs).length.blt 4000)
    (forL (n + 1) 39 "_law_fits" fiS (runsV runs) (fiEnv (.lst (runsV runs)) name ((0 : Nat) : Int) .no .no .no .no .no .no) (cont (n + 1) "_law_fits" 1 (kEnd k))) False from by kernel_rfl) ?_
  unfold fitsL at hk
  refine brW_i ((List.length_map (as := runs) _).symm ▸ bltN.mpr hl) (fits_loop n name _ hn _ runs 0 _ _ _ _ _ _ (Nat.zero_le _) ho (fun h env => ?_) fun q h _ _ _ _ _ _ => ?_)
  · rw [h] at hk; exact hk
  · rw [h] at hk
    refine of_eq (show _ = brW (sm name) (k (V.bool (decide ((q : Int) = name.length)))) False from by kernel_rfl) (brW_i (lt_k hn (by decide)) (eq_int q name.length ▸ hk))
end Mine
end
section
open PySem PySem.W PyProof.Rows
set_option maxRecDepth 1000000
set_option genInjectivity false
set_option genSizeOf false
set_option backward.match.sparseCases false
namespace Mine
inductive Wt where
  | one (i : Int)
  | four (a b c d : Int)
abbrev V4 (a b c d : Int) : V := .tup [.int a, .int b, .int c, .int d]
def wV (w : Wt) : V := match w with
  | .one i => .int i
  | .four a b c d => V4 a b c d
def addF (v w : Wt) : Wt := match v with
  | .one i => match w with
    | .one j => .one (i + j)
    | w => w
  | .four a b c d => match w with
    | .four e f g h => .four (a + e) (b + f) (c + g) (d + h)
    | w => w
def isF (w : Wt) : Bool := match w with
  | .one _ => false
  | .four .. => true
abbrev Dt := List (List Nat × Wt)
abbrev dkeys (D : Dt) : List V := D.map fun p => V.str p.1
abbrev dvals (D : Dt) : List V := D.map fun p => wV p.2
def idxD (k : List Nat) : Dt → Option (Nat × Wt)
  | [] => none
  | p :: r => bif decide (p.1 = k) then some (0, p.2) else (idxD k r).map fun q => (q.1 + 1, q.2)
def insD (D : Dt) (k : List Nat) (w : Wt) : Dt := match idxD k D with
  | some p => D.set p.1 (k, addF p.2 w)
  | none => D ++ [(k, w)]
theorem idxD_get {k : List Nat} {D : Dt} : ∀ {j : Nat} {w : Wt}, idxD k D = some (j, w) → D[j]? = some (k, w) := by
  induction D with
  | nil => exact fun h => nomatch h
  | cons p r ih =>
    intro j w h
    have h : (bif decide (p.1 = k) then some (0, p.2) else (idxD k r).map fun q => (q.1 + 1, q.2)) = some (j, w) := h
    by_cases e : p.1 = k
    · rw [decide_eq_true e] at h
      obtain ⟨rfl, rfl⟩ := Prod.mk.inj (Option.some.inj h)
      exact e ▸ rfl
    · rw [decide_eq_false e] at h
      obtain ⟨q, e1, e2⟩ := Option.map_eq_some_iff.mp h
      obtain ⟨rfl, rfl⟩ := Prod.mk.inj e2
      exact ih e1
theorem idxD_no {k : List Nat} {D : Dt} : idxD k D = none ↔ k ∉ D.map (·.1) := by
  induction D with
  | nil => exact ⟨fun _ h => (nomatch h), fun _ => rfl⟩
  | cons p r ih =>
    show (bif decide (p.1 = k) then some (0, p.2) else (idxD k r).map fun q => (q.1 + 1, q.2)) = none ↔ _
    by_cases e : p.1 = k
    · rw [decide_eq_true e]
      exact ⟨fun h => (nomatch h), fun h => absurd (show k ∈ p.1 :: r.map (·.1) from e ▸ .head _) h⟩
    · rw [decide_eq_false e]
      exact Option.map_eq_none_iff.trans (ih.trans ⟨fun h q => (List.mem_cons.mp q).elim (fun q => e q.symm) h, fun h q => h (.tail _ q)⟩)
theorem keyW_is {k : List Nat} {y : Nat → Prop} {n : Prop} {D : Dt} : ∀ {i : Nat}, keyW k (dkeys D) i y n = match idxD k D with
    | some p => y (i + p.1)
    | none => n := by
  induction D with
  | nil => exact rfl
  | cons p r ih =>
    intro i
    show brW (decide (p.1 = k)) (y i) (keyW k (dkeys r) (i + 1) y n) = match (bif decide (p.1 = k) then some (0, p.2) else (idxD k r).map fun q => (q.1 + 1, q.2)) with
      | some p => y (i + p.1)
      | none => n
    rw [ih]
    cases decide (p.1 = k) with
    | true => rfl
    | false =>
      cases idxD k r with
      | none => rfl
      | some q => exact congrArg y (Nat.add_right_comm i 1 q.1)
theorem keyW_s {k : List Nat} {y : Nat → Prop} {n : Prop} {D : Dt} {j : Nat} {w : Wt} (h : idxD k D = some (j, w)) (hy : y j) : keyW k (dkeys D) 0 y n := of_eq keyW_is (by rw [h]; show y (0 + j); rw [Nat.zero_add]; exact hy)
theorem keyW_n {k : List Nat} {y : Nat → Prop} {n : Prop} {D : Dt} (h : idxD k D = none) (hy : n) : keyW k (dkeys D) 0 y n := of_eq keyW_is (by rw [h]; exact hy)
theorem allStr_keys (D : Dt) : allStr (dkeys D) = some (D.map (·.1)) := by
  induction D with
  | nil => rfl
  | cons p D ih =>
    show bnd (some p.1) (fun s => bnd (allStr (dkeys D)) fun l => some (s :: l)) = _
    rw [ih]; rfl
theorem keysB (D : Dt) : (allStr (dkeys D)).isSome = true := by rw [allStr_keys]; rfl
theorem keysG {D : Dt} (h : D.length < 5000) : ((allStr (dkeys D)).isSome && (dkeys D).length.blt 60000) = true := and_i (keysB D) ((List.length_map (as := D) _).symm ▸ bltN.mpr (Nat.lt_trans h (by decide)))
theorem set_id {α : Type} {l : List α} {x : α} : ∀ {j : Nat}, l[j]? = some x → l.set j x = l := by
  induction l with
  | nil => exact fun h => nomatch h
  | cons y l ih =>
    intro j h
    cases j with
    | zero => exact congrArg (· :: l) (Option.some.inj h).symm
    | succ j => exact congrArg (y :: ·) (ih (j := j) h)
section
variable {D : Dt} {k : List Nat} {j : Nat} {w w' : Wt}
theorem val_at (h : idxD k D = some (j, w)) : (dvals D)[j]? = some (wV w) := map_at (f := fun p : List Nat × Wt => wV p.2) (idxD_get h)
theorem fst_set {w' : Wt} (h : idxD k D = some (j, w)) : (D.set j (k, w')).map (·.1) = D.map (·.1) := (List.map_set ..).trans (set_id (map_at (f := fun p : List Nat × Wt => p.1) (x := (k, w)) (idxD_get h)))
theorem keys_set {w' : Wt} (h : idxD k D = some (j, w)) : dkeys (D.set j (k, w')) = dkeys D := (List.map_set ..).trans (set_id (map_at (f := fun p : List Nat × Wt => V.str p.1) (x := (k, w)) (idxD_get h)))
theorem vals_set : (dvals D).set j (wV w') = dvals (D.set j (k, w')) := (List.map_set (f := fun p : List Nat × Wt => wV p.2) (l := D) (i := j) (a := (k, w'))).symm
theorem ins_s (h : idxD k D = some (j, w')) : insD D k w = D.set j (k, addF w' w) := by unfold insD; rw [h]
theorem ins_n (h : idxD k D = none) : insD D k w = D ++ [(k, w)] := by unfold insD; rw [h]
theorem keys_snoc : dkeys D ++ [.str k] = dkeys (D ++ [(k, w)]) := (List.map_append (f := fun p : List Nat × Wt => V.str p.1) (l₁ := D) (l₂ := [(k, w)])).symm
theorem vals_snoc : dvals D ++ [wV w] = dvals (D ++ [(k, w)]) := (List.map_append (f := fun p : List Nat × Wt => wV p.2) (l₁ := D) (l₂ := [(k, w)])).symm
theorem put_s {H : List V → List V → Prop} (h : idxD k D = some (j, w')) (hH : H (dkeys (D.set j (k, w))) (dvals (D.set j (k, w)))) : H (dkeys D) ((dvals D).set j (wV w)) := by rw [vals_set (k := k), ← keys_set (w' := w) h]; exact hH
theorem put_n {H : List V → List V → Prop} (hH : H (dkeys (D ++ [(k, w)])) (dvals (D ++ [(k, w)]))) : H (dkeys D ++ [.str k]) (dvals D ++ [wV w]) := by rw [vals_snoc (k := k), keys_snoc (w := w)]; exact hH
end
theorem zip_D (D : Dt) : zipL (dkeys D) (dvals D) = D.map fun p => V.tup [.str p.1, wV p.2] := by
  induction D with
  | nil => rfl
  | cons p D ih => exact congrArg (V.tup [.str p.1, wV p.2] :: ·) ih
end Mine
end
section
open PySem PySem.W PyProof.Rows
set_option maxRecDepth 1000000
set_option genInjectivity false
set_option genSizeOf false
set_option backward.match.sparseCases false
namespace Mine
noncomputable abbrev ac1 := stm "add_callers" 1
noncomputable abbrev ac2 := stm "add_callers" 2
noncomputable abbrev acEnv (T S nc f c : En) : VEnv := [(N "target", T), (N "source", S), (N "new_callers", nc), (N "func", f), (N "caller", c)]
noncomputable abbrev acD (T S : En) (D : Dt) (f c : En) : VEnv := acEnv T S (.md (dkeys D) (dvals D)) f c
abbrev pairV (p : List Nat × Wt) : V := .tup [.str p.1, wV p.2]
abbrev keyN (D : Dt) : List (List Nat) := D.map (·.1)
theorem keyN_mid {A : Dt} {k : List Nat} {w : Wt} {r : Dt} (h : (keyN (A ++ (k, w) :: r)).Nodup) : idxD k A = none := by
  refine idxD_no.mpr fun q => ?_
  unfold keyN at h
  rw [List.map_append] at h
  exact (List.nodup_append.mp h).2.2 k q k (.head _) rfl
theorem ac_copy (n : Nat) (T S : En) (K : Fl → VEnv → Prop) (D : Dt) : ∀ (A : Dt) (f c : En), (keyN (A ++ D)).Nodup → A.length + D.length < 5000 →
    (∀ f c, K .next (acD T S (A ++ D) f c)) → forL n 39 "add_callers" ac1 (D.map pairV) (acD T S A f c) K := by
  induction D with
  | nil => exact fun A f c _ _ h => nil_i (K := fun D => K .next (acD T S D f c)) (h f c)
  | cons p r ih =>
    obtain ⟨k, w⟩ := p
    intro A f c hd hl h
    refine of_eq (show _ = brW ((allStr (dkeys A)).isSome && (dkeys A).length.blt 60000) (keyW k (dkeys A) 0
      (fun j => forL n 39 "add_callers" ac1 (r.map pairV) (acEnv T S (.md (dkeys A) ((dvals A).set j (wV w))) (.val (.str k)) (.val (wV w))) K)
      (forL n 39 "add_callers" ac1 (r.map pairV) (acEnv T S (.md (dkeys A ++ [.str k]) (dvals A ++ [wV w])) (.val (.str k)) (.val (wV w))) K)) False from by kernel_rfl) ?_
    have e : A ++ (k, w) :: r = A ++ [(k, w)] ++ r := (List.append_cons ..)
    rw [e] at hd h
    exact brW_i (keysG (Nat.lt_of_le_of_lt (Nat.le_add_right _ _) hl)) (keyW_n (keyN_mid (e ▸ hd)) (put_n (H := fun a b => forL n 39 "add_callers" ac1 (r.map pairV) (acEnv T S (.md a b) (.val (.str k)) (.val (wV w))) K)
      (ih (A ++ [(k, w)]) _ _ hd (by rw [List.length_append]; exact (Nat.add_right_comm A.length r.length 1) ▸ hl) h)))
theorem ac_add (n : Nat) (T S : En) (D : Dt) (k : List Nat) (w : Wt) (f c : En) (K : Fl → VEnv → Prop) (hl : D.length < 5000) (hk : ∀ p ∈ D, isF p.2 = isF w)
    (h : ∀ f c, K .next (acD T S (insD D k w) f c)) : forL n 39 "add_callers" ac2 [pairV (k, w)] (acD T S D f c) K := by
  have hg := keysG hl
  have hn : idxD k D = none → K .next (acEnv T S (.md (dkeys D ++ [.str k]) (dvals D ++ [wV w])) (.val (.str k)) (.val (wV w))) := fun e => put_n (H := fun a b => K .next (acEnv T S (.md a b) (.val (.str k)) (.val (wV w)))) (ins_n (w := w) e ▸ h _ _)
  have hs : ∀ j w' u, idxD k D = some (j, w') → addF w' w = u → K .next (acEnv T S (.md (dkeys D) ((dvals D).set j (wV u))) (.val (.str k)) (.val (wV w))) := fun j w' u e e' => put_s (H := fun a b => K .next (acEnv T S (.md a b) (.val (.str k)) (.val (wV w)))) e (e' ▸ ins_s (w := w) e ▸ h _ _)
  have kind : ∀ j w', idxD k D = some (j, w') → isF w' = isF w := fun j w' e => hk (k, w') (List.mem_of_getElem? (idxD_get e))
  cases w with
  | one v =>
    refine of_eq (show _ = brW (allStr (dkeys D)).isSome (keyW k (dkeys D) 0
      (fun _ => brW ((allStr (dkeys D)).isSome && (dkeys D).length.blt 60000) (keyW k (dkeys D) 0 (fun j => optW (intAt (dvals D) j) fun i =>
        K .next (acEnv T S (.md (dkeys D) ((dvals D).set j (.int (i + v)))) (.val (.str k)) (.val (.int v)))) False) False)
      (brW ((allStr (dkeys D)).isSome && (dkeys D).length.blt 60000) (keyW k (dkeys D) 0 (fun j => K .next (acEnv T S (.md (dkeys D) ((dvals D).set j (.int v))) (.val (.str k)) (.val (.int v))))
        (K .next (acEnv T S (.md (dkeys D ++ [.str k]) (dvals D ++ [.int v])) (.val (.str k)) (.val (.int v))))) False)) False from by kernel_rfl) (brW_i (keysB D) ?_)
    cases e : idxD k D with
    | none => exact keyW_n e (brW_i hg (keyW_n e (hn e)))
    | some p =>
      obtain ⟨j, w'⟩ := p
      cases w' with
      | four => exact nomatch kind _ _ e
      | one i => exact keyW_s e (brW_i hg (keyW_s e (optW_i (a := i) (by unfold intAt; rw [val_at e]; rfl) (hs _ _ (.one (i + v)) e rfl))))
  | four v1 v2 v3 v4 =>
    refine of_eq (show _ = brW (allStr (dkeys D)).isSome (keyW k (dkeys D) 0
      (fun _ => keyW k (dkeys D) 0 (fun j => optW ((dvals D)[j]?) fun q => optW (tupOf q) fun q => optW (zipSum [.int v1, .int v2, .int v3, .int v4] q) fun u =>
        brW ((allStr (dkeys D)).isSome && (dkeys D).length.blt 60000) (keyW k (dkeys D) 0 (fun j => K .next (acEnv T S (.md (dkeys D) ((dvals D).set j (.tup u))) (.val (.str k)) (.val (V4 v1 v2 v3 v4))))
        (K .next (acEnv T S (.md (dkeys D ++ [.str k]) (dvals D ++ [.tup u])) (.val (.str k)) (.val (V4 v1 v2 v3 v4))))) False) False)
      (brW ((allStr (dkeys D)).isSome && (dkeys D).length.blt 60000) (keyW k (dkeys D) 0 (fun j => K .next (acEnv T S (.md (dkeys D) ((dvals D).set j (V4 v1 v2 v3 v4))) (.val (.str k)) (.val (V4 v1 v2 v3 v4))))
        (K .next (acEnv T S (.md (dkeys D ++ [.str k]) (dvals D ++ [V4 v1 v2 v3 v4])) (.val (.str k)) (.val (V4 v1 v2 v3 v4))))) False)) False from by kernel_rfl) (brW_i (keysB D) ?_)
    cases e : idxD k D with
    | none => exact keyW_n e (brW_i hg (keyW_n e (hn e)))
    | some p =>
      obtain ⟨j, w'⟩ := p
      cases w' with
      | one => exact nomatch kind _ _ e
      | four a b c d =>
        refine keyW_s e (keyW_s e (optW_i (val_at e) (brW_i hg (keyW_s e (hs _ _ (.four (v1 + a) (v2 + b) (v3 + c) (v4 + d)) e ?_)))))
        show Wt.four (a + v1) (b + v2) (c + v3) (d + v4) = _
        rw [Int.add_comm a, Int.add_comm b, Int.add_comm c, Int.add_comm d]
theorem add_callers_is (n : Nat) (D : Dt) (k : List Nat) (w : Wt) (hl : D.length < 4000) (hp : (keyN D).Nodup) (hk : ∀ p ∈ D, isF p.2 = isF w) :
    Ans (n + 1) (N "add_callers") [.dct (dkeys D) (dvals D), .dct [.str k] [wV w]] (.dct (dkeys (insD D k w)) (dvals (insD D k w))) := by
  intro K hK
  have hkl : (dkeys D).length = D.length := List.length_map _
  have hvl : (dvals D).length = D.length := List.length_map _
  refine of_eq (show _ = brW (Nat.blt (dkeys D).length 4000 && Nat.beq (dkeys D).length (dvals D).length && (allStr (dkeys D)).isSome)
    (forL n 39 "add_callers" ac1 (zipL (dkeys D) (dvals D)) (acD (.val (.dct (dkeys D) (dvals D))) (.val (.dct [.str k] [wV w])) [] .no .no)
      (cont n "add_callers" 1 (kEnd K))) False from by kernel_rfl) ?_
  rw [hkl, hvl, zip_D]
  refine brW_i (and_i (and_i (bltN.mpr hl) (Nat.beq_refl _)) (keysB D)) (ac_copy n _ _ _ D [] .no .no hp (by rw [List.length_nil, Nat.zero_add]; exact Nat.lt_trans hl (by decide)) fun f c => ?_)
  rw [List.nil_append]
  refine of_eq (show _ = forL n 39 "add_callers" ac2 [pairV (k, w)] (acD (.val (.dct (dkeys D) (dvals D))) (.val (.dct [.str k] [wV w])) D f c) (cont n "add_callers" 2 (kEnd K)) from by kernel_rfl) (ac_add n _ _ D k w f c _ (Nat.lt_trans hl (by decide)) hk fun f c => ?_)
  exact of_eq (show _ = K (.dct (dkeys (insD D k w)) (dvals (insD D k w))) from by kernel_rfl) hK
end Mine
end
section
open PySem PySem.W PyProof.Rows
set_option maxRecDepth 1000000
set_option genInjectivity false
set_option genSizeOf false
set_option backward.match.sparseCases false
namespace Mine
structure EntD where
  f : List Nat
  l : Nat
  n : List Nat
structure Cn where
  a : Int
  b : Int
  c : Int
  d : Int
  w : Wt
structure Sm where
  a : Int
  b : Int
  c : Int
  d : Int
  D : Dt
structure RowD where
  a : Int
  b : Int
  k : Nat
  runs : List (List Nat × List (List Nat))
abbrev entV (e : EntD) : V := .tup [.str e.f, .int e.l, .str e.n]
abbrev cnV (c : Cn) : V := .tup [.int c.a, .int c.b, .int c.c, .int c.d, wV c.w]
abbrev smV (s : Sm) : V := .tup [.int s.a, .int s.b, .int s.c, .int s.d, .dct (dkeys s.D) (dvals s.D)]
abbrev rowV (r : RowD) : V := .tup [.int r.a, .int r.b, .int r.k, .lst (runsV r.runs)]
theorem noAtms_map {α : Type} {g : V → Bool} {f : α → V} (h : ∀ x, g (f x) = true) (l : List α) : noAtms g (l.map f) = true := by
  induction l with
  | nil => rfl
  | cons x l ih => exact and_i (h x) ih
def addSm (s : Sm) (c : Cn) (k : List Nat) : Sm := ⟨c.a + s.a, c.b + s.b, c.c + s.c, c.d + s.d, insD s.D k c.w⟩
theorem afs_is (n : Nat) (s : Sm) (c : Cn) (k : List Nat) (hl : s.D.length < 4000) (hp : (keyN s.D).Nodup) (hk : ∀ p ∈ s.D, isF p.2 = isF c.w) :
    Ans (n + 2) (N "add_func_stats") [smV s, .tup [.int c.a, .int c.b, .int c.c, .int c.d, .dct [.str k] [wV c.w]]] (smV (addSm s c k)) := by
  intro K hK
  refine of_eq (show _ = gd true (clN (n + 1) (N "add_callers") [.dct (dkeys s.D) (dvals s.D), .dct [.str k] [wV c.w]] fun r => K (V.tup [.int (c.a + s.a), .int (c.b + s.b), .int (c.c + s.c), .int (c.d + s.d), r])) from by kernel_rfl) (gd_t (ans (add_callers_is n s.D k c.w hl hp hk) ?_))
  exact hK
noncomputable abbrev reL := stm "_law_report" 2
noncomputable abbrev reB := bodyS reL
noncomputable abbrev reC := valS (nthS reB 1)
noncomputable abbrev reI := valS (stm "_law_report" 1)
noncomputable abbrev reEnv (Ru : List V) (way Es Cs rows k sums shown takers place callers : En) : VEnv := [(N "rules", .val (.lst Ru)), (N "way", way), (N "entries", Es), (N "counts", Cs), (N "rows", rows), (N "k", k), (N "sums", sums), (N "shown", shown), (N "takers", takers), (N "place", place), (N "callers", callers)]
noncomputable def takersL (rows : List RowD) (shown : List Nat) : List Nat := (rows.filter fun r => fitsL shown r.runs).map (·.k)
structure RowOk (r : RowD) : Prop where
  ok : ∀ p ∈ r.runs, RunOk p
  len : r.runs.length < 4000
theorem rep_comp (n : Nat) (Ru : List V) (way Es Cs ro k sums takers place callers : En) (shown : List Nat) (hs : shown.length < 3000) (K : List V → Prop) (rows : List RowD) : ∀ (acc : List V), (∀ r ∈ rows, RowOk r) →
    K (acc ++ natsV (takersL rows shown)) → compG (kvL 0 (n + 2) 38) (ksOf "_law_report") reC (reEnv Ru way Es Cs ro k sums (.val (.str shown)) takers place callers) (rows.map rowV) acc K := by
  induction rows with
  | nil => exact fun acc _ h => nil_i (K := K) h
  | cons r q ih =>
    intro acc ho h
    have ih := fun acc h' => ih acc (fun r hr => ho r (.tail _ hr)) h'
    have hr := ho r (.head _)
    refine of_eq (show _ = clN (n + 2) (N "_law_fits") [.lst (runsV r.runs), .str shown] fun v => truthW v fun b => brW b
      (compG (kvL 0 (n + 2) 38) (ksOf "_law_report") reC (reEnv Ru way Es Cs ro k sums (.val (.str shown)) takers place callers) (q.map rowV) (acc ++ [.int r.k]) K)
      (compG (kvL 0 (n + 2) 38) (ksOf "_law_report") reC (reEnv Ru way Es Cs ro k sums (.val (.str shown)) takers place callers) (q.map rowV) acc K) from by kernel_rfl) (fits_is n r.runs shown hs hr.ok hr.len _ ?_)
    show brW (fitsL shown r.runs) _ _
    unfold takersL at h
    refine brW_c (fun e => ih _ (snoc_i (K := K) ?_)) fun e => ih _ ?_
    · rw [List.filter_cons_of_pos (p := fun r : RowD => fitsL shown r.runs) e] at h; exact h
    · rw [List.filter_cons_of_neg (p := fun r : RowD => fitsL shown r.runs) (fun q => Bool.false_ne_true (e.symm.trans q))] at h; exact h
section
variable (n : Nat) (Ru : List V) (way Cs rows sums shown takers place callers : En) (El Cl Rl ts Sl : List V) (k p : Int) (sh : List Nat) (cd : V) (K : Fl → VEnv → Prop)
noncomputable abbrev reR (n i : Nat) (env : VEnv) (K : Fl → VEnv → Prop) : Prop := restG (kvL 0 n 39) "_law_report" reB i env K
theorem re_s0 : reR n 0 (reEnv Ru way (.val (.lst El)) Cs rows (.val (.int k)) sums shown takers place callers) K =
    brW (Fits k) (optW (getI El k) fun e => clN n (N "func_std_string") [e] fun s => reR n 1 (reEnv Ru way (.val (.lst El)) Cs rows (.val (.int k)) sums (.val s) takers place callers) K) False := by kernel_rfl
theorem re_s1 : reR n 1 (reEnv Ru way (.val (.lst El)) Cs (.val (.lst Rl)) (.val (.int k)) sums (.val (.str sh)) takers place callers) K =
    brW (Rl.length.blt 4000) (compG (kvL 0 n 38) (ksOf "_law_report") reC (reEnv Ru way (.val (.lst El)) Cs (.val (.lst Rl)) (.val (.int k)) sums (.val (.str sh)) takers place callers) Rl [] fun ts =>
      reR n 2 (reEnv Ru way (.val (.lst El)) Cs (.val (.lst Rl)) (.val (.int k)) sums (.val (.str sh)) (.val (.lst ts)) place callers) K) False := by kernel_rfl
theorem re_s2 : reR n 2 (reEnv Ru way (.val (.lst El)) Cs rows (.val (.int k)) sums shown (.val (.lst ts)) place callers) K =
    brW (sm Ru) (brW (Nat.blt (ts.length + 1) 65536) (optW (getI (ts ++ [.int Ru.length]) 0) fun q =>
      reR n 3 (reEnv Ru way (.val (.lst El)) Cs rows (.val (.int k)) sums shown (.val (.lst ts)) (.val q) callers) K) False) False := by kernel_rfl
theorem re_s3 : reR n 3 (reEnv Ru way (.val (.lst El)) (.val (.lst Cl)) rows (.val (.int k)) sums shown takers place callers) K =
    brW (Fits (k - 1)) (optW (getI El (k - 1)) fun e => clN n (N "func_std_string") [e] fun kv => optW (strOf kv) fun s => brW (Fits k) (optW (getI Cl k) fun c => itemW c (.int 4) fun v =>
      reR n 4 (reEnv Ru way (.val (.lst El)) (.val (.lst Cl)) rows (.val (.int k)) sums shown takers place (.val (.dct [.str s] [v]))) K) False) False := by kernel_rfl
theorem re_s4 : reR n 4 (reEnv Ru way (.val (.lst El)) (.val (.lst Cl)) rows (.val (.int k)) (.ml Sl) shown takers (.val (.int p)) (.val cd)) K =
    brW (Fits p) (optW (getI Sl p) fun s => brW (Fits k) (optW (getI Cl k) fun c => sliceW c none (some 4) fun c4 => addW c4 (.tup [cd]) fun src => clN n (N "add_func_stats") [s, src] fun r =>
      brW (Fits p) (optW (idx Sl.length p) fun j => K .next (reEnv Ru way (.val (.lst El)) (.val (.lst Cl)) rows (.val (.int k)) (.ml (Sl.set j r)) shown takers (.val (.int p)) (.val cd))) False) False) False := by kernel_rfl
end
end Mine
end
section
open PySem PySem.W PyProof.Rows
set_option maxRecDepth 1000000
set_option genInjectivity false
set_option genSizeOf false
set_option backward.match.sparseCases false
namespace Mine
structure DOk (b : Bool) (N : Nat) (D : Dt) : Prop where
  len : D.length ≤ N
  nd : (keyN D).Nodup
  kd : ∀ p ∈ D, isF p.2 = b
theorem isF_add {v w : Wt} : isF (addF v w) = isF w := by cases v <;> cases w <;> rfl
theorem DOk.ins {b : Bool} {N : Nat} {D : Dt} {k : List Nat} {w : Wt} (h : DOk b N D) (hw : isF w = b) : DOk b (N + 1) (insD D k w) := by
  cases e : idxD k D with
  | none =>
    rw [ins_n e]
    refine ⟨by rw [List.length_append]; exact Nat.succ_le_succ h.len, ?_, fun p hp => (List.mem_append.mp hp).elim (h.kd p) fun q => List.mem_singleton.mp q ▸ hw⟩
    unfold keyN
    rw [List.map_append]
    exact List.nodup_append.mpr ⟨h.nd, List.nodup_cons.mpr ⟨List.not_mem_nil, List.nodup_nil⟩, fun a ha c hc q => idxD_no.mp e ((q.trans (List.mem_singleton.mp hc) : a = k) ▸ ha)⟩
  | some q =>
    obtain ⟨j, w'⟩ := q
    rw [ins_s e]
    refine ⟨by rw [List.length_set]; exact Nat.le_succ_of_le h.len, ?_, fun p hp => (List.mem_or_eq_of_mem_set hp).elim (h.kd p) fun q => q ▸ isF_add.trans hw⟩
    unfold keyN
    rw [fst_set e]
    exact h.nd
def sm0 : Sm := ⟨0, 0, 0, 0, []⟩
def cn0 : Cn := ⟨0, 0, 0, 0, .one 0⟩
def en0 : EntD := ⟨[], 0, []⟩
noncomputable def stepSm (S : List Sm) (p : Nat) (c : Cn) (key : List Nat) : List Sm := S.set p (addSm (S.getD p sm0) c key)
noncomputable def placeOf (rows : List RowD) (m : Nat) (shown : List Nat) : Nat := (takersL rows shown ++ [m]).headD m
def prevE (E : List EntD) (k : Nat) : EntD := E.getD (match k with
  | 0 => E.length - 1
  | k + 1 => k) en0
noncomputable def repF (rows : List RowD) (m : Nat) (shownL : EntD → List Nat) (E : List EntD) (C : List Cn) : Nat → Nat → List Sm → List Sm
  | 0, _, S => S
  | j + 1, k, S => repF rows m shownL E C j (k + 1) (stepSm S (placeOf rows m (shownL (E.getD k en0))) (C.getD k cn0) (shownL (prevE E k)))
structure RepOk (n : Nat) (b : Bool) (rows : List RowD) (m : Nat) (shownL : EntD → List Nat) (E : List EntD) (C : List Cn) : Prop where
  ro : ∀ r ∈ rows, RowOk r ∧ r.k < m
  rl : rows.length < 3000
  m : m < 3000
  el : E.length < 1000
  cl : C.length = E.length
  sh : ∀ e ∈ E, Ans n (N "func_std_string") [entV e] (.str (shownL e)) ∧ (shownL e).length < 3000
  kd : ∀ c ∈ C, isF c.w = b
theorem get_d {α : Type} {l : List α} {k : Nat} {d : α} (h : k < l.length) : l[k]? = some (l.getD k d) := by rw [List.getD_eq_getElem?_getD, List.getElem?_eq_getElem h]; rfl
theorem mem_d {α : Type} {l : List α} {k : Nat} {d : α} (h : k < l.length) : l.getD k d ∈ l := List.mem_of_getElem? (get_d h)
theorem getM {α : Type} {f : α → V} {l : List α} {k : Nat} {d : α} (h : k < l.length) : getI (l.map f) (k : Int) = some (f (l.getD k d)) := getI_nat (map_at (get_d h))
theorem fits_p {k : Nat} (h : k < 5000) : Fits ((k : Int) - 1) = true := by
  cases k with
  | zero => rfl
  | succ k =>
    rw [show ((k + 1 : Nat) : Int) - 1 = (k : Int) from Int.add_sub_cancel (k : Int) 1]
    exact fits_k (Nat.lt_of_succ_lt h)
theorem prev_is {E : List EntD} {k : Nat} (hk : k < E.length) : getI (E.map entV) ((k : Int) - 1) = some (entV (prevE E k)) ∧ prevE E k ∈ E := by
  cases k with
  | zero =>
    have hl : E.length - 1 < E.length := Nat.sub_lt hk (by decide)
    refine ⟨?_, mem_d hl⟩
    show (match (bif Nat.blt 0 (E.map entV).length then some ((E.map entV).length - 1) else none) with
      | some j => (E.map entV)[j]?
      | none => none) = _
    rw [List.length_map, bltN.mpr hk]
    exact map_at (get_d hl)
  | succ k =>
    rw [show ((k + 1 : Nat) : Int) - 1 = (k : Int) from Int.add_sub_cancel (k : Int) 1]
    exact ⟨getM (Nat.lt_of_succ_lt hk), mem_d (Nat.lt_of_succ_lt hk)⟩
section
variable {n : Nat} {b : Bool} {rows : List RowD} {m : Nat} {shownL : EntD → List Nat} {E : List EntD} {C : List Cn}
theorem place_le (h : RepOk n b rows m shownL E C) (sh : List Nat) : placeOf rows m sh ≤ m := by
  unfold placeOf
  cases ht : takersL rows sh with
  | nil => exact Nat.le_refl m
  | cons k r =>
    obtain ⟨r, hr, e⟩ := List.mem_map.mp (show k ∈ takersL rows sh from ht ▸ .head _)
    exact Nat.le_of_lt (e ▸ (h.ro r (List.mem_filter.mp hr).1).2)
theorem place_get (sh : List Nat) : getI (natsV (takersL rows sh) ++ [.int m]) 0 = some (.int (placeOf rows m sh)) := by
  unfold placeOf
  cases takersL rows sh <;> rfl
theorem idx_k {n k : Nat} (h : k < n) : idx n (k : Int) = some k := by
  show (bif Nat.blt k n then some k else none) = some k
  rw [bltN.mpr h]; rfl
theorem rep_loop (Ru : List V) (way : En) (O : RepOk (n + 2) b rows Ru.length shownL E C) (K : Fl → VEnv → Prop) (j : Nat) :
    ∀ (k : Nat) (S : List Sm) (kE sh tk pl ca : En), k + j = E.length → S.length = Ru.length + 1 → (∀ s ∈ S, DOk b k s.D) →
    (∀ kE sh tk pl ca, K .next (reEnv Ru way (.val (.lst (E.map entV))) (.val (.lst (C.map cnV))) (.val (.lst (rows.map rowV))) kE (.ml ((repF rows Ru.length shownL E C j k S).map smV)) sh tk pl ca)) →
    forG (kvL 0 (n + 2) 39) "_law_report" reL (rngL j k) (reEnv Ru way (.val (.lst (E.map entV))) (.val (.lst (C.map cnV))) (.val (.lst (rows.map rowV))) kE (.ml (S.map smV)) sh tk pl ca) K := by
  induction j with
  | zero => exact fun k S kE sh tk pl ca _ _ _ h => h kE sh tk pl ca
  | succ j ih =>
    intro k S kE sh tk pl ca hkj hS hD h
    have hk : k < E.length := hkj ▸ Nat.lt_add_of_pos_right (Nat.succ_pos j)
    have hkc : k < C.length := O.cl.symm ▸ hk
    have lk : k < 5000 := Nat.lt_trans (Nat.lt_trans hk O.el) (by decide)
    have fk := fits_k lk
    refine forG_cons (env' := reEnv Ru way (.val (.lst (E.map entV))) (.val (.lst (C.map cnV))) (.val (.lst (rows.map rowV))) (.val (.int k)) (.ml (S.map smV)) sh tk pl ca) (by kernel_rfl) (of_eq (re_s0 ..) ?_)
    have he := O.sh _ (mem_d (d := en0) hk)
    refine brW_i fk (optW_i (getM (d := en0) hk) (ans he.1 (of_eq (re_s1 ..) (brW_i ((List.length_map (as := rows) _).symm ▸ lt_k O.rl (by decide)) (rep_comp n Ru way _ _ _ _ _ _ _ _ _ he.2 _ rows [] (fun r hr => (O.ro r hr).1) ?_)))))
    rw [List.nil_append]
    have htl : (natsV (takersL rows (shownL (E.getD k en0)))).length + 1 < 65536 := by
      rw [List.length_map]
      unfold takersL
      rw [List.length_map]
      exact Nat.lt_of_le_of_lt (Nat.succ_le_succ (Nat.le_trans (List.length_filter_le ..) (Nat.le_of_lt O.rl))) (by decide)
    obtain ⟨hg, hmem⟩ := prev_is hk
    refine of_eq (re_s2 ..) (brW_i (lt_k O.m (by decide)) (brW_i (bltN.mpr htl) (optW_i (place_get _) (of_eq (re_s3 ..) (brW_i (fits_p lk) (optW_i hg (ans (O.sh _ hmem).1 (brW_i fk (optW_i (getM (d := cn0) hkc) ?_)))))))))
    refine of_eq (show _ = reR (n + 2) 4 (reEnv Ru way (.val (.lst (E.map entV))) (.val (.lst (C.map cnV))) (.val (.lst (rows.map rowV))) (.val (.int k)) (.ml (S.map smV)) (.val (.str (shownL (E.getD k en0))))
      (.val (.lst (natsV (takersL rows (shownL (E.getD k en0)))))) (.val (.int (placeOf rows Ru.length (shownL (E.getD k en0))))) (.val (.dct [.str (shownL (prevE E k))] [wV (C.getD k cn0).w]))) (contL (kvL 0 (n + 2) 39) "_law_report" reL (rngL j ((k : Int) + 1)) K) from by kernel_rfl) ?_
    have hpl := place_le O (shownL (E.getD k en0))
    have h : ∀ kE sh tk pl ca, K .next (reEnv Ru way (.val (.lst (E.map entV))) (.val (.lst (C.map cnV))) (.val (.lst (rows.map rowV))) kE (.ml ((repF rows Ru.length shownL E C j (k + 1) (stepSm S (placeOf rows Ru.length (shownL (E.getD k en0))) (C.getD k cn0) (shownL (prevE E k)))).map smV)) sh tk pl ca) := h
    generalize placeOf rows Ru.length (shownL (E.getD k en0)) = p at hpl h
    have hps : p < S.length := hS.symm ▸ Nat.lt_succ_of_le hpl
    have fp : Fits (p : Int) = true := fits_k (Nat.lt_trans (Nat.lt_of_le_of_lt hpl O.m) (by decide))
    have hs := hD _ (mem_d (d := sm0) hps)
    have hc := O.kd _ (mem_d (d := cn0) hkc)
    refine of_eq (re_s4 ..) (brW_i fp (optW_i (getM (d := sm0) hps) (brW_i fk (optW_i (getM (d := cn0) hkc) ?_))))
    unfold stepSm at h
    generalize C.getD k cn0 = c at hc h
    generalize S.getD p sm0 = s at hs h
    refine of_eq (show _ = gd true (clN (n + 2) (N "add_func_stats") [smV s, .tup [.int c.a, .int c.b, .int c.c, .int c.d, .dct [.str (shownL (prevE E k))] [wV c.w]]] fun r =>
      brW (Fits p) (optW (idx (S.map smV).length p) fun q => forG (kvL 0 (n + 2) 39) "_law_report" reL (rngL j ((k + 1 : Nat) : Int)) (reEnv Ru way (.val (.lst (E.map entV))) (.val (.lst (C.map cnV))) (.val (.lst (rows.map rowV))) (.val (.int k)) (.ml ((S.map smV).set q r)) (.val (.str (shownL (E.getD k en0))))
      (.val (.lst (natsV (takersL rows (shownL (E.getD k en0)))))) (.val (.int p)) (.val (.dct [.str (shownL (prevE E k))] [wV c.w]))) K) False) from by kernel_rfl) ?_
    refine gd_t (ans (afs_is n s c _ (Nat.lt_of_le_of_lt hs.len (Nat.lt_trans (Nat.lt_trans hk O.el) (by decide))) hs.nd fun q hq => (hs.kd q hq).trans hc.symm) (brW_i fp (optW_i (idx_k ((List.length_map (as := S) _).symm ▸ hps)) ?_)))
    rw [← List.map_set]
    refine ih (k + 1) _ _ _ _ _ _ ((Nat.add_right_comm k 1 j).trans hkj) (by rw [List.length_set]; exact hS) (fun t ht => ?_) h
    rcases List.mem_or_eq_of_mem_set ht with h1 | h1
    · exact ⟨Nat.le_succ_of_le (hD t h1).len, (hD t h1).nd, (hD t h1).kd⟩
    · exact h1 ▸ hs.ins hc
theorem rep_init (env : VEnv) (K : List V → Prop) (j : Nat) : ∀ (k : Int) (acc : List V), K (acc ++ List.replicate j (smV sm0)) → compG (kvL 0 n 39) (ksOf "_law_report") reI env (rngL j k) acc K := by
  induction j with
  | zero => exact fun _ acc h => nil_i (K := K) h
  | succ j ih => exact fun k acc h => of_eq (show _ = compG (kvL 0 n 39) (ksOf "_law_report") reI env (rngL j (k + 1)) (acc ++ [smV sm0]) K from by kernel_rfl) (ih (k + 1) _ (snoc_i (K := K) h))
noncomputable abbrev reT (n i : Nat) (env : VEnv) (K : Fl → VEnv → Prop) : Prop := restG (kvL 0 n 40) "_law_report" (dOf (N "_law_report")).body i env K
theorem re_run (n : Nat) (env : VEnv) (K : Fl → VEnv → Prop) : xsW (kev (clF (dOf (N "_law_report")).lw (clN n)) 40) (kindsOf (dOf (N "_law_report")).scope) (dOf (N "_law_report")).owns (dOf (N "_law_report")).body env K = reT n 0 env K := by kernel_rfl
theorem re_t0 (n : Nat) (Ru : List V) (way : V) (Es Cs : En) (K : Fl → VEnv → Prop) : reT n 0 (reEnv Ru (.val way) Es Cs .no .no .no .no .no .no .no) K = gd true (clN n (N "_law_in_order") [.lst Ru, way] fun r => reT n 1 (reEnv Ru (.val way) Es Cs (.val r) .no .no .no .no .no .no) K) := by kernel_rfl
theorem re_t1 (n : Nat) (Ru : List V) (way Es Cs r : En) (K : Fl → VEnv → Prop) : reT n 1 (reEnv Ru way Es Cs r .no .no .no .no .no .no) K = brW (sm Ru) (brW (Fits ((Ru.length : Int) + 1) && ((Ru.length : Int) + 1).toNat.blt 4000)
      (compG (kvL 0 n 39) (ksOf "_law_report") reI (reEnv Ru way Es Cs r .no .no .no .no .no .no) (rngL ((Ru.length : Int) + 1).toNat 0) [] fun vs => reT n 2 (reEnv Ru way Es Cs r .no (.ml vs) .no .no .no .no) K) False) False := by kernel_rfl
theorem re_t2 (n : Nat) (Ru El : List V) (way Cs r S : En) (K : Fl → VEnv → Prop) : reT n 2 (reEnv Ru way (.val (.lst El)) Cs r .no S .no .no .no .no) K = brW (sm El) (brW (Fits El.length && (El.length : Int).toNat.blt 4000)
          (forG (kvL 0 n 39) "_law_report" reL (rngL (El.length : Int).toNat 0) (reEnv Ru way (.val (.lst El)) Cs r .no S .no .no .no .no) (contX (kvL 0 n 40) "_law_report" (dOf (N "_law_report")).body 3 K)) False) False := by kernel_rfl
theorem re_t3 (n : Nat) (Ru S : List V) (way Es Cs r kE sh tk pl ca : En) (K : V → Prop) : reT n 3 (reEnv Ru way Es Cs r kE (.ml S) sh tk pl ca) (kRet (dOf (N "_law_report")) K) = K (.lst S) := by kernel_rfl
theorem report_is (Ru : List V) (way : Int) (O : RepOk (n + 2) b rows Ru.length shownL E C) (ho : Ans (n + 2) (N "_law_in_order") [.lst Ru, .int way] (.lst (rows.map rowV))) :
    Ans (n + 3) (N "_law_report") [.lst Ru, .int way, .lst (E.map entV), .lst (C.map cnV)] (.lst ((repF rows Ru.length shownL E C E.length 0 (List.replicate (Ru.length + 1) sm0)).map smV)) := by
  intro K hK
  have em : (E.map entV).length = E.length := List.length_map _
  refine run_i (d := dOf (N "_law_report")) (env := reEnv Ru (.val (.int way)) (.val (.lst (E.map entV))) (.val (.lst (C.map cnV))) .no .no .no .no .no .no .no) (by kernel_rfl) (by kernel_rfl) (by kernel_rfl) (of_eq (re_run ..) (of_eq (re_t0 ..) (gd_t (ans ho (of_eq (re_t1 ..) ?_)))))
  unfold sm
  refine (brW_i (lt_k O.m (by decide)) (brW_i (and_i (fits_k (n := Ru.length + 1) (Nat.lt_trans (Nat.succ_lt_succ O.m) (by decide))) (bltN.mpr (Nat.lt_trans (Nat.succ_lt_succ O.m) (show 3001 < 4000 by decide)))) (rep_init _ _ _ 0 [] ?_)))
  rw [List.nil_append]
  refine of_eq (re_t2 ..) ?_
  unfold sm
  rw [em]
  have le := Nat.lt_trans O.el (show 1000 < 3000 by decide)
  refine brW_i (lt_k le (by decide)) (brW_i (and_i (fits_k (Nat.lt_trans le (by decide))) (lt_k (a := E.length) le (by decide))) ?_)
  rw [show List.replicate ((Ru.length : Int) + 1).toNat (smV sm0) = (List.replicate (Ru.length + 1) sm0).map smV from (List.map_replicate (f := smV) ..).symm]
  refine rep_loop Ru _ O _ E.length 0 _ _ _ _ _ _ (Nat.zero_add _) (List.length_replicate ..) (fun s hs => ?_) fun kE sh tk pl ca => of_eq (re_t3 ..) hK
  rw [(List.mem_replicate.mp hs).2]
  exact ⟨Nat.le_refl _, List.nodup_nil, fun _ h => nomatch h⟩
end
end Mine
end
section
open PySem PySem.W PyProof.Rows
set_option maxRecDepth 1000000
set_option genInjectivity false
set_option genSizeOf false
set_option backward.match.sparseCases false
namespace Mine
structure RuleD where
  fp : List Nat
  fi : List (List Nat)
  l : Nat
  np : List Nat
  ni : List (List Nat)
abbrev ruleV (R : RuleD) : V := .tup [.tup [.str R.fp, .lst (strsV R.fi)], .int R.l, .tup [.str R.np, .lst (strsV R.ni)]]
def built (R : RuleD) : Bool := decide (R.fp = [126]) && Nat.beq R.l 0
theorem tilde_is : (Str.ofString "~").cps.toList = [126] := by decide +kernel
theorem lt_is : (Str.ofString "<").cps.toList = [60] := by decide +kernel
theorem built_is (n : Nat) (R : RuleD) : Ans (n + 1) (N "_law_built_in") [ruleV R] (.bool (built R)) := by
  intro k hk
  refine of_eq (show _ = brW (decide (R.fp = (Str.ofString "~").cps.toList)) (k (V.bool (decide ((R.l : Int) = ((0 : Nat) : Int))))) (k (V.bool (decide (R.fp = (Str.ofString "~").cps.toList)))) from by kernel_rfl) ?_
  unfold built at hk
  rw [tilde_is, eq_int]
  cases h : decide (R.fp = [126]) <;> (rw [h] at hk; exact hk)
noncomputable def meansL (shownL : EntD → List Nat) (R : RuleD) (e : EntD) : Bool :=
  bif !built R then
    bif decide (e.f = [126]) && Nat.beq e.l 0 then false
    else bif !Nat.beq e.l R.l then false
    else bif takesL e.f R.fi then takesL e.n R.ni else false
  else bif decide ([R.np.headD 0] = [60]) then
    bif decide (e.f = [126]) && Nat.beq e.l 0 then takesL e.n R.ni else false
  else takesL (shownL e) R.ni
structure RuleOk (R : RuleD) : Prop where
  fi : ∀ it ∈ R.fi, ItOk it
  fl : R.fi.length < 3000
  ni : ∀ it ∈ R.ni, ItOk it
  nl : R.ni.length < 3000
  np : R.np ≠ []
structure EntOk (n : Nat) (shownL : EntD → List Nat) (e : EntD) : Prop where
  hf : e.f.length < 3000
  hn : e.n.length < 3000
  sh : Ans n (N "_law_shown") [entV e] (.str (shownL e))
  sl : (shownL e).length < 3000
noncomputable abbrev meR (n : Nat) (R : RuleD) (e : EntD) (b : Bool) (k : V → Prop) : Prop := restG (kvP n 40) "_law_means" (dOf (N "_law_means")).body 1 [(N "rule", .val (ruleV R)), (N "entry", .val (entV e)), (N "inside", .val (.bool b))] (kEnd k)
theorem means_rest (n : Nat) (R : RuleD) (e : EntD) (shownL : EntD → List Nat) (b : Bool) (k : V → Prop) (hR : RuleOk R) (hE : EntOk (n + 2) shownL e)
    (h : k (V.bool (bif !built R then (bif b then false else bif !Nat.beq e.l R.l then false else bif takesL e.f R.fi then takesL e.n R.ni else false)
      else bif decide ([R.np.headD 0] = [60]) then (bif b then takesL e.n R.ni else false) else takesL (shownL e) R.ni))) : meR (n + 2) R e b k := by
  refine of_eq (show _ = gd true (clN (n + 2) (N "_law_built_in") [ruleV R] fun r1 => truthW r1 fun b1 => brW (!b1)
      (brW b (k (V.bool false)) (brW (!decide ((e.l : Int) = (R.l : Int))) (k (V.bool false))
        (clN (n + 2) (N "_law_takes") [.lst (strsV R.fi), .str e.f] fun t1 => truthW t1 fun c1 => brW c1 (clN (n + 2) (N "_law_takes") [.lst (strsV R.ni), .str e.n] k) (k t1))))
      (optW (getI R.np 0) fun c => brW (decide ([c] = (Str.ofString "<").cps.toList))
        (brW b (clN (n + 2) (N "_law_takes") [.lst (strsV R.ni), .str e.n] k) (k (V.bool b)))
        (clN (n + 2) (N "_law_shown") [entV e] fun s => clN (n + 2) (N "_law_takes") [.lst (strsV R.ni), s] k))) from by kernel_rfl) (gd_t (ans (built_is (n + 1) R) ?_))
  have lt4 : ∀ {a : Nat}, a < 3000 → a < 4000 := fun h => Nat.lt_trans h (by decide)
  have tn := takes_is n _ _ hE.hn hR.ni (lt4 hR.nl)
  show brW (!built R) _ _
  generalize built R = bu at h ⊢
  cases bu with
  | false =>
    cases b with
    | true => exact h
    | false =>
      show brW (!decide ((e.l : Int) = (R.l : Int))) _ _
      rw [eq_int]
      generalize Nat.beq e.l R.l = c at h ⊢
      cases c with
      | false => exact h
      | true =>
        refine ans (takes_is n _ _ hE.hf hR.fi (lt4 hR.fl)) ?_
        show brW (takesL e.f R.fi) _ _
        generalize takesL e.f R.fi = d at h ⊢
        cases d with
        | false => exact h
        | true => exact ans tn h
  | true =>
    have hg : getI R.np 0 = some (R.np.headD 0) := by
      cases hp : R.np with
      | nil => exact absurd hp hR.np
      | cons c q => exact getI_nat (l := c :: q) (j := 0) rfl
    refine optW_i hg ?_
    rw [lt_is]
    generalize decide ([R.np.headD 0] = [60]) = d at h ⊢
    cases d with
    | true =>
      cases b with
      | true => exact ans tn h
      | false => exact h
    | false => exact ans hE.sh (ans (takes_is n _ _ hE.sl hR.ni (lt4 hR.nl)) h)
theorem means_is (n : Nat) (R : RuleD) (e : EntD) (shownL : EntD → List Nat) (hR : RuleOk R) (hE : EntOk (n + 2) shownL e) : Ans (n + 3) (N "_law_means") [ruleV R, entV e] (.bool (meansL shownL R e)) := by
  intro k hk
  refine of_eq (show _ = brW (decide (e.f = (Str.ofString "~").cps.toList)) (meR (n + 2) R e (decide ((e.l : Int) = ((0 : Nat) : Int))) k) (meR (n + 2) R e (decide (e.f = (Str.ofString "~").cps.toList)) k) from by kernel_rfl) ?_
  unfold meansL at hk
  rw [tilde_is, eq_int]
  generalize decide (e.f = [126]) = c at hk ⊢
  cases c <;> exact means_rest n R e shownL _ k hR hE hk
end Mine
end
section
open PySem PySem.W PyProof.Rows
set_option maxRecDepth 1000000
set_option genInjectivity false
set_option genSizeOf false
set_option backward.match.sparseCases false
namespace Mine
def cmpL (way : Int) (x y : RowD) : Int :=
  bif decide (x.a < y.a) then 1 else bif decide (y.a < x.a) then -1
  else bif decide (x.b < y.b) then -1 else bif decide (y.b < x.b) then 1
  else bif decide ((x.k : Int) < y.k) then -way else bif decide ((y.k : Int) < x.k) then way else 0
abbrev ordV (way : Int) : V := .tup [.tup [.int 0, .int (-1)], .tup [.int 1, .int 1], .tup [.int 2, .int way]]
theorem brK {k : V → Prop} {b : Bool} {x y : Int} {q : Prop} (h : k (.int (bif b then x else y))) (c : b = false → k (.int y) → q) : brW b (k (.int x)) q := by
  cases b with
  | true => exact h
  | false => exact c rfl h
theorem compare_is (n : Nat) (way : Int) (x y : RowD) : Ans (n + 1) (N "compare") [.inst (ordV way), rowV x, rowV y] (.int (cmpL way x y)) := by
  intro k hk
  exact of_eq (show _ = brW (decide (x.a < y.a)) (k (.int 1)) (brW (decide (y.a < x.a)) (k (.int (-1))) (brW (decide (x.b < y.b)) (k (.int (-1))) (brW (decide (y.b < x.b)) (k (.int 1))
      (brW (decide ((x.k : Int) < y.k)) (k (.int (-way))) (brW (decide ((y.k : Int) < x.k)) (k (.int way)) (k (.int 0))))))) from by kernel_rfl)
    (brK hk fun _ h => brK h fun _ h => brK h fun _ h => brK h fun _ h => brK h fun _ h => brK h fun _ h => h)
noncomputable abbrev ioL := stm "_law_in_order" 4
noncomputable abbrev ioB := bodyS ioL
noncomputable abbrev ioW := nthS ioB 5
noncomputable abbrev ioC := nthE (argsE (valS (nthS ioB 2))) 0
noncomputable abbrev ioEnv (Ru : List V) (way star mark order rows k pattern parts stars row place : En) : VEnv := [(N "rules", .val (.lst Ru)), (N "way", way), (N "star", star), (N "mark", mark), (N "order", order), (N "rows", rows), (N "k", k), (N "pattern", pattern), (N "parts", parts), (N "stars", stars), (N "row", row), (N "place", place)]
noncomputable abbrev starV : V := .atm (N "star")
noncomputable abbrev markV : V := .atm (N "mark")
noncomputable abbrev ioE (Ru : List V) (way order rows k pattern parts stars row place : En) : VEnv := ioEnv Ru way (.val starV) (.val markV) order rows k pattern parts stars row place
noncomputable abbrev ioR (n i : Nat) (env : VEnv) (K : Fl → VEnv → Prop) : Prop := restG (kvL 1 n 39) "_law_in_order" ioB i env K
noncomputable abbrev whT (n f : Nat) (env : VEnv) (K : Fl → VEnv → Prop) : Prop := whileW (kvL 1 n 38) (ksOf "_law_in_order") (owOf "_law_in_order") (testS ioW) (bodyS ioW) f env K
noncomputable abbrev compT (n : Nat) (env : VEnv) (l acc : List V) (K : List V → Prop) : Prop := compG (kvL 1 n 36) (ksOf "_law_in_order") ioC env l acc K
section
variable (n f : Nat) (Ru G P : List V) (way order rows kE pattern parts stars row place : En) (k st : Int) (p : Nat) (pv rv w : V) (K : Fl → VEnv → Prop)
theorem io_b0 : ioR n 0 (ioE Ru way order rows (.val (.int k)) pattern parts stars row place) K =
    brW (Fits k) (optW (getI Ru k) fun r1 => itemW r1 (.int 0) fun a => itemW a (.int 0) fun x => brW (Fits k) (optW (getI Ru k) fun r2 => itemW r2 (.int 1) fun l => brW (Fits k) (optW (getI Ru k) fun r3 => itemW r3 (.int 2) fun b => itemW b (.int 0) fun y =>
      clN n (N "func_std_string") [.tup [x, l, y]] fun q => ioR n 1 (ioE Ru way order rows (.val (.int k)) (.val q) parts stars row place) K) False) False) False := by kernel_rfl
theorem io_b1 : ioR n 1 (ioE Ru way order rows kE (.val pv) parts stars row place) K =
    gd true (clN n (N "_translate") [pv, starV, markV] fun q => ioR n 2 (ioE Ru way order rows kE (.val pv) (.val q) stars row place) K) := by kernel_rfl
theorem io_b2 : ioR n 2 (ioE Ru way order rows kE pattern (.val (.lst P)) stars row place) K =
    brW (P.length.blt 4000) (compT n (ioE Ru way order rows kE pattern (.val (.lst P)) stars row place) P [] fun vs => brW (sm vs)
      (ioR n 3 (ioE Ru way order rows kE pattern (.val (.lst P)) (.val (.int vs.length)) row place) K) False) False := by kernel_rfl
theorem io_b3 : ioR n 3 (ioE Ru way order rows (.val (.int k)) (.val pv) (.val (.lst P)) (.val (.int st)) row place) K =
    brW (sm P) (clN n (N "translate") [pv] fun t => clN n (N "_law_runs") [t] fun r =>
      ioR n 4 (ioE Ru way order rows (.val (.int k)) (.val pv) (.val (.lst P)) (.val (.int st)) (.val (.tup [.int ((P.length : Int) - st), .int st, .int k, r])) place) K) False := by kernel_rfl
theorem io_b4 : ioR n 4 (ioE Ru way order rows kE pattern parts stars row place) K = ioR n 5 (ioE Ru way order rows kE pattern parts stars row (.val (.int ((0 : Nat) : Int)))) K := by kernel_rfl
theorem io_b5 (env : VEnv) : ioR n 5 env K = whT n 4096 env (contX (kvL 1 n 39) "_law_in_order" ioB 6 K) := by kernel_rfl
noncomputable abbrev wKx (n : Nat) (env : VEnv) (K : Fl → VEnv → Prop) : Prop := xsW (kvL 1 n 38) (ksOf "_law_in_order") (owOf "_law_in_order") (bodyS ioW) env K
theorem io_wb : wKx n (ioE Ru way order rows kE pattern parts stars row (.val (.int (p : Int)))) K = K .next (ioE Ru way order rows kE pattern parts stars row (.val (.int ((p + 1 : Nat) : Int)))) := by kernel_rfl
theorem io_wt (T : Bool → Prop) : (kvL 1 n 38).t (ksOf "_law_in_order") (testS ioW) (ioE Ru way (.val (.inst w)) (.ml G) kE pattern parts stars (.val rv) (.val (.int (p : Int)))) T =
    brW (sm G) (brW (decide ((p : Int) < G.length)) (brW (Fits p) (optW (getI G p) fun x => clN n (N "compare") [.inst w, x, rv] fun c => cmpW .Lt c (.int 0) fun b => brW b (T true) (T false)) False) (T false)) False := by kernel_rfl
theorem io_b6 : ioR n 6 (ioE Ru way order (.ml G) kE pattern parts stars (.val rv) (.val (.int (p : Int)))) K =
    brW (sm G && p.blt 65536) (K .next (ioE Ru way order (.ml (insertAt rv p G)) kE pattern parts stars (.val rv) (.val (.int (p : Int))))) False := by kernel_rfl
end
end Mine
end
section
open PySem PySem.W PyProof.Rows
set_option maxRecDepth 1000000
set_option genInjectivity false
set_option genSizeOf false
set_option backward.match.sparseCases false
namespace Mine
noncomputable def contW (kv : KEv) (ks : Ks) (ow : List Nat) (t : PySem.Expr) (b : List PySem.Stmt) (f : Nat) (K : Fl → VEnv → Prop) (fl : Fl) (env : VEnv) : Prop := match fl with
  | .next => whileW kv ks ow t b f env K
  | .brk => K .next env
  | .ret v => K (.ret v) env
theorem while_step {kv : KEv} {ks : Ks} {ow : List Nat} {t : PySem.Expr} {b : List PySem.Stmt} {f : Nat} {env : VEnv} {K : Fl → VEnv → Prop} (H : kv.t ks t env (fun c => brW c (xsW kv ks ow b env (contW kv ks ow t b f K)) (K .next env))) : whileW kv ks ow t b (f + 1) env K := H
def before (way : Int) (x y : RowD) : Bool := decide (cmpL way x y < 0)
def posR (way : Int) (row : RowD) : List RowD → Nat
  | [] => 0
  | x :: r => bif before way x row then posR way row r + 1 else 0
def insR (way : Int) (row : RowD) : List RowD → List RowD
  | [] => [row]
  | x :: r => bif before way x row then x :: insR way row r else row :: x :: r
theorem insR_is (way : Int) (row : RowD) (G : List RowD) : insertAt (rowV row) (posR way row G) (G.map rowV) = (insR way row G).map rowV := by
  induction G with
  | nil => rfl
  | cons x r ih =>
    show insertAt (rowV row) (bif before way x row then posR way row r + 1 else 0) (rowV x :: r.map rowV) = (bif before way x row then x :: insR way row r else row :: x :: r).map rowV
    cases before way x row with
    | true => exact congrArg (rowV x :: ·) ih
    | false => rfl
theorem insR_len (way : Int) (row : RowD) (G : List RowD) : (insR way row G).length = G.length + 1 := by
  induction G with
  | nil => rfl
  | cons x r ih =>
    show (bif before way x row then x :: insR way row r else row :: x :: r).length = _
    cases before way x row with
    | true => exact congrArg Nat.succ ih
    | false => rfl
theorem posR_le (way : Int) (row : RowD) (G : List RowD) : posR way row G ≤ G.length := by
  induction G with
  | nil => exact Nat.le_refl _
  | cons x r ih =>
    show (bif before way x row then posR way row r + 1 else 0) ≤ r.length + 1
    cases before way x row with
    | true => exact Nat.succ_le_succ ih
    | false => exact Nat.zero_le _
noncomputable abbrev ioG (Ru : List V) (way : Int) (wE : En) (G : List RowD) (kE p1 p2 p3 p4 p5 : En) : VEnv := ioE Ru wE (.val (.inst (ordV way))) (.ml (G.map rowV)) kE p1 p2 p3 p4 p5
theorem io_wh (n : Nat) (Ru : List V) (way : Int) (wE kE p1 p2 p3 : En) (G : List RowD) (row : RowD) (hG : G.length < 3000) (K : Fl → VEnv → Prop) (rest : List RowD) : ∀ (p f : Nat), G.drop p = rest → rest.length < f →
    K .next (ioG Ru way wE G kE p1 p2 p3 (.val (rowV row)) (.val (.int ((p + posR way row rest : Nat) : Int)))) →
    whT (n + 1) f (ioG Ru way wE G kE p1 p2 p3 (.val (rowV row)) (.val (.int (p : Int)))) K := by
  have hs : sm (G.map rowV) = true := show Nat.blt (G.map rowV).length 65536 = true from (List.length_map (as := G) rowV).symm ▸ lt_k hG (by decide)
  induction rest with
  | nil =>
    intro p f hd hf h
    cases f with
    | zero => exact nomatch hf
    | succ f =>
      refine while_step (of_eq (io_wt ..) (brW_i hs ?_))
      rw [List.length_map, blt_int, Bool.eq_false_iff.mpr fun q => absurd (bltN.mp q) (Nat.not_lt.mpr (List.drop_eq_nil_iff.mp hd))]
      exact h
  | cons x rest ih =>
    intro p f hd hf h
    cases f with
    | zero => exact nomatch hf
    | succ f =>
      obtain ⟨hk, hd', hkl⟩ := get_cons hd
      refine while_step (of_eq (io_wt ..) (brW_i hs ?_))
      rw [List.length_map, blt_int, bltN.mpr hkl]
      refine brW_i (fits_k (Nat.lt_trans (Nat.lt_trans hkl hG) (by decide))) (optW_i (getI_nat (map_at hk)) (ans (compare_is n way x row) ?_))
      have h : K .next (ioG Ru way wE G kE p1 p2 p3 (.val (rowV row)) (.val (.int ((p + (bif before way x row then posR way row rest + 1 else 0) : Nat) : Int)))) := h
      show brW (before way x row) _ _
      generalize before way x row = c at h ⊢
      cases c with
      | true =>
        refine of_eq (io_wb ..) ?_
        show whT (n + 1) f _ K
        exact ih (p + 1) f hd' (Nat.lt_of_succ_lt_succ hf) ((Nat.add_right_comm p 1 _).symm ▸ h)
      | false => exact h
noncomputable def isStar (v : V) : Bool := match v with
  | .atm j => Nat.beq j (N "star")
  | _ => false
def partB (v : V) : Bool := match v with
  | .atm _ => true
  | .str _ => true
  | _ => false
theorem io_stars (n : Nat) (Ru : List V) (way order rows kE pattern parts stars row place : En) (K : List V → Prop) (P : List V) : ∀ acc : List V, P.all partB = true → K (acc ++ P.filter isStar) → compT n (ioE Ru way order rows kE pattern parts stars row place) P acc K := by
  induction P with
  | nil => exact fun acc _ h => nil_i (K := K) h
  | cons v P ih =>
    intro acc hp h
    refine and_e hp fun hv hp => ?_
    have ih := fun acc => ih acc hp
    generalize hC : (fun acc => compT n (ioE Ru way order rows kE pattern parts stars row place) P acc K) = Cn at ih
    have ih : ∀ acc, K (acc ++ P.filter isStar) → Cn acc := hC ▸ ih
    cases v with
    | atm j =>
      refine of_eq (show _ = brW (Nat.beq j (N "star")) (Cn (acc ++ [.atm j])) (Cn acc) from hC ▸ (by kernel_rfl)) ?_
      refine brW_c (fun e => ih _ (snoc_i (K := K) ?_)) fun e => ih _ ?_
      · rw [List.filter_cons_of_pos (p := isStar) (a := V.atm j) e] at h; exact h
      · rw [List.filter_cons_of_neg (p := isStar) (a := V.atm j) fun q => Bool.false_ne_true (e.symm.trans q)] at h; exact h
    | str s => exact of_eq (show _ = Cn acc from hC ▸ (by kernel_rfl)) (ih _ h)
    | _ => exact nomatch hv
structure RuleRow (n : Nat) (R : RuleD) (pat : List Nat) (parts : List V) (text : List Nat) (runs : List (List Nat × List (List Nat))) : Prop where
  hp : Ans n (N "func_std_string") [.tup [.str R.fp, .int R.l, .str R.np]] (.str pat)
  tr : Ans n (N "_translate") [.str pat, starV, markV] (.lst parts)
  ok : parts.all partB = true
  len : parts.length < 3000
  ht : Ans n (N "translate") [.str pat] (.str text)
  hr : Ans n (N "_law_runs") [.str text] (.lst (runsV runs))
noncomputable def rowOf (k : Nat) (parts : List V) (runs : List (List Nat × List (List Nat))) : RowD := ⟨(parts.length : Int) - ((parts.filter isStar).length : Nat), ((parts.filter isStar).length : Nat), k, runs⟩
theorem io_turn (n : Nat) (rules : List RuleD) (way : Int) (wE : En) (k : Nat) (R : RuleD) (pat : List Nat) (parts : List V) (text : List Nat) (runs : List (List Nat × List (List Nat))) (hk : rules[k]? = some R) (hl : k < 3000) (H : RuleRow (n + 1) R pat parts text runs) (G : List RowD) (hG : G.length < 3000)
    (p1 p2 p3 p4 p5 : En) (K : Fl → VEnv → Prop)
    (h : ∀ p1 p2 p3 p4 p5, K .next (ioG (rules.map ruleV) way wE (insR way (rowOf k parts runs) G) (.val (.int k)) p1 p2 p3 p4 p5)) :
    ioR (n + 1) 0 (ioG (rules.map ruleV) way wE G (.val (.int k)) p1 p2 p3 p4 p5) K := by
  have fk := fits_k (Nat.lt_trans hl (show 3000 < 5000 by decide))
  have hg : getI (rules.map ruleV) (k : Int) = some (ruleV R) := getI_nat (map_at hk)
  refine of_eq (io_b0 ..) (brW_i fk (optW_i hg ?_))
  show brW (Fits k) _ False
  refine brW_i fk (optW_i hg ?_)
  show brW (Fits k) _ False
  refine brW_i fk (optW_i hg ?_)
  show clN (n + 1) (N "func_std_string") [.tup [.str R.fp, .int R.l, .str R.np]] _
  refine ans H.hp (of_eq (io_b1 ..) (gd_t (ans H.tr (of_eq (io_b2 ..) (brW_i (lt_k H.len (by decide)) (io_stars _ _ _ _ _ _ _ _ _ _ _ _ parts [] H.ok ?_))))))
  rw [List.nil_append]
  refine brW_i (lt_k (Nat.lt_of_le_of_lt (List.length_filter_le isStar parts) H.len) (by decide)) (of_eq (io_b3 ..) (brW_i (lt_k H.len (by decide)) (ans H.ht (ans H.hr (of_eq (io_b4 ..) (of_eq (io_b5 ..) ?_))))))
  refine io_wh n (rules.map ruleV) way wE _ _ _ _ G (rowOf k parts runs) hG _ G 0 4096 rfl (Nat.lt_trans hG (by decide)) (of_eq (io_b6 ..) (brW_i (and_i (show Nat.blt (G.map rowV).length 65536 = true from (List.length_map (as := G) rowV).symm ▸ lt_k hG (by decide)) ?_) ?_))
  · rw [Nat.zero_add]; exact lt_k (Nat.lt_of_le_of_lt (posR_le way _ G) hG) (by decide)
  · rw [Nat.zero_add, insR_is]; exact h _ _ _ _ _
noncomputable def ordF (way : Int) (rw : RuleD → Nat → RowD) : List RuleD → Nat → List RowD → List RowD
  | [], _, G => G
  | R :: r, k, G => ordF way rw r (k + 1) (insR way (rw R k) G)
theorem io_loop (n : Nat) (rules : List RuleD) (way : Int) (wE : En) (rw : RuleD → Nat → RowD) (hl : rules.length < 3000) (H : ∀ R ∈ rules, ∃ pat parts text runs, RuleRow (n + 1) R pat parts text runs ∧ ∀ k, rw R k = rowOf k parts runs) (K : Fl → VEnv → Prop) (rest : List RuleD) :
    ∀ (k : Nat) (G : List RowD) (kE p1 p2 p3 p4 p5 : En), rules.drop k = rest → G.length ≤ k →
    (∀ kE p1 p2 p3 p4 p5, K .next (ioG (rules.map ruleV) way wE (ordF way rw rest k G) kE p1 p2 p3 p4 p5)) →
    forG (kvL 1 (n + 1) 39) "_law_in_order" ioL (rngL rest.length k) (ioG (rules.map ruleV) way wE G kE p1 p2 p3 p4 p5) K := by
  induction rest with
  | nil => exact fun k G kE p1 p2 p3 p4 p5 _ _ h => h kE p1 p2 p3 p4 p5
  | cons R rest ih =>
    intro k G kE p1 p2 p3 p4 p5 hd hG h
    obtain ⟨hk, hd', hkl⟩ := get_cons hd
    have lk := Nat.lt_trans hkl hl
    obtain ⟨pat, parts, text, runs, hr, hw⟩ := H R (List.mem_of_getElem? hk)
    have h : ∀ kE p1 p2 p3 p4 p5, K .next (ioG (rules.map ruleV) way wE (ordF way rw rest (k + 1) (insR way (rw R k) G)) kE p1 p2 p3 p4 p5) := h
    rw [hw k] at h
    refine forG_cons (env' := ioG (rules.map ruleV) way wE G (.val (.int k)) p1 p2 p3 p4 p5) (by kernel_rfl) (io_turn n rules way wE k R pat parts text runs hk lk hr G (Nat.lt_of_le_of_lt hG lk) p1 p2 p3 p4 p5 _ fun p1 p2 p3 p4 p5 => ?_)
    show forG (kvL 1 (n + 1) 39) "_law_in_order" ioL (rngL rest.length ((k + 1 : Nat) : Int)) _ K
    exact ih (k + 1) _ _ _ _ _ _ _ hd' ((insR_len ..).symm ▸ Nat.succ_le_succ hG) h
theorem na_rows (G : List RowD) : noAtm 9 (.lst (G.map rowV)) = true := noAtms_map (fun r => and_i rfl (and_i rfl (and_i rfl (and_i (noAtms_map (fun p => and_i rfl (and_i (noAtms_map (fun _ => rfl) p.2) rfl)) r.runs) rfl)))) G
noncomputable abbrev ioT (n i : Nat) (env : VEnv) (K : Fl → VEnv → Prop) : Prop := restG (kvL 1 n 40) "_law_in_order" (dOf (N "_law_in_order")).body i env K
theorem io_run (n : Nat) (env : VEnv) (K : Fl → VEnv → Prop) : xsW (kev (clF (dOf (N "_law_in_order")).lw (clN n)) 40) (kindsOf (dOf (N "_law_in_order")).scope) (dOf (N "_law_in_order")).owns (dOf (N "_law_in_order")).body env K = ioT n 0 env K := by kernel_rfl
theorem io_t0 (n : Nat) (Ru : List V) (way : Int) (K : Fl → VEnv → Prop) : ioT n 0 (ioEnv Ru (.val (.int way)) .no .no .no .no .no .no .no .no .no .no) K = ioT n 4 (ioG Ru way (.val (.int way)) [] .no .no .no .no .no .no) K := by kernel_rfl
theorem io_t4 (n : Nat) (Ru : List V) (wE order rows : En) (K : Fl → VEnv → Prop) : ioT n 4 (ioE Ru wE order rows .no .no .no .no .no .no) K = brW (sm Ru) (brW (Fits Ru.length && (Ru.length : Int).toNat.blt 4000)
        (forG (kvL 1 n 39) "_law_in_order" ioL (rngL (Ru.length : Int).toNat 0) (ioE Ru wE order rows .no .no .no .no .no .no) (contX (kvL 1 n 40) "_law_in_order" (dOf (N "_law_in_order")).body 5 K)) False) False := by kernel_rfl
theorem io_t5 (n : Nat) (Ru G : List V) (wE order kE p1 p2 p3 p4 p5 : En) (K : V → Prop) : ioT n 5 (ioE Ru wE order (.ml G) kE p1 p2 p3 p4 p5) (kRet (dOf (N "_law_in_order")) K) = brW (noAtm 9 (.lst G)) (K (.lst G)) False := by kernel_rfl
theorem in_order_is (n : Nat) (rules : List RuleD) (way : Int) (rw : RuleD → Nat → RowD) (hl : rules.length < 3000) (H : ∀ R ∈ rules, ∃ pat parts text runs, RuleRow (n + 1) R pat parts text runs ∧ ∀ k, rw R k = rowOf k parts runs) :
    Ans (n + 2) (N "_law_in_order") [.lst (rules.map ruleV), .int way] (.lst ((ordF way rw rules 0 []).map rowV)) := by
  intro K hK
  have rm : (rules.map ruleV).length = rules.length := List.length_map _
  refine run_i (d := dOf (N "_law_in_order")) (env := ioEnv (rules.map ruleV) (.val (.int way)) .no .no .no .no .no .no .no .no .no .no) (by kernel_rfl) (by kernel_rfl) (by kernel_rfl) (of_eq (io_run ..) (of_eq (io_t0 ..) (of_eq (io_t4 ..) ?_)))
  unfold sm
  rw [rm]
  exact brW_i (lt_k hl (by decide)) (brW_i (and_i (fits_k (Nat.lt_trans hl (by decide))) (lt_k (a := rules.length) hl (by decide))) (io_loop n rules way _ rw hl H _ rules 0 [] _ _ _ _ _ _ rfl (Nat.le_refl _) fun kE p1 p2 p3 p4 p5 => of_eq (io_t5 ..) (brW_i (na_rows _) hK)))
end Mine
end
section
open PySem PySem.W PyProof.Rows
set_option maxRecDepth 1000000
set_option genInjectivity false
set_option genSizeOf false
set_option backward.match.sparseCases false
namespace Mine
noncomputable abbrev duL := stm "_law_due" 1
noncomputable abbrev duI := nthS (bodyS duL) 0
noncomputable abbrev duEnv (Ru : List V) (way entry ranks k items : En) : VEnv := [(N "rules", .val (.lst Ru)), (N "way", way), (N "entry", entry), (N "ranks", ranks), (N "k", k), (N "items", items)]
noncomputable abbrev duT (n i : Nat) (env : VEnv) (K : Fl → VEnv → Prop) : Prop := restG (kvP n 38) "_law_due" (bodyS duI) i env K
def ends : List (List Nat) := [[43, 58], [43, 48], [43, 40], [43, 41]]
section
variable (n : Nat) (Ru G I : List V) (way k : Int) (ev it entry ranks items : V) (ra ite : En) (K : Fl → VEnv → Prop)
theorem du_s0 : duT n 0 (duEnv Ru (.val (.int way)) (.val entry) ra (.val (.int k)) ite) K =
    brW (Fits k) (optW (getI Ru k) fun rv => itemW rv (.int 2) fun a => itemW a (.int 1) fun it => duT n 1 (duEnv Ru (.val (.int way)) (.val entry) ra (.val (.int k)) (.val it)) K) False := by kernel_rfl
theorem du_s1 : duT n 1 (duEnv Ru (.val (.int way)) (.val entry) ra (.val (.int k)) (.val items)) K =
    brW (Fits k) (optW (getI Ru k) fun rv => clN n (N "_law_built_in") [rv] fun r1 => truthW r1 fun b1 => brW (!b1)
      (brW (Fits k) (optW (getI Ru k) fun rv => itemW rv (.int 0) fun a => itemW a (.int 1) fun fi => addW fi items fun u => addW u (.lst [.str (Str.ofString "+:").cps.toList, .str (Str.ofString "+0").cps.toList, .str (Str.ofString "+(").cps.toList, .str (Str.ofString "+)").cps.toList]) fun w =>
        duT n 2 (duEnv Ru (.val (.int way)) (.val entry) ra (.val (.int k)) (.val w)) K) False)
      (duT n 2 (duEnv Ru (.val (.int way)) (.val entry) ra (.val (.int k)) (.val items)) K)) False := by kernel_rfl
theorem du_s2 : duT n 2 (duEnv Ru (.val (.int way)) (.val entry) (.ml G) (.val (.int k)) (.val (.lst I))) K =
    optW (cntV I (Str.ofString "*").cps.toList) fun c1 => brW (sm I) (optW (cntV I (Str.ofString "*").cps.toList) fun c2 => brW (Fits way) (brW (sm G)
      (K .next (duEnv Ru (.val (.int way)) (.val entry) (.ml (G ++ [.tup [.int ((c1 : Int) - I.length), .int c2, .int (way * k), .int k]])) (.val (.int k)) (.val (.lst I)))) False) False) False := by kernel_rfl
end
theorem ends_is : [V.str (Str.ofString "+:").cps.toList, .str (Str.ofString "+0").cps.toList, .str (Str.ofString "+(").cps.toList, .str (Str.ofString "+)").cps.toList] = strsV ends := by kernel_rfl
theorem allStr_strs (l : List (List Nat)) : allStr (strsV l) = some l := by
  induction l with
  | nil => rfl
  | cons s l ih =>
    show bnd (some s) (fun s => bnd (allStr (strsV l)) fun l => some (s :: l)) = _
    rw [ih]; rfl
noncomputable def cntS (l : List (List Nat)) : Nat := (l.filter fun x => decide (x = [42])).length
theorem cnt_strs (l : List (List Nat)) : cntV (strsV l) [42] = some (cntS l) := by unfold cntV; rw [allStr_strs]; rfl
noncomputable def itemsOf (R : RuleD) : List (List Nat) := bif !built R then R.fi ++ R.ni ++ ends else R.ni
noncomputable def rankL (way : Int) (R : RuleD) (k : Nat) : List Int := [(cntS (itemsOf R) : Int) - (itemsOf R).length, cntS (itemsOf R), way * k, k]
abbrev rankV (l : List Int) : V := .tup (intsV l)
noncomputable abbrev duG (rules : List RuleD) (way : Int) (e : EntD) (G : List (List Int)) (k ite : En) : VEnv := duEnv (rules.map ruleV) (.val (.int way)) (.val (entV e)) (.ml (G.map rankV)) k ite
theorem due_then (n : Nat) (rules : List RuleD) (way : Int) (e : EntD) (k : Nat) (R : RuleD) (hk : rules[k]? = some R) (hR : RuleOk R) (hw : Fits way = true) (hl : k < 3000) (G : List (List Int)) (hG : G.length < 3000) (ite : En) (K : Fl → VEnv → Prop)
    (h : ∀ ite, K .next (duG rules way e (G ++ [rankL way R k]) (.val (.int k)) ite)) : duT (n + 1) 0 (duG rules way e G (.val (.int k)) ite) K := by
  have fk := fits_k (Nat.lt_trans hl (show 3000 < 5000 by decide))
  have hg : getI (rules.map ruleV) (k : Int) = some (ruleV R) := getI_nat (map_at hk)
  have fin : ∀ I : List (List Nat), I = itemsOf R → I.length < 65536 → duT (n + 1) 2 (duG rules way e G (.val (.int k)) (.val (.lst (strsV I)))) K := by
    intro I hI hIl
    refine of_eq (du_s2 ..) ?_
    have hsl : (strsV I).length = I.length := List.length_map _
    unfold sm
    rw [star_is, cnt_strs, hsl, List.length_map]
    refine optW_i rfl (brW_i (bltN.mpr hIl) (optW_i rfl (brW_i hw (brW_i (lt_k hG (by decide)) ?_))))
    have h := h (.val (.lst (strsV I)))
    unfold duG at h
    rw [List.map_append] at h
    exact hI ▸ h
  refine of_eq (du_s0 ..) (brW_i fk (optW_i hg ?_))
  show duT (n + 1) 1 (duG rules way e G (.val (.int k)) (.val (.lst (strsV R.ni)))) K
  refine of_eq (du_s1 ..) (brW_i fk (optW_i hg (ans (built_is n R) ?_)))
  show brW (!built R) _ _
  unfold itemsOf at fin
  have l1 : R.fi.length + R.ni.length < 6000 := Nat.add_lt_add hR.fl hR.nl
  cases hb : built R with
  | true => exact fin R.ni (by rw [hb]; rfl) (Nat.lt_trans hR.nl (by decide))
  | false =>
    refine brW_i fk (optW_i hg ?_)
    rw [ends_is]
    have sl : ∀ l : List (List Nat), (strsV l).length = l.length := fun l => List.length_map _
    show brW (Nat.blt ((strsV R.fi).length + (strsV R.ni).length) 65536) _ False
    refine brW_i (by rw [sl, sl]; exact bltN.mpr (Nat.lt_trans l1 (by decide))) ?_
    show brW (Nat.blt ((strsV R.fi ++ strsV R.ni).length + (strsV ends).length) 65536) _ False
    have l2 : R.fi.length + R.ni.length + 4 < 65536 := Nat.lt_trans (Nat.add_lt_add_right l1 4) (by decide)
    refine brW_i (by rw [List.length_append, sl, sl, sl]; exact bltN.mpr l2) ?_
    have e2 : strsV R.fi ++ strsV R.ni ++ strsV ends = strsV (R.fi ++ R.ni ++ ends) := by unfold strsV; rw [List.map_append, List.map_append]
    rw [e2]
    exact fin _ (by rw [hb]; rfl) (by rw [List.length_append, List.length_append]; exact l2)
noncomputable def ranksF (shownL : EntD → List Nat) (way : Int) (e : EntD) : List RuleD → Nat → List (List Int)
  | [], _ => []
  | R :: r, k => bif meansL shownL R e then rankL way R k :: ranksF shownL way e r (k + 1) else ranksF shownL way e r (k + 1)
theorem ranksF_len (shownL : EntD → List Nat) (way : Int) (e : EntD) (r : List RuleD) : ∀ k : Nat, (ranksF shownL way e r k).length ≤ r.length := by
  induction r with
  | nil => exact fun _ => Nat.le_refl _
  | cons R r ih =>
    intro k
    show (bif meansL shownL R e then rankL way R k :: ranksF shownL way e r (k + 1) else ranksF shownL way e r (k + 1)).length ≤ r.length + 1
    cases meansL shownL R e with
    | true => exact Nat.succ_le_succ (ih (k + 1))
    | false => exact Nat.le_succ_of_le (ih (k + 1))
theorem due_loop (n : Nat) (rules : List RuleD) (way : Int) (e : EntD) (shownL : EntD → List Nat) (hR : ∀ R ∈ rules, RuleOk R) (hE : EntOk (n + 2) shownL e) (hw : Fits way = true) (hl : rules.length < 3000) (K : Fl → VEnv → Prop) (rest : List RuleD) :
    ∀ (k : Nat) (G : List (List Int)) (kE ite : En), rules.drop k = rest → G.length ≤ k → (∀ kE ite, K .next (duG rules way e (G ++ ranksF shownL way e rest k) kE ite)) →
    forG (kvP (n + 3) 39) "_law_due" duL (rngL rest.length k) (duG rules way e G kE ite) K := by
  induction rest with
  | nil => exact fun k G kE ite _ _ h => nil_i (K := fun G => K .next (duG rules way e G kE ite)) (h kE ite)
  | cons R rest ih =>
    intro k G kE ite hd hG h
    obtain ⟨hk, hd', hkl⟩ := get_cons hd
    have lk := Nat.lt_trans hkl hl
    have h : ∀ kE ite, K .next (duG rules way e (G ++ bif meansL shownL R e then rankL way R k :: ranksF shownL way e rest (k + 1) else ranksF shownL way e rest (k + 1)) kE ite) := h
    refine forG_cons (env' := duG rules way e G (.val (.int k)) ite) (by kernel_rfl) ?_
    refine of_eq (show _ = brW (Fits k) (optW (getI (rules.map ruleV) k) fun rv => clN (n + 3) (N "_law_means") [rv, entV e] fun m => truthW m fun b => brW b
      (duT (n + 3) 0 (duG rules way e G (.val (.int k)) ite) (contL (kvP (n + 3) 39) "_law_due" duL (rngL rest.length ((k + 1 : Nat) : Int)) K))
      (forG (kvP (n + 3) 39) "_law_due" duL (rngL rest.length ((k + 1 : Nat) : Int)) (duG rules way e G (.val (.int k)) ite) K)) False from by kernel_rfl) ?_
    refine brW_i (fits_k (Nat.lt_trans lk (by decide))) (optW_i (getI_nat (map_at hk)) (ans (means_is n R e shownL (hR R (List.mem_of_getElem? hk)) hE) ?_))
    show brW (meansL shownL R e) _ _
    generalize meansL shownL R e = m at h ⊢
    cases m with
    | true =>
      exact due_then (n + 2) rules way e k R hk (hR R (List.mem_of_getElem? hk)) hw lk G (Nat.lt_of_le_of_lt hG lk) ite _ fun ite => ih (k + 1) _ _ _ hd' (by rw [List.length_append]; exact Nat.succ_le_succ hG) fun kE ite => snoc_i (K := fun G => K .next (duG rules way e G kE ite)) (h kE ite)
    | false => exact ih (k + 1) _ _ _ hd' (Nat.le_succ_of_le hG) h
noncomputable def dueL (shownL : EntD → List Nat) (rules : List RuleD) (way : Int) (e : EntD) : Int := match sortL (ranksF shownL way e rules 0) with
  | [] => rules.length
  | t :: _ => t.getD 3 0
theorem allInt_ints (l : List Int) : allInt (intsV l) = some l := by
  induction l with
  | nil => rfl
  | cons x l ih =>
    show bnd (some x) (fun s => bnd (allInt (intsV l)) fun l => some (s :: l)) = _
    rw [ih]; rfl
theorem tupInts_rank (G : List (List Int)) : tupInts (G.map rankV) = some G := by
  induction G with
  | nil => rfl
  | cons g G ih =>
    show bnd (allInt (intsV g)) (fun a => bnd (tupInts (G.map rankV)) fun b => some (a :: b)) = _
    rw [allInt_ints, ih]; rfl
theorem ranksF_mem {shownL : EntD → List Nat} {way : Int} {e : EntD} {t : List Int} {r : List RuleD} : ∀ {k : Nat}, t ∈ ranksF shownL way e r k ↔ ∃ i R, r[i]? = some R ∧ meansL shownL R e = true ∧ t = rankL way R (k + i) := by
  induction r with
  | nil => exact ⟨fun h => (nomatch h), fun ⟨i, R, h, _⟩ => (nomatch h)⟩
  | cons R r ih =>
    intro k
    have tl : t ∈ ranksF shownL way e r (k + 1) ↔ ∃ i R', r[i]? = some R' ∧ meansL shownL R' e = true ∧ t = rankL way R' (k + (i + 1)) := ih.trans (exists_congr fun i => exists_congr fun R' => by rw [Nat.add_right_comm k 1 i]; rfl)
    have both : (∃ i R', (R :: r)[i]? = some R' ∧ meansL shownL R' e = true ∧ t = rankL way R' (k + i)) ↔ (meansL shownL R e = true ∧ t = rankL way R k) ∨ ∃ i R', r[i]? = some R' ∧ meansL shownL R' e = true ∧ t = rankL way R' (k + (i + 1)) :=
      ⟨fun ⟨i, R', h1, h2⟩ => by
        cases i with
        | zero => exact .inl (Option.some.inj h1 ▸ h2)
        | succ i => exact .inr ⟨i, R', h1, h2⟩, fun h => h.elim (fun h => ⟨0, R, rfl, h⟩) fun ⟨i, R', h⟩ => ⟨i + 1, R', h⟩⟩
    rw [both, ← tl]
    show t ∈ (bif meansL shownL R e then rankL way R k :: ranksF shownL way e r (k + 1) else ranksF shownL way e r (k + 1)) ↔ _
    cases meansL shownL R e with
    | true => exact List.mem_cons.trans (or_congr_left ⟨fun h => ⟨rfl, h⟩, fun h => h.2⟩)
    | false => exact ⟨.inr, fun h => h.elim (fun h => (nomatch h.1)) id⟩
theorem due_is (n : Nat) (rules : List RuleD) (way : Int) (e : EntD) (shownL : EntD → List Nat) (hR : ∀ R ∈ rules, RuleOk R) (hE : EntOk (n + 2) shownL e) (hw : Fits way = true) (hl : rules.length < 4) :
    Ans (n + 4) (N "_law_due") [.lst (rules.map ruleV), .int way, entV e] (.int (dueL shownL rules way e)) := by
  intro K hK
  have rm : (rules.map ruleV).length = rules.length := List.length_map _
  refine of_eq (show _ = brW (sm (rules.map ruleV)) (brW (Fits (rules.map ruleV).length && ((rules.map ruleV).length : Int).toNat.blt 4000)
      (forG (kvP (n + 3) 39) "_law_due" duL (rngL ((rules.map ruleV).length : Int).toNat 0) (duG rules way e [] .no .no) (contX (kvP (n + 3) 40) "_law_due" (dOf (N "_law_due")).body 2 (kEnd K))) False) False from by kernel_rfl) ?_
  unfold sm
  rw [rm]
  have l3 : rules.length < 3000 := Nat.lt_trans hl (by decide)
  refine brW_i (lt_k l3 (by decide)) (brW_i (and_i (fits_k (Nat.lt_trans l3 (by decide))) (lt_k (a := rules.length) l3 (by decide))) (due_loop n rules way e shownL hR hE hw l3 _ rules 0 [] _ _ rfl (Nat.le_refl _) fun kE ite => ?_))
  rw [List.nil_append]
  have hgl := Nat.lt_of_le_of_lt (ranksF_len shownL way e rules 0) hl
  have h4 : (ranksF shownL way e rules 0).all (fun x => Nat.beq x.length 4) = true := List.all_eq_true.mpr fun t ht => by
    obtain ⟨i, R, _, _, rfl⟩ := ranksF_mem.mp ht
    rfl
  unfold dueL at hK
  have hp := sortL_perm (ranksF shownL way e rules 0)
  generalize ranksF shownL way e rules 0 = G at hgl h4 hK hp
  refine of_eq (show _ = optW (tupInts (G.map rankV)) fun t => brW (sortOk t) (brW (sm (rules.map ruleV)) (addW (.lst ((sortL t).map rankV)) (.lst [.tup [.int 0, .int 0, .int 0, .int (rules.map ruleV).length]]) fun l => itemW l (.int 0) fun t => itemW t (.int 3) K) False) False from by kernel_rfl) ?_
  refine optW_i (tupInts_rank G) (brW_i (and_i (bltN.mpr hgl) h4) ?_)
  unfold sm
  rw [rm]
  refine brW_i (lt_k l3 (by decide)) ?_
  show brW (Nat.blt (((sortL G).map rankV).length + 1) 65536) _ False
  refine brW_i (by rw [List.length_map, hp.length_eq]; exact bltN.mpr (Nat.lt_trans (Nat.succ_lt_succ hgl) (by decide))) ?_
  cases hs : sortL G with
  | nil => rw [hs] at hK; exact hK
  | cons t q =>
    rw [hs] at hK
    have ht : Nat.beq t.length 4 = true := List.all_eq_true.mp h4 t (hp.mem_iff.mp (hs ▸ .head _))
    rcases t with _ | ⟨a, _ | ⟨b, _ | ⟨c, _ | ⟨d, r⟩⟩⟩⟩
    · exact nomatch ht
    · exact nomatch ht
    · exact nomatch ht
    · exact nomatch ht
    · exact hK
end Mine
end
section
open PySem PySem.W PyProof.Rows
set_option maxRecDepth 1000000
set_option genInjectivity false
set_option genSizeOf false
set_option backward.match.sparseCases false
namespace Mine
def keyR (way : Int) (x : RowD) : List Int := [-x.a, x.b, way * x.k, x.k]
abbrev LtR (way : Int) (x y : RowD) : Prop := ltL (keyR way x) (keyR way y) = true
theorem lt_dec {a b : Int} (h : a < b) : decide (a < b) = true ∧ decide (b < a) = false ∧ decide (a = b) = false ∧ decide (b = a) = false :=
  ⟨decide_eq_true h, not_ltI h, decide_eq_false (Int.ne_of_lt h), decide_eq_false (Int.ne_of_gt h)⟩
theorem eq_dec (a : Int) : decide (a < a) = false ∧ decide (a = a) = true := ⟨decide_eq_false (Int.lt_irrefl a), decide_eq_true rfl⟩
theorem cmp_key {way : Int} (hw : way = 1 ∨ way = -1) {x y : RowD} (h : x.k ≠ y.k) : before way x y = ltL (keyR way x) (keyR way y) := by
  show decide ((bif decide (x.a < y.a) then 1 else bif decide (y.a < x.a) then -1
    else bif decide (x.b < y.b) then -1 else bif decide (y.b < x.b) then 1
    else bif decide ((x.k : Int) < y.k) then -way else bif decide ((y.k : Int) < x.k) then way else 0 : Int) < 0) = bif decide (-x.a = -y.a) then bif decide (x.b = y.b) then bif decide (way * x.k = way * y.k) then bif decide ((x.k : Int) = y.k) then false else decide ((x.k : Int) < y.k) else decide (way * x.k < way * y.k) else decide (x.b < y.b) else decide (-x.a < -y.a)
  rcases Int.lt_trichotomy x.a y.a with h1 | h1 | h1
  · obtain ⟨d1, d2, d3, d4⟩ := lt_dec h1
    obtain ⟨e1, e2, e3, e4⟩ := lt_dec (Int.neg_lt_neg h1)
    rw [d1, e4, e2]; rfl
  · rw [h1, (eq_dec _).1, (eq_dec _).2]
    rcases Int.lt_trichotomy x.b y.b with h2 | h2 | h2
    · obtain ⟨d1, d2, d3, d4⟩ := lt_dec h2
      rw [d1, d3]; rfl
    · rw [h2, (eq_dec _).1, (eq_dec _).2]
      rcases Nat.lt_or_gt_of_ne h with h3 | h3
      · obtain ⟨d1, d2, d3, d4⟩ := lt_dec (Int.ofNat_lt.mpr h3)
        rcases hw with rfl | rfl
        · rw [Int.one_mul, Int.one_mul, d1, d3]; rfl
        · obtain ⟨e1, e2, e3, e4⟩ := lt_dec (Int.neg_lt_neg (Int.ofNat_lt.mpr h3))
          rw [Int.neg_one_mul, Int.neg_one_mul, d1, e4, e2]; rfl
      · obtain ⟨d1, d2, d3, d4⟩ := lt_dec (Int.ofNat_lt.mpr h3)
        rcases hw with rfl | rfl
        · rw [Int.one_mul, Int.one_mul, d1, d2, d4]; rfl
        · obtain ⟨e1, e2, e3, e4⟩ := lt_dec (Int.neg_lt_neg (Int.ofNat_lt.mpr h3))
          rw [Int.neg_one_mul, Int.neg_one_mul, d1, d2, e3, e1]; rfl
    · obtain ⟨d1, d2, d3, d4⟩ := lt_dec h2
      rw [d1, d2, d4]; rfl
  · obtain ⟨d1, d2, d3, d4⟩ := lt_dec h1
    obtain ⟨e1, e2, e3, e4⟩ := lt_dec (Int.neg_lt_neg h1)
    rw [d1, d2, e3, e1]; rfl
theorem bt {b : Bool} (h : b = false → False) : b = true := by
  cases b with
  | true => rfl
  | false => exact (h rfl).elim
theorem ltS_trans {a b c : List Int} (h : ltL a b = true) (k : ltL b c = true) : ltL a c = true :=
  bt fun q => Bool.false_ne_true ((ltL_trans q (ltL_asym h)).symm.trans k)
theorem LtR.total {way : Int} {x y : RowD} (h : x.k ≠ y.k) (k : ltL (keyR way x) (keyR way y) = false) : LtR way y x :=
  bt fun q => h (Int.ofNat_inj.mp (congrArg (fun l => l.getD 3 0) (ltL_anti k q)))
section
variable {way : Int} {row x : RowD}
theorem insR_mem {G : List RowD} : x ∈ insR way row G ↔ x = row ∨ x ∈ G := by
  induction G with
  | nil => exact List.mem_cons
  | cons y r ih =>
    show x ∈ (bif before way y row then y :: insR way row r else row :: y :: r) ↔ _
    cases before way y row with
    | true => exact List.mem_cons.trans ((or_congr_right ih).trans (or_left_comm.trans (or_congr_right List.mem_cons.symm)))
    | false => exact List.mem_cons
theorem insR_sorted (hw : way = 1 ∨ way = -1) {G : List RowD} (h : G.Pairwise (LtR way)) (hk : ∀ x ∈ G, x.k ≠ row.k) : (insR way row G).Pairwise (LtR way) := by
  induction h with
  | nil => exact List.pairwise_singleton _ _
  | @cons y r h1 h2 ih =>
    have hy := hk y (.head _)
    have ih := ih fun x hx => hk x (.tail _ hx)
    show (bif before way y row then y :: insR way row r else row :: y :: r).Pairwise (LtR way)
    rw [cmp_key hw hy]
    cases hl : ltL (keyR way y) (keyR way row) with
    | true => exact .cons (fun x hx => (insR_mem.mp hx).elim (fun e => e ▸ hl) (h1 x)) ih
    | false =>
      have hry := LtR.total hy hl
      exact .cons (fun x hx => (List.mem_cons.mp hx).elim (fun e => e ▸ hry) fun q => ltS_trans hry (h1 x q)) (.cons h1 h2)
end
theorem ordF_is {way : Int} (hw : way = 1 ∨ way = -1) {rw : RuleD → Nat → RowD} (hk : ∀ R k, (rw R k).k = k) (rest : List RuleD) : ∀ (k : Nat) (G : List RowD), G.Pairwise (LtR way) → (∀ x ∈ G, x.k < k) →
    (ordF way rw rest k G).Pairwise (LtR way) ∧ ∀ x, x ∈ ordF way rw rest k G ↔ x ∈ G ∨ ∃ i R, rest[i]? = some R ∧ x = rw R (k + i) := by
  induction rest with
  | nil => exact fun k G hp _ => ⟨hp, fun x => ⟨.inl, fun h => h.elim id fun ⟨i, R, h, _⟩ => (nomatch h)⟩⟩
  | cons R rest ih =>
    intro k G hp hlt
    obtain ⟨h1, h2⟩ := ih (k + 1) (insR way (rw R k) G) (insR_sorted hw hp fun x hx => (hk R k).symm ▸ Nat.ne_of_lt (hlt x hx)) fun x hx => (insR_mem.mp hx).elim (fun e => e ▸ (hk R k).symm ▸ Nat.lt_succ_self k) fun q => Nat.lt_succ_of_lt (hlt x q)
    refine ⟨h1, fun x => (h2 x).trans ?_⟩
    have tl : (∃ i R', rest[i]? = some R' ∧ x = rw R' (k + 1 + i)) ↔ ∃ i R', rest[i]? = some R' ∧ x = rw R' (k + (i + 1)) := exists_congr fun i => exists_congr fun R' => by rw [Nat.add_right_comm k 1 i]; rfl
    rw [insR_mem, tl]
    exact ⟨fun h => h.elim (fun h => h.elim (fun h => .inr ⟨0, R, rfl, h⟩) .inl) fun ⟨i, R', h⟩ => .inr ⟨i + 1, R', h⟩, fun h => h.elim (fun h => .inl (.inr h)) fun ⟨i, R', h1, h2⟩ => by
      cases i with
      | zero => exact .inl (.inl (Option.some.inj h1 ▸ h2))
      | succ i => exact .inr ⟨i, R', h1, h2⟩⟩
theorem place_due {way : Int} (hw : way = 1 ∨ way = -1) {rw : RuleD → Nat → RowD} (hk : ∀ R k, (rw R k).k = k) (rules : List RuleD) (shownL : EntD → List Nat) (e : EntD)
    (ha : ∀ R k, rankL way R k = keyR way (rw R k)) (hf : ∀ R ∈ rules, ∀ k, fitsL (shownL e) (rw R k).runs = meansL shownL R e) :
    dueL shownL rules way e = (placeOf (ordF way rw rules 0 []) rules.length (shownL e) : Int) := by
  obtain ⟨hs, hm⟩ := ordF_is hw hk rules 0 [] .nil (fun _ h => (nomatch h))
  generalize ordF way rw rules 0 [] = rows at hs hm
  have key : ∀ t, t ∈ ranksF shownL way e rules 0 ↔ ∃ x ∈ rows.filter (fun r => fitsL (shownL e) r.runs), t = keyR way x := fun t => ranksF_mem.trans ⟨fun ⟨i, R, h1, h2, h3⟩ =>
      ⟨rw R (0 + i), List.mem_filter.mpr ⟨(hm _).mpr (.inr ⟨i, R, h1, rfl⟩), (hf R (List.mem_of_getElem? h1) _).trans h2⟩, h3.trans (ha R _)⟩, fun ⟨x, hx, h3⟩ => by
      obtain ⟨h1, h2⟩ := List.mem_filter.mp hx
      rcases (hm x).mp h1 with h | ⟨i, R, h4, rfl⟩
      · exact nomatch h
      · exact ⟨i, R, h4, (hf R (List.mem_of_getElem? h4) _).symm.trans h2, h3.trans (ha R _).symm⟩⟩
  have hsf := hs.filter fun r => fitsL (shownL e) r.runs
  have hp := sortL_perm (ranksF shownL way e rules 0)
  have hsa := sortL_asc (ranksF shownL way e rules 0)
  unfold dueL placeOf takersL
  generalize rows.filter (fun r => fitsL (shownL e) r.runs) = T at key hsf
  generalize sortL (ranksF shownL way e rules 0) = S at hp hsa
  have mem : ∀ t, t ∈ S ↔ ∃ x ∈ T, t = keyR way x := fun t => hp.mem_iff.trans (key t)
  cases S with
  | nil =>
    cases T with
    | nil => rfl
    | cons x q => exact nomatch (mem (keyR way x)).mpr ⟨x, .head _, rfl⟩
  | cons t q =>
    obtain ⟨x, hx, rfl⟩ := (mem t).mp (.head _)
    cases T with
    | nil => exact nomatch hx
    | cons y s =>
      rcases List.mem_cons.mp hx with rfl | h
      · rfl
      · have h1 : LtR way y x := (List.pairwise_cons.mp hsf).1 x h
        rcases List.mem_cons.mp ((mem (keyR way y)).mpr ⟨y, .head _, rfl⟩) with h2 | h2
        · exact nomatch (ltL_irr (keyR way x)).symm.trans ((congrArg (fun k => ltL k (keyR way x)) h2).symm.trans h1)
        · exact nomatch ((List.pairwise_cons.mp hsa).1 _ h2).symm.trans h1
end Mine
end
section
open PySem PySem.W PyProof.Rows
set_option maxRecDepth 1000000
set_option genInjectivity false
set_option genSizeOf false
set_option backward.match.sparseCases false
namespace Mine
noncomputable def fieldP : Nat → List Nat
  | 0 => [126]
  | 1 => [42]
  | 2 => [63]
  | 3 => [91, 33, 98, 93]
  | 4 => [91, 98, 45, 97, 97, 93, 42, 42]
  | _ => [42, 91, 97, 98, 93]
noncomputable def fieldI : Nat → List (List Nat)
  | 0 => [[43, 126]]
  | 1 => [[42]]
  | 2 => [[45]]
  | 3 => [[45, 98]]
  | 4 => [[43, 97], [42]]
  | _ => [[42], [43, 97, 98]]
noncomputable def ruleL (x : Nat) : RuleD :=
  bif Nat.beq (x / 48) 1 then ⟨fieldP (x % 6), fieldI (x % 6), x / 6 % 2, [60] ++ fieldP (1 + x / 12 % 4) ++ [62], [[43, 60]] ++ fieldI (1 + x / 12 % 4) ++ [[43, 62]]⟩
  else ⟨fieldP (x % 6), fieldI (x % 6), x / 6 % 2, fieldP (1 + x / 12 % 4), fieldI (1 + x / 12 % 4)⟩
noncomputable def entL (y : Nat) : EntD := ⟨match y % 4 with
  | 0 => [126]
  | 1 => [97]
  | 2 => [98]
  | _ => [97, 98], y / 4 % 2, match y / 8 % 6 with
  | 0 => [97]
  | 1 => [97, 98]
  | 2 => [60, 97, 62]
  | 3 => [60, 98, 62]
  | 4 => [60, 62]
  | _ => [97, 62]⟩
noncomputable def shownT (f : List Nat) (l : Nat) (n : List Nat) : List Nat :=
  bif decide (f = [126]) && Nat.beq l 0 then
    bif decide (n.head? = some 60) && decide (n.getLast? = some 62) then [123] ++ (n.drop 1).dropLast ++ [125] else n
  else f ++ [58, 48 + l, 40] ++ n ++ [41]
noncomputable def shownL (e : EntD) : List Nat := shownT e.f e.l e.n
noncomputable def patL (R : RuleD) : List Nat := shownT R.fp R.l R.np
noncomputable def toksL (R : RuleD) : List (List Nat) :=
  bif built R then (bif decide (R.np.head? = some 60) then [[43, 123]] ++ (R.ni.drop 1).dropLast ++ [[43, 125]] else R.ni)
  else R.fi ++ [[43, 58], [43, 48 + R.l], [43, 40]] ++ R.ni ++ [[43, 41]]
noncomputable def segs : List (List Nat) → List (List Nat) × List (List (List Nat))
  | [] => ([], [])
  | t :: r => match segs r with
    | (s, l) => bif decide (t = [42]) then ([], s :: l) else (t :: s, l)
noncomputable def front : List Nat := [102, 114, 111, 110, 116]
noncomputable def hold : List Nat := [104, 111, 108, 100]
noncomputable def shut : List Nat := [115, 104, 117, 116]
noncomputable def rest : List Nat := [114, 101, 115, 116]
noncomputable def runsT : List (List (List Nat)) → List (List Nat × List (List Nat))
  | [] => []
  | [s] => [(rest, s)]
  | s :: r => (hold, s) :: (shut, []) :: runsT r
noncomputable def runsL (R : RuleD) : List (List Nat × List (List Nat)) := match segs (toksL R) with
  | (s, l) => (front, s) :: runsT l
noncomputable def allN (f : Nat → Bool) : Nat → Bool
  | 0 => true
  | n + 1 => f n && allN f n
theorem allN_is {f : Nat → Bool} (n : Nat) (h : allN f n = true) (k : Nat) (hk : k < n) : f k = true := by
  induction n with
  | zero => exact nomatch hk
  | succ n ih => exact and_e h fun h1 h2 => (Nat.lt_succ_iff_lt_or_eq.mp hk).elim (ih h2) fun e => e ▸ h1
end Mine
end
section
open PySem PySem.W PyProof.Rows
set_option maxRecDepth 1000000
set_option genInjectivity false
set_option genSizeOf false
set_option backward.match.sparseCases false
namespace Mine
noncomputable abbrev nuC := valS (stm "_law_numbers" 0)
noncomputable abbrev nuK (n : Nat) (env : VEnv) (l acc : List V) (K : List V → Prop) : Prop := compG (kvP n 39) (ksOf "_law_numbers") nuC env l acc K
theorem nu_step (n : Nat) (env : VEnv) (x : Int) (l acc : List V) (K : List V → Prop) : nuK n env (.int x :: l) acc K = nuK n env l (acc ++ [.int (x.fmod 96)]) K := by kernel_rfl
theorem num_comp (n : Nat) (env : VEnv) (K : List V → Prop) (xs : List Int) : ∀ acc : List V, K (acc ++ intsV (xs.map fun x => x.fmod 96)) → nuK n env (intsV xs) acc K := by
  induction xs with
  | nil => exact fun acc h => nil_i (K := K) h
  | cons x r ih => exact fun acc h => of_eq (nu_step ..) (ih _ (snoc_i (K := K) h))
noncomputable def more : List Int := [1, 16, 48, 3, 10, 16, 7, 2]
noncomputable def numsL (xs : List Int) : List Int := (xs.take 8).map (fun x => x.fmod 96) ++ more.drop (xs.take 8).length
theorem cut_take (l : List V) : cut l none (some 8) = l.take 8 := by
  show (l.take (min 8 l.length)).drop 0 = l.take 8
  rw [List.drop_zero]
  rcases Nat.le_total 8 l.length with h | h
  · rw [Nat.min_eq_left h]
  · rw [Nat.min_eq_right h, List.take_of_length_le (Nat.le_refl _), List.take_of_length_le h]
theorem cut_drop (l : List V) (k : Nat) (h : k ≤ l.length) : cut l (some (k : Int)) none = l.drop k := by
  show (l.take l.length).drop (min k l.length) = l.drop k
  rw [List.take_length, Nat.min_eq_left h]
theorem numbers_is (n : Nat) (xs : List Int) (h : xs.length < 3000) : Ans (n + 1) (N "_law_numbers") [.lst (intsV xs)] (.lst (intsV (numsL xs))) := by
  intro k hk
  have le : ∀ l, (intsV l).length = l.length := fun l => List.length_map _
  have l8 : (xs.take 8).length ≤ 8 := List.length_take_le ..
  refine of_eq (show _ = brW ((intsV xs).length.blt 65536) (brW ((cut (intsV xs) none (some 8)).length.blt 4000) (nuK n [(N "script", .val (.lst (intsV xs))), (N "numbers", .no)] (cut (intsV xs) none (some 8)) [] fun ns =>
      brW (ns.length.blt 65536) (brW (Nat.blt (ns.length + (cut (intsV more) (some (ns.length : Int)) none).length) 65536) (k (V.lst (ns ++ cut (intsV more) (some (ns.length : Int)) none))) False) False) False) False from by kernel_rfl) ?_
  rw [cut_take, show (intsV xs).take 8 = intsV (xs.take 8) from (List.map_take ..).symm, le, le]
  refine brW_i (lt_k h (by decide)) (brW_i (lt_k (Nat.lt_of_le_of_lt l8 (by decide)) (by decide)) (num_comp n _ _ _ [] ?_))
  rw [List.nil_append, le, List.length_map, cut_drop _ _ l8]
  refine brW_i (lt_k (Nat.lt_of_le_of_lt l8 (by decide)) (by decide)) (brW_i (lt_k (b := 65536) (Nat.lt_of_le_of_lt (Nat.add_le_add l8 (Nat.le_trans (Nat.le_of_eq (List.length_drop ..)) (Nat.sub_le _ _))) (show 8 + 8 < 3000 by decide)) (by decide)) ?_)
  show k (.lst _)
  rw [show intsV (numsL xs) = _ from List.map_append] at hk
  rw [show (intsV more).drop (xs.take 8).length = intsV (more.drop (xs.take 8).length) from (List.map_drop ..).symm]
  exact hk
theorem nums_in (xs : List Int) : ∀ x ∈ numsL xs, 0 ≤ x ∧ x < 96 := fun x hx => (List.mem_append.mp hx).elim
  (fun h => (List.exists_of_mem_map h).elim fun y e => e.2 ▸ ⟨Int.fmod_nonneg_of_pos y (show (0 : Int) < 96 by decide), Int.fmod_lt_of_pos y (show (0 : Int) < 96 by decide)⟩)
  fun h => (show ∀ x ∈ more, 0 ≤ x ∧ x < 96 by unfold more; decide) x (List.mem_of_mem_drop h)
theorem nums_len (xs : List Int) : (numsL xs).length = 8 := by
  unfold numsL
  rw [List.length_append, List.length_map, List.length_drop]
  exact Nat.add_sub_cancel' (List.length_take_le ..)
noncomputable def nuN (xs : List Int) (j : Nat) : Nat := ((numsL xs).getD j 0).toNat
theorem nuN_lt (xs : List Int) (j : Nat) : nuN xs j < 96 := by
  unfold nuN
  rw [List.getD_eq_getElem?_getD]
  cases h : (numsL xs)[j]? with
  | none => decide
  | some x =>
    have := nums_in xs x (List.mem_of_getElem? h)
    exact (Int.toNat_lt this.1).mpr this.2
theorem nuN_is (xs : List Int) : numsL xs = (List.range 8).map fun j => (nuN xs j : Int) := List.ext_getElem ((nums_len xs).trans (by rw [List.length_map, List.length_range])) fun j h _ => by
  rw [List.getElem_map, List.getElem_range]
  have e := Int.toNat_of_nonneg (nums_in xs _ (mem_d (d := 0) h)).1
  refine Eq.trans ?_ e.symm
  rw [List.getD_eq_getElem?_getD, List.getElem?_eq_getElem h]; rfl
noncomputable def cntL (x k f : Int) : Cn := ⟨x.fmod 3, x.fmod 3 + (x.fdiv 3).fmod 2, x, x + k, bif decide (f = 1) then .four (1 + x.fmod 2) 1 x k else .one (x.fmod 5)⟩
theorem counts_is (n : Nat) (x k f : Int) : Ans (n + 1) (N "_law_counts") [.int x, .int k, .int f] (cnV (cntL x k f)) := by
  intro K hK
  refine of_eq (show _ = brW (decide (f = 1)) (K (V.tup [.int (x.fmod 3), .int (x.fmod 3 + (x.fdiv 3).fmod 2), .int x, .int (x + k), .tup [.int (1 + x.fmod 2), .int 1, .int x, .int k]]))
      (K (V.tup [.int (x.fmod 3), .int (x.fmod 3 + (x.fdiv 3).fmod 2), .int x, .int (x + k), .int (x.fmod 5)])) from by kernel_rfl) ?_
  unfold cntL at hK
  generalize decide (f = 1) = c at hK ⊢
  cases c <;> exact hK
noncomputable abbrev laEnv (s nu ru en wa co : En) : VEnv := [(N "script", s), (N "numbers", nu), (N "rules", ru), (N "entries", en), (N "way", wa), (N "counts", co)]
noncomputable abbrev laT (n i : Nat) (env : VEnv) (K : Fl → VEnv → Prop) : Prop := restG (kvL 0 n 40) "law" (dOf (N "law")).body i env K
theorem la_run (n : Nat) (env : VEnv) (K : Fl → VEnv → Prop) : xsW (kev (clF (dOf (N "law")).lw (clN n)) 40) (kindsOf (dOf (N "law")).scope) (dOf (N "law")).owns (dOf (N "law")).body env K = laT n 0 env K := by kernel_rfl
noncomputable abbrev nuV (u : Nat → Nat) : En := .val (.lst (intsV ((List.range 8).map fun j => (u j : Int))))
section
variable (n : Nat) (s nu ru en wa co : En) (S : V) (u : Nat → Nat) (w : Int) (R E C : List V) (K : Fl → VEnv → Prop)
theorem la_0 : laT n 0 (laEnv (.val S) nu ru en wa co) K = gd true (clN n (N "_law_numbers") [S] fun r => laT n 1 (laEnv (.val S) (.val r) ru en wa co) K) := by kernel_rfl
theorem la_1 : laT n 1 (laEnv s (nuV u) ru en wa co) K =
    gd true (clN n (N "_law_rule") [.int (u 0)] fun r0 => clN n (N "_law_rule") [.int (u 1)] fun r1 => clN n (N "_law_rule") [.int (u 2)] fun r2 => laT n 2 (laEnv s (nuV u) (.val (.lst [r0, r1, r2])) en wa co) K) := by kernel_rfl
theorem la_2 : laT n 2 (laEnv s (nuV u) ru en wa co) K =
    gd true (clN n (N "_law_entry") [.int (u 3)] fun r0 => clN n (N "_law_entry") [.int (u 4)] fun r1 => clN n (N "_law_entry") [.int (u 5)] fun r2 => clN n (N "_law_entry") [.int (u 6)] fun r3 => laT n 3 (laEnv s (nuV u) ru (.val (.lst [r0, r1, r2, r3])) wa co) K) := by kernel_rfl
theorem la_3 : laT n 3 (laEnv s (nuV u) ru en wa co) K = laT n 4 (laEnv s (nuV u) ru en (.val (.int (1 - 2 * ((u 7 : Int).fmod 2)))) co) K := by kernel_rfl
theorem la_4 : laT n 4 (laEnv s (nuV u) ru en wa co) K =
    gd true (clN n (N "_law_counts") [.int (u 3), .int 0, .int (((u 7 : Int).fdiv 2).fmod 2)] fun r0 => clN n (N "_law_counts") [.int (u 4), .int 1, .int (((u 7 : Int).fdiv 2).fmod 2)] fun r1 => clN n (N "_law_counts") [.int (u 5), .int 2, .int (((u 7 : Int).fdiv 2).fmod 2)] fun r2 => clN n (N "_law_counts") [.int (u 6), .int 3, .int (((u 7 : Int).fdiv 2).fmod 2)] fun r3 =>
      laT n 5 (laEnv s (nuV u) ru en wa (.val (.lst [r0, r1, r2, r3]))) K) := by kernel_rfl
theorem la_5 (k : V → Prop) : laT n 5 (laEnv s nu (.val (.lst R)) (.val (.lst E)) (.val (.int w)) (.val (.lst C))) (kRet (dOf (N "law")) k) =
    gd true (clN n (N "_law_report") [.lst R, .int w, .lst E, .lst C] fun x => clN n (N "_law_told") [.lst R, .int w, .lst E, .lst C] fun y => eqW x y fun v => k (.bool v)) := by kernel_rfl
end
end Mine
end
section
open PySem PySem.W PyProof.Rows
set_option maxRecDepth 1000000
set_option genInjectivity false
set_option genSizeOf false
set_option backward.match.sparseCases false
namespace Mine
noncomputable abbrev tdL := stm "_law_told" 2
noncomputable abbrev tdB := bodyS tdL
noncomputable abbrev tdK := nthS tdB 2
noncomputable abbrev tdKB := bodyS tdK
noncomputable abbrev tdDue := valS (stm "_law_told" 0)
noncomputable abbrev tdMine := valS (nthS tdB 0)
noncomputable abbrev tdO := nthE (argsE (nthE (argsE (nthE (argsE (valS (nthS tdB 3))) 0)) 0)) 0
noncomputable abbrev tdI := nthE (argsE (cElt tdO)) 0
noncomputable abbrev tdEnv (Ru : List V) (way Es Cs due told place k mine callers key value : En) : VEnv := [(N "rules", .val (.lst Ru)), (N "way", way), (N "entries", Es), (N "counts", Cs), (N "due", due), (N "told", told), (N "place", place), (N "k", k), (N "mine", mine), (N "callers", callers), (N "key", key), (N "value", value)]
noncomputable def tdSet (ks vs : List V) (key : List Nat) (y : V) (H : List V → List V → Prop) : Prop :=
  brW ((allStr ks).isSome && ks.length.blt 60000) (keyW key ks 0 (fun j => H ks (vs.set j y)) (H (ks ++ [.str key]) (vs ++ [y]))) False
noncomputable def tdElse (ks vs : List V) (key : List Nat) (v : V) (H : List V → List V → Prop) : Prop :=
  brW (allStr ks).isSome (keyW key ks 0 (fun _ => keyW key ks 0 (fun j => optW (vs[j]?) fun q => addW q v fun y => tdSet ks vs key y H) False) (tdSet ks vs key v H)) False
noncomputable def tdEl (ks vs : List V) (key : List Nat) (c v : Int) (H : V → Prop) : Prop := keyW key ks 0 (fun j => optW (vs[j]?) fun q => itemW q (.int c) fun o => addW o (.int v) H) False
noncomputable abbrev tdRK (n i : Nat) (env : VEnv) (K : Fl → VEnv → Prop) : Prop := restG (kvP n 38) "_law_told" tdKB i env K
noncomputable abbrev tdR (n i : Nat) (env : VEnv) (K : Fl → VEnv → Prop) : Prop := restG (kvP n 39) "_law_told" tdB i env K
section
variable (n : Nat) (Ru El Cl ks vs L Ml : List V) (way Es Cs due told place kE mine callers keyE valE : En) (k v v0 v1 v2 v3 pl : Int) (key : List Nat) (K : Fl → VEnv → Prop)
theorem td_k0 : tdRK n 0 (tdEnv Ru way (.val (.lst El)) Cs due told place (.val (.int k)) mine callers keyE valE) K =
    brW (Fits (k - 1)) (optW (getI El (k - 1)) fun e => clN n (N "_law_shown") [e] fun s => tdRK n 1 (tdEnv Ru way (.val (.lst El)) Cs due told place (.val (.int k)) mine callers (.val s) valE) K) False := by kernel_rfl
theorem td_k1 : tdRK n 1 (tdEnv Ru way Es (.val (.lst Cl)) due told place (.val (.int k)) mine callers keyE valE) K =
    brW (Fits k) (optW (getI Cl k) fun c => itemW c (.int 4) fun v => tdRK n 2 (tdEnv Ru way Es (.val (.lst Cl)) due told place (.val (.int k)) mine callers keyE (.val v)) K) False := by kernel_rfl
theorem td_k2i : tdRK n 2 (tdEnv Ru way Es Cs due told place kE mine (.md ks vs) (.val (.str key)) (.val (.int v))) K =
    brW (allStr ks).isSome (keyW key ks 0
      (fun _ => tdElse ks vs key (.int v) fun a b => K .next (tdEnv Ru way Es Cs due told place kE mine (.md a b) (.val (.str key)) (.val (.int v))))
      (tdElse ks vs key (.int v) fun a b => K .next (tdEnv Ru way Es Cs due told place kE mine (.md a b) (.val (.str key)) (.val (.int v))))) False := by kernel_rfl
theorem td_k2t : tdRK n 2 (tdEnv Ru way Es Cs due told place kE mine (.md ks vs) (.val (.str key)) (.val (V4 v0 v1 v2 v3))) K =
    brW (allStr ks).isSome (keyW key ks 0
      (fun _ => tdEl ks vs key 0 v0 fun y0 => tdEl ks vs key 1 v1 fun y1 => tdEl ks vs key 2 v2 fun y2 => tdEl ks vs key 3 v3 fun y3 =>
        tdSet ks vs key (.tup [y0, y1, y2, y3]) fun a b => K .next (tdEnv Ru way Es Cs due told place kE mine (.md a b) (.val (.str key)) (.val (V4 v0 v1 v2 v3))))
      (tdElse ks vs key (V4 v0 v1 v2 v3) fun a b => K .next (tdEnv Ru way Es Cs due told place kE mine (.md a b) (.val (.str key)) (.val (V4 v0 v1 v2 v3))))) False := by kernel_rfl
theorem td_b0 : tdR n 0 (tdEnv Ru way (.val (.lst El)) Cs due told place kE mine callers keyE valE) K =
    brW (sm El) (brW (Fits El.length && (El.length : Int).toNat.blt 4000) (compG (kvP n 38) (ksOf "_law_told") tdMine (tdEnv Ru way (.val (.lst El)) Cs due told place kE mine callers keyE valE) (rngL (El.length : Int).toNat 0) [] fun ms =>
      tdR n 1 (tdEnv Ru way (.val (.lst El)) Cs due told place kE (.val (.lst ms)) callers keyE valE) K) False) False := by kernel_rfl
theorem td_b1 : tdR n 1 (tdEnv Ru way Es Cs due told place kE (.val (.lst Ml)) callers keyE valE) K =
    brW (Ml.length.blt 4000) (forG (kvP n 38) "_law_told" tdK Ml (tdEnv Ru way Es Cs due told place kE (.val (.lst Ml)) (.md [] []) keyE valE) (contX (kvP n 39) "_law_told" tdB 3 K)) False := by kernel_rfl
noncomputable def tdSum (n : Nat) (env : VEnv) (Ml : List V) (c : Int) (H : Int → Prop) : Prop := brW (Ml.length.blt 4000) (compG (kvP n 35) (cKs (ksOf "_law_told") tdO) tdI ((N "c", .val (.int c)) :: (N ".0", .no) :: env) Ml [] fun vs => optW (sumV vs) H) False
theorem td_b3 : tdR n 3 (tdEnv Ru way Es Cs due (.ml L) place kE (.val (.lst Ml)) (.md ks vs) keyE valE) K =
    tdSum n (tdEnv Ru way Es Cs due (.ml L) place kE (.val (.lst Ml)) (.md ks vs) keyE valE) Ml 0 fun s0 => tdSum n (tdEnv Ru way Es Cs due (.ml L) place kE (.val (.lst Ml)) (.md ks vs) keyE valE) Ml 1 fun s1 =>
    tdSum n (tdEnv Ru way Es Cs due (.ml L) place kE (.val (.lst Ml)) (.md ks vs) keyE valE) Ml 2 fun s2 => tdSum n (tdEnv Ru way Es Cs due (.ml L) place kE (.val (.lst Ml)) (.md ks vs) keyE valE) Ml 3 fun s3 =>
      brW (sm L) (K .next (tdEnv Ru way Es Cs due (.ml (L ++ [.tup [.int s0, .int s1, .int s2, .int s3, .dct ks vs]])) place kE (.val (.lst Ml)) .no keyE valE)) False := by kernel_rfl
end
end Mine
end
section
open PySem PySem.W PyProof.Rows
set_option maxRecDepth 1000000
set_option genInjectivity false
set_option genSizeOf false
set_option backward.match.sparseCases false
namespace Mine
noncomputable def accD (shownL : EntD → List Nat) (E : List EntD) (C : List Cn) : List Nat → Dt → Dt
  | [], D => D
  | k :: r, D => accD shownL E C r (insD D (shownL (prevE E k)) (C.getD k cn0).w)
structure ToldOk (n : Nat) (b : Bool) (shownL : EntD → List Nat) (E : List EntD) (C : List Cn) : Prop where
  el : E.length < 1000
  cl : C.length = E.length
  sh : ∀ e ∈ E, Ans n (N "_law_shown") [entV e] (.str (shownL e))
  kd : ∀ c ∈ C, isF c.w = b
section
variable {D : Dt} {k : List Nat} {w w' : Wt} {j : Nat} {H : List V → List V → Prop}
theorem set_new (e : idxD k D = none) (hl : D.length < 5000) (h : H (dkeys (insD D k w)) (dvals (insD D k w))) : tdSet (dkeys D) (dvals D) k (wV w) H :=
  brW_i (keysG hl) (keyW_n e (put_n (ins_n (w := w) e ▸ h)))
theorem set_old (e : idxD k D = some (j, w')) (hl : D.length < 5000) (h : H (dkeys (D.set j (k, w))) (dvals (D.set j (k, w)))) : tdSet (dkeys D) (dvals D) k (wV w) H :=
  brW_i (keysG hl) (keyW_s e (put_s e h))
end
theorem told_key (n : Nat) (Ru : List V) (way Es Cs due told place kE mine : En) (D : Dt) (k : List Nat) (w : Wt) (K : Fl → VEnv → Prop) (hl : D.length < 5000) (hk : ∀ p ∈ D, isF p.2 = isF w)
    (h : K .next (tdEnv Ru way Es Cs due told place kE mine (.md (dkeys (insD D k w)) (dvals (insD D k w))) (.val (.str k)) (.val (wV w)))) :
    tdRK n 2 (tdEnv Ru way Es Cs due told place kE mine (.md (dkeys D) (dvals D)) (.val (.str k)) (.val (wV w))) K := by
  obtain ⟨H, hH⟩ : ∃ H : List V → List V → Prop, H = fun a b => K .next (tdEnv Ru way Es Cs due told place kE mine (.md a b) (.val (.str k)) (.val (wV w))) := ⟨_, rfl⟩
  have h : H (dkeys (insD D k w)) (dvals (insD D k w)) := hH ▸ h
  have els : idxD k D = none → tdElse (dkeys D) (dvals D) k (wV w) H := fun e => brW_i (keysB D) (keyW_n e (set_new e hl h))
  have old : ∀ j w', idxD k D = some (j, w') → tdSet (dkeys D) (dvals D) k (wV (addF w' w)) H := fun j w' e => set_old e hl (ins_s (w := w) e ▸ h)
  have kind : ∀ j w', idxD k D = some (j, w') → isF w' = isF w := fun j w' e => hk (k, w') (List.mem_of_getElem? (idxD_get e))
  cases w with
  | one v =>
    refine of_eq (td_k2i ..) (brW_i (keysB D) ?_)
    rw [show (fun a b => K .next (tdEnv Ru way Es Cs due told place kE mine (.md a b) (.val (.str k)) (.val (.int v)))) = H from hH.symm]
    cases e : idxD k D with
    | none => exact keyW_n e (els e)
    | some p =>
      obtain ⟨j, w'⟩ := p
      cases w' with
      | four => exact nomatch kind _ _ e
      | one i => exact keyW_s e (brW_i (keysB D) (keyW_s e (keyW_s e (optW_i (val_at e) (old _ _ e)))))
  | four v0 v1 v2 v3 =>
    refine of_eq (td_k2t ..) (brW_i (keysB D) ?_)
    rw [show (fun a b => K .next (tdEnv Ru way Es Cs due told place kE mine (.md a b) (.val (.str k)) (.val (V4 v0 v1 v2 v3)))) = H from hH.symm]
    cases e : idxD k D with
    | none => exact keyW_n e (els e)
    | some p =>
      obtain ⟨j, w'⟩ := p
      cases w' with
      | one => exact nomatch kind _ _ e
      | four a b c d =>
        have one : ∀ (i : Nat) (o v : Int) (G : V → Prop), ([V.int a, .int b, .int c, .int d])[i]? = some (.int o) → i < 5000 → G (.int (o + v)) → tdEl (dkeys D) (dvals D) k i v G := fun i o v G ho hi hG =>
          keyW_s e (optW_i (val_at e) (show getW [V.int a, .int b, .int c, .int d] (i : Int) _ from brW_i (fits_k hi) (optW_i (getI_nat ho) hG)))
        exact keyW_s e (one 0 a v0 _ rfl (by decide) (one 1 b v1 _ rfl (by decide) (one 2 c v2 _ rfl (by decide) (one 3 d v3 _ rfl (by decide) (old _ _ e)))))
section
variable {n : Nat} {b : Bool} {shownL : EntD → List Nat} {E : List EntD} {C : List Cn}
noncomputable abbrev tdC (Ru : List V) (way due told place : En) (E : List EntD) (C : List Cn) (kE mine : En) (D : Dt) (keyE valE : En) : VEnv := tdEnv Ru way (.val (.lst (E.map entV))) (.val (.lst (C.map cnV))) due told place kE mine (.md (dkeys D) (dvals D)) keyE valE
theorem told_keys (Ru : List V) (way due told place mine : En) (O : ToldOk n b shownL E C) (K : Fl → VEnv → Prop) (ms : List Nat) : ∀ (N : Nat) (D : Dt) (kE keyE valE : En), DOk b N D → N + ms.length < 5000 → (∀ k ∈ ms, k < E.length) →
    (∀ kE keyE valE, K .next (tdC Ru way due told place E C kE mine (accD shownL E C ms D) keyE valE)) →
    forG (kvP n 38) "_law_told" tdK (natsV ms) (tdC Ru way due told place E C kE mine D keyE valE) K := by
  induction ms with
  | nil => exact fun N D kE keyE valE _ _ _ h => h kE keyE valE
  | cons k r ih =>
    intro N D kE keyE valE hD hN hm h
    have hk := hm k (.head _)
    have hkc : k < C.length := O.cl.symm ▸ hk
    have lk := Nat.lt_trans (Nat.lt_trans hk O.el) (show 1000 < 5000 by decide)
    obtain ⟨hg, hmem⟩ := prev_is hk
    refine forG_cons (env' := tdC Ru way due told place E C (.val (.int k)) mine D keyE valE) (by kernel_rfl) (of_eq (td_k0 ..) (brW_i (fits_p lk) (optW_i hg (ans (O.sh _ hmem) (of_eq (td_k1 ..) (brW_i (fits_k lk) (optW_i (getM (d := cn0) hkc) ?_)))))))
    have hc := O.kd _ (mem_d (d := cn0) hkc)
    show tdRK n 2 (tdC Ru way due told place E C (.val (.int k)) mine D (.val (.str (shownL (prevE E k)))) (.val (wV (C.getD k cn0).w))) _
    exact told_key n Ru way _ _ due told place _ mine D _ _ _ (Nat.lt_of_le_of_lt (Nat.le_trans hD.len (Nat.le_add_right _ _)) hN) (fun p hp => (hD.kd p hp).trans hc.symm) (ih (N + 1) _ _ _ _ (hD.ins hc) ((Nat.add_right_comm N r.length 1) ▸ hN) (fun k hk => hm k (.tail _ hk)) h)
noncomputable def mineF (p : Int) : List Int → Nat → List Nat
  | [], _ => []
  | d :: r, k => bif decide (d = p) then k :: mineF p r (k + 1) else mineF p r (k + 1)
theorem mineF_lt {p : Int} {j : Nat} {l : List Int} : ∀ {k : Nat}, j ∈ mineF p l k → j < k + l.length := by
  induction l with
  | nil => exact fun h => nomatch h
  | cons d r ih =>
    intro k h
    have h : j ∈ (bif decide (d = p) then k :: mineF p r (k + 1) else mineF p r (k + 1)) := h
    have t : j ∈ mineF p r (k + 1) → j < k + (r.length + 1) := fun h => (Nat.add_right_comm k 1 r.length) ▸ ih h
    cases hd : decide (d = p) with
    | true => rw [hd] at h; exact (List.mem_cons.mp h).elim (fun e => e ▸ Nat.lt_add_of_pos_right (Nat.succ_pos _)) t
    | false => rw [hd] at h; exact t h
theorem mineF_len (p : Int) (l : List Int) : ∀ k : Nat, (mineF p l k).length ≤ l.length := by
  induction l with
  | nil => exact fun _ => Nat.le_refl _
  | cons d r ih =>
    intro k
    show (bif decide (d = p) then k :: mineF p r (k + 1) else mineF p r (k + 1)).length ≤ r.length + 1
    cases decide (d = p) with
    | true => exact Nat.succ_le_succ (ih _)
    | false => exact Nat.le_succ_of_le (ih _)
theorem told_mine (Ru : List V) (way Es Cs told kE mine callers keyE valE : En) (p : Int) (dues : List Int) (hd : dues.length < 1000) (K : List V → Prop) (rest : List Int) : ∀ (k : Nat) (acc : List V), dues.drop k = rest → K (acc ++ natsV (mineF p rest k)) →
    compG (kvP n 38) (ksOf "_law_told") tdMine (tdEnv Ru way Es Cs (.val (.lst (intsV dues))) told (.val (.int p)) kE mine callers keyE valE) (rngL rest.length k) acc K := by
  induction rest with
  | nil => exact fun k acc _ h => nil_i (K := K) h
  | cons d rest ih =>
    intro k acc hr h
    obtain ⟨hk, hr', hkl⟩ := get_cons hr
    have h : K (acc ++ natsV (bif decide (d = p) then k :: mineF p rest (k + 1) else mineF p rest (k + 1))) := h
    refine of_eq (show _ = brW (Fits k) (optW (getI (intsV dues) k) fun v => eqW v (.int p) fun b => brW b
      (compG (kvP n 38) (ksOf "_law_told") tdMine (tdEnv Ru way Es Cs (.val (.lst (intsV dues))) told (.val (.int p)) kE mine callers keyE valE) (rngL rest.length ((k + 1 : Nat) : Int)) (acc ++ [.int k]) K)
      (compG (kvP n 38) (ksOf "_law_told") tdMine (tdEnv Ru way Es Cs (.val (.lst (intsV dues))) told (.val (.int p)) kE mine callers keyE valE) (rngL rest.length ((k + 1 : Nat) : Int)) acc K)) False from by kernel_rfl) ?_
    refine brW_i (fits_k (Nat.lt_trans (Nat.lt_trans hkl hd) (by decide))) (optW_i (getI_nat (map_at hk)) ?_)
    show brW (decide (d = p)) _ _
    generalize decide (d = p) = q at h ⊢
    cases q with
    | true => exact ih (k + 1) _ hr' (snoc_i (K := K) h)
    | false => exact ih (k + 1) _ hr' h
def colC (c : Cn) (j : Nat) : Int := match j with
  | 0 => c.a
  | 1 => c.b
  | 2 => c.c
  | _ => c.d
theorem col_at (c : Cn) : ∀ j : Nat, j < 4 → ([V.int c.a, .int c.b, .int c.c, .int c.d, wV c.w])[j]? = some (.int (colC c j))
  | 0, _ | 1, _ | 2, _ | 3, _ => rfl
theorem told_col (env : VEnv) (he : ∃ Ru way Es due told place kE mine callers keyE valE, env = tdEnv Ru way Es (.val (.lst (C.map cnV))) due told place kE mine callers keyE valE) (hC : C.length < 1000) (j : Nat) (hj : j < 4) (K : List V → Prop) (ms : List Nat) : ∀ (acc : List V), (∀ k ∈ ms, k < C.length) →
    K (acc ++ intsV (ms.map fun k => colC (C.getD k cn0) j)) → compG (kvP n 35) (cKs (ksOf "_law_told") tdO) tdI ((N "c", .val (.int j)) :: (N ".0", .no) :: env) (natsV ms) acc K := by
  induction ms with
  | nil => exact fun acc _ h => nil_i (K := K) h
  | cons k r ih =>
    intro acc hm h
    have hk := hm k (.head _)
    refine of_eq (show _ = brW (Fits k) (optW (getI (C.map cnV) k) fun c => itemW c (.int j) fun y =>
      compG (kvP n 35) (cKs (ksOf "_law_told") tdO) tdI ((N "c", .val (.int j)) :: (N ".0", .no) :: env) (natsV r) (acc ++ [y]) K) False from ?_) (brW_i (fits_k (Nat.lt_trans (Nat.lt_trans hk hC) (by decide))) (optW_i (getM (d := cn0) hk) ?_))
    · obtain ⟨_, _, _, _, _, _, _, _, _, _, _, rfl⟩ := he
      kernel_rfl
    · show getW [V.int (C.getD k cn0).a, .int (C.getD k cn0).b, .int (C.getD k cn0).c, .int (C.getD k cn0).d, wV (C.getD k cn0).w] (j : Int) _
      exact brW_i (fits_k (Nat.lt_trans hj (by decide))) (optW_i (getI_nat (col_at _ j hj)) (ih _ (fun k hk => hm k (.tail _ hk)) (snoc_i (K := K) h)))
theorem told_sum (env : VEnv) (he : ∃ Ru way Es due told place kE mine callers keyE valE, env = tdEnv Ru way Es (.val (.lst (C.map cnV))) due told place kE mine callers keyE valE) (hC : C.length < 1000) (j : Nat) (hj : j < 4) (ms : List Nat) (hl : ms.length < 3000) (hm : ∀ k ∈ ms, k < C.length) (H : Int → Prop)
    (h : H (sumL (ms.map fun k => colC (C.getD k cn0) j) 0)) : tdSum n env (natsV ms) j H :=
  brW_i ((List.length_map (as := ms) _).symm ▸ lt_k hl (by decide)) (told_col env he hC j hj _ ms [] hm (optW_i (a := sumL (ms.map fun k => colC (C.getD k cn0) j) 0) (by rw [List.nil_append]; unfold sumV; rw [allInt_ints]; rfl) h))
end
end Mine
end
section
open PySem PySem.W PyProof.Rows
set_option maxRecDepth 1000000
set_option genInjectivity false
set_option genSizeOf false
set_option backward.match.sparseCases false
namespace Mine
noncomputable def toldS (shownL : EntD → List Nat) (E : List EntD) (C : List Cn) (dues : List Int) (p : Int) : Sm :=
  ⟨sumL ((mineF p dues 0).map fun k => colC (C.getD k cn0) 0) 0, sumL ((mineF p dues 0).map fun k => colC (C.getD k cn0) 1) 0, sumL ((mineF p dues 0).map fun k => colC (C.getD k cn0) 2) 0,
    sumL ((mineF p dues 0).map fun k => colC (C.getD k cn0) 3) 0, accD shownL E C (mineF p dues 0) []⟩
noncomputable def toldF (shownL : EntD → List Nat) (E : List EntD) (C : List Cn) (dues : List Int) : Nat → Nat → List Sm
  | 0, _ => []
  | j + 1, p => toldS shownL E C dues p :: toldF shownL E C dues j (p + 1)
section
variable {n : Nat} {b : Bool} {shownL : EntD → List Nat} {E : List EntD} {C : List Cn}
noncomputable abbrev tdM (Ru : List V) (way : En) (E : List EntD) (C : List Cn) (dues : List Int) (L : List Sm) (pE kE mine callers keyE valE : En) : VEnv := tdEnv Ru way (.val (.lst (E.map entV))) (.val (.lst (C.map cnV))) (.val (.lst (intsV dues))) (.ml (L.map smV)) pE kE mine callers keyE valE
theorem told_loop (Ru : List V) (way : En) (dues : List Int) (O : ToldOk n b shownL E C) (hd : dues.length = E.length) (K : Fl → VEnv → Prop) (j : Nat) : ∀ (p : Nat) (L : List Sm) (pE kE mine callers keyE valE : En), L.length + j < 3000 →
    (∀ pE kE mine callers keyE valE, K .next (tdM Ru way E C dues (L ++ toldF shownL E C dues j p) pE kE mine callers keyE valE)) →
    forG (kvP n 39) "_law_told" tdL (rngL j p) (tdM Ru way E C dues L pE kE mine callers keyE valE) K := by
  induction j with
  | zero => exact fun p L pE kE mine callers keyE valE _ h => nil_i (K := fun L => K .next (tdM Ru way E C dues L pE kE mine callers keyE valE)) (h pE kE mine callers keyE valE)
  | succ j ih =>
    intro p L pE kE mine callers keyE valE hL h
    have el := O.el
    have e3 := Nat.lt_trans el (show 1000 < 3000 by decide)
    have em : (E.map entV).length = E.length := List.length_map _
    have dl : dues.length < 1000 := hd.symm ▸ el
    have ml : (mineF (p : Int) dues 0).length < 1000 := Nat.lt_of_le_of_lt (mineF_len (p : Int) dues 0) dl
    have hm : ∀ k ∈ mineF (p : Int) dues 0, k < E.length := fun k hk => hd ▸ Nat.zero_add dues.length ▸ mineF_lt hk
    have hmc : ∀ k ∈ mineF (p : Int) dues 0, k < C.length := fun k hk => O.cl.symm ▸ hm k hk
    have hcl : C.length < 1000 := O.cl.symm ▸ el
    have m3 := Nat.lt_trans ml (show 1000 < 3000 by decide)
    refine forG_cons (env' := tdM Ru way E C dues L (.val (.int p)) kE mine callers keyE valE) (by kernel_rfl) (of_eq (td_b0 ..) ?_)
    unfold sm
    rw [em]
    refine brW_i (lt_k e3 (by decide)) (brW_i (and_i (fits_k (Nat.lt_trans e3 (by decide))) (lt_k (a := E.length) e3 (by decide))) ?_)
    rw [show (E.length : Int).toNat = dues.length from hd.symm]
    refine told_mine Ru way _ _ _ kE mine callers keyE valE p dues dl _ dues 0 [] rfl (of_eq (td_b1 ..) (brW_i ((List.length_map (as := mineF (p : Int) dues 0) _).symm ▸ lt_k m3 (by decide)) ?_))
    refine told_keys Ru way _ _ _ _ O _ (mineF p dues 0) 0 [] kE keyE valE ⟨Nat.le_refl _, List.nodup_nil, fun _ h => (nomatch h)⟩ (by rw [Nat.zero_add]; exact Nat.lt_trans m3 (by decide)) hm fun kE keyE valE => ?_
    refine of_eq (show _ = tdR n 3 (tdEnv Ru way (.val (.lst (E.map entV))) (.val (.lst (C.map cnV))) (.val (.lst (intsV dues))) (.ml (L.map smV)) (.val (.int p)) kE (.val (.lst (natsV (mineF p dues 0)))) (.md (dkeys (accD shownL E C (mineF p dues 0) [])) (dvals (accD shownL E C (mineF p dues 0) []))) keyE valE) (contL (kvP n 39) "_law_told" tdL (rngL j ((p + 1 : Nat) : Int)) K) from by kernel_rfl) (of_eq (td_b3 ..) ?_)
    refine told_sum _ ⟨_, _, _, _, _, _, _, _, _, _, _, rfl⟩ hcl 0 (by decide) _ m3 hmc _ (told_sum _ ⟨_, _, _, _, _, _, _, _, _, _, _, rfl⟩ hcl 1 (by decide) _ m3 hmc _ (told_sum _ ⟨_, _, _, _, _, _, _, _, _, _, _, rfl⟩ hcl 2 (by decide) _ m3 hmc _ (told_sum _ ⟨_, _, _, _, _, _, _, _, _, _, _, rfl⟩ hcl 3 (by decide) _ m3 hmc _ ?_)))
    have hL' : L.length < 3000 := Nat.lt_of_le_of_lt (Nat.le_add_right _ _) hL
    refine brW_i (show Nat.blt (L.map smV).length 65536 = true from (List.length_map (as := L) smV).symm ▸ lt_k hL' (by decide)) ?_
    show forG (kvP n 39) "_law_told" tdL (rngL j ((p + 1 : Nat) : Int)) _ K
    have es : L.map smV ++ [smV (toldS shownL E C dues p)] = (L ++ [toldS shownL E C dues p]).map smV := (List.map_append (f := smV) (l₁ := L) (l₂ := [toldS shownL E C dues p])).symm
    have := ih (p + 1) (L ++ [toldS shownL E C dues p]) (.val (.int p)) kE (.val (.lst (natsV (mineF p dues 0)))) .no keyE valE (by rw [List.length_append]; exact (Nat.add_right_comm L.length j 1) ▸ hL) fun pE kE mine callers keyE valE => snoc_i (K := fun L => K .next (tdM Ru way E C dues L pE kE mine callers keyE valE)) (h pE kE mine callers keyE valE)
    unfold tdM at this
    rw [← es] at this
    exact this
theorem told_due (env : VEnv) (he : ∃ Es Cs du to pl kE mi ca ke va, env = (N "entries", Es) :: (N "counts", Cs) :: (N "due", du) :: (N "told", to) :: (N "place", pl) :: (N "k", kE) :: (N "mine", mi) :: (N "callers", ca) :: (N "key", ke) :: (N "value", va) :: []) (Ru : List V) (way : Int) (dF : EntD → Int) (K : List V → Prop) (es : List EntD) : ∀ (acc : List V), (∀ e ∈ es, Ans n (N "_law_due") [.lst Ru, .int way, entV e] (.int (dF e))) → K (acc ++ intsV (es.map dF)) →
    compG (kvP n 39) (ksOf "_law_told") tdDue ((N "rules", .val (.lst Ru)) :: (N "way", .val (.int way)) :: env) (es.map entV) acc K := by
  induction es with
  | nil => exact fun acc _ h => nil_i (K := K) h
  | cons e r ih =>
    intro acc hd h
    refine of_eq (show _ = gd true (clN n (N "_law_due") [.lst Ru, .int way, entV e] fun y => compG (kvP n 39) (ksOf "_law_told") tdDue ((N "rules", .val (.lst Ru)) :: (N "way", .val (.int way)) :: env) (r.map entV) (acc ++ [y]) K) from ?_) (gd_t (ans (hd e (.head _)) (ih _ (fun e he => hd e (.tail _ he)) (snoc_i (K := K) h))))
    obtain ⟨_, _, _, _, _, _, _, _, _, _, rfl⟩ := he
    kernel_rfl
noncomputable abbrev tdT (n i : Nat) (env : VEnv) (K : Fl → VEnv → Prop) : Prop := restG (kvP n 40) "_law_told" (dOf (N "_law_told")).body i env K
theorem td_run (n : Nat) (env : VEnv) (K : Fl → VEnv → Prop) : xsW (kev (clF (dOf (N "_law_told")).lw (clN n)) 40) (kindsOf (dOf (N "_law_told")).scope) (dOf (N "_law_told")).owns (dOf (N "_law_told")).body env K = tdT n 0 env K := by kernel_rfl
theorem td_t0 (n : Nat) (Ru El : List V) (way Cs : En) (K : Fl → VEnv → Prop) : tdT n 0 (tdEnv Ru way (.val (.lst El)) Cs .no .no .no .no .no .no .no .no) K = brW (El.length.blt 4000) (compG (kvP n 39) (ksOf "_law_told") tdDue (tdEnv Ru way (.val (.lst El)) Cs .no .no .no .no .no .no .no .no) El [] fun ds => tdT n 1 (tdEnv Ru way (.val (.lst El)) Cs (.val (.lst ds)) .no .no .no .no .no .no .no) K) False := by kernel_rfl
theorem td_t1 (n : Nat) (Ru : List V) (way Es Cs ds : En) (K : Fl → VEnv → Prop) : tdT n 1 (tdEnv Ru way Es Cs ds .no .no .no .no .no .no .no) K = brW (sm Ru) (brW (Fits ((Ru.length : Int) + 1) && ((Ru.length : Int) + 1).toNat.blt 4000)
        (forG (kvP n 39) "_law_told" tdL (rngL ((Ru.length : Int) + 1).toNat 0) (tdEnv Ru way Es Cs ds (.ml []) .no .no .no .no .no .no) (contX (kvP n 40) "_law_told" (dOf (N "_law_told")).body 3 K)) False) False := by kernel_rfl
theorem td_t3 (n : Nat) (Ru L : List V) (way Es Cs ds pE kE mine callers keyE valE : En) (K : V → Prop) : tdT n 3 (tdEnv Ru way Es Cs ds (.ml L) pE kE mine callers keyE valE) (kRet (dOf (N "_law_told")) K) = K (.lst L) := by kernel_rfl
theorem told_is (Ru : List V) (way : Int) (dF : EntD → Int) (O : ToldOk n b shownL E C) (hm : Ru.length < 1000) (hd : ∀ e ∈ E, Ans n (N "_law_due") [.lst Ru, .int way, entV e] (.int (dF e))) :
    Ans (n + 1) (N "_law_told") [.lst Ru, .int way, .lst (E.map entV), .lst (C.map cnV)] (.lst ((toldF shownL E C (E.map dF) (Ru.length + 1) 0).map smV)) := by
  intro K hK
  have e3 := Nat.lt_trans O.el (show 1000 < 3000 by decide)
  have em : (E.map entV).length = E.length := List.length_map _
  have m4 : Ru.length + 1 < 4000 := Nat.lt_trans (Nat.succ_lt_succ hm) (by decide)
  refine run_i (d := dOf (N "_law_told")) (env := tdEnv Ru (.val (.int way)) (.val (.lst (E.map entV))) (.val (.lst (C.map cnV))) .no .no .no .no .no .no .no .no) (by kernel_rfl) (by kernel_rfl) (by kernel_rfl) (of_eq (td_run ..) (of_eq (td_t0 ..) ?_))
  refine brW_i (em.symm ▸ lt_k e3 (by decide)) (told_due _ ⟨_, _, _, _, _, _, _, _, _, _, rfl⟩ Ru way dF _ E [] hd (of_eq (td_t1 ..) (brW_i (lt_k (Nat.lt_trans hm (by decide)) (by decide)) (brW_i (and_i (fits_k (n := Ru.length + 1) (Nat.lt_trans m4 (by decide))) (bltN.mpr m4)) ?_))))
  exact told_loop Ru _ (E.map dF) O (List.length_map _) _ (Ru.length + 1) 0 [] _ _ _ _ _ _ (by rw [List.length_nil, Nat.zero_add]; exact Nat.lt_trans (Nat.succ_lt_succ hm) (by decide)) fun pE kE mine callers keyE valE => of_eq (td_t3 ..) hK
end
end Mine
end
section
open PySem PySem.W PyProof.Rows
set_option maxRecDepth 1000000
set_option genInjectivity false
set_option genSizeOf false
set_option backward.match.sparseCases false
namespace Mine
noncomputable def foldS (shownL : EntD → List Nat) (E : List EntD) (C : List Cn) : List Nat → Sm → Sm
  | [], s => s
  | k :: r, s => foldS shownL E C r (addSm s (C.getD k cn0) (shownL (prevE E k)))
section
variable {shownL : EntD → List Nat} {E : List EntD} {C : List Cn}
theorem foldS_is (ms : List Nat) : ∀ s : Sm, foldS shownL E C ms s =
    ⟨sumL (ms.map fun k => colC (C.getD k cn0) 0) s.a, sumL (ms.map fun k => colC (C.getD k cn0) 1) s.b, sumL (ms.map fun k => colC (C.getD k cn0) 2) s.c, sumL (ms.map fun k => colC (C.getD k cn0) 3) s.d, accD shownL E C ms s.D⟩ := by
  induction ms with
  | nil => exact fun _ => rfl
  | cons k r ih =>
    intro s
    refine (ih _).trans ?_
    unfold addSm
    rw [Int.add_comm (C.getD k cn0).a, Int.add_comm (C.getD k cn0).b, Int.add_comm (C.getD k cn0).c, Int.add_comm (C.getD k cn0).d]
    rfl
theorem rep_at (rows : List RowD) (m : Nat) (dF : EntD → Int) (hd : ∀ e ∈ E, dF e = (placeOf rows m (shownL e) : Int)) (hp : ∀ s, placeOf rows m s ≤ m) (p : Nat) (j : Nat) :
    ∀ (k : Nat) (S : List Sm), k + j = E.length → S.length = m + 1 → (repF rows m shownL E C j k S).getD p sm0 = foldS shownL E C (mineF p ((E.map dF).drop k) k) (S.getD p sm0) := by
  have em : (E.map dF).length = E.length := List.length_map _
  induction j with
  | zero =>
    intro k S hk _
    rw [List.drop_eq_nil_of_le (by rw [em, ← hk]; exact Nat.le_refl _)]; rfl
  | succ j ih =>
    intro k S hk hS
    have hkl : k < E.length := hk ▸ Nat.lt_add_of_pos_right (Nat.succ_pos j)
    rw [drop_of (map_at (f := dF) (get_d (d := en0) hkl)), hd _ (mem_d hkl)]
    refine (ih (k + 1) _ ((Nat.add_right_comm k 1 j).trans hk) (by unfold stepSm; rw [List.length_set]; exact hS)).trans ?_
    have hq := hp (shownL (E.getD k en0))
    generalize placeOf rows m (shownL (E.getD k en0)) = q at hq
    show _ = foldS shownL E C (bif decide ((q : Int) = (p : Int)) then k :: mineF p ((E.map dF).drop (k + 1)) (k + 1) else mineF p ((E.map dF).drop (k + 1)) (k + 1)) (S.getD p sm0)
    unfold stepSm
    rw [List.getD_eq_getElem?_getD, List.getElem?_set, eq_int]
    by_cases e : q = p
    · subst e
      rw [if_pos rfl, if_pos (hS.symm ▸ Nat.lt_succ_of_le hq), Nat.beq_refl]; rfl
    · rw [if_neg e, beqN_false e, ← List.getD_eq_getElem?_getD]; rfl
theorem repF_len (rows : List RowD) (m : Nat) (j : Nat) : ∀ (k : Nat) (S : List Sm), (repF rows m shownL E C j k S).length = S.length := by
  induction j with
  | zero => exact fun _ _ => rfl
  | succ j ih => exact fun k S => (ih (k + 1) _).trans (List.length_set ..)
theorem toldF_at (dues : List Int) (j : Nat) : ∀ (p q : Nat), q < j → (toldF shownL E C dues j p)[q]? = some (toldS shownL E C dues ((p + q : Nat) : Int)) := by
  induction j with
  | zero => exact fun _ _ h => nomatch h
  | succ j ih =>
    intro p q h
    cases q with
    | zero => rfl
    | succ q => exact (ih (p + 1) q (Nat.lt_of_succ_lt_succ h)).trans (congrArg (fun i : Nat => some (toldS shownL E C dues i)) (Nat.add_right_comm p 1 q))
theorem toldF_len (dues : List Int) (j : Nat) : ∀ p : Nat, (toldF shownL E C dues j p).length = j := by
  induction j with
  | zero => exact fun _ => rfl
  | succ j ih => exact fun p => congrArg Nat.succ (ih (p + 1))
theorem rep_told (rows : List RowD) (m : Nat) (dF : EntD → Int) (hd : ∀ e ∈ E, dF e = (placeOf rows m (shownL e) : Int)) (hp : ∀ s, placeOf rows m s ≤ m) :
    repF rows m shownL E C E.length 0 (List.replicate (m + 1) sm0) = toldF shownL E C (E.map dF) (m + 1) 0 := by
  have rl : (repF rows m shownL E C E.length 0 (List.replicate (m + 1) sm0)).length = m + 1 := (repF_len ..).trans (List.length_replicate ..)
  refine List.ext_getElem? fun q => ?_
  by_cases hq : q < m + 1
  · rw [toldF_at _ _ _ _ hq, get_d (d := sm0) (rl.symm ▸ hq), rep_at rows m dF hd hp q E.length 0 _ (Nat.zero_add _) (List.length_replicate ..), foldS_is, List.drop_zero]
    have e0 : (List.replicate (m + 1) sm0).getD q sm0 = sm0 := by rw [List.getD_eq_getElem?_getD, List.getElem?_replicate, if_pos hq]; rfl
    rw [e0, Nat.zero_add]; rfl
  · rw [List.getElem?_eq_none (rl.symm ▸ Nat.le_of_not_lt hq), List.getElem?_eq_none ((toldF_len _ _ _).symm ▸ Nat.le_of_not_lt hq)]
end
theorem na_w (n : Nat) (w : Wt) : noAtm (n + 2) (wV w) = true := by cases w <;> rfl
theorem na_sm (l : List Sm) : noAtm 9 (.lst (l.map smV)) = true := noAtms_map (fun s => and_i rfl (and_i rfl (and_i rfl (and_i rfl (and_i (noAtms_map (fun p => na_w 4 p.2) s.D) rfl))))) l
end Mine
end
section
open PySem PySem.W PyProof.Rows
set_option maxRecDepth 1000000
set_option genInjectivity false
set_option genSizeOf false
set_option backward.match.sparseCases false
namespace Mine
structure Facts : Prop where
  rule : ∀ x : Nat, x < 96 → Ans 7 (N "_law_rule") [.int x] (ruleV (ruleL x))
  entry : ∀ x : Nat, x < 96 → Ans 7 (N "_law_entry") [.int x] (entV (entL x))
  shown : ∀ (n x : Nat), x < 96 → Ans (n + 1) (N "_law_shown") [entV (entL x)] (.str (shownL (entL x)))
  func : ∀ (n x : Nat), x < 96 → Ans (n + 1) (N "func_std_string") [entV (entL x)] (.str (shownL (entL x)))
  row : ∀ x : Nat, x < 96 → ∃ pat parts text, RuleRow 5 (ruleL x) pat parts text (runsL (ruleL x)) ∧ parts.length = (itemsOf (ruleL x)).length ∧ (parts.filter isStar).length = cntS (itemsOf (ruleL x))
  fits : ∀ x y : Nat, x < 96 → y < 96 → fitsL (shownL (entL y)) (runsL (ruleL x)) = meansL shownL (ruleL x) (entL y)
  ok : ∀ x : Nat, x < 96 → RuleOk (ruleL x) ∧ (∀ p ∈ runsL (ruleL x), RunOk p) ∧ (runsL (ruleL x)).length < 4000
  ent : ∀ y : Nat, y < 96 → (entL y).f.length < 3000 ∧ (entL y).n.length < 3000 ∧ (shownL (entL y)).length < 3000
noncomputable def rwL (R : RuleD) (k : Nat) : RowD := ⟨(itemsOf R).length - (cntS (itemsOf R) : Int), cntS (itemsOf R), k, runsL R⟩
theorem ordF_len (way : Int) (rest : List RuleD) : ∀ (k : Nat) (G : List RowD), (ordF way rwL rest k G).length = rest.length + G.length := by
  induction rest with
  | nil => exact fun k G => (Nat.zero_add _).symm
  | cons R r ih => exact fun k G => (ih (k + 1) _).trans ((congrArg (r.length + ·) (insR_len ..)).trans (Nat.add_right_comm r.length 1 G.length ▸ rfl))
section
variable (F : Facts) {way : Int} (hw : way = 1 ∨ way = -1) {u : Nat → Nat} (hu : ∀ j, u j < 96) (a e : List Nat) (ha : a.length < 4) (he : e.length < 1000) (b : Bool) (C : List Cn) (cl : C.length = e.length) (hc : ∀ c ∈ C, isF c.w = b)
include F hu
theorem rule_row (R : RuleD) (hR : R ∈ a.map fun j => ruleL (u j)) : ∃ pat parts text runs, RuleRow (4 + 1) R pat parts text runs ∧ ∀ k, rwL R k = rowOf k parts runs := by
  obtain ⟨j, _, rfl⟩ := List.exists_of_mem_map hR
  obtain ⟨pat, parts, text, h1, h2, h3⟩ := F.row (u j) (hu j)
  exact ⟨pat, parts, text, _, h1, fun k => by unfold rwL rowOf; rw [h2, h3]⟩
include hw in
theorem due_place (E : EntD) (hE : E ∈ e.map fun j => entL (u j)) : dueL shownL (a.map fun j => ruleL (u j)) way E = (placeOf (ordF way rwL (a.map fun j => ruleL (u j)) 0 []) (a.map fun j => ruleL (u j)).length (shownL E) : Int) := by
  obtain ⟨j, _, rfl⟩ := List.exists_of_mem_map hE
  refine place_due hw (rw := rwL) (fun _ _ => rfl) _ shownL _ (fun R k => ?_) fun R hR k => ?_
  · exact congrArg (· :: _) (Int.neg_sub _ _).symm
  · obtain ⟨i, _, rfl⟩ := List.exists_of_mem_map hR
    exact F.fits _ _ (hu i) (hu j)
include hw ha he cl hc in
theorem law_core : ∃ l : List Sm, Ans 7 (N "_law_report") [.lst ((a.map fun j => ruleL (u j)).map ruleV), .int way, .lst ((e.map fun j => entL (u j)).map entV), .lst (C.map cnV)] (.lst (l.map smV)) ∧
    Ans 7 (N "_law_told") [.lst ((a.map fun j => ruleL (u j)).map ruleV), .int way, .lst ((e.map fun j => entL (u j)).map entV), .lst (C.map cnV)] (.lst (l.map smV)) := by
  have al : (a.map fun j => ruleL (u j)).length = a.length := List.length_map _
  have rm : ((a.map fun j => ruleL (u j)).map ruleV).length = (a.map fun j => ruleL (u j)).length := List.length_map _
  have el : (e.map fun j => entL (u j)).length = e.length := List.length_map _
  have ol := ordF_len way (a.map fun j => ruleL (u j)) 0 []
  have hord := in_order_is 4 _ way rwL (al.symm ▸ Nat.lt_trans ha (by decide)) (rule_row F hu a)
  have hok := (ordF_is hw (rw := rwL) (fun _ _ => rfl) (a.map fun j => ruleL (u j)) 0 [] .nil fun _ h => (nomatch h)).2
  have fw : Fits way = true := hw.elim (fun e => e ▸ rfl) fun e => e ▸ rfl
  have hpl := due_place F hw hu a e
  generalize hrs : ordF way rwL (a.map fun j => ruleL (u j)) 0 [] = rows at *
  have O : RepOk 6 b rows ((a.map fun j => ruleL (u j)).map ruleV).length shownL (e.map fun j => entL (u j)) C := by
    rw [rm]
    refine ⟨fun r hr => ?_, ol.symm ▸ (show _ + 0 < 3000 from al.symm ▸ Nat.lt_trans ha (by decide)), al.symm ▸ Nat.lt_trans ha (by decide), el.symm ▸ he, cl.trans el.symm, fun E hE => ?_, hc⟩
    · obtain ⟨i, R, h1, rfl⟩ := ((hok r).mp hr).resolve_left fun h => (nomatch h)
      obtain ⟨j, _, rfl⟩ := List.exists_of_mem_map (List.mem_of_getElem? h1)
      have := F.ok (u j) (hu j)
      exact ⟨⟨this.2.1, this.2.2⟩, show 0 + i < _ from (Nat.zero_add i).symm ▸ (List.getElem?_eq_some_iff.mp h1).1⟩
    · obtain ⟨j, _, rfl⟩ := List.exists_of_mem_map hE
      exact ⟨F.func 5 _ (hu j), (F.ent _ (hu j)).2.2⟩
  have T : ToldOk 6 b shownL (e.map fun j => entL (u j)) C := ⟨O.el, O.cl, fun E hE => (List.exists_of_mem_map hE).elim fun j h => h.2 ▸ F.shown 5 _ (hu j), hc⟩
  refine ⟨_, ?_, told_is (n := 6) _ way (dueL shownL (a.map fun j => ruleL (u j)) way) T (rm.symm ▸ al.symm ▸ Nat.lt_trans ha (by decide)) fun E hE => ?_⟩
  · rw [← rep_told rows _ _ (fun E hE => rm.symm ▸ hpl E hE) (place_le O)]
    exact report_is (n := 4) _ way O hord
  · obtain ⟨j, _, rfl⟩ := List.exists_of_mem_map hE
    refine due_is 2 _ way _ shownL (fun R hR => ?_) ⟨(F.ent _ (hu j)).1, (F.ent _ (hu j)).2.1, F.shown 3 _ (hu j), (F.ent _ (hu j)).2.2⟩ fw (al.symm ▸ ha)
    obtain ⟨i, _, rfl⟩ := List.exists_of_mem_map hR
    exact (F.ok _ (hu i)).1
end
theorem isF_cnt (x k f : Int) : isF (cntL x k f).w = decide (f = 1) := by
  unfold cntL
  cases decide (f = 1) <;> rfl
theorem law_true (F : Facts) (xs : List Int) (hx : xs.length < 3000) : Ans 8 (N "law") [.lst (intsV xs)] (.bool true) := by
  intro K hK
  refine run_i (d := dOf (N "law")) (env := laEnv (.val (.lst (intsV xs))) .no .no .no .no .no) (by kernel_rfl) (by kernel_rfl) (by kernel_rfl) (of_eq (la_run ..) (of_eq (la_0 ..) (gd_t (ans (numbers_is 6 xs hx) ?_))))
  rw [nuN_is]
  have hu := nuN_lt xs
  generalize nuN xs = u at hu ⊢
  refine of_eq (la_1 ..) (gd_t (ans (F.rule _ (hu 0)) (ans (F.rule _ (hu 1)) (ans (F.rule _ (hu 2)) (of_eq (la_2 ..) (gd_t (ans (F.entry _ (hu 3)) (ans (F.entry _ (hu 4)) (ans (F.entry _ (hu 5)) (ans (F.entry _ (hu 6)) (of_eq (la_3 ..) (of_eq (la_4 ..)
    (gd_t (ans (counts_is 6 _ _ _) (ans (counts_is 6 _ _ _) (ans (counts_is 6 _ _ _) (ans (counts_is 6 _ _ _) ?_)))))))))))))))))
  have hway : (1 - 2 * ((u 7 : Int).fmod 2) = 1) ∨ (1 - 2 * ((u 7 : Int).fmod 2) = -1) := by
    rw [show (u 7 : Int).fmod 2 = ((u 7 % 2 : Nat) : Int) from (Int.ofNat_fmod ..).symm]
    rcases Nat.mod_two_eq_zero_or_one (u 7) with h | h <;> rw [h]
    · exact .inl rfl
    · exact .inr rfl
  generalize 1 - 2 * ((u 7 : Int).fmod 2) = way at hway
  generalize ((u 7 : Int).fdiv 2).fmod 2 = fo
  obtain ⟨l, h1, h2⟩ := law_core F hway hu [0, 1, 2] [3, 4, 5, 6] (by decide) (by decide) (decide (fo = 1)) [cntL (u 3) 0 fo, cntL (u 4) 1 fo, cntL (u 5) 2 fo, cntL (u 6) 3 fo] rfl
    fun c hc => by
      rcases List.mem_cons.mp hc with rfl | hc
      · exact isF_cnt ..
      rcases List.mem_cons.mp hc with rfl | hc
      · exact isF_cnt ..
      rcases List.mem_cons.mp hc with rfl | hc
      · exact isF_cnt ..
      rcases List.mem_cons.mp hc with rfl | hc
      · exact isF_cnt ..
      cases hc
  refine of_eq (la_5 ..) (gd_t (ans h1 (ans h2 ?_)))
  exact ⟨⟨rfl, na_sm l⟩, hK⟩
end Mine
end
section
open PySem PySem.W PyProof.Rows
set_option maxRecDepth 1000000
set_option genInjectivity false
set_option genSizeOf false
set_option backward.match.sparseCases false
namespace Mine
noncomputable def fieldT : Nat → List V
  | 0 => [.str [92, 126]]
  | 1 => [starV]
  | 2 => [markV]
  | 3 => [.str [91, 94, 98, 93]]
  | 4 => [.str [91, 97, 93], starV]
  | _ => [starV, .str [91, 97, 98, 93]]
noncomputable def inT (x : Nat) (a b : List Nat) : List V := bif Nat.beq (x / 48) 1 then [.str a] ++ fieldT (1 + x / 12 % 4) ++ [.str b] else fieldT (1 + x / 12 % 4)
noncomputable def partsL (x : Nat) : List V := bif Nat.beq (x % 6) 0 && Nat.beq (x / 6 % 2) 0 then inT x [92, 123] [92, 125]
  else fieldT (x % 6) ++ [.str [58], .str [48 + x / 6 % 2], .str [92, 40]] ++ inT x [60] [62] ++ [.str [92, 41]]
noncomputable def joinF : List V → Bool → List Nat → List Nat
  | [], s, acc => bif s then [46, 42] ++ acc else acc
  | v :: r, s, acc => bif isStar v then bif s then [40, 63, 62, 46, 42, 63] ++ acc ++ [41] ++ joinF r true [] else acc ++ joinF r true []
    else joinF r s (acc ++ match v with
      | .str t => t
      | _ => [46])
noncomputable def textL (x : Nat) : List Nat := [40, 63, 115, 58] ++ joinF (partsL x) false [] ++ [41, 92, 90]
noncomputable def allP (f : Nat → Prop) : Nat → Prop
  | 0 => True
  | n + 1 => f n ∧ allP f n
noncomputable def allQ (f : Nat → Prop) : Nat → Prop
  | 0 => True
  | n + 1 => f n ∧ allQ f n
theorem all_is {f g : Nat → Prop} {n : Nat} (h : allP f n = allQ g n) (hg : ∀ x, x < n → g x) (x : Nat) (hx : x < n) : f x := by
  have hq : ∀ m, m ≤ n → allQ g m := fun m => by
    induction m with
    | zero => exact fun _ => trivial
    | succ m ih => exact fun h => ⟨hg m h, ih (Nat.le_of_succ_le h)⟩
  have hp : ∀ m, allP f m → x < m → f x := fun m => by
    induction m with
    | zero => exact fun _ h => nomatch h
    | succ m ih => exact fun h hx => (Nat.lt_succ_iff_lt_or_eq.mp hx).elim (ih h.2) fun e => e ▸ h.1
  exact hp n (h ▸ hq n (Nat.le_refl n)) hx
theorem tab_is {n : Nat} {A : Nat → (V → Prop) → Prop} {r : Nat → V} (h : ∀ k : Nat → V → Prop, allP (fun x => A x (k x)) n = allQ (fun x => k x (r x)) n) (x : Nat) (hx : x < n) (k : V → Prop) (hk : k (r x)) : A x k :=
  have e : (fun v => x = x → k v) = k := funext fun v => propext ⟨fun h => h rfl, fun h _ => h⟩
  e ▸ all_is (f := fun y => A y fun v => x = y → k v) (h fun y v => x = y → k v) (fun y _ q => q ▸ hk) x hx
theorem four {P : Nat → Prop} (h0 : P 0) (h1 : P 1) (h2 : P 2) (h3 : P 3) (q : Nat) (h : q < 4) : P q := by
  cases q with
  | zero => exact h0
  | succ q =>
    cases q with
    | zero => exact h1
    | succ q =>
      cases q with
      | zero => exact h2
      | succ q =>
        cases q with
        | zero => exact h3
        | succ q => exact absurd h (Nat.not_lt.mpr (Nat.le_add_left 4 q))
noncomputable abbrev Quarter (A : Nat → (V → Prop) → Prop) (r : Nat → V) (q : Nat) : Prop := ∀ k : Nat → V → Prop, allP (fun i => A (24 * q + i) (k i)) 24 = allQ (fun i => k i (r (24 * q + i))) 24
theorem tab_4 {A : Nat → (V → Prop) → Prop} {r : Nat → V} (h0 : Quarter A r 0) (h1 : Quarter A r 1) (h2 : Quarter A r 2) (h3 : Quarter A r 3) (x : Nat) (hx : x < 96) (k : V → Prop) (hk : k (r x)) : A x k := by
  have h := tab_is (A := fun i => A (24 * (x / 24) + i)) (r := fun i => r (24 * (x / 24) + i)) (four (P := Quarter A r) h0 h1 h2 h3 (x / 24) (Nat.div_lt_of_lt_mul hx)) (x % 24) (Nat.mod_lt _ (by decide)) k
  rw [Nat.div_add_mod] at h
  exact h hk
theorem f_rule (k : Nat → V → Prop) : allP (fun x => clN 7 (N "_law_rule") [.int x] (k x)) 96 = allQ (fun x => k x (ruleV (ruleL x))) 96 := by kernel_rfl
theorem f_entry (k : Nat → V → Prop) : allP (fun x => clN 7 (N "_law_entry") [.int x] (k x)) 96 = allQ (fun x => k x (entV (entL x))) 96 := by kernel_rfl
theorem f_shown (n : Nat) (k : Nat → V → Prop) : allP (fun x => clN (n + 1) (N "_law_shown") [entV (entL x)] (k x)) 48 = allQ (fun x => k x (.str (shownL (entL x)))) 48 := by kernel_rfl
theorem f_func (n : Nat) (k : Nat → V → Prop) : allP (fun x => clN (n + 1) (N "func_std_string") [entV (entL x)] (k x)) 48 = allQ (fun x => k x (.str (shownL (entL x)))) 48 := by kernel_rfl
theorem f_pat (k : Nat → V → Prop) : allP (fun x => clN 5 (N "func_std_string") [.tup [.str (ruleL x).fp, .int (ruleL x).l, .str (ruleL x).np]] (k x)) 96 = allQ (fun x => k x (.str (patL (ruleL x)))) 96 := by kernel_rfl
end Mine
end
section
open PySem PySem.W PyProof.Rows
set_option maxRecDepth 1000000
set_option genInjectivity false
set_option genSizeOf false
set_option backward.match.sparseCases false
namespace Mine
noncomputable abbrev trA (x : Nat) (k : V → Prop) : Prop := clN 5 (N "_translate") [.str (patL (ruleL x)), starV, markV] k
noncomputable abbrev teA (x : Nat) (k : V → Prop) : Prop := clN 5 (N "translate") [.str (patL (ruleL x))] k
noncomputable abbrev ruA (x : Nat) (k : V → Prop) : Prop := clN 5 (N "_law_runs") [.str (textL x)] k
theorem f_tr0 : Quarter trA (fun x => .lst (partsL x)) 0 := fun k => by kernel_rfl
theorem f_tr1 : Quarter trA (fun x => .lst (partsL x)) 1 := fun k => by kernel_rfl
theorem f_tr2 : Quarter trA (fun x => .lst (partsL x)) 2 := fun k => by kernel_rfl
theorem f_tr3 : Quarter trA (fun x => .lst (partsL x)) 3 := fun k => by kernel_rfl
theorem f_te0 : Quarter teA (fun x => .str (textL x)) 0 := fun k => by kernel_rfl
theorem f_te1 : Quarter teA (fun x => .str (textL x)) 1 := fun k => by kernel_rfl
theorem f_te2 : Quarter teA (fun x => .str (textL x)) 2 := fun k => by kernel_rfl
theorem f_te3 : Quarter teA (fun x => .str (textL x)) 3 := fun k => by kernel_rfl
theorem f_ru0 : Quarter ruA (fun x => .lst (runsV (runsL (ruleL x)))) 0 := fun k => by kernel_rfl
theorem f_ru1 : Quarter ruA (fun x => .lst (runsV (runsL (ruleL x)))) 1 := fun k => by kernel_rfl
theorem f_ru2 : Quarter ruA (fun x => .lst (runsV (runsL (ruleL x)))) 2 := fun k => by kernel_rfl
theorem f_ru3 : Quarter ruA (fun x => .lst (runsV (runsL (ruleL x)))) 3 := fun k => by kernel_rfl
noncomputable def partsB (x : Nat) : Bool := (partsL x).all partB && Nat.blt (partsL x).length 3000 && Nat.beq (partsL x).length (itemsOf (ruleL x)).length && Nat.beq ((partsL x).filter isStar).length (cntS (itemsOf (ruleL x)))
theorem f_pa : allN partsB 96 = true := by kernel_rfl
noncomputable def itB (it : List Nat) : Bool := Nat.blt 0 it.length && Nat.blt it.length 3000
theorem itB_is (l : List (List Nat)) (h : l.all itB = true) (it : List Nat) (hi : it ∈ l) : ItOk it :=
  and_e (List.all_eq_true.mp h it hi) fun h1 h2 => ⟨fun e => Nat.lt_irrefl 0 (bltN.mp (show Nat.blt 0 ([] : List Nat).length = true from e ▸ h1)), Nat.lt_trans (bltN.mp h2) (by decide)⟩
noncomputable def runB (p : List Nat × List (List Nat)) : Bool := p.2.all itB && Nat.blt p.2.length 3000
noncomputable def ruleB (R : RuleD) : Bool := (R.fi.all itB && Nat.blt R.fi.length 3000) && ((R.ni.all itB && Nat.blt R.ni.length 3000) && (Nat.blt 0 R.np.length && ((runsL R).all runB && Nat.blt (runsL R).length 4000)))
theorem f_ok : allN (fun x => ruleB (ruleL x)) 96 = true := by kernel_rfl
theorem ok_of {R : RuleD} (h : ruleB R = true) : RuleOk R ∧ (∀ p ∈ runsL R, RunOk p) ∧ (runsL R).length < 4000 :=
  and_e h fun h1 h => and_e h1 fun h1 h2 => and_e h fun h3 h => and_e h3 fun h3 h4 => and_e h fun h5 h => and_e h fun h6 h7 =>
    ⟨⟨itB_is _ h1, bltN.mp h2, itB_is _ h3, bltN.mp h4, fun e => Nat.lt_irrefl 0 (bltN.mp (show Nat.blt 0 ([] : List Nat).length = true from e ▸ h5))⟩, fun p hp => and_e (List.all_eq_true.mp h6 p hp) fun a b => ⟨itB_is _ a, bltN.mp b⟩, bltN.mp h7⟩
noncomputable def enB (e : EntD) : Bool := Nat.blt e.f.length 3000 && (Nat.blt e.n.length 3000 && Nat.blt (shownL e).length 3000)
theorem f_en : allN (fun y => enB (entL y)) 48 = true := by kernel_rfl
theorem entL_mod (y : Nat) : entL y = entL (y % 48) := by
  have h1 : y % 48 % 4 = y % 4 := Nat.mod_mod_of_dvd y (by decide)
  have h2 : y % 48 / 4 % 2 = y / 4 % 2 := (congrArg (· % 2) (Nat.mod_mul_right_div_self y 4 12)).trans (Nat.mod_mod_of_dvd _ (by decide))
  have h3 : y % 48 / 8 % 6 = y / 8 % 6 := (congrArg (· % 6) (Nat.mod_mul_right_div_self y 8 6)).trans (Nat.mod_mod _ _)
  unfold entL
  rw [h1, h2, h3]
noncomputable def fitB (x : Nat) : Bool := allN (fun y => fitsL (shownL (entL y)) (runsL (ruleL x)) == meansL shownL (ruleL x) (entL y)) 48
theorem f_fits : allN fitB 96 = true := by kernel_rfl
theorem m48 (y : Nat) : y % 48 < 48 := Nat.mod_lt _ (by decide)
theorem facts : Facts where
  rule x h k := tab_is f_rule x h k
  entry x h k := tab_is f_entry x h k
  shown n x _ k := entL_mod x ▸ tab_is (f_shown n) (x % 48) (m48 x) k
  func n x _ k := entL_mod x ▸ tab_is (f_func n) (x % 48) (m48 x) k
  row x h := ⟨patL (ruleL x), partsL x, textL x, and_e (allN_is 96 f_pa x h) fun g h4 => and_e g fun g h3 => and_e g fun h1 h2 =>
    ⟨⟨tab_is f_pat x h, tab_4 f_tr0 f_tr1 f_tr2 f_tr3 x h, h1, bltN.mp h2, tab_4 f_te0 f_te1 f_te2 f_te3 x h, tab_4 f_ru0 f_ru1 f_ru2 f_ru3 x h⟩, Nat.eq_of_beq_eq_true h3, Nat.eq_of_beq_eq_true h4⟩⟩
  fits x y hx _ := entL_mod y ▸ eq_of_beq (allN_is 48 (allN_is 96 f_fits x hx) (y % 48) (m48 y))
  ok x h := ok_of (allN_is 96 f_ok x h)
  ent y _ := entL_mod y ▸ and_e (allN_is 48 f_en (y % 48) (m48 y)) fun h1 h => and_e h fun h2 h3 => ⟨bltN.mp h1, bltN.mp h2, bltN.mp h3⟩
theorem law_is (xs : List Int) (hx : xs.length < 3000) : Ans 8 (N "law") [.lst (intsV xs)] (.bool true) := law_true facts xs hx
end Mine
end
section
open PySem PySem.W PySem.Calls PyProof.Rows
set_option maxRecDepth 1000000
set_option maxHeartbeats 4000000
set_option genInjectivity false
set_option genSizeOf false
set_option backward.match.sparseCases false
namespace Mine
section
variable {w : World} {K : Frag} {mg mb : Str → Option Value} {s₁ : Shared}
noncomputable def startW (w : World) (mg mb : Str → Option Value) (h : Heap) : Wd := ⟨fun a => ((joinG w mg mb h).hB.get? a).map Role.fz, fun _ => none⟩
noncomputable def startX (w : World) (mg mb : Str → Option Value) (s₁ : Shared) : Cx := ⟨joinG w mg mb s₁.heap, callerA, s₁.os, 0, fun _ => none, fun _ => true⟩
theorem codes_e {P : Addr × Addr → Prop} (h1 : P (61, 57)) (h2 : P (117, 113)) (q : Addr × Addr) (m : q ∈ codesOf) : P q :=
  (List.mem_cons.mp m).elim (fun e => e ▸ h1) fun m => List.mem_singleton.mp m ▸ h2
theorem start_j (B : Base K mg mb s₁.heap) (hg : s₁.gens = #[]) : J (startX w mg mb s₁) (startW w mg mb s₁.heap) s₁ where
  rl := fun a r e => by
    obtain ⟨o, h1, h2⟩ := Option.map_eq_some_iff.mp e
    exact h2 ▸ of_hideAll _ h1
  base := fun a o e => congrArg (Option.map Role.fz) e
  tk := fun _ _ h => none_i h
  inj := fun _ _ _ h => none_i h
  lv := ⟨fun _ _ => rfl, fun _ => rfl⟩
  tab := codes_e ⟨congrArg (Option.map Role.fz) (hideAll_none [57, 113] (.head _)), #[], B.t1.2, trivial⟩ ⟨congrArg (Option.map Role.fz) (hideAll_none [57, 113] (.tail _ (.head _))), #[], B.t2.2, trivial⟩
  sys := by
    obtain ⟨o, es, ep, ho, _⟩ := B.g
    exact ⟨_, o, hB_get ho (by decide), by decide⟩
  os := rfl
  gens := .of_eq hg
  t0 := fun _ _ => rfl
theorem ints_r {G : GI} {W : Wd} {vs : List Value} {xs : List Int} (h : IntsAre vs xs) : Rels G W (intsV xs) vs := by
  induction h with
  | nil => exact rfl
  | cons n t _ ih => exact ⟨_, _, rfl, rInt n t, ih⟩
theorem law_runs {l : Addr} {vs : List Value} {xs : List Int} {Q : Value → Shared → Prop} {E : Value → Shared → Prop} (B : Base K mg mb s₁.heap) (hg : s₁.gens = #[]) (hL : s₁.heap.PlainList l vs.toArray) (hls : l ≠ sysModules) (hI : IntsAre vs xs) (hx : xs.length < 3000)
    (hQ : ∀ s', OldK s₁.heap s'.heap → s'.os = s₁.os → AllBare s'.gens → Q (.bool true) s') : wpAny (model PySem.Challenge.rw_in0232_01.row.prog w) callerA (call (.ref 221) [.ref l]) Q E s₁ := by
  have I := start_j (w := w) (mb := mb) B hg
  obtain ⟨n, hl⟩ := hL
  have hb : l ∉ [57, 113] := fun m => by
    rcases List.mem_cons.mp m with rfl | m
    · rw [B.t1.2] at hl; cases hl
    · rw [List.mem_singleton.mp m, B.t2.2] at hl; cases hl
  have hu : Rels (startX w mg mb s₁).G (startW w mg mb s₁.heap) [.lst (intsV xs)] [.ref l] := .one (relLst (n := n) ⟨congrArg (Option.map Role.fz) (hB_get hl hb), hls⟩ (ints_r hI))
  have C := calls_sound (cd_ok B) (g_ok B) (b_ok B) (fn_ok B) (fun X e hh hd => mk_at (mk_frag B) (g_ok B) X e hh hd) 8 (startX w mg mb s₁) rfl rfl (show callerA.units + 80 + 3 * 8 < cLine by decide) (show callerA.depth + 8 + 1 < recursionLimit by decide)
  refine wpAny_mono (C.fn (k := fun v => v = .bool true) (Q := Q) I (brW_i rfl (law_is xs hx _ rfl)) (fn_law B) hu fun v hv u W' s' E I' R => ?_) (fun _ _ h => h) fun _ _ h => h.elim
  have hr : u = .bool true := (hv ▸ R).un
  subst hr
  have ok : ∀ b o, b ∉ [57, 113] → s₁.heap.get? b = some o → s'.heap.get? b = some o := fun b o hb e => I'.rl b (.fz o) (E.rl _ _ (congrArg (Option.map Role.fz) (hB_get e hb)))
  have tb : ∀ q ∈ codesOf, CodeHd s₁.heap q.1 q.2 ∧ s₁.heap.get? q.2 = some (tabObj #[]) ∧ ∃ ps, s'.heap.get? q.2 = some (tabObj ps) := codes_e ⟨B.t1.1, B.t1.2, (I'.tab _ (.head _)).2.imp fun _ h => h.1⟩ ⟨B.t2.1, B.t2.2, (I'.tab _ (.tail _ (.head _))).2.imp fun _ h => h.1⟩
  have mem : ∀ b ∈ [57, 113], ∃ q ∈ codesOf, q.2 = b := fun b m => (List.mem_cons.mp m).elim (fun e => ⟨(61, 57), .head _, e.symm⟩) fun m => ⟨(117, 113), .tail _ (.head _), (List.mem_singleton.mp m).symm⟩
  refine hQ s' ⟨fun b o e => ?_, fun b o e => ?_⟩ I'.os I'.gens
  · by_cases hb : b ∈ [57, 113]
    · obtain ⟨q, m, rfl⟩ := mem b hb
      obtain ⟨h1, h2, ps, hp⟩ := tb q m
      rw [h2] at e; cases e
      exact .inr (.inl ⟨(h1.tab h2).isCodeTable, rfl, #[], ps, rfl, by rw [Array.empty_append]; exact hp⟩)
    · exact .inl (ok b o hb e)
  · by_cases hb : b ∈ [57, 113]
    · obtain ⟨q, m, rfl⟩ := mem b hb
      obtain ⟨h1, h2, ps, hp⟩ := tb q m
      exact ⟨_, hp⟩
    · exact ⟨o, ok b o hb e⟩
theorem well_list {P : Params} {h : Heap} {l : Addr} {vs : List Value} {xs : List PyData} (W : Well P h (.ref l) (ofPy (.list xs))) (hL : h.IsList l vs.toArray) : h.PlainList l vs.toArray := by
  unfold ofPy at W
  cases W with
  | list ho _ =>
    obtain ⟨o, e1, _, n, e2⟩ := hL
    rw [ho] at e1
    cases e1
    cases e2
    exact ⟨0, ho⟩
theorem reads_low {R : WRecords} {cl : Str → Option Addr} {h : Heap} {l : Addr} {xs : List PyData} {as : List Addr} (hr : ReadsAllW R cl h [.ref l] [ofPy (.list xs)] as) (hlo : ∀ a ∈ as, (a == sysModules) = false) : l ≠ sysModules := by
  cases hr with
  | cons h1 _ =>
    unfold ofPy at h1
    cases h1 with
    | list =>
      have := hlo l (by simp)
      simpa using this
theorem law_end {cl : Str → Option Addr} {mean : ExcName → Option Value} {l : Addr} {vs : List Value} {xs : List Int} {as : List Addr} {R : WRecords} (B : Base K mg mb s₁.heap) (hg : s₁.gens = #[]) (hL : s₁.heap.IsList l vs.toArray) (hI : IntsAre vs xs)
    (hw : Well w.params s₁.heap (.ref l) (ofPy (PyData.list (xs.map PyData.int)))) (hr : ReadsAllW R cl s₁.heap [.ref l] [ofPy (PyData.list (xs.map PyData.int))] as) (hlo : ∀ a ∈ as, (a == sysModules) = false) (hx : ¬ ((63 : Nat) : Int) < (xs.length : Int)) :
    wpAny (model PySem.Challenge.rw_in0232_01.row.prog w) callerA (call (.ref 221) [.ref l])
      (fun v s' => GoodWG PySem.Challenge.rw_in0232_01.row.claim cl mean [ofPy (PyData.list (xs.map PyData.int))] s₁ (Except.ok (Flow.ret v)) s')
      (fun e s' => GoodWG PySem.Challenge.rw_in0232_01.row.claim cl mean [ofPy (PyData.list (xs.map PyData.int))] s₁ (Except.error e) s') s₁ := by
  refine law_runs B hg (well_list hw hL) (reads_low hr hlo) hI (by omega) fun s' ho hos hgn => ⟨.inl ⟨.bool true, .bool true, [], rfl, fun _ => rfl, .bool true, by wrow_post, unshared_nil⟩, ho, hos, hgn⟩
end
theorem base_of {K : Frag} {p : Program} {loose : List Str} {mean : ExcName → Option Value} {mg mb : Str → Option Value} {h : Heap} (H : HeadOk K) (X : K.In h) (T : PyProof.Rows.Top p loose mean mg mb h)
    (h1 : (recsOf p).find? (fun e => e.name == Str.ofString "_translate") |>.isSome) (h2 : (recsOf p).find? (fun e => e.name == Str.ofString "add_callers") |>.isSome)
    (h3 : tabIn K (Str.ofString "_translate") = some (61, 57)) (h4 : tabIn K (Str.ofString "add_callers") = some (117, 113)) : Base K mg mb h where
  X := X
  H := H
  g := T.g
  b := T.b
  bt := T.builtins
  nl := T.nolimit
  bm := T.bmain
  t1 := (Option.isSome_iff_exists.mp h1).elim fun _ e => tab_of T X e h3
  t2 := (Option.isSome_iff_exists.mp h2).elim fun _ e => tab_of T X e h4
theorem mg_law {K : Frag} {mg mb : Str → Option Value} {h : Heap} (B : Base K mg mb h) : mg (Str.ofString "law") = some (.ref 221) :=
  mg_of B.X B.g (List.map_inj_left.mp B.H.gn ("law", .ref 221) (List.mem_of_getElem? (show gT[26]? = _ from rfl)))
end Mine
end
section
open PySem PySem.W PySem.Calls PyProof.Rows
set_option maxRecDepth 1000000
set_option maxHeartbeats 8000000
set_option genInjectivity false
set_option genSizeOf false
set_option backward.match.sparseCases false
set_option Elab.async true
namespace Mine
theorem top.tw16900427199656544559 : True := trivial
theorem top.tw18164388396756303480 : True := trivial
theorem top.tw14783522961314548601 : True := trivial
theorem top.tw1139600151236580504 : True := trivial
theorem top.tw10996937224433265937 : True := trivial
theorem top.tw18186074749648716422 : True := trivial
theorem top.tw18085771088847121727 : True := trivial
theorem top.tw705360758644809490 : True := trivial
theorem top.tw8237333600419904120 : True := trivial
theorem top.tw5405092056839124451 : True := trivial
theorem top.tw10005945817407372193 : True := trivial
theorem top.tw10915162052029792233 : True := trivial
theorem top.tw10936122117785486979 : True := trivial
theorem top.tw17810072253543177317 : True := trivial
theorem top.tw5868845118606482295 : True := trivial
theorem top.tw13177472732611162249 : True := trivial
theorem top.tw6859976401760118174 : True := trivial
theorem top.tw14402358008270493973 : True := trivial
theorem top.tw4186445540838780016 : True := trivial
theorem top.tw14371913498598963198 : True := trivial
theorem top.tw12415523145999629524 : True := trivial
theorem top.tw14823308797102314842 : True := trivial
theorem top.tw2822501910515967889 : True := trivial
theorem top.tw17355269125676882429 : True := trivial
theorem top.tw1284575025550258836 : True := trivial
theorem top.tw15569959144833144457 : True := trivial
theorem top.tw14168018189251442112 : True := trivial
theorem top.tw2745572283795976233 : True := trivial
theorem top.tw5766051744304087583 : True := trivial
theorem top.tw14372152842798730730 : True := trivial
theorem top.tw13369591340354186047 : True := trivial
theorem top.tw8892184565913893157 : True := trivial
theorem top.tw6694047246710070196 : True := trivial
theorem top.tw3254097082911018636 : True := trivial
theorem top.tw7740461459972228597 : True := trivial
theorem top.tw5118827330378232414 : True := trivial
theorem top.tw12094960947251128927 : True := trivial
theorem top.tw14263998999751124003 : True := trivial
theorem top.tw13501252493785611398 : True := trivial
theorem top.tw339143206060000330 : True := trivial
theorem top.tw5667650583090716360 : True := trivial
theorem top.tw14901070454687303710 : True := trivial
theorem top.tw4655869559712951663 : True := trivial
theorem top.tw17492772389151264855 : True := trivial
theorem top.tw2617719716777270872 : True := trivial
theorem top.tw1706793611546318481 : True := trivial
theorem top.tw13091174067606910046 : True := trivial
theorem top.tw4940147422707163885 : True := trivial
theorem top.tw16541100652227675460 : True := trivial
theorem top.tw10617020205504526918 : True := trivial
theorem top.tw3584897518013459382 : True := trivial
theorem top.tw6749217079512962374 : True := trivial
theorem top.tw5915399644114372684 : True := trivial
theorem top.tw14399976873020721970 : True := trivial
theorem top.tw16795567611416646642 : True := trivial
theorem top.tw15878805988109762761 : True := trivial
theorem top.tw708234853630380328 : True := trivial
theorem top.tw956942650209027819 : True := trivial
theorem top.tw1047907039808853306 : True := trivial
theorem top.tw5058314954733539658 : True := trivial
theorem top.tw8443935842833279946 : True := trivial
theorem top.tw6930518751129746686 : True := trivial
theorem top.tw13272337422414781067 : True := trivial
theorem top.tw8813761850579938390 : True := trivial
theorem top.tw427269002284569659 : True := trivial
theorem top.tw2249405535684624136 : True := trivial
theorem top.tw7715697345341360870 : True := trivial
theorem top.tw5635023394480961331 : True := trivial
theorem top.tw2007660962349395123 : True := trivial
theorem top.tw1907955278281987869 : True := trivial
theorem top.tw14851680436948445374 : True := trivial
theorem top.tw11133666699803404755 : True := trivial
theorem top.tw5105846836358774362 : True := trivial
theorem top.tw9465367173253082677 : True := trivial
theorem top.tw12622177474791663080 : True := trivial
theorem top.tw16878204669230926818 : True := trivial
theorem top.tw3623408313619004113 : True := trivial
theorem top.tw13420762306968818387 : True := trivial
theorem top.tw5088376156974544275 : True := trivial
theorem top.tw2514443458684651071 : True := trivial
theorem top.tw6761616313442571491 : True := trivial
theorem top.tw8679839319945467846 : True := trivial
theorem top.tw11666624071039921002 : True := trivial
theorem top.tw5568844076600610506 : True := trivial
theorem top.tw16885616592811714743 : True := trivial
theorem top.tw12425085872883035938 : True := trivial
theorem top.tw14749125000353877875 : True := trivial
theorem top.tw6885214360128481674 : True := trivial
theorem top.tw18064794426631996164 : True := trivial
theorem top.tw7557910624720293991 : True := trivial
theorem top.tw2665807947273092163 : True := trivial
theorem top.tw453181688931711583 : True := trivial
theorem top.tw2847958352784047137 : True := trivial
theorem top.tw7429413206186439793 : True := trivial
theorem top.tw6156568016551699631 : True := trivial
theorem top.tw8140125068956082859 : True := trivial
theorem top.tw7600245330811189008 : True := trivial
theorem top.tw17177869089781658578 : True := trivial
theorem top.tw1886144042066472794 : True := trivial
theorem top.tw17565814175750979855 : True := trivial
theorem top.tw14436450140739016385 : True := trivial
theorem top.tw1275901062530889299 : True := trivial
theorem top.tw2741389259953327712 : True := trivial
theorem top.tw1483126911874232274 : True := trivial
theorem top.tw5110870139050496196 : True := trivial
theorem top.tw4047667213573674445 : True := trivial
theorem top.tw8598144960395782539 : True := trivial
theorem top.tw2812155379371279736 : True := trivial
theorem top.tw8735323631387419056 : True := trivial
theorem top.tw9143552886667351555 : True := trivial
theorem top.tw2464713573024523455 : True := trivial
theorem top.tw8321918168302905379 : True := trivial
theorem top.tw8265191368974092141 : True := trivial
theorem top.tw6338568136903270862 : True := trivial
theorem top.tw11423202765487971197 : True := trivial
theorem top.tw2369445192022557226 : True := trivial
theorem top.tw1195175773429642966 : True := trivial
theorem top.tw5278709424875269971 : True := trivial
theorem top.tw12772138429114895339 : True := trivial
theorem top.tw10567129059001840431 : True := trivial
theorem top.tw14826035006057030972 : True := trivial
theorem top.tw1638113669730673903 : True := trivial
theorem top.tw5860347150701562758 : True := trivial
theorem top.tw7527032243904285869 : True := trivial
theorem top.tw9071198798189586192 : True := trivial
theorem top.tw4205137553216949640 : True := trivial
theorem top.tw12535971307161669396 : True := trivial
theorem top.tw832561496525075734 : True := trivial
theorem top.tw2213029860928159205 : True := trivial
theorem top.tw9614876229902214918 : True := trivial
theorem top.tw10540892591176069717 : True := trivial
theorem top.tw18237780215024852062 : True := trivial
theorem top.tw16782997733028217545 : True := trivial
theorem top.tw607988649233969195 : True := trivial
theorem top.tw2126296398998916975 : True := trivial
theorem top.tw12216630987165489725 : True := trivial
theorem top.tw5889316905344633881 : True := trivial
theorem top.tw17258374554226048223 : True := trivial
theorem top.tw7374682395561060027 : True := trivial
theorem top.tw15092371282622821202 : True := trivial
theorem top.tw16123964013534891561 : True := trivial
theorem top.tw11520865232209809239 : True := trivial
theorem top.tw16273406610938067001 : True := trivial
theorem top.tw15058813355848621054 : True := trivial
theorem top.tw81815255157605957 : True := trivial
theorem top.tw12385144161495827662 : True := trivial
theorem top.tw10564168853465172818 : True := trivial
theorem top.tw15299407806266782574 : True := trivial
theorem top.tw6505410396798821541 : True := trivial
theorem top.tw17315540178315561739 : True := trivial
theorem top.tw7414872774492366064 : True := trivial
theorem top.tw2555065506035805374 : True := trivial
theorem top.tw12483720753089274532 : True := trivial
theorem top.tw15392752256976776920 : True := trivial
theorem top.tw3955772918649907234 : True := trivial
theorem top.tw9108098604805947806 : True := trivial
theorem top.tw10648311167861321448 : True := trivial
theorem top.tw15646934709686841381 : True := trivial
theorem top.tw860223938195835975 : True := trivial
theorem top.tw6664487174759623829 : True := trivial
theorem top.tw11960245374511038805 : True := trivial
theorem top.tw9759319705405543751 : True := trivial
theorem top.tw6333448901615975916 : True := trivial
theorem top.tw16840627104734473223 : True := trivial
theorem top.tw11279390925490393535 : True := trivial
theorem top.tw14459580976405569124 : True := trivial
theorem top.tw11466170419677230873 : True := trivial
theorem top.tw16325430554902658873 : True := trivial
theorem top.tw1676862907878916244 : True := trivial
theorem top.tw13854487755817843489 : True := trivial
theorem top.tw76412952228603488 : True := trivial
theorem top.tw16821654228018055803 : True := trivial
theorem top.tw8645369167282567922 : True := trivial
theorem top.tw17486766287000646611 : True := trivial
theorem top.tw6520327441239513222 : True := trivial
theorem top.tw9059672392935016618 : True := trivial
theorem top.tw8729362747519067210 : True := trivial
theorem top.tw18086089286151905521 : True := trivial
theorem top.tw8538268897159353584 : True := trivial
theorem top.tw11762496359356365647 : True := trivial
theorem top.tw7008692893051332821 : True := trivial
theorem top.tw14762295962024373759 : True := trivial
theorem top.tw12787338502077490372 : True := trivial
theorem top.tw9631074621892390191 : True := trivial
theorem top.tw6211089042160764376 : True := trivial
theorem top.tw10090393231696489298 : True := trivial
theorem top.tw7847650389618582240 : True := trivial
theorem top.tw13359135706311490777 : True := trivial
theorem top.tw10327409571362585415 : True := trivial
theorem top.tw5225153198818245361 : True := trivial
theorem top.tw14349089067433371257 : True := trivial
theorem top.tw2443449257678562572 : True := trivial
theorem top.tw16759092144687519636 : True := trivial
theorem top.tw13928562000808390012 : True := trivial
theorem top.tw4321519831107876412 : True := trivial
theorem top.tw2462062305354472974 : True := trivial
theorem top.tw15985961358823992270 : True := trivial
theorem top.tw8435561252592420358 : True := trivial
theorem top.tw877433047237710547 : True := trivial
theorem top.tw14390669486469195807 : True := trivial
theorem top.tw370947364307004932 : True := trivial
theorem top.tw3776753064480771068 : True := trivial
theorem top.tw8622502720953521162 : True := trivial
theorem top.tw11459358961799972967 : True := trivial
theorem top.tw12525680586739955410 : True := trivial
theorem top.tw1040915598704419856 : True := trivial
theorem top.tw4076138812419527698 : True := trivial
theorem top.tw8345894832289464959 : True := trivial
theorem top.tw9335426496214029073 : True := trivial
theorem top.tw16155163154822807229 : True := trivial
theorem top.tw216529984938456764 : True := trivial
theorem top.tw3844969445664438809 : True := trivial
theorem top.tw2985252069258134486 : True := trivial
theorem top.tw2730760306732684819 : True := trivial
theorem top.tw16196420915677631385 : True := trivial
theorem top.tw2057334267981633021 : True := trivial
theorem top.tw12643491718579748851 : True := trivial
theorem top.tw1088946173253831356 : True := trivial
theorem top.tw15169761463676818070 : True := trivial
theorem top.tw11858546649754279707 : True := trivial
theorem top.tw4159251561096739476 : True := trivial
theorem top.tw775762912060472103 : True := trivial
theorem top.tw105208000716104510 : True := trivial
theorem top.tw2924597203103170677 : True := trivial
theorem top.tw4299629679881509495 : True := trivial
theorem top.tw3561193834555079511 : True := trivial
theorem top.tw5604026686304666287 : True := trivial
theorem top.tw11845233108574324481 : True := trivial
theorem top.tw9063741608606530840 : True := trivial
theorem top.tw4784893810139332661 : True := trivial
theorem top.tw12318557346453588183 : True := trivial
theorem top.tw15918733279669447828 : True := trivial
theorem top.tw9601329371697537090 : True := trivial
theorem top.tw8507776931139520737 : True := trivial
theorem top.tw16174758807025615021 : True := trivial
theorem top.tw4872296631132183273 : True := trivial
theorem top.tw11430207588045935325 : True := trivial
theorem top.tw2287823674025257028 : True := trivial
theorem top.tw6127594578889010139 : True := trivial
theorem top.tw1814787853859245837 : True := trivial
theorem top.tw728428047077509346 : True := trivial
theorem top.tw14282377253939248939 : True := trivial
theorem top.tw12819366960792805191 : True := trivial
theorem top.tw517144808224063464 : True := trivial
theorem top.tw12958502747184954254 : True := trivial
theorem top.tw11334350811105764591 : True := trivial
theorem top.tw2180519467939381972 : True := trivial
theorem top.tw10448899703829047738 : True := trivial
theorem top.tw14632489290957082403 : True := trivial
theorem top.tw16044733080236030384 : True := trivial
theorem top.tw5724797396398055869 : True := trivial
theorem top.tw575894324575664597 : True := trivial
theorem top.tw7786608210978119480 : True := trivial
theorem top.tw13326734554550294991 : True := trivial
theorem top.tw6431110157172167083 : True := trivial
theorem top.tw17323899518341599180 : True := trivial
theorem top.tw13090165191389475591 : True := trivial
theorem top.tw16580785732701462914 : True := trivial
theorem top.tw2145171640123136144 : True := trivial
theorem top.tw3195968871104189447 : True := trivial
theorem top.tw11203750815551599093 : True := trivial
theorem top.tw2732273902793177162 : True := trivial
theorem top.tw16204670001084760307 : True := trivial
theorem top.tw17886615442053742456 : True := trivial
theorem top.tw8363718466572441477 : True := trivial
theorem top.tw11922380849998532372 : True := trivial
theorem top.tw788273225186049534 : True := trivial
theorem top.tw9259421805112917234 : True := trivial
theorem top.tw3730354652608582461 : True := trivial
theorem top.tw10187264123177260123 : True := trivial
theorem top.tw16352630495959832749 : True := trivial
theorem top.tw14697636140705633519 : True := trivial
theorem top.tw14789260269991461300 : True := trivial
theorem top.tw10008474027749305400 : True := trivial
theorem top.tw12625161707284158652 : True := trivial
theorem top.tw2782073688633401757 : True := trivial
theorem top.tw390997316461189296 : True := trivial
theorem top.tw17428532607074087071 : True := trivial
theorem top.tw13889484949932952446 : True := trivial
theorem top.tw18371284783138465269 : True := trivial
theorem top.tw342308947776675178 : True := trivial
theorem top.tw6919701780365589675 : True := trivial
theorem top.tw7830913209206220567 : True := trivial
theorem top.tw2867133514656366558 : True := trivial
theorem top.tw6189502492464219833 : True := trivial
theorem top.tw5969682004907312646 : True := trivial
theorem top.tw6497835594395633234 : True := trivial
theorem top.tw14611434983143301774 : True := trivial
theorem top.tw9800703332001039478 : True := trivial
theorem top.tw6883741973766446791 : True := trivial
theorem top.tw3352738760509787134 : True := trivial
theorem top.tw663735360317578897 : True := trivial
theorem top.tw670521403031812673 : True := trivial
theorem top.tw15988258018655671626 : True := trivial
theorem top.tw6438537300738474071 : True := trivial
theorem top.tw4765999897956167003 : True := trivial
theorem top.tw10006222313960134694 : True := trivial
theorem top.tw16405686840318294130 : True := trivial
theorem top.tw1245559373397905713 : True := trivial
theorem top.tw16058212318047004132 : True := trivial
theorem top.tw18008055252877512497 : True := trivial
theorem top.tw4713442408853163898 : True := trivial
theorem top.tw6370870915552960936 : True := trivial
theorem top.tw8143265674769528471 : True := trivial
theorem top.tw501154541418245514 : True := trivial
theorem top.tw2218668502564051296 : True := trivial
theorem top.tw4166218997396506358 : True := trivial
theorem top.tw9028721232379810249 : True := trivial
theorem top.tw863250046982348226 : True := trivial
theorem top.tw11334415319851112604 : True := trivial
theorem top.tw1400011881503588481 : True := trivial
theorem top.tw17555251805378815213 : True := trivial
theorem top : PySem.Challenge.rw_in0232_01.Holds := by
  w_on
  o_law
  k_head
  case hw => w_witness2
  k_fill
  intro w s₀ s₁ mg mb G Y fa o pm cd doc dV kV ho hd hcd hD hmg hg args vals as hpre hlay hrd hwl hlo
  have KX := km_in_of Y
  have hrd' := hrd
  have hlo' := hlo
  have hmg' := hmg
  refine Ground.open G ?_
  intro T B D TE TW
  have BS := base_of ⟨⟨by kernel_rfl, fun v => by kernel_rfl⟩, by kernel_rfl, by kernel_rfl, by kernel_rfl, by kernel_rfl, by kernel_rfl, by kernel_rfl, by kernel_rfl, by kernel_rfl, by kernel_rfl, by kernel_rfl⟩ KX T (by kernel_rfl) (by kernel_rfl) (by kernel_rfl) (by kernel_rfl)
  have hfa : fa = 221 := by
    have e := mg_law BS
    have e2 : mg (Str.ofString "law") = some (.ref fa) := hmg'
    rw [e] at e2
    cases e2
    rfl
  subst hfa
  wrow_args hpre hlay hrd hwl hlo
  exact law_end BS hg (by assumption) (by assumption) (by assumption) hrd' hlo' (by assumption)
end Mine
theorem PySem.Challenge.cw_in0232_01_holds : PySem.Challenge.rw_in0232_01.Holds :=
  Mine.top
end
