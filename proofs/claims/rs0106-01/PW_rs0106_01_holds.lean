import PyProof.Rows.All
import Wide.All
import OpenK.AllK
import Wide.FinOn
import PySem.Challenge.RW_rs0106_01
set_option Elab.async false
set_option autoImplicit false
set_option linter.all false
set_option maxRecDepth 100000
section
namespace Mine
open PySem
inductive AV where
  | none
  | bool (b : Bool)
  | int (i : Int)
  | str (s : List Nat)
  | tup (xs : List AV)
  | lst (xs : List AV)
  | ref (t : Nat)
  | inst (t : Nat)
  | stm (t : Nat)
  | cst (v : Value)
  deriving Inhabited
inductive AO where
  | list (xs : List AV)
  | dict (fs : List AV)
  | citer (t : Nat) (done : Bool)
  deriving Inhabited
set_option genInjectivity false
set_option genSizeOf false
set_option genSizeOfSpec false
inductive MN where
  | append | pop | extend | count | join | split | find | strip | get | sub | read
  | user (f : Value)
inductive ME where
  | none
  | bool (b : Bool)
  | int (i : Int)
  | str (s : List Nat)
  | var (i : Nat)
  | glob (v : Value)
  | bin (op : Operator) (a b : ME)
  | cmp (op : CmpOp) (a b : ME)
  | and (a b : ME)
  | or (a b : ME)
  | ite (c a b : ME)
  | idx (a i : ME)
  | slice (a : ME) (lo hi : Option ME)
  | tuple (es : List ME)
  | frz (l : ME)
  | mut (l : ME)
  | len (e : ME)
  | sum (e : ME)
  | maxi (a b : ME)
  | mini (a b : ME)
  | call (f : Value) (es : List ME)
  | meth (m : MN) (o : ME) (es : List ME)
  | attr (o : ME) (f : Nat)
  | citer (o : ME)
  -- list makers (under frz, mut)
  | lDisp (es : List ME)
  | lComp (elt : ME) (cond : Option ME) (unp : Option Nat) (src : ME) (caps : List Nat)
  | lAdd (a b : ME)
  | lMul (a b : ME)
  | lList (src : ME)
  | lCompV (elt : ME) (cond : Option ME) (src : ME) (caps : List Nat)
  | lCompZ (elt : ME) (a b : ME)
  | lSorted (e : ME)
  | ttake (a : ME) (k : Nat)
  -- sources
  | sRange (lo hi : ME)
  | sZip (es : List ME)
  | sVal (e : ME)
inductive MS where
  | expr (e : ME)
  | assign (i : Nat) (e : ME)
  | unpack (is : List Nat) (e : ME)
  | setAttr (o : ME) (f : Nat) (e : ME)
  | setSub (o i e : ME)
  | augVar (i : Nat) (op : Operator) (e : ME)
  | augAttr (o : ME) (f : Nat) (op : Operator) (e : ME)
  | augSub (o i : ME) (op : Operator) (e : ME)
  | ite (c : ME) (t e : List MS)
  | while (c : ME) (b : List MS)
  | for (unp : Option (List Nat)) (x : Nat) (src : ME) (b : List MS)
  | forC (x i : Nat) (b : List MS)
  | ret (e : ME)
  | cont
inductive Fl where
  | next | cont
  | ret (v : AV)
noncomputable abbrev Env' := List (Option AV)
noncomputable abbrev Hp := List AO
structure Gl where
  dict : Value
  tab : List (List Nat × Int)
  re : Value → List Nat → List Nat → Option (List Nat)
  read : Value
  rc : Value
  call : Value → List AV → Hp → Option (AV × Hp)
  N : Nat
noncomputable def szMax : Nat := 16777216
noncomputable def chkS (s : List Nat) : Option AV := if s.length ≤ szMax then some (.str s) else none
noncomputable def chkL (xs : List AV) : Option (List AV) := if xs.length ≤ szMax then some xs else none
noncomputable def rep {α : Type} (n : Nat) (xs : List α) : List α := (List.replicate n xs).flatten
noncomputable def onInt {τ : Type} (a : AV) (f : Int → Option τ) : Option τ := match a with
  | .int i => f i
  | _ => none
noncomputable def onStr {τ : Type} (a : AV) (f : List Nat → Option τ) : Option τ := match a with
  | .str x => f x
  | _ => none
noncomputable def onTup {τ : Type} (a : AV) (f : List AV → Option τ) : Option τ := match a with
  | .tup x => f x
  | _ => none
noncomputable def onTag {τ : Type} (a : AV) (f : Nat → Option τ) : Option τ := match a with
  | .ref t => f t
  | _ => none
theorem onInt_inv {τ : Type} {a : AV} {f : Int → Option τ} {r : τ} (h : onInt a f = some r) : ∃ i, a = .int i ∧ f i = some r := by
  cases a with
  | int i => exact ⟨i, rfl, h⟩
  | _ => cases h
theorem onStr_inv {τ : Type} {a : AV} {f : List Nat → Option τ} {r : τ} (h : onStr a f = some r) : ∃ i, a = .str i ∧ f i = some r := by
  cases a with
  | str i => exact ⟨i, rfl, h⟩
  | _ => cases h
theorem onTup_inv {τ : Type} {a : AV} {f : List AV → Option τ} {r : τ} (h : onTup a f = some r) : ∃ i, a = .tup i ∧ f i = some r := by
  cases a with
  | tup i => exact ⟨i, rfl, h⟩
  | _ => cases h
theorem onTag_inv {τ : Type} {a : AV} {f : Nat → Option τ} {r : τ} (h : onTag a f = some r) : ∃ i, a = .ref i ∧ f i = some r := by
  cases a with
  | ref i => exact ⟨i, rfl, h⟩
  | _ => cases h
theorem ite_inv {τ : Type} {c : Prop} [Decidable c] {a : τ} {r : τ} (h : (if c then some a else none) = some r) : c ∧ a = r := by
  by_cases q : c
  · rw [if_pos q] at h; exact ⟨q, Option.some.inj h⟩
  · rw [if_neg q] at h; cases h
inductive Bnd {α β γ : Type} (o : Option (α × β)) (k : α → β → Option γ) (r : γ) : Prop
  | mk (x : α) (y : β) : o = some (x, y) → k x y = some r → Bnd o k r
noncomputable def bnd {α β γ : Type} (o : Option (α × β)) (k : α → β → Option γ) : Option γ := match o with
  | some (x, y) => k x y
  | none => none
theorem bnd_some {α β γ : Type} {k : α → β → Option γ} {x : α} {y : β} : bnd (some (x, y)) k = k x y := rfl
theorem bnd_inv {α β γ : Type} {o : Option (α × β)} {k : α → β → Option γ} {r : γ} (h : bnd o k = some r) : Bnd o k r := by
  match o, h with
  | some (x, y), h => exact ⟨x, y, rfl, h⟩
theorem bind_inv {α γ : Type} {o : Option α} {k : α → Option γ} {r : γ} (h : o.bind k = some r) : ∃ x, o = some x ∧ k x = some r := by
  cases o with
  | none => cases h
  | some x => exact ⟨x, rfl, h⟩
theorem mapp_inv {α γ : Type} {o : Option α} {k : α → γ} {r : γ} (h : o.map k = some r) : ∃ x, o = some x ∧ k x = r := by
  cases o with
  | none => cases h
  | some x => exact ⟨x, rfl, Option.some.inj h⟩
theorem some_inv {α : Type} {a b : α} (h : some a = some b) : a = b := Option.some.inj h
theorem pair_inv {α β : Type} {a c : α} {b d : β} (h : some (a, b) = some (c, d)) : a = c ∧ b = d := by cases h; exact ⟨rfl, rfl⟩
theorem tri_inv {α β γ : Type} {a a' : α} {b b' : β} {c c' : γ} (h : some (a, b, c) = some (a', b', c')) : a = a' ∧ b = b' ∧ c = c' := by cases h; exact ⟨rfl, rfl, rfl⟩
theorem if_t {τ : Type} {c : Prop} [Decidable c] {a b r : τ} (hc : c) (h : (if c then a else b) = r) : a = r := (if_pos hc).symm.trans h
theorem if_f {τ : Type} {c : Prop} [Decidable c] {a b r : τ} (hc : ¬c) (h : (if c then a else b) = r) : b = r := (if_neg hc).symm.trans h
theorem if_inv {γ : Type} {c : Prop} [Decidable c] {o : Option γ} {r : γ} (h : (if c then o else none) = some r) : c ∧ o = some r := by
  by_cases q : c
  · rw [if_pos q] at h; exact ⟨q, h⟩
  · rw [if_neg q] at h; cases h
noncomputable def onVar {τ : Type} (o : Option (Option AV)) (f : AV → Option τ) : Option τ := match o with
  | some (some v) => f v
  | _ => none
theorem onVar_inv {τ : Type} {o : Option (Option AV)} {f : AV → Option τ} {r : τ} (h : onVar o f = some r) : ∃ v, o = some (some v) ∧ f v = some r := by
  match o, h with
  | some (some v), h => exact ⟨v, rfl, h⟩
noncomputable def onInst {τ : Type} (a : AV) (f : Nat → Option τ) : Option τ := match a with
  | .inst t => f t
  | _ => none
theorem onInst_inv {τ : Type} {a : AV} {f : Nat → Option τ} {r : τ} (h : onInst a f = some r) : ∃ i, a = .inst i ∧ f i = some r := by
  cases a with
  | inst i => exact ⟨i, rfl, h⟩
  | _ => cases h
noncomputable def onLst {τ : Type} (a : AV) (f : List AV → Option τ) : Option τ := match a with
  | .lst x => f x
  | _ => none
theorem onLst_inv {τ : Type} {a : AV} {f : List AV → Option τ} {r : τ} (h : onLst a f = some r) : ∃ i, a = .lst i ∧ f i = some r := by
  cases a with
  | lst i => exact ⟨i, rfl, h⟩
  | _ => cases h
noncomputable def onStm {τ : Type} (a : AV) (f : Nat → Option τ) : Option τ := match a with
  | .stm x => f x
  | _ => none
theorem onStm_inv {τ : Type} {a : AV} {f : Nat → Option τ} {r : τ} (h : onStm a f = some r) : ∃ i, a = .stm i ∧ f i = some r := by
  cases a with
  | stm i => exact ⟨i, rfl, h⟩
  | _ => cases h
noncomputable def onCst {τ : Type} (a : AV) (f : Value → Option τ) : Option τ := match a with
  | .cst x => f x
  | _ => none
theorem onCst_inv {τ : Type} {a : AV} {f : Value → Option τ} {r : τ} (h : onCst a f = some r) : ∃ i, a = .cst i ∧ f i = some r := by
  cases a with
  | cst i => exact ⟨i, rfl, h⟩
  | _ => cases h
noncomputable def onList {τ : Type} (o : Option AO) (f : List AV → Option τ) : Option τ := match o with
  | some (.list xs) => f xs
  | _ => none
theorem onList_inv {τ : Type} {o : Option AO} {f : List AV → Option τ} {r : τ} (h : onList o f = some r) : ∃ xs, o = some (.list xs) ∧ f xs = some r := by
  match o, h with
  | some (.list xs), h => exact ⟨xs, rfl, h⟩
noncomputable def onDict {τ : Type} (o : Option AO) (f : List AV → Option τ) : Option τ := match o with
  | some (.dict xs) => f xs
  | _ => none
theorem onDict_inv {τ : Type} {o : Option AO} {f : List AV → Option τ} {r : τ} (h : onDict o f = some r) : ∃ xs, o = some (.dict xs) ∧ f xs = some r := by
  match o, h with
  | some (.dict xs), h => exact ⟨xs, rfl, h⟩
noncomputable def items (hp : Hp) : AV → Option (List AV)
  | .lst xs => some xs
  | .ref t => onList hp[t]? some
  | _ => none
noncomputable def addA (a b : AV) : Option AV := match a with
  | .int i => onInt b fun j => some (.int (i + j))
  | .str x => onStr b fun y => chkS (x ++ y)
  | .tup x => onTup b fun y => if x.length + y.length ≤ szMax ∧ !x.isEmpty ∧ !y.isEmpty then some (.tup (x ++ y)) else none
  | _ => none
noncomputable def mulA (a b : AV) : Option AV := match a with
  | .int i => (match b with
    | .int j => if i.natAbs < 2 ^ 20 ∧ j.natAbs < 2 ^ 20 then some (.int (i * j)) else none
    | .str x => if x.length ≤ 1000 ∧ -1000 < i ∧ i < 1000 then some (.str (rep i.toNat x)) else none
    | _ => none)
  | .str x => onInt b fun j => if x.length ≤ 1000 ∧ -1000 < j ∧ j < 1000 then some (.str (rep j.toNat x)) else none
  | _ => none
noncomputable def binA (op : Operator) (a b : AV) : Option AV :=
  match op with
  | .Add => addA a b
  | .Sub => onInt a fun i => onInt b fun j => some (.int (i - j))
  | .Mult => mulA a b
  | .FloorDiv => onInt a fun i => onInt b fun j => if 0 < j ∧ j < 2 ^ 20 then some (.int (i.fdiv j)) else none
  | .Mod => onInt a fun i => onInt b fun j => if j = 0 then none else some (.int (i.fmod j))
  | .Pow => onInt a fun i => onInt b fun j => if i = 10 ∧ j = 6 then some (.int 1000000) else none
  | _ => none
noncomputable def augA (op : Operator) (a b : AV) : Option AV :=
  match op with
  | .Add => (match a with
    | .int i => onInt b fun j => some (.int (i + j))
    | .str x => onStr b fun y => chkS (x ++ y)
    | _ => none)
  | .Sub => onInt a fun i => onInt b fun j => some (.int (i - j))
  | _ => none
noncomputable def toPys (f : AV → Option PyData) : List AV → Option (List PyData)
  | [] => some []
  | x :: xs => (f x).bind fun d => (toPys f xs).map fun ds => d :: ds
noncomputable def toPy (hp : Hp) : Nat → AV → Option PyData
  | _, .none => some .none
  | _, .bool b => some (.bool b)
  | _, .int i => some (.int i)
  | _, .str s => if s.all (· < 1114112) then some (.str ⟨s.toArray⟩) else none
  | n + 1, .tup xs => (toPys (toPy hp n) xs).map .tuple
  | n + 1, .lst xs => (toPys (toPy hp n) xs).map .list
  | n + 1, .ref t => onList hp[t]? fun xs => (toPys (toPy hp n) xs).map .list
  | 0, .tup _ => none
  | 0, .lst _ => none
  | 0, .ref _ => none
  | _, .inst _ => none
  | _, .stm _ => none
  | _, .cst _ => none
noncomputable def tabGet (tab : List (List Nat × Int)) (k : List Nat) : Option Int := (tab.find? fun p => p.1 == k).map (·.2)
noncomputable def eqvA (hp : Hp) (a b : AV) : Option Bool := (toPy hp 8 a).bind fun x => (toPy hp 8 b).map fun y => PyData.eqv x y
noncomputable def eqA (hp : Hp) (a b : AV) : Option Bool := match a with
  | .int i => (match b with
    | .int j => some (decide (i = j))
    | b => eqvA hp (.int i) b)
  | .str x => (match b with
    | .str y => some (decide (x = y))
    | b => eqvA hp (.str x) b)
  | a => eqvA hp a b
noncomputable def isA (a b : AV) : Option Bool := match a with
  | .bool x => (match b with
    | .bool true => some x
    | _ => none)
  | _ => none
noncomputable def inA (a b : AV) : Option Bool := onStr a fun x => onStr b fun y => some (Txt.contains ⟨y.toArray⟩ ⟨x.toArray⟩)
noncomputable def notInA (G : Gl) (a b : AV) : Option Bool := onStr a fun x => match b with
  | .cst d => if d = G.dict then some (tabGet G.tab x).isNone else none
  | _ => none
noncomputable def cmpA (G : Gl) (hp : Hp) (op : CmpOp) (a b : AV) : Option Bool :=
  match op with
  | .Lt => onInt a fun i => onInt b fun j => some (decide (i < j))
  | .LtE => onInt a fun i => onInt b fun j => some (decide (i ≤ j))
  | .Gt => onInt a fun i => onInt b fun j => some (decide (i > j))
  | .GtE => onInt a fun i => onInt b fun j => some (decide (i ≥ j))
  | .Eq => eqA hp a b
  | .NotEq => (eqA hp a b).map not
  | .In => inA a b
  | .NotIn => notInA G a b
  | .Is => isA a b
  | .IsNot => (isA a b).map not
noncomputable def truth (hp : Hp) : AV → Option Bool
  | .bool b => some b
  | .ref t => onList hp[t]? fun xs => if xs.length ≤ szMax then some (!xs.isEmpty) else none
  | _ => none
noncomputable def atIdx {α : Type} (xs : List α) (i : Int) : Option α :=
  if i.natAbs < 2 ^ 30 then if 0 ≤ i then xs[i.toNat]? else if 0 ≤ i + xs.length then xs[(i + xs.length).toNat]? else none else none
noncomputable def idxV (hp : Hp) (a : AV) (i : Int) : Option AV := match a with
  | .str s => (atIdx s i).map fun c => .str [c]
  | .tup xs => atIdx xs i
  | a => (items hp a).bind fun xs => atIdx xs i
noncomputable def idxA (hp : Hp) (a i : AV) : Option AV := onInt i fun i => idxV hp a i
noncomputable def bound (n : Nat) (d : Nat) : Option AV → Option Nat
  | none => some d
  | some v => onInt v fun i => some (clipAt n i)
noncomputable def cut {α : Type} (xs : List α) (lo hi : Nat) : List α := (xs.drop lo).take (hi - lo)
noncomputable def cutA {α : Type} (s : List α) (lo hi : Option AV) (f : List α → AV) : Option AV :=
  (bound s.length 0 lo).bind fun l => (bound s.length s.length hi).bind fun h => if s.length ≤ szMax then some (f (cut s l h)) else none
noncomputable def sliceA (hp : Hp) (a : AV) (lo hi : Option AV) : Option AV :=
  match a with
  | .str s => cutA s lo hi .str
  | a => (items hp a).bind fun s => cutA s lo hi .lst
noncomputable def intsA : List AV → Option (List Int)
  | [] => some []
  | v :: xs => onInt v fun i => (intsA xs).map (i :: ·)
noncomputable def strsA : List AV → Option (List (List Nat))
  | [] => some []
  | v :: xs => onStr v fun s => (strsA xs).map (s :: ·)
noncomputable def join (sep : List Nat) : List (List Nat) → List Nat
  | [] => []
  | [x] => x
  | x :: y :: r => x ++ sep ++ join sep (y :: r)
noncomputable def lenA (hp : Hp) : AV → Option Nat
  | .str s => some s.length
  | a => (items hp a).map List.length
noncomputable def S (l : List Nat) : Str := ⟨l.toArray⟩
noncomputable def appendA (hp : Hp) (o v : AV) : Option (AV × Hp) := onTag o fun t => onList hp[t]? fun xs => if xs.length < szMax then some (.none, hp.set t (.list (xs ++ [v]))) else none
noncomputable def popA (hp : Hp) (o v : AV) : Option (AV × Hp) := onTag o fun t => onInt v fun i => onList hp[t]? fun xs =>
  if 0 ≤ i ∧ xs.length ≤ szMax then (xs[i.toNat]?).map fun v => (v, hp.set t (.list (xs.eraseIdx i.toNat))) else none
noncomputable def extendA (hp : Hp) (o v : AV) : Option (AV × Hp) := onTag o fun t => onList hp[t]? fun xs => (items hp v).bind fun ys =>
  if xs.length + ys.length ≤ 1000000 then some (.none, hp.set t (.list (xs ++ ys))) else none
noncomputable def countA (hp : Hp) (o v : AV) : Option AV := match o with
  | .str x => onStr v fun y => some (.int (Txt.count (S x) (S y)))
  | a => onInt v fun i => ((items hp a).bind intsA).map fun l => .int (l.count i)
noncomputable def joinA (hp : Hp) (o v : AV) : Option AV := onStr o fun x => ((items hp v).bind strsA).bind fun l =>
  if l.length ≤ 1000 ∧ x.length ≤ 1000 ∧ l.all (fun y => y.length ≤ 10000) then some (.str (join x l)) else none
noncomputable def splitA (o v : AV) : Option AV := onStr o fun x => onStr v fun y => if y.length ≠ 0 ∧ x.length ≤ 1000 ∧ (Builtin.Str.partsBetween (S x) (Builtin.Str.occurrences (S x) (S y) 0 (S x).length ((S x).length + 1)) (S y).length).length ≤ szMax then some (.lst ((Txt.split (S x) (S y)).map fun z => .str z.cps.toList)) else none
noncomputable def findA (o v : AV) : Option AV := onStr o fun x => onStr v fun y => some (.int (Txt.find (S x) (S y)))
noncomputable def stripA (o v : AV) : Option AV := onStr o fun x => onStr v fun y => if x.length ≤ szMax then some (.str (Txt.stripChars (S x) (S y)).cps.toList) else none
noncomputable def getA (G : Gl) (o v w : AV) : Option AV := onCst o fun d => onStr v fun x => onInt w fun i => if d = G.dict then some (.int ((tabGet G.tab x).getD i)) else none
noncomputable def subA (G : Gl) (o v w : AV) : Option AV := onCst o fun p => onStr v fun r => onStr w fun x => (G.re p r x).bind chkS
noncomputable def readT (hp : Hp) (t : Nat) : List AV → Option (AV × Hp)
  | [] => some (.str [], hp)
  | x :: r => if r.length < szMax then some (x, hp.set t (.list r)) else none
noncomputable def readA (hp : Hp) (o v : AV) : Option (AV × Hp) := onStm o fun t => onInt v fun i => if i = 1 then onList hp[t]? fun xs => (toPy hp 8 (.ref t)).bind fun _ => readT hp t xs else none
noncomputable def one {τ : Type} (args : List AV) (f : AV → Option τ) : Option τ := match args with
  | [v] => f v
  | _ => none
noncomputable def two {τ : Type} (args : List AV) (f : AV → AV → Option τ) : Option τ := match args with
  | [v, w] => f v w
  | _ => none
noncomputable def methA (G : Gl) (hp : Hp) (m : MN) (o : AV) (args : List AV) : Option (AV × Hp) :=
  match m with
  | .append => one args fun v => appendA hp o v
  | .pop => one args fun v => popA hp o v
  | .extend => one args fun v => extendA hp o v
  | .count => one args fun v => (countA hp o v).map fun r => (r, hp)
  | .join => one args fun v => (joinA hp o v).map fun r => (r, hp)
  | .split => one args fun v => (splitA o v).map fun r => (r, hp)
  | .find => one args fun v => (findA o v).map fun r => (r, hp)
  | .strip => one args fun v => (stripA o v).map fun r => (r, hp)
  | .get => two args fun v w => (getA G o v w).map fun r => (r, hp)
  | .sub => two args fun v w => (subA G o v w).map fun r => (r, hp)
  | .read => one args fun v => readA hp o v
  | .user f => onInst o fun t => G.call f (.inst t :: args) hp
noncomputable def isListAt (hp : Hp) (o : AV) : Bool := match o with
  | .ref t => (onList hp[t]? fun _ => some ()).isSome
  | _ => false
noncomputable def isStrA : AV → Bool
  | .str _ => true
  | _ => false
noncomputable def isCstA : AV → Bool
  | .cst _ => true
  | _ => false
noncomputable def isStmA : AV → Bool
  | .stm _ => true
  | _ => false
noncomputable def isInstA (hp : Hp) : AV → Bool
  | .inst t => (onDict hp[t]? fun _ => some ()).isSome
  | _ => false
noncomputable def recvOk (hp : Hp) (m : MN) (o : AV) : Bool :=
  match m with
  | .append | .pop | .extend => isListAt hp o
  | .count => isStrA o || (items hp o).isSome
  | .join | .split | .find | .strip => isStrA o
  | .get | .sub => isCstA o
  | .read => isStmA o
  | .user _ => isInstA hp o
noncomputable def noCst : AV → Option AV
  | .cst _ => none
  | v => some v
noncomputable def getField (hp : Hp) (o : AV) (f : Nat) : Option AV := onInst o fun t => onDict hp[t]? fun fs => (fs[f]?).bind noCst
noncomputable def putField (hp : Hp) (o : AV) (f : Nat) (v : AV) : Option Hp := onInst o fun t => onDict hp[t]? fun fs => if f < fs.length then some (hp.set t (.dict (fs.set f v))) else none
noncomputable def putItem (hp : Hp) (o i v : AV) : Option Hp := onTag o fun t => onInt i fun i => onList hp[t]? fun xs => if 0 ≤ i ∧ i.toNat < xs.length ∧ xs.length ≤ szMax then some (hp.set t (.list (xs.set i.toNat v))) else none
noncomputable def range (lo hi : Int) : List AV := (List.range (hi - lo).toNat).map fun (i : Nat) => AV.int (lo + i)
noncomputable def zip3L (a b c : List AV) : List AV := List.zipWith (fun x (q : AV × AV) => AV.tup [x, q.1, q.2]) a (List.zip b c)
noncomputable def bindC (unp : Option Nat) (v : AV) (caps : Env') : Option Env' :=
  match unp with
  | none => some (some v :: caps)
  | some k => onTup v fun xs => if xs.length = k then some (xs.map some ++ caps) else none
noncomputable def compLoop (c : Env' → Hp → Option (Bool × Hp)) (f : Env' → Hp → Option (AV × Hp)) (unp : Option Nat) (caps : Env') : List AV → Hp → Option (List AV × Hp)
  | [], hp => some ([], hp)
  | v :: vs, hp => (bindC unp v caps).bind fun ρ => bnd (c ρ hp) fun t hp => cond t (bnd (f ρ hp) fun x hp => bnd (compLoop c f unp caps vs hp) fun xs hp => some (x :: xs, hp)) (compLoop c f unp caps vs hp)
inductive Sr where
  | fix (vs : List AV)
  | live (t : Nat)
  | zip (ls : List AV)
theorem Sr.fix_inj {xs ys : List AV} (h : Sr.fix xs = Sr.fix ys) : xs = ys := by cases h; rfl
noncomputable def srcVal : AV → Option Sr
  | .str s => some (.fix (s.map fun c => .str [c]))
  | .tup xs => some (.fix xs)
  | .lst xs => some (.fix xs)
  | .ref t => some (.live t)
  | _ => none
noncomputable def onFix {τ : Type} (a : Sr) (f : List AV → Option τ) : Option τ := match a with
  | .fix x => f x
  | _ => none
theorem onFix_inv {τ : Type} {a : Sr} {f : List AV → Option τ} {r : τ} (h : onFix a f = some r) : ∃ i, a = .fix i ∧ f i = some r := by
  cases a with
  | fix i => exact ⟨i, rfl, h⟩
  | _ => cases h
noncomputable def compLive (c : Env' → Hp → Option (Bool × Hp)) (f : Env' → Hp → Option (AV × Hp)) (unp : Option Nat) (caps : Env') (t : Nat) : Nat → Nat → Hp → Option (List AV × Hp)
  | 0, _, _ => none
  | n + 1, i, hp => onList hp[t]? fun ys => match ys[i]? with
      | none => some ([], hp)
      | some v => (bindC unp v caps).bind fun ρ => bnd (c ρ hp) fun b hp => cond b (bnd (f ρ hp) fun x hp => bnd (compLive c f unp caps t n (i + 1) hp) fun xs hp => some (x :: xs, hp)) (compLive c f unp caps t n (i + 1) hp)
noncomputable def trisA : List AV → Option (List (Int × Int × Int))
  | [] => some []
  | .tup [.int a, .int b, .int c] :: xs => (trisA xs).map ((a, b, c) :: ·)
  | _ => none
noncomputable def triA (p : Int × Int × Int) : AV := .tup [.int p.1, .int p.2.1, .int p.2.2]
noncomputable def triLt (p q : Int × Int × Int) : Bool := p.1 < q.1 || (p.1 == q.1 && (p.2.1 < q.2.1 || (p.2.1 == q.2.1 && p.2.2 < q.2.2)))
noncomputable def insT (p : Int × Int × Int) : List (Int × Int × Int) → List (Int × Int × Int)
  | [] => [p]
  | q :: r => if triLt q p then q :: insT p r else p :: q :: r
noncomputable def sortT : List (Int × Int × Int) → List (Int × Int × Int)
  | [] => []
  | p :: r => insT p (sortT r)
noncomputable def zipOf (hp : Hp) : List AV → Option (List AV × Hp)
  | [x, y, z] => (items hp x).bind fun a => (items hp y).bind fun b => (items hp z).bind fun c => if b.length < a.length ∧ c.length = b.length ∧ b.length ≤ szMax ∧ 0 < b.length then some (zip3L a b c, hp) else none
  | _ => none
noncomputable def listOf (hp : Hp) : Sr → Option (List AV × Hp)
  | .fix xs => (chkL xs).map fun xs => (xs, hp)
  | .live t => onList hp[t]? fun xs => (chkL xs).map fun xs => (xs, hp)
  | .zip ls => zipOf hp ls
mutual
noncomputable def evE (G : Gl) : ME → Env' → Hp → Option (AV × Hp)
  | .none, _, hp => some (.none, hp)
  | .bool b, _, hp => some (.bool b, hp)
  | .int i, _, hp => some (.int i, hp)
  | .str s, _, hp => some (.str s, hp)
  | .var i, ρ, hp => onVar ρ[i]? fun v => some (v, hp)
  | .glob v, _, hp => some (.cst v, hp)
  | .bin op a b, ρ, hp => bnd (evE G a ρ hp) fun x hp => bnd (evE G b ρ hp) fun y hp => (binA op x y).map fun v => (v, hp)
  | .cmp op a b, ρ, hp => bnd (evE G a ρ hp) fun x hp => bnd (evE G b ρ hp) fun y hp => (cmpA G hp op x y).map fun v => (.bool v, hp)
  | .ite c a b, ρ, hp => bnd (evC G c ρ hp) fun t hp => cond t (evE G a ρ hp) (evE G b ρ hp)
  | .idx a i, ρ, hp => bnd (evE G a ρ hp) fun x hp => bnd (evE G i ρ hp) fun y hp => (idxA hp x y).map fun v => (v, hp)
  | .slice a lo hi, ρ, hp => bnd (evE G a ρ hp) fun x hp => bnd (evO G lo ρ hp) fun l hp => bnd (evO G hi ρ hp) fun h hp => (sliceA hp x l h).map fun v => (v, hp)
  | .tuple es, ρ, hp => bnd (evEs G es ρ hp) fun xs hp => if xs.length ≤ szMax then some (.tup xs, hp) else none
  | .frz l, ρ, hp => bnd (evL G l ρ hp) fun xs hp => some (.lst xs, hp)
  | .mut l, ρ, hp => bnd (evL G l ρ hp) fun xs hp => some (.ref hp.length, hp ++ [.list xs])
  | .len e, ρ, hp => bnd (evE G e ρ hp) fun x hp => (lenA hp x).bind fun n => if n ≤ szMax then some (.int n, hp) else none
  | .sum e, ρ, hp => bnd (evE G e ρ hp) fun x hp => ((items hp x).bind intsA).map fun l => (.int l.sum, hp)
  | .maxi a b, ρ, hp => bnd (evE G a ρ hp) fun x hp => onInt x fun i => bnd (evE G b ρ hp) fun y hp => onInt y fun j => some (.int (if j > i then j else i), hp)
  | .mini a b, ρ, hp => bnd (evE G a ρ hp) fun x hp => onInt x fun i => bnd (evE G b ρ hp) fun y hp => onInt y fun j => some (.int (if j < i then j else i), hp)
  | .call f es, ρ, hp => bnd (evEs G es ρ hp) fun xs hp => G.call f xs hp
  | .meth m o es, ρ, hp => bnd (evE G o ρ hp) fun x hp => if recvOk hp m x then bnd (evEs G es ρ hp) fun xs hp => methA G hp m x xs else none
  | .attr o f, ρ, hp => bnd (evE G o ρ hp) fun x hp => (getField hp x f).map fun v => (v, hp)
  | .citer o, ρ, hp => bnd (evE G o ρ hp) fun x hp => onInst x fun t => onDict hp[t]? fun _ => some (.ref hp.length, hp ++ [.citer t false])
  | .ttake a k, ρ, hp => bnd (evE G a ρ hp) fun x hp => onTup x fun xs => if 0 < k ∧ k < xs.length ∧ xs.length ≤ 1000 then some (.tup (xs.take k), hp) else none
  | .and _ _, _, _ => none
  | .or _ _, _, _ => none
  | .lDisp _, _, _ => none
  | .lComp _ _ _ _ _, _, _ => none
  | .lAdd _ _, _, _ => none
  | .lMul _ _, _, _ => none
  | .lList _, _, _ => none
  | .lCompV _ _ _ _, _, _ => none
  | .lCompZ _ _ _, _, _ => none
  | .lSorted _, _, _ => none
  | .sRange _ _, _, _ => none
  | .sZip _, _, _ => none
  | .sVal _, _, _ => none
noncomputable def evO (G : Gl) : Option ME → Env' → Hp → Option (Option AV × Hp)
  | none, _, hp => some (none, hp)
  | some e, ρ, hp => bnd (evE G e ρ hp) fun v hp => some (some v, hp)
noncomputable def evEs (G : Gl) : List ME → Env' → Hp → Option (List AV × Hp)
  | [], _, hp => some ([], hp)
  | e :: es, ρ, hp => bnd (evE G e ρ hp) fun x hp => bnd (evEs G es ρ hp) fun xs hp => some (x :: xs, hp)
noncomputable def evC (G : Gl) : ME → Env' → Hp → Option (Bool × Hp)
  | .and a b, ρ, hp => bnd (evC G a ρ hp) fun t hp => cond t (evC G b ρ hp) (some (false, hp))
  | .or a b, ρ, hp => bnd (evC G a ρ hp) fun t hp => cond t (some (true, hp)) (evC G b ρ hp)
  | .cmp op a b, ρ, hp => bnd (evE G a ρ hp) fun x hp => bnd (evE G b ρ hp) fun y hp => (cmpA G hp op x y).map fun v => (v, hp)
  | .bool b, _, hp => some (b, hp)
  | .var i, ρ, hp => onVar ρ[i]? fun v => (truth hp v).map fun b => (b, hp)
  | .attr o f, ρ, hp => bnd (evE G o ρ hp) fun x hp => ((getField hp x f).bind (truth hp)).map fun b => (b, hp)
  | .none, _, _ => none
  | .int _, _, _ => none
  | .str _, _, _ => none
  | .glob _, _, _ => none
  | .bin _ _ _, _, _ => none
  | .ite _ _ _, _, _ => none
  | .idx _ _, _, _ => none
  | .slice _ _ _, _, _ => none
  | .tuple _, _, _ => none
  | .frz _, _, _ => none
  | .mut _, _, _ => none
  | .len _, _, _ => none
  | .sum _, _, _ => none
  | .maxi _ _, _, _ => none
  | .mini _ _, _, _ => none
  | .call _ _, _, _ => none
  | .meth _ _ _, _, _ => none
  | .citer _, _, _ => none
  | .lDisp _, _, _ => none
  | .lComp _ _ _ _ _, _, _ => none
  | .lAdd _ _, _, _ => none
  | .lMul _ _, _, _ => none
  | .lList _, _, _ => none
  | .lCompV _ _ _ _, _, _ => none
  | .lCompZ _ _ _, _, _ => none
  | .lSorted _, _, _ => none
  | .ttake _ _, _, _ => none
  | .sRange _ _, _, _ => none
  | .sZip _, _, _ => none
  | .sVal _, _, _ => none
noncomputable def evOC (G : Gl) : Option ME → Env' → Hp → Option (Bool × Hp)
  | none, _, hp => some (true, hp)
  | some c, ρ, hp => evC G c ρ hp
noncomputable def evSrc (G : Gl) : ME → Env' → Hp → Option (Sr × Hp)
  | .sRange a b, ρ, hp => bnd (evE G a ρ hp) fun x hp => onInt x fun lo => bnd (evE G b ρ hp) fun y hp => onInt y fun hi => if lo.natAbs < 2 ^ 20 ∧ hi.natAbs < 2 ^ 20 then some (.fix (range lo hi), hp) else none
  | .sZip es, ρ, hp => bnd (evEs G es ρ hp) fun xs hp => some (.zip xs, hp)
  | .sVal e, ρ, hp => bnd (evE G e ρ hp) fun x hp => (srcVal x).map fun xs => (xs, hp)
  | .none, _, _ => none
  | .bool _, _, _ => none
  | .int _, _, _ => none
  | .str _, _, _ => none
  | .var _, _, _ => none
  | .glob _, _, _ => none
  | .bin _ _ _, _, _ => none
  | .cmp _ _ _, _, _ => none
  | .and _ _, _, _ => none
  | .or _ _, _, _ => none
  | .ite _ _ _, _, _ => none
  | .idx _ _, _, _ => none
  | .slice _ _ _, _, _ => none
  | .tuple _, _, _ => none
  | .frz _, _, _ => none
  | .mut _, _, _ => none
  | .len _, _, _ => none
  | .sum _, _, _ => none
  | .maxi _ _, _, _ => none
  | .mini _ _, _, _ => none
  | .call _ _, _, _ => none
  | .meth _ _ _, _, _ => none
  | .attr _ _, _, _ => none
  | .citer _, _, _ => none
  | .lDisp _, _, _ => none
  | .lComp _ _ _ _ _, _, _ => none
  | .lAdd _ _, _, _ => none
  | .lMul _ _, _, _ => none
  | .lList _, _, _ => none
  | .lCompV _ _ _ _, _, _ => none
  | .lCompZ _ _ _, _, _ => none
  | .lSorted _, _, _ => none
  | .ttake _ _, _, _ => none
noncomputable def evL (G : Gl) : ME → Env' → Hp → Option (List AV × Hp)
  | .lDisp es, ρ, hp => bnd (evEs G es ρ hp) fun xs hp => (chkL xs).map fun xs => (xs, hp)
  | .lAdd a b, ρ, hp => bnd (evE G a ρ hp) fun x hp => bnd (evE G b ρ hp) fun y hp => (items hp x).bind fun xs => (items hp y).bind fun ys => (chkL (xs ++ ys)).map fun xs => (xs, hp)
  | .lMul a b, ρ, hp => bnd (evE G a ρ hp) fun x hp => bnd (evE G b ρ hp) fun y hp => onInt y fun n => (items hp x).bind fun xs => if xs.length ≤ 1000 ∧ -1000 < n ∧ n < 1000 then some (rep n.toNat xs, hp) else none
  | .lList src, ρ, hp => bnd (evSrc G src ρ hp) fun sr hp => listOf hp sr
  | .lComp elt cond unp src caps, ρ, hp => bnd (evSrc G src ρ hp) fun sr hp => onFix sr fun vs => if vs.length < szMax then compLoop (fun ρ hp => evOC G cond ρ hp) (fun ρ hp => evE G elt ρ hp) unp (caps.map fun i => (ρ[i]?).join) vs hp else none
  | .lCompV elt cond src caps, ρ, hp => bnd (evE G src ρ hp) fun v hp => match v with
    | .ref t => compLive (fun ρ hp => evOC G cond ρ hp) (fun ρ hp => evE G elt ρ hp) none (caps.map fun i => (ρ[i]?).join) t G.N 0 hp
    | .lst vs => if vs.length < szMax then compLoop (fun ρ hp => evOC G cond ρ hp) (fun ρ hp => evE G elt ρ hp) none (caps.map fun i => (ρ[i]?).join) vs hp else none
    | _ => none
  | .lCompZ elt a b, ρ, hp => bnd (evE G a ρ hp) fun x hp => onLst x fun xs => bnd (evE G b ρ hp) fun y hp => onLst y fun ys => if xs.length < szMax then compLoop (fun _ hp => some (true, hp)) (fun ρ hp => evE G elt ρ hp) (some 2) [] ((xs.zip ys).map fun p => .tup [p.1, p.2]) hp else none
  | .lSorted e, ρ, hp => bnd (evE G e ρ hp) fun x hp => ((items hp x).bind trisA).bind fun l => if l.length ≤ 1000 then some ((sortT l).map triA, hp) else none
  | .none, _, _ => none
  | .bool _, _, _ => none
  | .int _, _, _ => none
  | .str _, _, _ => none
  | .var _, _, _ => none
  | .glob _, _, _ => none
  | .bin _ _ _, _, _ => none
  | .cmp _ _ _, _, _ => none
  | .and _ _, _, _ => none
  | .or _ _, _, _ => none
  | .ite _ _ _, _, _ => none
  | .idx _ _, _, _ => none
  | .slice _ _ _, _, _ => none
  | .tuple _, _, _ => none
  | .frz _, _, _ => none
  | .mut _, _, _ => none
  | .len _, _, _ => none
  | .sum _, _, _ => none
  | .maxi _ _, _, _ => none
  | .mini _ _, _, _ => none
  | .call _ _, _, _ => none
  | .meth _ _ _, _, _ => none
  | .attr _ _, _, _ => none
  | .citer _, _, _ => none
  | .ttake _ _, _, _ => none
  | .sRange _ _, _, _ => none
  | .sZip _, _, _ => none
  | .sVal _, _, _ => none
end
noncomputable def setLoc (ρ : Env') (i : Nat) (v : AV) : Env' := ρ.set i (some v)
noncomputable def setLocs (ρ : Env') : List Nat → List AV → Option Env'
  | [], [] => some ρ
  | i :: is, v :: vs => setLocs (setLoc ρ i v) is vs
  | [], _ :: _ => none
  | _ :: _, [] => none
noncomputable def seqF (o : Option (Fl × Env' × Hp)) (k : Env' → Hp → Option (Fl × Env' × Hp)) : Option (Fl × Env' × Hp) := match o with
  | some (.next, ρ, hp) => k ρ hp
  | some (.cont, ρ, hp) => some (.cont, ρ, hp)
  | some (.ret v, ρ, hp) => some (.ret v, ρ, hp)
  | none => none
inductive SeqF (o : Option (Fl × Env' × Hp)) (k : Env' → Hp → Option (Fl × Env' × Hp)) (r : Fl × Env' × Hp) : Prop
  | next (ρ : Env') (hp : Hp) : o = some (.next, ρ, hp) → k ρ hp = some r → SeqF o k r
  | stop : o = some r → r.1 ≠ .next → SeqF o k r
theorem seqF_inv {o : Option (Fl × Env' × Hp)} {k : Env' → Hp → Option (Fl × Env' × Hp)} {r : Fl × Env' × Hp} (h : seqF o k = some r) : SeqF o k r := by
  match o, h with
  | some (.next, ρ, hp), h => exact .next ρ hp rfl h
  | some (.cont, ρ, hp), h => exact .stop h (by cases h; nofun)
  | some (.ret v, ρ, hp), h => exact .stop h (by cases h; nofun)
noncomputable def turnF (o : Option (Fl × Env' × Hp)) (k : Env' → Hp → Option (Fl × Env' × Hp)) : Option (Fl × Env' × Hp) := match o with
  | some (.next, ρ, hp) => k ρ hp
  | some (.cont, ρ, hp) => k ρ hp
  | some (.ret v, ρ, hp) => some (.ret v, ρ, hp)
  | none => none
inductive TurnF (o : Option (Fl × Env' × Hp)) (k : Env' → Hp → Option (Fl × Env' × Hp)) (r : Fl × Env' × Hp) : Prop
  | go (f : Fl) (ρ : Env') (hp : Hp) : o = some (f, ρ, hp) → (∀ v, f ≠ .ret v) → k ρ hp = some r → TurnF o k r
  | ret (v : AV) (ρ : Env') (hp : Hp) : o = some (.ret v, ρ, hp) → r = (.ret v, ρ, hp) → TurnF o k r
theorem turnF_inv {o : Option (Fl × Env' × Hp)} {k : Env' → Hp → Option (Fl × Env' × Hp)} {r : Fl × Env' × Hp} (h : turnF o k = some r) : TurnF o k r := by
  match o, h with
  | some (.next, ρ, hp), h => exact .go _ ρ hp rfl nofun h
  | some (.cont, ρ, hp), h => exact .go _ ρ hp rfl nofun h
  | some (.ret v, ρ, hp), h => exact .ret v ρ hp rfl (Option.some.inj h).symm
noncomputable def whileN (c : Env' → Hp → Option (Bool × Hp)) (b : Env' → Hp → Option (Fl × Env' × Hp)) : Nat → Env' → Hp → Option (Fl × Env' × Hp)
  | 0, _, _ => none
  | n + 1, ρ, hp => bnd (c ρ hp) fun t hp => cond t (turnF (b ρ hp) fun ρ hp => whileN c b n ρ hp) (some (.next, ρ, hp))
noncomputable def bindF (unp : Option (List Nat)) (x : Nat) (v : AV) (ρ : Env') : Option Env' :=
  match unp with
  | none => some (setLoc ρ x v)
  | some is => onTup v fun vs => setLocs ρ is vs
noncomputable def forL (b : Env' → Hp → Option (Fl × Env' × Hp)) (unp : Option (List Nat)) (x : Nat) : List AV → Env' → Hp → Option (Fl × Env' × Hp)
  | [], ρ, hp => some (.next, ρ, hp)
  | v :: vs, ρ, hp => (bindF unp x v ρ).bind fun ρ => turnF (b ρ hp) fun ρ hp => forL b unp x vs ρ hp
noncomputable def onCiter {τ : Type} (o : Option AO) (f : Nat → Bool → Option τ) : Option τ := match o with
  | some (.citer t d) => f t d
  | _ => none
theorem onCiter_inv {τ : Type} {o : Option AO} {f : Nat → Bool → Option τ} {r : τ} (h : onCiter o f = some r) : ∃ t d, o = some (.citer t d) ∧ f t d = some r := by
  match o, h with
  | some (.citer t d), h => exact ⟨t, d, rfl, h⟩
noncomputable def forC (G : Gl) (b : Env' → Hp → Option (Fl × Env' × Hp)) (x u : Nat) : Nat → Env' → Hp → Option (Fl × Env' × Hp)
  | 0, _, _ => none
  | n + 1, ρ, hp => onCiter hp[u]? fun t d => cond d (some (.next, ρ, hp)) (bnd (G.call G.rc [.inst t] hp) fun z hp => onStr z fun z => onCiter hp[u]? fun t' d' => cond d' none
      (if z = [] then some (.next, ρ, hp.set u (.citer t' true)) else turnF (b (setLoc ρ x (.str z)) hp) fun ρ hp => forC G b x u n ρ hp))
mutual
noncomputable def evS (G : Gl) : MS → Env' → Hp → Option (Fl × Env' × Hp)
  | .expr e, ρ, hp => bnd (evE G e ρ hp) fun _ hp => some (.next, ρ, hp)
  | .assign i e, ρ, hp => bnd (evE G e ρ hp) fun v hp => some (.next, setLoc ρ i v, hp)
  | .unpack is e, ρ, hp => bnd (evE G e ρ hp) fun v hp => onTup v fun vs => (setLocs ρ is vs).map fun ρ => (.next, ρ, hp)
  | .setAttr o f e, ρ, hp => bnd (evE G e ρ hp) fun v hp => bnd (evE G o ρ hp) fun x hp => (putField hp x f v).map fun hp => (.next, ρ, hp)
  | .setSub o i e, ρ, hp => bnd (evE G e ρ hp) fun v hp => bnd (evE G o ρ hp) fun x hp => bnd (evE G i ρ hp) fun y hp => (putItem hp x y v).map fun hp => (.next, ρ, hp)
  | .augVar i op e, ρ, hp => onVar ρ[i]? fun x => bnd (evE G e ρ hp) fun y hp => (augA op x y).map fun v => (.next, setLoc ρ i v, hp)
  | .augAttr o f op e, ρ, hp => bnd (evE G o ρ hp) fun x hp => (getField hp x f).bind fun w => bnd (evE G e ρ hp) fun y hp => (augA op w y).bind fun v => (putField hp x f v).map fun hp => (.next, ρ, hp)
  | .augSub o i op e, ρ, hp => bnd (evE G o ρ hp) fun x hp => bnd (evE G i ρ hp) fun j hp => (idxA hp x j).bind fun w => bnd (evE G e ρ hp) fun y hp => (augA op w y).bind fun v => (putItem hp x j v).map fun hp => (.next, ρ, hp)
  | .ite c t e, ρ, hp => bnd (evC G c ρ hp) fun b hp => cond b (evSs G t ρ hp) (evSs G e ρ hp)
  | .while c b, ρ, hp => whileN (fun ρ hp => evC G c ρ hp) (fun ρ hp => evSs G b ρ hp) G.N ρ hp
  | .forC x i b, ρ, hp => onVar ρ[i]? fun v => onTag v fun u => forC G (fun ρ hp => evSs G b ρ hp) x u G.N ρ hp
  | .for unp x src b, ρ, hp => bnd (evSrc G src ρ hp) fun sr hp => onFix sr fun vs => forL (fun ρ hp => evSs G b ρ hp) unp x vs ρ hp
  | .ret e, ρ, hp => bnd (evE G e ρ hp) fun v hp => some (.ret v, ρ, hp)
  | .cont, ρ, hp => some (.cont, ρ, hp)
noncomputable def evSs (G : Gl) : List MS → Env' → Hp → Option (Fl × Env' × Hp)
  | [], ρ, hp => some (.next, ρ, hp)
  | s :: ss, ρ, hp => seqF (evS G s ρ hp) fun ρ hp => evSs G ss ρ hp
end
end Mine
end
section
namespace Mine
open PySem
noncomputable abbrev Part := Addr → Option Obj
noncomputable def Part.le (φ ψ : Part) : Prop := ∀ a o, φ a = some o → ψ a = some o
theorem Part.le_refl (φ : Part) : φ.le φ := fun _ _ h => h
theorem Part.le_trans {a b c : Part} (h : a.le b) (k : b.le c) : a.le c := fun x o e => k x o (h x o e)
structure Wd where
  prog : Program
  w : World
  gens : Array GenState
  drawn : Drawn
  os : OsState
  base : Part
  P : Addr
  TabP : Part → Obj → Prop
  tab_mono : ∀ φ ψ o, φ.le ψ → TabP φ o → TabP ψ o
  C : Addr
  rc : Addr
  fields : List Str
  StmP : Part → Addr → Addr → Prop
  stm_mono : ∀ φ ψ a l, φ.le ψ → StmP φ a l → StmP ψ a l
noncomputable def ListObj (o : Obj) (vs : List Value) : Prop := ∃ n, o = { cls := .type "list", dict := none, data := .seq vs.toArray n, slots := #[] }
noncomputable def TupObj (o : Obj) (vs : List Value) : Prop := ∃ n, o = { cls := .type "tuple", dict := none, data := .seq vs.toArray n, slots := #[] }
mutual
inductive Rep (X : Wd) (α : List Addr) (φ : Part) : Value → AV → Prop
  | none : Rep X α φ .none .none
  | bool (b : Bool) : Rep X α φ (.bool b) (.bool b)
  | int (i : Int) (t : Tok) : Rep X α φ (.int i t) (.int i)
  | str (x : Str) (t : Tok) : Rep X α φ (.str x t) (.str x.cps.toList)
  | tup {a : Addr} {o : Obj} {vs : List Value} {xs : List AV} : φ a = some o → TupObj o vs → RepAll X α φ vs xs → Rep X α φ (.ref a) (.tup xs)
  | lst {a : Addr} {o : Obj} {vs : List Value} {xs : List AV} : φ a = some o → ListObj o vs → RepAll X α φ vs xs → Rep X α φ (.ref a) (.lst xs)
  | ref {a : Addr} {t : Nat} : α[t]? = some a → Rep X α φ (.ref a) (.ref t)
  | inst {a d : Addr} {o : Obj} {t : Nat} : φ a = some o → o.cls = .ref X.C → o.dict = some d → (∀ c, o.data ≠ .cls c) → α[t]? = some d → Rep X α φ (.ref a) (.inst t)
  | stm {a l : Addr} {t : Nat} : X.StmP φ a l → α[t]? = some l → Rep X α φ (.ref a) (.stm t)
  | cst (v : Value) : Rep X α φ v (.cst v)
inductive RepAll (X : Wd) (α : List Addr) (φ : Part) : List Value → List AV → Prop
  | nil : RepAll X α φ [] []
  | cons {v : Value} {x : AV} {vs : List Value} {xs : List AV} : Rep X α φ v x → RepAll X α φ vs xs → RepAll X α φ (v :: vs) (x :: xs)
end
section
variable {X : Wd} {α : List Addr} {φ : Part} {v : Value}
noncomputable def Rep.InvP (X : Wd) (α : List Addr) (φ : Part) (v : Value) (x : AV) : Prop := match x with
  | .none => v = .none
  | .bool b => v = .bool b
  | .int i => ∃ t, v = .int i t
  | .str x => ∃ w t, v = .str w t ∧ w.cps.toList = x
  | .tup xs => ∃ a n vs, v = .ref a ∧ φ a = some { cls := .type "tuple", dict := Option.none, data := .seq vs.toArray n, slots := #[] } ∧ RepAll X α φ vs xs
  | .lst xs => ∃ a n vs, v = .ref a ∧ φ a = some { cls := .type "list", dict := Option.none, data := .seq vs.toArray n, slots := #[] } ∧ RepAll X α φ vs xs
  | .ref t => ∃ a, v = .ref a ∧ α[t]? = some a
  | .inst t => ∃ a d o, v = .ref a ∧ φ a = some o ∧ o.cls = .ref X.C ∧ o.dict = some d ∧ (∀ c, o.data ≠ .cls c) ∧ α[t]? = some d
  | .stm t => ∃ a l, v = .ref a ∧ X.StmP φ a l ∧ α[t]? = some l
  | .cst c => v = c
theorem Rep.inv {x : AV} (r : Rep X α φ v x) : Rep.InvP X α φ v x :=
  Rep.casesOn (motive_1 := fun v x _ => Rep.InvP X α φ v x) r rfl (fun _ => rfl) (fun _ t => ⟨t, rfl⟩) (fun w t => ⟨w, t, rfl, rfl⟩) (fun h ⟨_, k⟩ r => ⟨_, _, _, rfl, k ▸ h, r⟩) (fun h ⟨_, k⟩ r => ⟨_, _, _, rfl, k ▸ h, r⟩) (fun h => ⟨_, rfl, h⟩)
    (fun h1 h2 h3 h4 h5 => ⟨_, _, _, rfl, h1, h2, h3, h4, h5⟩) (fun h k => ⟨_, _, rfl, h, k⟩) (fun _ => rfl)
theorem Rep.inv_int {i : Int} (r : Rep X α φ v (.int i)) : ∃ t, v = .int i t := r.inv
theorem Rep.inv_bool {b : Bool} (r : Rep X α φ v (.bool b)) : v = .bool b := r.inv
theorem Rep.inv_none (r : Rep X α φ v .none) : v = Value.none := r.inv
theorem Rep.inv_tup {xs : List AV} (r : Rep X α φ v (.tup xs)) : ∃ a n vs, v = .ref a ∧ φ a = some { cls := .type "tuple", dict := Option.none, data := .seq vs.toArray n, slots := #[] } ∧ RepAll X α φ vs xs := r.inv
theorem Rep.inv_lst {xs : List AV} (r : Rep X α φ v (.lst xs)) : ∃ a n vs, v = .ref a ∧ φ a = some { cls := .type "list", dict := Option.none, data := .seq vs.toArray n, slots := #[] } ∧ RepAll X α φ vs xs := r.inv
theorem Rep.inv_ref {t : Nat} (r : Rep X α φ v (.ref t)) : ∃ a, v = .ref a ∧ α[t]? = some a := r.inv
theorem Rep.inv_inst {t : Nat} (r : Rep X α φ v (.inst t)) : ∃ a d o, v = .ref a ∧ φ a = some o ∧ o.cls = .ref X.C ∧ o.dict = some d ∧ (∀ c, o.data ≠ .cls c) ∧ α[t]? = some d := r.inv
theorem Rep.inv_cst {c : Value} (r : Rep X α φ v (.cst c)) : v = c := r.inv
theorem Rep.inv_stm {t : Nat} (r : Rep X α φ v (.stm t)) : ∃ a l, v = .ref a ∧ X.StmP φ a l ∧ α[t]? = some l := r.inv
theorem Rep.inv_str {x : List Nat} (r : Rep X α φ v (.str x)) : ∃ w t, v = .str w t ∧ w.cps.toList = x := r.inv
theorem RepAll.inv_nil {vs : List Value} : RepAll X α φ vs [] → vs = []
  | .nil => rfl
theorem RepAll.inv_cons {vs : List Value} {x : AV} {xs : List AV} : RepAll X α φ vs (x :: xs) → ∃ v ws, vs = v :: ws ∧ Rep X α φ v x ∧ RepAll X α φ ws xs
  | .cons h r => ⟨_, _, rfl, h, r⟩
end
theorem prefix_get {α β : List Addr} (h : α <+: β) {t : Nat} {a : Addr} (e : α[t]? = some a) : β[t]? = some a := by
  obtain ⟨r, rfl⟩ := h
  rw [List.getElem?_append_left (List.getElem?_eq_some_iff.mp e).1]; exact e
theorem Rep.mono {X : Wd} {α β : List Addr} {φ ψ : Part} (hα : α <+: β) (hφ : φ.le ψ) {v : Value} {x : AV} (r : Rep X α φ v x) : Rep X β ψ v x :=
  Rep.rec (motive_1 := fun v x _ => Rep X β ψ v x) (motive_2 := fun vs xs _ => RepAll X β ψ vs xs) .none (fun b => .bool b) (fun i t => .int i t) (fun x t => .str x t) (fun h ho _ ih => .tup (hφ _ _ h) ho ih) (fun h ho _ ih => .lst (hφ _ _ h) ho ih) (fun h => .ref (prefix_get hα h))
    (fun h a b c d => .inst (hφ _ _ h) a b c (prefix_get hα d)) (fun h d => .stm (X.stm_mono _ _ _ _ hφ h) (prefix_get hα d)) (fun v => .cst v) .nil (fun _ _ h r => .cons h r) r
theorem RepAll.ind {X : Wd} {α : List Addr} {φ : Part} {P : List Value → List AV → Prop} (nil : P [] []) (cons : ∀ v x vs xs, Rep X α φ v x → RepAll X α φ vs xs → P vs xs → P (v :: vs) (x :: xs)) {vs : List Value} {xs : List AV} (r : RepAll X α φ vs xs) : P vs xs :=
  RepAll.rec (motive_1 := fun _ _ _ => True) (motive_2 := fun vs xs _ => P vs xs) trivial (fun _ => trivial) (fun _ _ => trivial) (fun _ _ => trivial) (fun _ _ _ _ => trivial) (fun _ _ _ _ => trivial) (fun _ => trivial) (fun _ _ _ _ _ => trivial) (fun _ _ => trivial) (fun _ => trivial) nil (fun h r _ ih => cons _ _ _ _ h r ih) r
theorem RepAll.mono {X : Wd} {α β : List Addr} {φ ψ : Part} (hα : α <+: β) (hφ : φ.le ψ) {vs : List Value} {xs : List AV} (r : RepAll X α φ vs xs) : RepAll X β ψ vs xs :=
  r.ind .nil fun _ _ _ _ h _ ih => .cons (h.mono hα hφ) ih
theorem RepAll.length {X : Wd} {α : List Addr} {φ : Part} {vs : List Value} {xs : List AV} (r : RepAll X α φ vs xs) : vs.length = xs.length :=
  r.ind (P := fun vs xs => vs.length = xs.length) rfl fun _ _ _ _ _ _ ih => congrArg Nat.succ ih
theorem RepAll.get {X : Wd} {α : List Addr} {φ : Part} {vs : List Value} {xs : List AV} (r : RepAll X α φ vs xs) : ∀ {i : Nat} {x : AV}, xs[i]? = some x → ∃ v, vs[i]? = some v ∧ Rep X α φ v x :=
  r.ind (P := fun vs xs => ∀ {i : Nat} {x : AV}, xs[i]? = some x → ∃ v, vs[i]? = some v ∧ Rep X α φ v x) (fun h => nomatch h) fun v x vs xs hv _ ih i y h => by
    cases i with
    | zero => obtain rfl := some_inv h; exact ⟨v, rfl, hv⟩
    | succ i => exact ih (i := i) h
theorem RepAll.append {X : Wd} {α : List Addr} {φ : Part} {vs : List Value} {xs : List AV} (r : RepAll X α φ vs xs) {us : List Value} {ys : List AV} (k : RepAll X α φ us ys) : RepAll X α φ (vs ++ us) (xs ++ ys) :=
  r.ind (P := fun vs xs => RepAll X α φ (vs ++ us) (xs ++ ys)) k fun _ _ _ _ h _ ih => .cons h ih
theorem RepAll.take {X : Wd} {α : List Addr} {φ : Part} {vs : List Value} {xs : List AV} (r : RepAll X α φ vs xs) : ∀ n : Nat, RepAll X α φ (vs.take n) (xs.take n) :=
  r.ind (P := fun vs xs => ∀ n : Nat, RepAll X α φ (vs.take n) (xs.take n)) (fun n => by rw [List.take_nil, List.take_nil]; exact .nil) fun _ _ _ _ h _ ih n => by
    cases n with
    | zero => exact .nil
    | succ n => exact .cons h (ih n)
theorem RepAll.drop {X : Wd} {α : List Addr} {φ : Part} {vs : List Value} {xs : List AV} (r : RepAll X α φ vs xs) : ∀ n : Nat, RepAll X α φ (vs.drop n) (xs.drop n) :=
  r.ind (P := fun vs xs => ∀ n : Nat, RepAll X α φ (vs.drop n) (xs.drop n)) (fun n => by rw [List.drop_nil, List.drop_nil]; exact .nil) fun _ _ _ _ h r ih n => by
    cases n with
    | zero => exact .cons h r
    | succ n => exact ih n
noncomputable def fieldOf (names : List Str) (vs : List Value) (x : Str) : Option Value := (names.zip vs).lookup x
theorem func_cls {fd : FuncData} (c : ClassData) : Data.func fd ≠ Data.cls c := fun h => by cases h
theorem plain_cls (c : ClassData) : Data.plain ≠ Data.cls c := fun h => by cases h
inductive RepA (X : Wd) (α : List Addr) (φ : Part) (h : Heap) (a : Addr) : AO → Prop
  | list {o : Obj} {vs : List Value} {xs : List AV} : h.get? a = some o → ListObj o vs → RepAll X α φ vs xs → RepA X α φ h a (.list xs)
  | dict {vs : List Value} {xs : List AV} : h.Ns1 a (fieldOf X.fields vs) → RepAll X α φ vs xs → RepA X α φ h a (.dict xs)
  | citer {m x : Addr} {tok : Tok} {t : Nat} : h.get? a = some { cls := .type "callable_iterator", dict := none, data := .fields #[.ref m, .str ⟨#[]⟩ tok, .bool false], slots := #[] } → φ m = some { cls := .type "method", data := .fields #[.ref X.rc, .ref x] } → Rep X α φ (.ref x) (.inst t) → RepA X α φ h a (.citer t false)
  | cdone {t : Nat} : h.get? a = some { cls := .type "callable_iterator", dict := none, data := .fields #[.none, .none, .bool true], slots := #[] } → RepA X α φ h a (.citer t true)
theorem RepA.inv_list {X : Wd} {α : List Addr} {φ : Part} {h : Heap} {a : Addr} {xs : List AV} : RepA X α φ h a (.list xs) → ∃ n vs, h.get? a = some { cls := .type "list", dict := none, data := .seq vs.toArray n, slots := #[] } ∧ RepAll X α φ vs xs
  | .list e ⟨_, k⟩ r => ⟨_, _, k ▸ e, r⟩
theorem RepA.inv_dict {X : Wd} {α : List Addr} {φ : Part} {h : Heap} {a : Addr} {xs : List AV} : RepA X α φ h a (.dict xs) → ∃ vs, h.Ns1 a (fieldOf X.fields vs) ∧ RepAll X α φ vs xs
  | .dict e r => ⟨_, e, r⟩
theorem RepA.mono {X : Wd} {α β : List Addr} {φ ψ : Part} (hα : α <+: β) (hφ : φ.le ψ) {h h' : Heap} {a : Addr} (e : ∀ o, h.get? a = some o → h'.get? a = some o) {x : AO} : RepA X α φ h a x → RepA X β ψ h' a x
  | .list ho hl hr => .list (e _ ho) hl (hr.mono hα hφ)
  | .dict hn hr => .dict (hn.at e) (hr.mono hα hφ)
  | .citer ho hm hr => .citer (e _ ho) (hφ _ _ hm) (hr.mono hα hφ)
  | .cdone ho => .cdone (e _ ho)
theorem RepA.some {X : Wd} {α : List Addr} {φ : Part} {h : Heap} {a : Addr} {x : AO} : RepA X α φ h a x → ∃ o, h.get? a = some o
  | .list ho _ _ => ⟨_, ho⟩
  | .dict hn _ => let ⟨o, _, _, e, _⟩ := hn; ⟨o, e⟩
  | .citer ho _ _ => ⟨_, ho⟩
  | .cdone ho => ⟨_, ho⟩
structure HOk (X : Wd) (own : List Addr) (κ φ : Part) (α : List Addr) (hp : List AO) (s : Shared) : Prop where
  gens : s.gens = X.gens
  drawn : s.drawn = X.drawn
  os : s.os = X.os
  base : X.base.le φ
  kept : ∀ a o, κ a = some o → s.heap.get? a = some o
  froz : ∀ a o, φ a = some o → s.heap.get? a = some o
  tab : ∃ o, s.heap.get? X.P = some o ∧ X.TabP φ o
  ownIn : ∀ a ∈ own, ∃ o, s.heap.get? a = some o
  len : α.length = hp.length
  obj : ∀ (t : Nat) (x : AO), hp[t]? = some x → ∃ a, α[t]? = some a ∧ RepA X α φ s.heap a x
  nodup : (X.P :: (own ++ α)).Nodup
  apart : ∀ a ∈ X.P :: (own ++ α), κ a = none ∧ φ a = none
  disj : ∀ a o, κ a = some o → φ a = none
noncomputable def Ext (h h' : Heap) : Prop := ∀ b o, h.get? b = some o → h'.get? b = some o
theorem Ext.refl (h : Heap) : Ext h h := fun _ _ e => e
theorem Ext.trans {a b c : Heap} (h : Ext a b) (k : Ext b c) : Ext a c := fun x o e => k x o (h x o e)
theorem Ext.push (h : Heap) (o : Obj) : Ext h (h.push o) := fun _ _ e => Heap.get?_push_of_some o e
theorem nodup_idx {l : List Addr} (h : l.Nodup) {i j : Nat} {a : Addr} (hi : l[i]? = some a) (hj : l[j]? = some a) : i = j := by
  obtain ⟨hi, ei⟩ := List.getElem?_eq_some_iff.mp hi
  obtain ⟨hj, ej⟩ := List.getElem?_eq_some_iff.mp hj
  rcases Nat.lt_trichotomy i j with q | q | q
  · exact absurd (ei.trans ej.symm) (List.pairwise_iff_getElem.mp h i j hi hj q)
  · exact q
  · exact absurd (ej.trans ei.symm) (List.pairwise_iff_getElem.mp h j i hj hi q)
section
variable {X : Wd} {own : List Addr} {κ φ : Part} {α : List Addr} {hp : List AO} {s : Shared}
theorem HOk.known (H : HOk X own κ φ α hp s) : ∀ a, a ∈ X.P :: (own ++ α) → ∃ o, s.heap.get? a = some o := by
  intro a ha
  rcases List.mem_cons.mp ha with rfl | ha
  · obtain ⟨o, e, _⟩ := H.tab; exact ⟨o, e⟩
  rcases List.mem_append.mp ha with ha | ha
  · exact H.ownIn a ha
  · obtain ⟨t, ht, e⟩ := List.mem_iff_getElem.mp ha
    have : t < hp.length := H.len ▸ ht
    obtain ⟨b, hb, r⟩ := H.obj t hp[t] (List.getElem?_eq_getElem this)
    have : α[t]? = some a := by rw [List.getElem?_eq_getElem ht, e]
    rw [this] at hb; cases hb
    exact r.some
theorem HOk.grow (H : HOk X own κ φ α hp s) {h' : Heap} (e : Ext s.heap h') (tk : Nat) : HOk X own κ φ α hp { s with heap := h', toks := tk } where
  gens := H.gens
  drawn := H.drawn
  os := H.os
  base := H.base
  kept := fun a o k => e _ _ (H.kept a o k)
  froz := fun a o k => e _ _ (H.froz a o k)
  tab := let ⟨o, k, p⟩ := H.tab; ⟨o, e _ _ k, p⟩
  ownIn := fun a ha => let ⟨o, k⟩ := H.ownIn a ha; ⟨o, e _ _ k⟩
  len := H.len
  obj := fun t x k => let ⟨a, ha, r⟩ := H.obj t x k; ⟨a, ha, r.mono (List.prefix_refl _) (Part.le_refl _) fun o q => e _ _ q⟩
  nodup := H.nodup
  apart := H.apart
  disj := H.disj
theorem HOk.tok (H : HOk X own κ φ α hp s) (tk : Nat) : HOk X own κ φ α hp { s with toks := tk } := H.grow (Ext.refl _) tk
theorem HOk.fresh (H : HOk X own κ φ α hp s) {a : Addr} (e : s.heap.get? a = none) : κ a = none ∧ φ a = none ∧ a ∉ X.P :: (own ++ α) := by
  refine ⟨?_, ?_, fun h => ?_⟩
  · cases q : κ a with
    | none => rfl
    | some o => rw [H.kept a o q] at e; cases e
  · cases q : φ a with
    | none => rfl
    | some o => rw [H.froz a o q] at e; cases e
  · obtain ⟨o, q⟩ := H.known a h; rw [q] at e; cases e
noncomputable def Part.put (φ : Part) (a : Addr) (o : Obj) : Part := fun b => if b = a then some o else φ b
theorem Part.put_self (φ : Part) (a : Addr) (o : Obj) : φ.put a o a = some o := if_pos rfl
theorem Part.put_ne (φ : Part) {a b : Addr} (o : Obj) (h : b ≠ a) : φ.put a o b = φ b := if_neg h
theorem Part.le_put {φ : Part} {a : Addr} {o : Obj} (h : φ a = none) : φ.le (φ.put a o) := fun b x e => by
  by_cases q : b = a
  · subst q; rw [h] at e; cases e
  · rw [Part.put_ne _ _ q]; exact e
theorem HOk.freeze (H : HOk X own κ φ α hp s) {a : Addr} {o : Obj} (e : s.heap.get? a = some o) (hκ : κ a = none) (hφ : φ a = none) (hn : a ∉ X.P :: (own ++ α)) : HOk X own κ (φ.put a o) α hp s where
  gens := H.gens
  drawn := H.drawn
  os := H.os
  base := Part.le_trans H.base (Part.le_put hφ)
  kept := H.kept
  froz := fun b x k => by
    by_cases q : b = a
    · subst q; rw [Part.put_self] at k; cases k; exact e
    · rw [Part.put_ne _ _ q] at k; exact H.froz b x k
  tab := let ⟨x, k, p⟩ := H.tab; ⟨x, k, X.tab_mono _ _ _ (Part.le_put hφ) p⟩
  ownIn := H.ownIn
  len := H.len
  obj := fun t x k => let ⟨b, hb, r⟩ := H.obj t x k; ⟨b, hb, r.mono (List.prefix_refl _) (Part.le_put hφ) fun _ q => q⟩
  nodup := H.nodup
  apart := fun b hb => ⟨(H.apart b hb).1, by
    have q : b ≠ a := fun q => hn (q ▸ hb)
    rw [Part.put_ne _ _ q]; exact (H.apart b hb).2⟩
  disj := fun b x k => by
    have q : b ≠ a := by rintro rfl; rw [hκ] at k; cases k
    rw [Part.put_ne _ _ q]; exact H.disj b x k
theorem HOk.newTag (H : HOk X own κ φ α hp s) {a : Addr} {x : AO} (hr : RepA X (α ++ [a]) φ s.heap a x) (hκ : κ a = none) (hφ : φ a = none) (hn : a ∉ X.P :: (own ++ α)) : HOk X own κ φ (α ++ [a]) (hp ++ [x]) s where
  gens := H.gens
  drawn := H.drawn
  os := H.os
  base := H.base
  kept := H.kept
  froz := H.froz
  tab := H.tab
  ownIn := H.ownIn
  len := by rw [List.length_append, List.length_append, H.len]; rfl
  obj := fun t y k => by
    by_cases q : t < hp.length
    · rw [List.getElem?_append_left q] at k
      obtain ⟨b, hb, r⟩ := H.obj t y k
      exact ⟨b, prefix_get (List.prefix_append _ _) hb, r.mono (List.prefix_append _ _) (Part.le_refl _) fun _ z => z⟩
    · have : t = hp.length := by
        have := (List.getElem?_eq_some_iff.mp k).1
        rw [List.length_append] at this; simp at this; lia
      subst this
      rw [List.getElem?_append_right (Nat.le_refl _)] at k
      simp at k; subst k
      exact ⟨a, by rw [← H.len, List.getElem?_append_right (Nat.le_refl _)]; simp, hr⟩
  nodup := by
    have := H.nodup
    rw [show X.P :: (own ++ (α ++ [a])) = (X.P :: (own ++ α)) ++ [a] by simp]
    rw [List.nodup_append]
    exact ⟨this, by simp, fun b hb c hc => by rw [List.mem_singleton] at hc; subst hc; exact fun q => hn (q ▸ hb)⟩
  apart := fun b hb => by
    rw [show X.P :: (own ++ (α ++ [a])) = (X.P :: (own ++ α)) ++ [a] by simp] at hb
    rcases List.mem_append.mp hb with hb | hb
    · exact H.apart b hb
    · rw [List.mem_singleton] at hb; subst hb; exact ⟨hκ, hφ⟩
  disj := H.disj
theorem HOk.setTag (H : HOk X own κ φ α hp s) {t : Nat} {a : Addr} {x : AO} {h' : Heap} (ha : α[t]? = some a) (hs : ∀ b o, b ≠ a → s.heap.get? b = some o → h'.get? b = some o) (hr : RepA X α φ h' a x) (tk : Nat) :
    HOk X own κ φ α (hp.set t x) { s with heap := h', toks := tk } := by
  have hmem : a ∈ α := List.mem_of_getElem? ha
  have hin : a ∈ X.P :: (own ++ α) := List.mem_cons_of_mem _ (List.mem_append_right _ hmem)
  have hnd := H.nodup
  rw [List.nodup_cons, List.nodup_append] at hnd
  refine ⟨H.gens, H.drawn, H.os, H.base, fun b o k => hs b o ?_ (H.kept b o k), fun b o k => hs b o ?_ (H.froz b o k), ?_, ?_, by rw [List.length_set]; exact H.len, ?_, H.nodup, H.apart, H.disj⟩
  · rintro rfl; rw [(H.apart _ hin).1] at k; cases k
  · rintro rfl; rw [(H.apart _ hin).2] at k; cases k
  · obtain ⟨o, e, p⟩ := H.tab
    exact ⟨o, hs _ _ (by rintro rfl; exact hnd.1 (List.mem_append_right _ hmem)) e, p⟩
  · intro b hb
    obtain ⟨o, e⟩ := H.ownIn b hb
    exact ⟨o, hs _ _ (fun q => hnd.2.2.2 b hb a hmem q) e⟩
  · intro u y k
    by_cases q : u = t
    · subst q
      have : y = x := by
        have hu := (List.getElem?_eq_some_iff.mp k)
        obtain ⟨hu, e⟩ := hu
        rw [List.getElem_set_self] at e; exact e.symm
      subst this
      exact ⟨a, ha, hr⟩
    · rw [List.getElem?_set_ne (Ne.symm q)] at k
      obtain ⟨b, hb, r⟩ := H.obj u y k
      refine ⟨b, hb, r.mono (List.prefix_refl _) (Part.le_refl _) fun o z => hs b o ?_ z⟩
      rintro rfl
      exact q (nodup_idx hnd.2.2.1 hb ha)
theorem HOk.setOwn (H : HOk X own κ φ α hp s) {a : Addr} {h' : Heap} (ha : a ∈ own) (hs : ∀ b o, b ≠ a → s.heap.get? b = some o → h'.get? b = some o) (he : ∃ o, h'.get? a = some o) (tk : Nat) :
    HOk X own κ φ α hp { s with heap := h', toks := tk } := by
  have hin : a ∈ X.P :: (own ++ α) := List.mem_cons_of_mem _ (List.mem_append_left _ ha)
  have hnd := H.nodup
  rw [List.nodup_cons, List.nodup_append] at hnd
  refine ⟨H.gens, H.drawn, H.os, H.base, fun b o k => hs b o ?_ (H.kept b o k), fun b o k => hs b o ?_ (H.froz b o k), ?_, ?_, H.len, ?_, H.nodup, H.apart, H.disj⟩
  · rintro rfl; rw [(H.apart _ hin).1] at k; cases k
  · rintro rfl; rw [(H.apart _ hin).2] at k; cases k
  · obtain ⟨o, e, p⟩ := H.tab
    exact ⟨o, hs _ _ (by rintro rfl; exact hnd.1 (List.mem_append_left _ ha)) e, p⟩
  · intro b hb
    by_cases q : b = a
    · subst q; exact he
    · obtain ⟨o, e⟩ := H.ownIn b hb; exact ⟨o, hs _ _ q e⟩
  · intro u y k
    obtain ⟨b, hb, r⟩ := H.obj u y k
    exact ⟨b, hb, r.mono (List.prefix_refl _) (Part.le_refl _) fun o z => hs b o (fun q => hnd.2.2.2 a ha b (List.mem_of_getElem? hb) q.symm) z⟩
end
end Mine
end
section
namespace Mine
open PySem
structure Fm where
  A : Around
  env : Env
  names : List Str
  own : List Addr
  caps : List Addr := []
noncomputable def Room (A : Around) (n : Nat) : Prop := A.handled = none ∧ A.depth + n < 900 ∧ A.units + 20 * n < 9000
structure Fm.Wf (X : Wd) (fm : Fm) : Prop where
  kind : fm.env.scope.kind = .function
  nodup : fm.names.Nodup
  cellsInj : ∀ x y c, fm.env.cells.lookup x = some c → fm.env.cells.lookup y = some c → x = y
  cellsLoc : ∀ x c, fm.env.cells.lookup x = some c → c ≠ fm.env.locals
  locIn : fm.env.locals ∈ fm.own
  handled : fm.A.handled = none
  globals : fm.env.globals = mainGlobals
  builtins : fm.env.builtins = builtinsNs
noncomputable def At (fm : Fm) (h : Heap) (m : Str → Option Value) (x : Str) (v : Value) : Prop :=
  (fm.env.kindOf x = some .local ∧ m x = some v) ∨
  (∃ c, (fm.env.kindOf x = some .cell ∨ (fm.env.kindOf x = some .free ∧ (x == ("__classdict__" : Str)) = false)) ∧ fm.env.cells.lookup x = some c ∧ (c ∈ fm.own ∨ c ∈ fm.caps) ∧ h.IsCell c (some v))
structure LocOk (X : Wd) (fm : Fm) (κ φ : Part) (α : List Addr) (ρ : Env') (h : Heap) : Prop where
  ns : ∃ m, h.Ns fm.env.locals m ∧ ∀ (i : Nat) (x : Str) (av : AV), fm.names[i]? = some x → ρ[i]? = some (some av) → ∃ v, Rep X α φ v av ∧ At fm h m x v
  cells : ∀ x, fm.env.kindOf x = some .cell → ∃ c, fm.env.cells.lookup x = some c ∧ (c ∈ fm.own ∨ c ∈ fm.caps) ∧ ∃ v, h.IsCell c v
  len : ρ.length = fm.names.length
  capsIn : ∀ c ∈ fm.caps, (∃ o, κ c = some o) ∨ ∃ o, φ c = some o
structure FOk (X : Wd) (fm : Fm) (κ φ : Part) (α : List Addr) (ρ : Env') (hp : Hp) (s : Shared) : Prop where
  H : HOk X fm.own κ φ α hp s
  L : LocOk X fm κ φ α ρ s.heap
section
variable {X : Wd} {fm : Fm} {κ φ ψ : Part} {α β : List Addr} {ρ : Env'} {hp hp' : Hp} {s : Shared}
theorem At.keeps {h h' : Heap} {m : Str → Option Value} {x : Str} {v : Value} (a : At fm h m x v) (e : ∀ c o, (c ∈ fm.own ∨ c ∈ fm.caps) → h.get? c = some o → h'.get? c = some o) : At fm h' m x v := by
  rcases a with a | ⟨c, k, l, o, hc⟩
  · exact .inl a
  · obtain ⟨q, hq, hd⟩ := hc
    exact .inr ⟨c, k, l, o, q, e c q o hq, hd⟩
theorem LocOk.keeps (L : LocOk X fm κ φ α ρ s.heap) (W : fm.Wf X) {h' : Heap} (hα : α <+: β) (hφ : φ.le ψ) (e : ∀ c o, (c ∈ fm.own ∨ c ∈ fm.caps) → s.heap.get? c = some o → h'.get? c = some o) : LocOk X fm κ ψ β ρ h' where
  ns := by
    obtain ⟨m, ⟨o, es, ep, ho, r⟩, k⟩ := L.ns
    exact ⟨m, ⟨o, es, ep, e _ _ (.inl W.locIn) ho, r⟩, fun i x av hi hr => let ⟨v, rv, a⟩ := k i x av hi hr; ⟨v, rv.mono hα hφ, a.keeps e⟩⟩
  cells := fun x hx => by
    obtain ⟨c, hc, o, v, q, hq, hd⟩ := L.cells x hx
    exact ⟨c, hc, o, v, q, e c q o hq, hd⟩
  len := L.len
  capsIn := fun c h => (L.capsIn c h).imp id fun ⟨o, k⟩ => ⟨o, hφ _ _ k⟩
theorem FOk.grow (F : FOk X fm κ φ α ρ hp s) (W : fm.Wf X) {h' : Heap} (e : Ext s.heap h') (tk : Nat) : FOk X fm κ φ α ρ hp { s with heap := h', toks := tk } :=
  ⟨F.H.grow e tk, F.L.keeps W (List.prefix_refl _) (Part.le_refl _) fun c o _ q => e c o q⟩
theorem FOk.tok (F : FOk X fm κ φ α ρ hp s) (tk : Nat) : FOk X fm κ φ α ρ hp { s with toks := tk } := ⟨F.H.tok tk, F.L⟩
theorem FOk.freeze (F : FOk X fm κ φ α ρ hp s) (W : fm.Wf X) {a : Addr} {o : Obj} (e : s.heap.get? a = some o) (hκ : κ a = none) (hφ : φ a = none) (hn : a ∉ X.P :: (fm.own ++ α)) : FOk X fm κ (φ.put a o) α ρ hp s :=
  ⟨F.H.freeze e hκ hφ hn, F.L.keeps W (List.prefix_refl _) (Part.le_put hφ) fun _ _ _ q => q⟩
theorem FOk.newTag (F : FOk X fm κ φ α ρ hp s) (W : fm.Wf X) {a : Addr} {x : AO} (hr : RepA X (α ++ [a]) φ s.heap a x) (hκ : κ a = none) (hφ : φ a = none) (hn : a ∉ X.P :: (fm.own ++ α)) : FOk X fm κ φ (α ++ [a]) ρ (hp ++ [x]) s :=
  ⟨F.H.newTag hr hκ hφ hn, F.L.keeps W (List.prefix_append _ _) (Part.le_refl _) fun _ _ _ q => q⟩
theorem FOk.setTag (F : FOk X fm κ φ α ρ hp s) (W : fm.Wf X) {t : Nat} {a : Addr} {x : AO} {h' : Heap} (ha : α[t]? = some a) (hs : ∀ b o, b ≠ a → s.heap.get? b = some o → h'.get? b = some o) (hr : RepA X α φ h' a x) (tk : Nat) :
    FOk X fm κ φ α ρ (hp.set t x) { s with heap := h', toks := tk } := by
  refine ⟨F.H.setTag ha hs hr tk, F.L.keeps W (List.prefix_refl _) (Part.le_refl _) fun c o hc q => hs c o ?_ q⟩
  have hmem : a ∈ α := List.mem_of_getElem? ha
  rintro rfl
  rcases hc with hc | hc
  · have hnd := F.H.nodup
    rw [List.nodup_cons, List.nodup_append] at hnd
    exact hnd.2.2.2 c hc c hmem rfl
  · rcases F.L.capsIn c hc with ⟨o', hc⟩ | ⟨o', hc⟩
    · rw [(F.H.apart c (List.mem_cons_of_mem _ (List.mem_append_right _ hmem))).1] at hc; cases hc
    · rw [(F.H.apart c (List.mem_cons_of_mem _ (List.mem_append_right _ hmem))).2] at hc; cases hc
inductive PV (X : Wd) (fm : Fm) (κ φ : Part) (α : List Addr) (ρ : Env') (hp' : Hp) (av : AV) (v : Value) (s' : Shared) : Prop
  | mk (β : List Addr) (ψ : Part) : α <+: β → φ.le ψ → FOk X fm κ ψ β ρ hp' s' → Rep X β ψ v av → PV X fm κ φ α ρ hp' av v s'
inductive PVs (X : Wd) (fm : Fm) (κ φ : Part) (α : List Addr) (ρ : Env') (hp' : Hp) (avs : List AV) (vs : List Value) (s' : Shared) : Prop
  | mk (β : List Addr) (ψ : Part) : α <+: β → φ.le ψ → FOk X fm κ ψ β ρ hp' s' → RepAll X β ψ vs avs → PVs X fm κ φ α ρ hp' avs vs s'
inductive PB (X : Wd) (fm : Fm) (κ φ : Part) (α : List Addr) (ρ : Env') (hp' : Hp) (b : Bool) (b' : Bool) (s' : Shared) : Prop
  | mk : b' = b → ∀ (β : List Addr) (ψ : Part), α <+: β → φ.le ψ → FOk X fm κ ψ β ρ hp' s' → PB X fm κ φ α ρ hp' b b' s'
noncomputable def noE : Value → Shared → Prop := fun _ _ => False
noncomputable abbrev Wp (X : Wd) (fm : Fm) {τ : Type} (t : Sem τ) (Q : τ → Shared → Prop) (s : Shared) : Prop := wpAny (model X.prog X.w) fm.A t Q noE s
noncomputable def SE (X : Wd) (G : Gl) (fm : Fm) (e : Expr) (me : ME) : Prop :=
  ∀ ρ hp av hp', evE G me ρ hp = some (av, hp') → ∀ κ φ α s, FOk X fm κ φ α ρ hp s → Wp X fm (eval e fm.env) (PV X fm κ φ α ρ hp' av) s
theorem PV.of {av : AV} {v : Value} {s' : Shared} (F : FOk X fm κ φ α ρ hp' s') (r : Rep X α φ v av) : PV X fm κ φ α ρ hp' av v s' :=
  ⟨α, φ, List.prefix_refl _, Part.le_refl _, F, r⟩
theorem PV.lift {av : AV} {v : Value} {s' : Shared} (hα : α <+: β) (hφ : φ.le ψ) (P : PV X fm κ ψ β ρ hp' av v s') : PV X fm κ φ α ρ hp' av v s' := by
  obtain ⟨β', ψ', a, b, c, d⟩ := P
  exact ⟨β', ψ', hα.trans a, Part.le_trans hφ b, c, d⟩
theorem Wp.lift {t : Sem Value} {av : AV} (hα : α <+: β) (hφ : φ.le ψ) (P : Wp X fm t (PV X fm κ ψ β ρ hp' av) s) : Wp X fm t (PV X fm κ φ α ρ hp' av) s :=
  wpAny_mono P (fun _ _ p => PV.lift hα hφ p) fun _ _ x => x
theorem Wp.any {τ : Type} {t : Sem τ} {Q : τ → Shared → Prop} {E : Value → Shared → Prop} (P : Wp X fm t Q s) : wpAny (model X.prog X.w) fm.A t Q E s := wpAny_mono P (fun _ _ z => z) fun _ _ z => z.elim
theorem SE.andThen {G : Gl} {e : Expr} {me : ME} (S : SE X G fm e me) {av : AV} (h : evE G me ρ hp = some (av, hp')) (F : FOk X fm κ φ α ρ hp s) {Q : Value → Shared → Prop}
    (k : ∀ β ψ v s', α <+: β → φ.le ψ → FOk X fm κ ψ β ρ hp' s' → Rep X β ψ v av → Q v s') : Wp X fm (eval e fm.env) Q s :=
  wpAny_mono (S ρ hp av hp' h κ φ α s F) (fun v s' ⟨β, ψ, a, b, c, d⟩ => k β ψ v s' a b c d) fun _ _ x => x
theorem load_at (W : fm.Wf X) (F : FOk X fm κ φ α ρ hp s) {i : Nat} {x : Str} {av : AV} (hx : fm.names[i]? = some x) (hr : ρ[i]? = some (some av)) {Q : Value → Shared → Prop}
    (k : ∀ v, Rep X α φ v av → Q v s) : Wp X fm (loadName fm.env x) Q s := by
  obtain ⟨m, hm, l⟩ := F.L.ns
  obtain ⟨v, r, a⟩ := l i x av hx hr
  rcases a with ⟨hk, hv⟩ | ⟨c, hk, hl, _, hc⟩
  · exact wpAny_loadName_local W.kind hk hm hv (k v r)
  · rcases hk with hk | ⟨hk, hn⟩
    · exact wpAny_loadName_cell W.kind hk hl hc (k v r)
    · exact wpAny_loadName_free W.kind hk hl hc (k v r) hn
theorem se_var (W : fm.Wf X) {G : Gl} {x : Str} {pos : Pos} {i : Nat} (hx : fm.names[i]? = some x) (hd : (x == ("__debug__" : Str)) = false) : SE X G fm (.Name x pos) (.var i) := by
  intro ρ hp av hp' h κ φ α s F
  obtain ⟨v, hv, h1⟩ := onVar_inv h
  obtain ⟨rfl, rfl⟩ := pair_inv h1
  exact wpAny_Name (load_at W F hx hv fun v r => PV.of F r) hd
theorem se_int (W : fm.Wf X) {G : Gl} {i : Int} {k : Nat} {pos : Pos} : SE X G fm (.Constant (.int i) k pos) (.int i) := by
  intro ρ hp av hp' h κ φ α s F
  obtain ⟨rfl, rfl⟩ := pair_inv h
  exact wpAny_Constant_int (PV.of (F.tok _) (.int i _))
theorem se_str (W : fm.Wf X) {G : Gl} {x : Str} {k : Nat} {pos : Pos} : SE X G fm (.Constant (.str x) k pos) (.str x.cps.toList) := by
  intro ρ hp av hp' h κ φ α s F
  obtain ⟨rfl, rfl⟩ := pair_inv h
  exact Calls.Constant_str (PV.of (F.tok _) (.str x _))
theorem se_bool (W : fm.Wf X) {G : Gl} {b : Bool} {k : Nat} {pos : Pos} : SE X G fm (.Constant (.bool b) k pos) (.bool b) := by
  intro ρ hp av hp' h κ φ α s F
  obtain ⟨rfl, rfl⟩ := pair_inv h
  exact wpAny_pure (PV.of F (.bool b))
theorem store_at (W : fm.Wf X) (F : FOk X fm κ φ α ρ hp s) {i : Nat} {x : Str} {av : AV} {v : Value} (hx : fm.names[i]? = some x) (r : Rep X α φ v av)
    (hk : fm.env.kindOf x = some .local ∨ (fm.env.kindOf x = some .cell ∧ ∀ c, fm.env.cells.lookup x = some c → c ∈ fm.own)) {Q : Unit → Shared → Prop}
    (k : ∀ s', FOk X fm κ φ α (setLoc ρ i av) hp s' → Q () s') : Wp X fm (storeName fm.env x v) Q s := by
  obtain ⟨m, hm, l⟩ := F.L.ns
  have hi : i < ρ.length := by rw [F.L.len]; exact (List.getElem?_eq_some_iff.mp hx).1
  have hnd := F.H.nodup
  rw [List.nodup_cons, List.nodup_append] at hnd
  rcases hk with hk | ⟨hk, hin⟩
  · refine wpAny_storeName_local hk hm (fun h' hn hs => k _ ⟨?_, ?_⟩) ?_
    · refine F.H.setOwn W.locIn (fun b o hb e => (hs.2 b hb).trans e) ?_ _
      obtain ⟨o, _, _, e, _⟩ := hn; exact ⟨o, e⟩
    · refine ⟨⟨_, hn, fun j y aw hj hr => ?_⟩, fun y hy => ?_, by rw [setLoc, List.length_set]; exact F.L.len, F.L.capsIn⟩
      · by_cases q : j = i
        · subst q
          rw [hx] at hj; cases hj
          simp only [setLoc, List.getElem?_set_self hi] at hr
          cases hr
          exact ⟨v, r, .inl ⟨hk, if_pos rfl⟩⟩
        · rw [setLoc, List.getElem?_set_ne (Ne.symm q)] at hr
          obtain ⟨u, ru, a⟩ := l j y aw hj hr
          have hxy : y ≠ x := by
            rintro rfl
            have h1 := List.getElem?_eq_some_iff.mp hj
            have h2 := List.getElem?_eq_some_iff.mp hx
            obtain ⟨h1, e1⟩ := h1
            obtain ⟨h2, e2⟩ := h2
            rcases Nat.lt_trichotomy i j with z | z | z
            · exact List.pairwise_iff_getElem.mp W.nodup i j h2 h1 z (e2.trans e1.symm)
            · exact q z.symm
            · exact List.pairwise_iff_getElem.mp W.nodup j i h1 h2 z (e1.trans e2.symm)
          refine ⟨u, ru, ?_⟩
          rcases a with ⟨a1, a2⟩ | ⟨c, a1, a2, a3, a4⟩
          · exact .inl ⟨a1, (if_neg hxy).trans a2⟩
          · exact .inr ⟨c, a1, a2, a3, a4.sameBut hs (W.cellsLoc _ _ a2)⟩
      · obtain ⟨c, hc, ho, u, hu⟩ := F.L.cells y hy
        exact ⟨c, hc, ho, u, hu.sameBut hs (W.cellsLoc _ _ hc)⟩
    · rw [W.kind]; rfl
  · obtain ⟨c, hc, ho, u, hu⟩ := F.L.cells x hk
    have hco := hin c hc
    have hcl := W.cellsLoc _ _ hc
    refine wpAny_storeName_cell W.kind hk hc hu (fun h' hn hs => k _ ⟨?_, ?_⟩)
    · refine F.H.setOwn hco (fun b o hb e => (hs.2 b hb).trans e) ?_ _
      obtain ⟨o, e, _⟩ := hn; exact ⟨o, e⟩
    · refine ⟨⟨m, hm.sameBut hs (Ne.symm hcl), fun j y aw hj hr => ?_⟩, fun y hy => ?_, by rw [setLoc, List.length_set]; exact F.L.len, F.L.capsIn⟩
      · by_cases q : j = i
        · subst q
          rw [hx] at hj; cases hj
          simp only [setLoc, List.getElem?_set_self hi] at hr
          cases hr
          exact ⟨v, r, .inr ⟨c, .inl hk, hc, .inl hco, hn⟩⟩
        · rw [setLoc, List.getElem?_set_ne (Ne.symm q)] at hr
          obtain ⟨w, rw', a⟩ := l j y aw hj hr
          have hxy : y ≠ x := by
            rintro rfl
            have h1 := List.getElem?_eq_some_iff.mp hj
            have h2 := List.getElem?_eq_some_iff.mp hx
            obtain ⟨h1, e1⟩ := h1
            obtain ⟨h2, e2⟩ := h2
            rcases Nat.lt_trichotomy i j with z | z | z
            · exact List.pairwise_iff_getElem.mp W.nodup i j h2 h1 z (e2.trans e1.symm)
            · exact q z.symm
            · exact List.pairwise_iff_getElem.mp W.nodup j i h1 h2 z (e1.trans e2.symm)
          refine ⟨w, rw', ?_⟩
          rcases a with a | ⟨d, a1, a2, a3, a4⟩
          · exact .inl a
          · refine .inr ⟨d, a1, a2, a3, a4.sameBut hs ?_⟩
            rintro rfl
            exact hxy (W.cellsInj _ _ _ a2 hc)
      · by_cases q : y = x
        · subst q
          exact ⟨c, hc, ho, _, hn⟩
        · obtain ⟨d, hd, ho', u', hu'⟩ := F.L.cells y hy
          refine ⟨d, hd, ho', u', hu'.sameBut hs ?_⟩
          rintro rfl
          exact q (W.cellsInj _ _ _ hd hc)
end
end Mine
end
section
namespace Mine
open PySem PyProof.Rows
section
variable {X : Wd} {fm : Fm} {κ φ ψ : Part} {α β : List Addr} {ρ : Env'} {hp hp' : Hp} {s : Shared}
theorem S_cps (x : Str) : S x.cps.toList = x := by cases x; rfl
theorem cps_append (x y : Str) : (x ++ y).cps.toList = x.cps.toList ++ y.cps.toList := by
  show (Array.append x.cps y.cps).toList = _
  simp
theorem str_len (x : Str) : x.length = x.cps.toList.length := by
  show x.cps.size = _
  simp
theorem szLine : sizeLine = szMax := by rfl
theorem foldl_rep (x : Array Nat) : ∀ (n : Nat) (acc : Array Nat), ((List.replicate n x).foldl (· ++ ·) acc).toList = acc.toList ++ rep n x.toList
  | 0, acc => by simp [rep]
  | n + 1, acc => by
    rw [List.replicate_succ, List.foldl_cons, foldl_rep x n]
    simp [rep, List.replicate_succ]
theorem mul_list_txt (x : Str) (j : Int) : (Txt.mul x j).cps.toList = rep j.toNat x.cps.toList := by
  unfold Txt.mul
  split
  · rename_i h
    have : j.toNat = 0 := by lia
    rw [this]; rfl
  · split
    · rename_i h1 h2
      rcases Bool.or_eq_true_iff.mp h2 with q | q
      · have : j.toNat = 1 := by have := beq_iff_eq.mp q; lia
        rw [this]; simp [rep]
      · have : x.cps.toList = [] := by
          have h3 : x.cps.size = 0 := beq_iff_eq.mp q
          simpa using h3
        rw [this]
        simp [rep]
    · show ((List.replicate j.toNat x.cps).foldl (· ++ ·) #[]).toList = _
      rw [foldl_rep]; simp
theorem mul_ok {x : Str} {j : Int} (h : x.cps.toList.length ≤ 1000 ∧ -1000 < j ∧ j < 1000) : MulOk x j := by
  have hx : x.length ≤ 1000 := by rw [str_len]; exact h.1
  refine ⟨?_, fun h1 h2 => ?_, fun h1 h2 => ?_⟩
  · rw [decide_eq_false (by lia), decide_eq_false (by lia)]; rfl
  · have : (9223372036854775807 : Int) / j ≥ 1000 := by
      have : (1000 : Int) * j ≤ 9223372036854775807 := by lia
      exact (Int.le_ediv_iff_mul_le (by lia)).mpr this
    have e : ((2 : Int) ^ 63 - 1) = 9223372036854775807 := by decide
    rw [e]; lia
  · unfold Builtin.Str.tooLong
    refine decide_eq_false ?_
    have : x.length * j.toNat ≤ 1000 * 1000 := Nat.mul_le_mul hx (by lia)
    rw [szLine]; unfold szMax; lia
inductive PL (X : Wd) (fm : Fm) (κ φ : Part) (α : List Addr) (ρ : Env') (hp' : Hp) (xs : List AV) (v : Value) (s' : Shared) : Prop
  | mk (β : List Addr) (ψ : Part) (a : Addr) (o : Obj) (vs : List Value) : α <+: β → φ.le ψ → FOk X fm κ ψ β ρ hp' s' → v = .ref a → s'.heap.get? a = some o → ListObj o vs → RepAll X β ψ vs xs → κ a = none → ψ a = none → a ∉ X.P :: (fm.own ++ β) → PL X fm κ φ α ρ hp' xs v s'
theorem get_size_none (h : Heap) : h.get? h.objs.size = none := by
  cases q : h.get? h.objs.size with
  | none => rfl
  | some o => exact absurd (Heap.lt_size q) (Nat.lt_irrefl _)
theorem PL.push (W : fm.Wf X) (F : FOk X fm κ φ α ρ hp s) {vs : List Value} {xs : List AV} (r : RepAll X α φ vs xs) (n tk : Nat) :
    PL X fm κ φ α ρ hp xs (.ref s.heap.objs.size) { s with heap := s.heap.push { cls := .type "list", dict := none, data := .seq vs.toArray n, slots := #[] }, toks := tk } := by
  obtain ⟨a, b, c⟩ := F.H.fresh (get_size_none s.heap)
  exact ⟨α, φ, _, _, vs, List.prefix_refl _, Part.le_refl _, F.grow W (Ext.push _ _) tk, rfl, Heap.get?_push_size _ rfl, ⟨n, rfl⟩, r, a, b, c⟩
theorem PL.lift {xs : List AV} {v : Value} {s' : Shared} (hα : α <+: β) (hφ : φ.le ψ) (P : PL X fm κ ψ β ρ hp' xs v s') : PL X fm κ φ α ρ hp' xs v s' := by
  obtain ⟨β', ψ', a, o, vs, h1, h2, h3, h4, h5, h6, h7, h8, h9, h10⟩ := P
  exact ⟨β', ψ', a, o, vs, hα.trans h1, Part.le_trans hφ h2, h3, h4, h5, h6, h7, h8, h9, h10⟩
theorem PL.frz (W : fm.Wf X) {xs : List AV} {v : Value} {s' : Shared} (P : PL X fm κ φ α ρ hp' xs v s') : PV X fm κ φ α ρ hp' (.lst xs) v s' := by
  obtain ⟨β, ψ, a, o, vs, h1, h2, F, rfl, ho, hl, r, hκ, hψ, hn⟩ := P
  exact ⟨β, ψ.put a o, h1, Part.le_trans h2 (Part.le_put hψ), F.freeze W ho hκ hψ hn, .lst (Part.put_self _ _ _) hl (r.mono (List.prefix_refl _) (Part.le_put hψ))⟩
theorem PL.mut (W : fm.Wf X) {xs : List AV} {v : Value} {s' : Shared} (P : PL X fm κ φ α ρ hp' xs v s') : PV X fm κ φ α ρ (hp' ++ [.list xs]) (.ref hp'.length) v s' := by
  obtain ⟨β, ψ, a, o, vs, h1, h2, F, rfl, ho, hl, r, hκ, hψ, hn⟩ := P
  refine ⟨β ++ [a], ψ, h1.trans (List.prefix_append _ _), h2, F.newTag W (.list ho hl (r.mono (List.prefix_append _ _) (Part.le_refl _))) hκ hψ hn, .ref ?_⟩
  rw [← F.H.len, List.getElem?_append_right (Nat.le_refl _)]; simp
theorem PV.tup (W : fm.Wf X) (F : FOk X fm κ φ α ρ hp s) {vs : List Value} {xs : List AV} (r : RepAll X α φ vs xs) (n tk : Nat) :
    PV X fm κ φ α ρ hp (.tup xs) (.ref s.heap.objs.size) { s with heap := s.heap.push { cls := .type "tuple", dict := none, data := .seq vs.toArray n, slots := #[] }, toks := tk } := by
  obtain ⟨a, b, c⟩ := F.H.fresh (get_size_none s.heap)
  have F' := F.grow W (Ext.push s.heap { cls := .type "tuple", dict := none, data := .seq vs.toArray n, slots := #[] }) tk
  refine ⟨α, φ.put s.heap.objs.size _, List.prefix_refl _, Part.le_put b, F'.freeze W (Heap.get?_push_size _ rfl) a b c, .tup (Part.put_self _ _ _) ⟨n, rfl⟩ (r.mono (List.prefix_refl _) (Part.le_put b))⟩
theorem mul_int_str {x : Str} {j : Int} {t u : Tok} {Q : Value → Shared → Prop} (hok : MulOk x j) (h : ∀ t' k, Q (.str (Txt.mul x j) t') { s with toks := k }) : Wp X fm (binaryOp .Mult (.int j u) (.str x t)) Q s := by
  refine lm_binaryOp_repeat_right (T := "str") (U := "int") (by decide) (fun s' => typeIs_int s' j u) (typeIs_str s x t) F.fills_int_mul noFill_str_mul F.slot_int_mul lm_noRepeat_int repeat_str F.slot_int_index.lookup
    (call_gives F.slot_int_mul (typeIs_int s j u) F.entry_int_mul (F.args_int_mul_2 _ _) (AutoIntG3.int___mul___int_str_0 j u x t)
      ⟨rfl, typeIs_str _ x t, call_gives F.slot_str_mul (typeIs_str s x t) F.entry_str_mul (F.args_str_mul_2 _ _) (gives_str_mul x j t u hok.1 hok.2.1 hok.2.2) ?_⟩)
  unfold Txt.mul at h
  by_cases h1 : j < 1
  · rw [if_pos h1]; have h' := h s.toks (s.toks + 1); rw [if_pos h1] at h'; exact ⟨by decide, h'⟩
  · rw [if_neg h1]; refine post_val_or_made (fun hc => fits_reps (hok.2.2 h1 (by simpa using hc))) fun t' k => ?_
    have h' := h t' k; rw [if_neg h1] at h'; exact h'
inductive TwoI (a b : Value) (P : Int → Int → Prop) : Prop
  | mk (i j : Int) (t u : Tok) : a = .int i t → b = .int j u → P i j → TwoI a b P
theorem twoI {τ : Type} {x y : AV} {a b : Value} {f : Int → Int → Option τ} {r : τ} (h : (onInt x fun i => onInt y fun j => f i j) = some r) (ra : Rep X α φ a x) (rb : Rep X α φ b y) : TwoI a b fun i j => f i j = some r := by
  obtain ⟨i, rfl, h1⟩ := onInt_inv h
  obtain ⟨j, rfl, h2⟩ := onInt_inv h1
  obtain ⟨t, e1⟩ := ra.inv_int
  obtain ⟨u, e2⟩ := rb.inv_int
  exact ⟨i, j, t, u, e1, e2, h2⟩
theorem add_ok (W : fm.Wf X) {x y av : AV} {a b : Value} (h : addA x y = some av) (F : FOk X fm κ φ α ρ hp s) (ra : Rep X α φ a x) (rb : Rep X α φ b y) :
    Wp X fm (binaryOp .Add a b) (PV X fm κ φ α ρ hp av) s := by
  cases x with
  | int i =>
    obtain ⟨j, rfl, h1⟩ := onInt_inv h
    obtain ⟨t, rfl⟩ := ra.inv_int
    obtain ⟨u, rfl⟩ := rb.inv_int
    cases h1
    exact P.add_int (PV.of (F.tok _) (.int _ _))
  | str x =>
    obtain ⟨y, rfl, h1⟩ := onStr_inv h
    obtain ⟨hz, rfl⟩ := ite_inv h1
    obtain ⟨i, t, rfl, rfl⟩ := ra.inv_str
    obtain ⟨j, u, rfl, rfl⟩ := rb.inv_str
    refine SB.add (fun t' k => PV.of (F.tok _) ?_) ?_
    · rw [← cps_append]; exact .str _ _
    · rw [szLine, str_len, str_len, ← List.length_append]; exact hz
  | tup x =>
    obtain ⟨y, rfl, h1⟩ := onTup_inv h
    obtain ⟨hz, rfl⟩ := ite_inv h1
    obtain ⟨i, n, vs, rfl, h1, h3⟩ := ra.inv_tup
    obtain ⟨j, m, ws, rfl, k1, k3⟩ := rb.inv_tup
    refine P.add_tuple (F.H.froz _ _ h1) (F.H.froz _ _ k1) ?_ ?_ ?_ ?_
    · intro q; simp at q; subst q; have := hz.2.1; simp at this; cases h3; exact this rfl
    · intro q; simp at q; subst q; have := hz.2.2; simp at this; cases k3; exact this rfl
    · have e := PV.tup W F (h3.append k3) 0 s.toks
      rw [← List.append_toArray] at e; exact e
    · have l1 := h3.length; have l2 := k3.length
      rw [szLine, List.size_toArray, List.size_toArray, l1, l2]; exact hz.1
  | _ => cases h
theorem mult_ok (W : fm.Wf X) {x y av : AV} {a b : Value} (h : mulA x y = some av) (F : FOk X fm κ φ α ρ hp s) (ra : Rep X α φ a x) (rb : Rep X α φ b y) :
    Wp X fm (binaryOp .Mult a b) (PV X fm κ φ α ρ hp av) s := by
  cases x with
  | int i =>
    obtain ⟨t, rfl⟩ := ra.inv_int
    cases y with
    | int j =>
      obtain ⟨hb, rfl⟩ := ite_inv h
      obtain ⟨u, rfl⟩ := rb.inv_int
      exact P.mul_int (PV.of (F.tok _) (.int _ _)) (IntMulOk.of_bits (Nat.le_trans (intBits_le_iff.mpr hb.1) (by decide)) (Nat.le_trans (intBits_le_iff.mpr hb.2) (by decide)))
    | str x =>
      obtain ⟨hz, rfl⟩ := ite_inv h
      obtain ⟨j, u, rfl, rfl⟩ := rb.inv_str
      refine mul_int_str (mul_ok hz) (fun t' k => PV.of (F.tok _) ?_)
      rw [← mul_list_txt]; exact .str _ _
    | _ => cases h
  | str x =>
    obtain ⟨j, rfl, h1⟩ := onInt_inv h
    obtain ⟨hz, rfl⟩ := ite_inv h1
    obtain ⟨i, t, rfl, rfl⟩ := ra.inv_str
    obtain ⟨u, rfl⟩ := rb.inv_int
    refine SB.mul (mul_ok hz) (fun t' k => PV.of (F.tok _) ?_)
    rw [← mul_list_txt]; exact .str _ _
  | _ => cases h
theorem two20 {j : Int} (h : j < 2 ^ 20) (h0 : 0 < j) : j.natAbs < 1048576 := by
  have e : (2 : Int) ^ 20 = 1048576 := by decide
  rw [e] at h; lia
theorem bin_ok (W : fm.Wf X) {op : Operator} {x y av : AV} {a b : Value} (h : binA op x y = some av) (F : FOk X fm κ φ α ρ hp s) (ra : Rep X α φ a x) (rb : Rep X α φ b y) :
    Wp X fm (binaryOp op a b) (PV X fm κ φ α ρ hp av) s := by
  cases op with
  | Add => exact add_ok W h F ra rb
  | Mult => exact mult_ok W h F ra rb
  | Sub =>
    obtain ⟨i, j, t, u, rfl, rfl, h1⟩ := twoI (r := av) (f := fun i j => some (AV.int (i - j))) h ra rb
    cases h1; exact P.sub_int (PV.of (F.tok _) (.int _ _))
  | FloorDiv =>
    obtain ⟨i, j, t, u, rfl, rfl, h1⟩ := twoI (r := av) (f := fun i j => if 0 < j ∧ j < 2 ^ 20 then some (AV.int (i.fdiv j)) else none) h ra rb
    obtain ⟨hj, rfl⟩ := ite_inv h1
    exact floordiv_int (Int.ne_of_gt hj.1) (PV.of (F.tok _) (.int _ _)) (.inl (PyProof.noPylong_small (by have := two20 hj.2 hj.1; lia)))
  | Mod =>
    obtain ⟨i, j, t, u, rfl, rfl, h1⟩ := twoI (r := av) (f := fun i j => if j = 0 then none else some (AV.int (i.fmod j))) h ra rb
    by_cases hj : j = 0
    · rw [if_pos hj] at h1; cases h1
    · rw [if_neg hj] at h1; cases h1
      exact mod_int' hj (PV.of (F.tok _) (.int _ _))
  | Pow =>
    obtain ⟨i, j, t, u, rfl, rfl, h1⟩ := twoI (r := av) (f := fun i j => if i = 10 ∧ j = 6 then some (AV.int 1000000) else none) h ra rb
    obtain ⟨⟨rfl, rfl⟩, rfl⟩ := ite_inv h1
    exact AutoIntOps.pow_4 (by decide) (by decide) (by decide) (by decide) (by decide +kernel) (PV.of (F.tok _) (.int _ _))
  | _ => cases h
end
end Mine
end
section
namespace Mine
open PySem PyProof.Rows
structure DictOk (X : Wd) (G : Gl) : Prop where
  dict : ∃ da, G.dict = .ref da ∧ (da == sysModules) = false ∧ ∀ h : Heap, (∀ a o, X.base a = some o → h.get? a = some o) → ∃ f, h.MapOf (strKind X.prog X.w) da f ∧
    ∀ k : Str, (tabGet G.tab k.cps.toList = none → f k = none) ∧ ∀ i, tabGet G.tab k.cps.toList = some i → ∃ t, f k = some (.int i t)
section
variable {X : Wd} {fm : Fm} {κ φ ψ : Part} {α β : List Addr} {ρ : Env'} {hp hp' : Hp} {s : Shared}
theorem HOk.baseIn {own : List Addr} (H : HOk X own κ φ α hp s) : ∀ a o, X.base a = some o → s.heap.get? a = some o := fun a o e => H.froz a o (H.base a o e)
inductive ItemsAt (X : Wd) (α : List Addr) (φ : Part) (h : Heap) (v : Value) (xs : List AV) : Prop
  | mk (a : Addr) (n : Nat) (vs : List Value) : v = .ref a → h.get? a = some { cls := .type "list", dict := none, data := .seq vs.toArray n, slots := #[] } → RepAll X α φ vs xs → ItemsAt X α φ h v xs
theorem items_ok {own : List Addr} (H : HOk X own κ φ α hp s) {v : Value} {x : AV} {xs : List AV} (h : items hp x = some xs) (r : Rep X α φ v x) : ItemsAt X α φ s.heap v xs := by
  cases x with
  | lst ys =>
    obtain rfl := some_inv h
    obtain ⟨a, n, vs, e, h1, h3⟩ := r.inv_lst
    exact ⟨a, n, vs, e, H.froz _ _ h1, h3⟩
  | ref t =>
    obtain ⟨ys, e, h1⟩ := onList_inv h
    obtain rfl := some_inv h1
    obtain ⟨a, rfl, ha⟩ := r.inv_ref
    obtain ⟨b, hb, q⟩ := H.obj _ _ e
    rw [ha] at hb; cases hb
    obtain ⟨n, vs, h1, h3⟩ := q.inv_list
    exact ⟨a, n, vs, rfl, h1, h3⟩
  | _ => cases h
inductive PyAt (h : Heap) (v : Value) (d : PyData) (n : Nat) : Prop
  | mk (as : List Addr) : Reads h v d as → d.canLay0 = true → d.depth ≤ n → PyAt h v d n
inductive PysAt (h : Heap) (vs : List Value) (ds : List PyData) (n : Nat) : Prop
  | mk (as : List Addr) : ReadsAll h vs ds as → PyData.canLayAll0 ds = true → PyData.depthAll ds ≤ n → PysAt h vs ds n
theorem pys_of {n : Nat} {f : AV → Option PyData} (ih : ∀ x d v, f x = some d → Rep X α φ v x → PyAt s.heap v d n) : ∀ {xs : List AV} {ds : List PyData} {vs : List Value}, toPys f xs = some ds → RepAll X α φ vs xs → PysAt s.heap vs ds n := by
  intro xs
  induction xs with
  | nil =>
    intro ds vs h r
    obtain rfl := r.inv_nil
    obtain rfl := some_inv h
    exact ⟨_, .nil, by simp [PyData.canLayAll0], by simp [PyData.depthAll]⟩
  | cons x xs ihx =>
    intro ds vs h r
    obtain ⟨v, ws, rfl, rv, rr⟩ := r.inv_cons
    obtain ⟨d, e1, h1⟩ := bind_inv h
    obtain ⟨ds', e2, rfl⟩ := mapp_inv h1
    obtain ⟨as, r1, c1, d1⟩ := ih x d v e1 rv
    obtain ⟨bs, r2, c2, d2⟩ := ihx e2 rr
    exact ⟨_, .cons r1 r2, by simp [PyData.canLayAll0, c1, c2], by rw [PyData.depthAll]; exact Nat.max_le.mpr ⟨d1, d2⟩⟩
theorem toPy_flat {own : List Addr} (H : HOk X own κ φ α hp s) {n : Nat} {x : AV} {d : PyData} {v : Value} (h : toPy hp 0 x = some d) (r : Rep X α φ v x) : PyAt s.heap v d n := by
  cases x with
  | none => cases r; obtain rfl := some_inv h; exact ⟨_, .none, by simp [PyData.canLay0], by simp [PyData.depth]⟩
  | bool b => obtain rfl := r.inv_bool; obtain rfl := some_inv h; exact ⟨_, .bool _, by simp [PyData.canLay0], by simp [PyData.depth]⟩
  | int i => obtain ⟨t, rfl⟩ := r.inv_int; obtain rfl := some_inv h; exact ⟨_, .int _ _, by simp [PyData.canLay0], by simp [PyData.depth]⟩
  | str x =>
    obtain ⟨w, t, rfl, rfl⟩ := r.inv_str
    obtain ⟨hx, h1⟩ := if_inv h
    obtain rfl := some_inv h1
    refine ⟨_, .str _ _, ?_, by simp [PyData.depth]⟩
    simp only [PyData.canLay0, PyData.strOk]
    rw [Array.all_eq_true']
    intro c hc
    have := List.all_eq_true.mp hx c (by simpa using hc)
    simpa using this
  | _ => cases h
theorem toPy_ok {own : List Addr} (H : HOk X own κ φ α hp s) (n : Nat) : ∀ {x : AV} {d : PyData} {v : Value}, toPy hp n x = some d → Rep X α φ v x → PyAt s.heap v d n := by
  induction n with
  | zero => intro x d v h r; exact toPy_flat H h r
  | succ n ih =>
    intro x d v h r
    have lists : ∀ {xs : List AV}, (toPys (toPy hp n) xs).map PyData.list = some d → ItemsAt X α φ s.heap v xs → PyAt s.heap v d (n + 1) := fun h ⟨a, m, vs, e, ho, h3⟩ => by
      subst e
      obtain ⟨ds, q, rfl⟩ := mapp_inv h
      obtain ⟨as, r', c, dd⟩ := pys_of (fun _ _ _ => ih) q h3
      exact ⟨_, .list ho rfl rfl (by simpa using r'), by simpa [PyData.canLay0] using c, by rw [PyData.depth]; lia⟩
    cases x with
    | tup xs =>
      obtain ⟨ds, q, rfl⟩ := mapp_inv h
      obtain ⟨a, m, vs, rfl, h1, h3⟩ := r.inv_tup
      obtain ⟨as, r', c, dd⟩ := pys_of (fun _ _ _ => ih) q h3
      exact ⟨_, .tuple (H.froz _ _ h1) rfl rfl (by simpa using r'), by simpa [PyData.canLay0] using c, by rw [PyData.depth]; lia⟩
    | lst xs => exact lists h (items_ok H rfl r)
    | ref t =>
      obtain ⟨ys, e, h1⟩ := onList_inv h
      exact lists h1 (items_ok H (x := .ref t) (by rw [items, e]; rfl) r)
    | none => exact toPy_flat (x := .none) H h r
    | bool b => exact toPy_flat (x := .bool b) H h r
    | int i => exact toPy_flat (x := .int i) H h r
    | str i => exact toPy_flat (x := .str i) H h r
    | _ => cases h
noncomputable def PBv (X : Wd) (fm : Fm) (κ φ : Part) (α : List Addr) (ρ : Env') (hp' : Hp) (b : Bool) (v : Value) (s' : Shared) : Prop := v = .bool b ∧ FOk X fm κ φ α ρ hp' s'
theorem int_beq (i j : Int) : (i == j) = decide (i = j) := by by_cases h : i = j <;> simp [h]
theorem int_bne (i j : Int) : (i != j) = decide (i ≠ j) := by by_cases h : i = j <;> simp [h]
theorem nats_beq (i j : List Nat) : (i == j) = decide (i = j) := by by_cases h : i = j <;> simp [h]
theorem nats_bne (i j : List Nat) : (i != j) = decide (i ≠ j) := by by_cases h : i = j <;> simp [h]
inductive Two (h : Heap) (a b : Value) (c : Bool) : Prop
  | mk (d e : PyData) (as bs : List Addr) : Reads h a d as → Reads h b e bs → d.canLay0 = true → e.canLay0 = true → d.depth ≤ 8 → e.depth ≤ 8 → c = PyData.eqv d e → Two h a b c
theorem eqv_ok (H : HOk X fm.own κ φ α hp s) {x y : AV} {c : Bool} {a b : Value} (h : eqvA hp x y = some c) (ra : Rep X α φ a x) (rb : Rep X α φ b y) : Two s.heap a b c := by
  obtain ⟨d, e1, h1⟩ := bind_inv h
  obtain ⟨e, e2, h2⟩ := mapp_inv h1
  obtain ⟨as, r1, c1, d1⟩ := toPy_ok H 8 e1 ra
  obtain ⟨bs, r2, c2, d2⟩ := toPy_ok H 8 e2 rb
  exact ⟨d, e, as, bs, r1, r2, c1, c2, d1, d2, h2.symm⟩
inductive EqK (X : Wd) (α : List Addr) (φ : Part) (hp : Hp) (x y : AV) (c : Bool) (a b : Value) : Prop
  | kii (i j : Int) (t u : Tok) : a = .int i t → b = .int j u → c = decide (i = j) → EqK X α φ hp x y c a b
  | kss (i j : Str) (t u : Tok) : a = .str i t → b = .str j u → c = decide (i.cps.toList = j.cps.toList) → EqK X α φ hp x y c a b
  | kaa : eqvA hp x y = some c → EqK X α φ hp x y c a b
theorem eq_kinds {x y : AV} {c : Bool} {a b : Value} (h : eqA hp x y = some c) (ra : Rep X α φ a x) (rb : Rep X α φ b y) : EqK X α φ hp x y c a b := by
  cases x with
  | int i =>
    cases y with
    | int j =>
      obtain ⟨t, e1⟩ := ra.inv_int
      obtain ⟨u, e2⟩ := rb.inv_int
      exact .kii i j t u e1 e2 (some_inv h).symm
    | _ => exact .kaa h
  | str i =>
    cases y with
    | str j =>
      obtain ⟨w, t, e1, rfl⟩ := ra.inv_str
      obtain ⟨z, u, e2, rfl⟩ := rb.inv_str
      exact .kss w z t u e1 e2 (some_inv h).symm
    | _ => exact .kaa h
  | _ => exact .kaa h
theorem eq_ok {n : Nat} (R : Room fm.A n) {x y : AV} {c : Bool} {a b : Value} (h : eqA hp x y = some c) (F : FOk X fm κ φ α ρ hp s) (ra : Rep X α φ a x) (rb : Rep X α φ b y) :
    Wp X fm (compareOp .Eq a b) (PBv X fm κ φ α ρ hp c) s ∧ Wp X fm (compareOp .NotEq a b) (PBv X fm κ φ α ρ hp (!c)) s := by
  have hu : fm.A.units + 8 < cLine := by have := R.2.2; have e : cLine = 9900 := rfl; lia
  cases eq_kinds h ra rb with
  | kii i j t u e1 e2 e3 => subst e1; subst e2; subst e3; exact ⟨P.eq_int ⟨by rw [int_beq], F⟩, P.ne_int ⟨by rw [int_bne, decide_not], F⟩⟩
  | kss i j t u e1 e2 e3 => subst e1; subst e2; subst e3; exact ⟨P.eq_str ⟨by rw [nats_beq], F⟩, P.ne_str ⟨by rw [nats_bne, decide_not], F⟩⟩
  | kaa h =>
    obtain ⟨d, e, as, bs, r1, r2, c1, c2, d1, d2, rfl⟩ := eqv_ok F.H h ra rb
    exact ⟨SeqAt.compareEq_reads r1 r2 c1 c2 (by lia) ⟨rfl, F⟩, SeqAt.compareNe_reads r1 r2 c1 c2 (by lia) ⟨rfl, F⟩⟩
theorem is_ok {x y : AV} {c : Bool} {a b : Value} (h : isA x y = some c) (F : FOk X fm κ φ α ρ hp s) (ra : Rep X α φ a x) (rb : Rep X α φ b y) :
    Wp X fm (compareOp .Is a b) (PBv X fm κ φ α ρ hp c) s ∧ Wp X fm (compareOp .IsNot a b) (PBv X fm κ φ α ρ hp (!c)) s := by
  cases x with
  | bool p =>
    cases y with
    | bool q =>
      cases q with
      | true =>
        obtain rfl := some_inv h
        obtain rfl := ra.inv_bool
        obtain rfl := rb.inv_bool
        exact ⟨wpAny_is_plain rfl ⟨by cases p <;> rfl, F⟩, wpAny_isNot_plain rfl ⟨by cases p <;> rfl, F⟩⟩
      | false => cases h
    | _ => cases h
  | _ => cases h
theorem notIn_ok {G : Gl} (D : DictOk X G) {x y : AV} {c : Bool} {a b : Value} (h : notInA G x y = some c) (F : FOk X fm κ φ α ρ hp s) (ra : Rep X α φ a x) (rb : Rep X α φ b y) :
    Wp X fm (compareOp .NotIn a b) (PBv X fm κ φ α ρ hp c) s := by
  obtain ⟨x, rfl, h1⟩ := onStr_inv h
  cases y with
  | cst d =>
    obtain ⟨hd, h2⟩ := if_inv h1
    obtain rfl := some_inv h2
    obtain ⟨i, t, rfl, rfl⟩ := ra.inv_str
    obtain ⟨da, e, hs, k⟩ := D.dict
    obtain ⟨f, hf, q⟩ := k s.heap F.H.baseIn
    have eb := rb.inv_cst
    rw [hd, e] at eb
    subst eb
    refine wpAny_notIn_of (strKind_is X.prog X.w i t) hs hf ⟨?_, F.tok _⟩
    cases z : tabGet G.tab i.cps.toList with
    | none => rw [(q i).1 z]; rfl
    | some w => obtain ⟨u, e⟩ := (q i).2 w z; rw [e]; rfl
  | _ => cases h1
theorem cmp_ok {n : Nat} (W : fm.Wf X) (R : Room fm.A n) {G : Gl} (D : DictOk X G) {op : CmpOp} {x y : AV} {c : Bool} {a b : Value} (h : cmpA G hp op x y = some c) (F : FOk X fm κ φ α ρ hp s) (ra : Rep X α φ a x) (rb : Rep X α φ b y) :
    Wp X fm (compareOp op a b) (PBv X fm κ φ α ρ hp c) s := by
  cases op with
  | Lt => obtain ⟨i, j, t, u, rfl, rfl, h1⟩ := twoI (r := c) (f := fun i j => some (decide (i < j))) h ra rb; obtain rfl := some_inv h1; exact P.lt_int ⟨rfl, F⟩
  | LtE => obtain ⟨i, j, t, u, rfl, rfl, h1⟩ := twoI (r := c) (f := fun i j => some (decide (i ≤ j))) h ra rb; obtain rfl := some_inv h1; exact P.le_int ⟨rfl, F⟩
  | Gt => obtain ⟨i, j, t, u, rfl, rfl, h1⟩ := twoI (r := c) (f := fun i j => some (decide (i > j))) h ra rb; obtain rfl := some_inv h1; exact P.gt_int ⟨rfl, F⟩
  | GtE => obtain ⟨i, j, t, u, rfl, rfl, h1⟩ := twoI (r := c) (f := fun i j => some (decide (i ≥ j))) h ra rb; obtain rfl := some_inv h1; exact P.ge_int ⟨rfl, F⟩
  | Eq => exact (eq_ok R h F ra rb).1
  | NotEq => obtain ⟨d, e, rfl⟩ := mapp_inv h; exact (eq_ok R e F ra rb).2
  | In =>
    obtain ⟨x, rfl, h1⟩ := onStr_inv h
    obtain ⟨y, rfl, h2⟩ := onStr_inv h1
    obtain rfl := some_inv h2
    obtain ⟨i, t, rfl, rfl⟩ := ra.inv_str
    obtain ⟨j, u, rfl, rfl⟩ := rb.inv_str
    exact SB.contains ⟨rfl, F⟩
  | NotIn => exact notIn_ok D h F ra rb
  | Is => exact (is_ok h F ra rb).1
  | IsNot => obtain ⟨d, e, rfl⟩ := mapp_inv h; exact (is_ok e F ra rb).2
end
end Mine
end
section
namespace Mine
open PySem PyProof.Rows
section
variable {X : Wd} {fm : Fm} {κ φ ψ : Part} {α β : List Addr} {ρ : Env'} {hp hp' : Hp} {s : Shared}
theorem seqIdx {τ : Type} {xs : List τ} {i : Int} {v : τ} (h : atIdx xs i = some v) : ∃ k, seqIndex? i xs.length = some k ∧ xs[k]? = some v ∧ i.natAbs < 2 ^ 30 := by
  unfold atIdx at h
  split at h
  · rename_i hb
    split at h
    · rename_i h0
      refine ⟨i.toNat, ?_, h, hb⟩
      have := (List.getElem?_eq_some_iff.mp h).1
      unfold seqIndex?
      simp only [show ¬ i < 0 by lia, if_false]
      rw [if_pos]
      simp; lia
    · split at h
      · rename_i h0 h1
        refine ⟨(i + xs.length).toNat, ?_, h, hb⟩
        have := (List.getElem?_eq_some_iff.mp h).1
        unfold seqIndex?
        simp only [show i < 0 by lia, if_true]
        rw [if_pos]
        simp; lia
      · cases h
  · cases h
theorem small {i : Int} (h : i.natAbs < 2 ^ 30) : -(2 ^ 63) ≤ i ∧ i < 2 ^ 63 := by
  have e : (2 : Nat) ^ 30 = 1073741824 := by decide
  rw [e] at h
  constructor <;> lia
inductive Idx (X : Wd) (fm : Fm) (s : Shared) (a b : Value) (Q : Value → Shared → Prop) : Prop
  | mk (T id : String) : s.TypeIs a T → typeLookup (.type T) "__getitem__" = pure (some (.builtin id)) → Wp X fm (getItem a b) Q s → Idx X fm s a b Q
theorem neg_le {i : Int} {n : Nat} (h : 0 ≤ i + n) : -(n : Int) ≤ i := by lia
theorem at_lt {τ : Type} {xs : List τ} {k : Nat} {v : τ} (h : xs[k]? = some v) : k < xs.length := (List.getElem?_eq_some_iff.mp h).1
theorem idx_str (W : fm.Wf X) {x : Str} {t u : Tok} {i : Int} {c : Nat} (q : atIdx x.cps.toList i = some c) (F : FOk X fm κ φ α ρ hp s) : Idx X fm s (.str x t) (.int i u) (PV X fm κ φ α ρ hp (.str [c])) := by
  obtain ⟨k, hk, hc, hb⟩ := seqIdx q
  have hs := small hb
  have hch : Txt.charAt x i = some c := by
    unfold Txt.charAt
    rw [str_len, hk]; simpa using hc
  refine ⟨"str", _, typeIs_str s x t, PySem.F.slot_str_getitem.lookup, ?_⟩
  refine SB.getItem ?_ (by rw [hch]; rfl) (PV.of (F.tok _) ?_)
  · unfold fitsSsize; rw [decide_eq_false (by lia), decide_eq_false (by lia)]; rfl
  · have e : ([c] : List Nat) = (Txt.item x i).cps.toList := by unfold Txt.item; rw [hch]; rfl
    rw [e]; exact .str _ _
theorem idx_tup (W : fm.Wf X) {a : Addr} {n : Nat} {vs : List Value} {xs : List AV} {v : AV} {u : Tok} {i : Int} (q : atIdx xs i = some v) (F : FOk X fm κ φ α ρ hp s)
    (h1 : φ a = some { cls := .type "tuple", dict := none, data := .seq vs.toArray n, slots := #[] }) (h3 : RepAll X α φ vs xs) : Idx X fm s (.ref a) (.int i u) (PV X fm κ φ α ρ hp v) := by
  obtain ⟨k, hk, hc, hb⟩ := seqIdx q
  have hs := small hb
  obtain ⟨v, hv, rv⟩ := h3.get hc
  refine ⟨"tuple", _, ⟨_, F.H.froz _ _ h1, rfl⟩, PySem.F.slot_tuple_getitem.lookup, P.getItem_tuple (k := k) (y := v) (F.H.froz _ _ h1) hs.1 hs.2 ?_ ?_ (PV.of F rv)⟩
  · rw [List.size_toArray, h3.length]; exact hk
  · simpa using hv
theorem idx_list (W : fm.Wf X) {a : Value} {xs : List AV} {v : AV} {u : Tok} {i : Int} (q : atIdx xs i = some v) (F : FOk X fm κ φ α ρ hp s) (I : ItemsAt X α φ s.heap a xs) : Idx X fm s a (.int i u) (PV X fm κ φ α ρ hp v) := by
  obtain ⟨a, n, vs, rfl, ho, r⟩ := I
  have hL : s.heap.IsList a vs.toArray := ⟨_, ho, rfl, n, rfl⟩
  refine ⟨"list", _, hL.typeIs, slot_list_getitem.lookup, ?_⟩
  obtain ⟨hb, h1⟩ := if_inv (o := if 0 ≤ i then xs[i.toNat]? else if 0 ≤ i + xs.length then xs[(i + xs.length).toNat]? else none) q
  have hs := small hb
  by_cases h0 : 0 ≤ i
  · rw [if_pos h0] at h1
    obtain ⟨v, hv, rv⟩ := r.get h1
    exact wpAny_getItem_list hL h0 hs.2 (by simpa using hv) (PV.of F rv)
  · rw [if_neg h0] at h1
    obtain ⟨h2, h3⟩ := if_inv h1
    obtain ⟨v, hv, rv⟩ := r.get h3
    refine wpAny_getItem_list_neg hL (Int.not_le.mp h0) ?_ hs.1 ?_ (PV.of F rv)
    · rw [List.size_toArray, r.length]; exact neg_le h2
    · rw [List.size_toArray, r.length]; simpa using hv
theorem idx_ok (W : fm.Wf X) {x y av : AV} {a b : Value} (h : idxA hp x y = some av) (F : FOk X fm κ φ α ρ hp s) (ra : Rep X α φ a x) (rb : Rep X α φ b y) : Idx X fm s a b (PV X fm κ φ α ρ hp av) := by
  obtain ⟨i, rfl, h⟩ := onInt_inv h
  obtain ⟨u, rfl⟩ := rb.inv_int
  cases x with
  | str cs =>
    obtain ⟨x, t, rfl, rfl⟩ := ra.inv_str
    obtain ⟨c, q, rfl⟩ := mapp_inv h
    exact idx_str W q F
  | tup xs =>
    obtain ⟨a, n, vs, rfl, h1, h3⟩ := ra.inv_tup
    exact idx_tup W h F h1 h3
  | lst xs => exact idx_list W h F (items_ok F.H rfl ra)
  | ref t =>
    obtain ⟨xs, q, h1⟩ := bind_inv h
    exact idx_list W h1 F (items_ok F.H q ra)
  | _ => cases h
theorem strSlice_list (x : Str) (l u : Option Int) : (Txt.slice x l u).cps.toList = cut x.cps.toList (l.elim 0 (clipAt x.length)) (u.elim x.length (clipAt x.length)) := by
  have e : Builtin.Str.strSliceIndices l u 1 x.length = sliceRange (sliceBounds l u none x.length).1 (sliceBounds l u none x.length).2.1 (sliceBounds l u none x.length).2.2 := by
    cases l <;> cases u <;> rfl
  rw [sliceBounds_plain, sliceRange_one] at e
  have hc : ∀ i, clipAt x.length i ≤ x.length := fun i => by unfold clipAt; lia
  have hu : u.elim x.length (clipAt x.length) ≤ x.length := by cases u <;> simp [hc]
  unfold Txt.slice
  rw [e]
  split
  · rename_i h
    simp at h
    have hn : x.cps.toList.length = x.length := by rw [str_len]
    unfold cut
    rw [List.take_of_length_le (by rw [List.length_drop]; lia)]
    have : l.elim 0 (clipAt x.length) = 0 ∨ x.length = 0 := by lia
    rcases this with q | q
    · rw [q]; rfl
    · have : x.cps.toList = [] := by rw [← List.length_eq_zero_iff]; lia
      rw [this]; simp
  · unfold cut
    rw [← pick_run]
inductive BndIs (n d : Nat) (l : Option AV) (k : Nat) : Prop
  | mk (i : Option Int) : k = i.elim d (clipAt n) → (l = none ∧ i = none ∨ ∃ j, l = some (.int j) ∧ i = some j) → BndIs n d l k
theorem bnd_elim {n d : Nat} {l : Option AV} {k : Nat} (h : bound n d l = some k) : BndIs n d l k := by
  cases l with
  | none => obtain rfl := some_inv h; exact ⟨none, rfl, .inl ⟨rfl, rfl⟩⟩
  | some v =>
    obtain ⟨i, rfl, h1⟩ := onInt_inv h
    obtain rfl := some_inv h1
    exact ⟨some i, rfl, .inr ⟨i, rfl, rfl⟩⟩
noncomputable def PartIs (X : Wd) (α : List Addr) (φ : Part) (v : Value) (l : Option AV) : Prop := match l with
  | none => v = .none
  | some x => Rep X α φ v x
theorem PartIs.part {v : Value} {l : Option AV} {i : Option Int} (p : PartIs X α φ v l) (h : l = none ∧ i = none ∨ ∃ j, l = some (.int j) ∧ i = some j) :
    IsPart v i ∧ ∃ q : Option (Int × Tok), v = partValue q ∧ q.map (·.1) = i := by
  rcases h with ⟨rfl, rfl⟩ | ⟨j, rfl, rfl⟩
  · cases p; exact ⟨.none, none, rfl, rfl⟩
  · obtain ⟨t, rfl⟩ := Rep.inv_int p; exact ⟨.int _ _, some (_, t), rfl, rfl⟩
noncomputable def sliceObj (l u : Value) : Obj := { cls := .type "slice", data := .fields #[l, u, .none] }
theorem slice_str (W : fm.Wf X) {x : Str} {t : Tok} {lo hi : Option AV} {k1 k2 : Nat} {l u : Value} (e1 : bound x.cps.toList.length 0 lo = some k1) (e2 : bound x.cps.toList.length x.cps.toList.length hi = some k2) (hz : x.cps.toList.length ≤ szMax)
    (F' : FOk X fm κ φ α ρ hp { s with heap := s.heap.push (sliceObj l u) }) (rl : PartIs X α φ l lo) (ru : PartIs X α φ u hi) :
    Idx X fm { s with heap := s.heap.push (sliceObj l u) } (.str x t) (.ref s.heap.objs.size) (PV X fm κ φ α ρ hp (.str (cut x.cps.toList k1 k2))) := by
  obtain ⟨i, rfl, hi'⟩ := bnd_elim e1
  obtain ⟨j, rfl, hj'⟩ := bnd_elim e2
  obtain ⟨p1, q1, rfl, m1⟩ := rl.part hi'
  obtain ⟨p2, q2, rfl, m2⟩ := ru.part hj'
  refine ⟨"str", _, typeIs_str _ x t, PySem.F.slot_str_getitem.lookup, ?_⟩
  refine wpAny_getItem_str_slice (l := q1) (u := q2) (st := none) ⟨_, Heap.get?_push_size _ rfl, rfl, rfl⟩ rfl ?_
  have e := strSlice_list x i j
  have hsz : (Txt.slice x i j).length ≤ sizeLine := Nat.le_trans (Txt.slice_le x _ _) (by rw [str_len]; exact hz)
  subst m1 m2
  refine post_val_or_str ⟨hsz, fun t' k => ?_⟩
  rw [← str_len, ← e]
  exact PV.of (F'.tok k) (.str _ _)
theorem slice_list (W : fm.Wf X) {a : Value} {xs : List AV} {lo hi : Option AV} {k1 k2 : Nat} {l u : Value} (e1 : bound xs.length 0 lo = some k1) (e2 : bound xs.length xs.length hi = some k2) (hz : xs.length ≤ szMax)
    (F' : FOk X fm κ φ α ρ hp { s with heap := s.heap.push (sliceObj l u) }) (I : ItemsAt X α φ (s.heap.push (sliceObj l u)) a xs) (rl : PartIs X α φ l lo) (ru : PartIs X α φ u hi) :
    Idx X fm { s with heap := s.heap.push (sliceObj l u) } a (.ref s.heap.objs.size) (PV X fm κ φ α ρ hp (.lst (cut xs k1 k2))) := by
  obtain ⟨i, rfl, hi'⟩ := bnd_elim e1
  obtain ⟨j, rfl, hj'⟩ := bnd_elim e2
  obtain ⟨p1, q1, rfl, m1⟩ := rl.part hi'
  obtain ⟨p2, q2, rfl, m2⟩ := ru.part hj'
  obtain ⟨b, n, vs, rfl, ho, r⟩ := I
  have hL : (s.heap.push (sliceObj (partValue q1) (partValue q2))).IsList b vs.toArray := ⟨_, ho, rfl, n, rfl⟩
  refine ⟨"list", _, ⟨_, ho, rfl⟩, slot_list_getitem.lookup, ?_⟩
  refine wpAny_getItem_list_slice hL (Heap.IsSliceOf.new _ _ _ _) p1 p2 .none (by simp) ?_ (by rw [szLine, List.size_toArray, r.length]; exact hz)
  rw [slicePick_plain]
  simp only [List.size_toArray, r.length]
  exact PL.frz W (PL.push W F' ((r.drop _).take _) 0 s.toks)
theorem cutA_inv {τ : Type} {s : List τ} {lo hi : Option AV} {f : List τ → AV} {r : AV} (h : cutA s lo hi f = some r) : ∃ k1 k2, bound s.length 0 lo = some k1 ∧ bound s.length s.length hi = some k2 ∧ s.length ≤ szMax ∧ f (cut s k1 k2) = r := by
  obtain ⟨k1, e1, h1⟩ := bind_inv h
  obtain ⟨k2, e2, h2⟩ := bind_inv h1
  obtain ⟨hz, e⟩ := ite_inv h2
  exact ⟨k1, k2, e1, e2, hz, e⟩
theorem slice_ok (W : fm.Wf X) {x av : AV} {lo hi : Option AV} {a l u : Value} (h : sliceA hp x lo hi = some av) (F : FOk X fm κ φ α ρ hp s) (ra : Rep X α φ a x) (rl : PartIs X α φ l lo) (ru : PartIs X α φ u hi) :
    Idx X fm { s with heap := s.heap.push (sliceObj l u) } a (.ref s.heap.objs.size) (PV X fm κ φ α ρ hp av) := by
  have F' := F.grow W (Ext.push s.heap (sliceObj l u)) s.toks
  have lists : ∀ {xs : List AV}, items hp x = some xs → cutA xs lo hi .lst = some av → Idx X fm { s with heap := s.heap.push (sliceObj l u) } a (.ref s.heap.objs.size) (PV X fm κ φ α ρ hp av) := fun q h1 => by
    obtain ⟨k1, k2, e1, e2, hz, rfl⟩ := cutA_inv h1
    exact slice_list W e1 e2 hz F' (items_ok F'.H q ra) rl ru
  cases x with
  | str cs =>
    obtain ⟨k1, k2, e1, e2, hz, rfl⟩ := cutA_inv h
    obtain ⟨x, t, rfl, rfl⟩ := ra.inv_str
    exact slice_str W e1 e2 hz F' rl ru
  | lst xs => exact lists rfl h
  | ref t =>
    obtain ⟨xs, q, h1⟩ := bind_inv h
    exact lists q h1
  | _ => cases h
end
end Mine
end
section
namespace Mine
open PySem PyProof.Rows
noncomputable def isName : Expr → Bool
  | .Name _ _ => true
  | _ => false
noncomputable def plainBase : Expr → Bool
  | .Call f as ks _ => !(isName f && as.isEmpty && ks.isEmpty)
  | _ => true
noncomputable def notStar : Expr → Bool
  | .Starred _ _ => false
  | _ => true
theorem base_of {o : Expr} (h : plainBase o = true) (name : Str) (env : Env) (w : Sem Value) : attributeBase o name env w = w := by
  cases o with
  | Call f as ks p =>
    cases f <;> first | rfl | (cases as <;> first | rfl | (cases ks <;> first | rfl | cases h))
  | _ => rfl
theorem star1 {e : Expr} (h : notStar e = true) (env : Env) (r : List Expr) : starEach (e :: r) env = (false, eval e env) :: starEach r env := by
  cases e <;> first | rfl | cases h
section
variable {X : Wd} {G : Gl} {fm : Fm} {κ φ ψ : Part} {α β : List Addr} {ρ : Env'} {hp hp' : Hp} {s : Shared}
theorem call_meth1 {o e : Expr} {name : Str} {apos pos : Pos} {Q : Value → Shared → Prop} (ho : plainBase o = true) (he : notStar e = true) (hline : (apos.endLine == pos.line) = true)
    (h : Wp X fm (eval o fm.env) (fun ov s₁ => MethodOnS X.prog X.w fm.A noE name ov pos [(false, eval e fm.env)] Q s₁) s) : Wp X fm (eval (.Call (.Attribute o name apos) [e] [] pos) fm.env) Q s :=
  Call_method1 (base_of ho _ _ _) (star1 he _ _) hline h
inductive Meth1 (G : Gl) (m : MN) (mo me : ME) (ρ : Env') (hp : Hp) (av : AV) (hp' : Hp) : Prop
  | mk (x : AV) (hp₁ : Hp) (y : AV) (hp₂ : Hp) : evE G mo ρ hp = some (x, hp₁) → recvOk hp₁ m x = true → evE G me ρ hp₁ = some (y, hp₂) → methA G hp₂ m x [y] = some (av, hp') → Meth1 G m mo me ρ hp av hp'
theorem evEs1' {me : ME} {xs : List AV} (h : evEs G [me] ρ hp = some (xs, hp')) : ∃ y, evE G me ρ hp = some (y, hp') ∧ xs = [y] := by
  obtain ⟨y, hp₃, e3, h1⟩ := bnd_inv h
  obtain ⟨zs, hp₄, e4, h2⟩ := bnd_inv h1
  obtain ⟨rfl, rfl⟩ := pair_inv e4
  obtain ⟨rfl, rfl⟩ := pair_inv h2
  exact ⟨y, e3, rfl⟩
theorem meth1_parts {m : MN} {mo me : ME} {av : AV} (h : evE G (.meth m mo [me]) ρ hp = some (av, hp')) : Meth1 G m mo me ρ hp av hp' := by
  obtain ⟨x, hp₁, e1, h1⟩ := bnd_inv h
  obtain ⟨hr, h2⟩ := if_inv h1
  obtain ⟨xs, hp₂, e2, h3⟩ := bnd_inv h2
  obtain ⟨y, e3, rfl⟩ := evEs1' e2
  exact ⟨x, hp₁, y, hp₂, e1, hr, e3, h3⟩
theorem mapSeq_list (vs : List Value) (n : Nat) (f : Array Value → Array Value) : ∃ m, Obj.mapSeq f { cls := .type "list", dict := none, data := .seq vs.toArray n, slots := #[] } = { cls := .type "list", dict := none, data := .seq (f vs.toArray) m, slots := #[] } :=
  ⟨_, rfl⟩
theorem list_set (W : fm.Wf X) (F : FOk X fm κ φ α ρ hp s) {t : Nat} {a : Addr} {vs us : List Value} {n : Nat} {ys : List AV} (ha : α[t]? = some a)
    (ho : s.heap.get? a = some { cls := .type "list", dict := none, data := .seq vs.toArray n, slots := #[] }) (f : Array Value → Array Value) (hf : f vs.toArray = us.toArray) (r : RepAll X α φ us ys) :
    FOk X fm κ φ α ρ (hp.set t (.list ys)) { s with heap := s.heap.update a (Obj.mapSeq f) } := by
  obtain ⟨m, e⟩ := mapSeq_list vs n f
  have hg : (s.heap.update a (Obj.mapSeq f)).get? a = some { cls := .type "list", dict := none, data := .seq us.toArray m, slots := #[] } := by
    rw [Heap.get?_update_self _ ho (by rw [e]; rfl), e, hf]
  exact F.setTag W ha (fun b o hb q => (Heap.get?_update_other _ _ (Ne.symm hb)).trans q) (.list hg ⟨m, rfl⟩ r) s.toks
inductive TagAt (X : Wd) (α : List Addr) (φ : Part) (h : Heap) (v : Value) (t : Nat) (xs : List AV) : Prop
  | mk (a : Addr) (n : Nat) (vs : List Value) : v = .ref a → α[t]? = some a → h.get? a = some { cls := .type "list", dict := none, data := .seq vs.toArray n, slots := #[] } → RepAll X α φ vs xs → TagAt X α φ h v t xs
theorem tag_list {own : List Addr} (H : HOk X own κ φ α hp s) {t : Nat} {xs : List AV} {v : Value} (e : hp[t]? = some (.list xs)) (r : Rep X α φ v (.ref t)) : TagAt X α φ s.heap v t xs := by
  obtain ⟨a, rfl, ha⟩ := r.inv_ref
  obtain ⟨b, hb, q⟩ := H.obj _ _ e
  rw [ha] at hb; cases hb
  obtain ⟨n, vs, h1, h3⟩ := q.inv_list
  exact ⟨a, n, vs, rfl, ha, h1, h3⟩
theorem isList_typ {a : Addr} {vs : List Value} {n : Nat} (ho : s.heap.get? a = some { cls := .type "list", dict := none, data := .seq vs.toArray n, slots := #[] }) :
    s.TypeIs (.ref a) "list" ∧ ∀ b, Value.ref a = .ref b → ∃ ob, s.heap.get? b = some ob ∧ ob.dict = none :=
  ⟨⟨_, ho, rfl⟩, fun b e => by cases e; exact ⟨_, ho, rfl⟩⟩
inductive Recv (α : List Addr) (s : Shared) (v : Value) (t : Nat) : Prop
  | mk (a : Addr) : v = .ref a → α[t]? = some a → s.TypeIs (.ref a) "list" → (∀ b, Value.ref a = .ref b → ∃ ob, s.heap.get? b = some ob ∧ ob.dict = none) → Recv α s v t
theorem recv_list {own : List Addr} (H : HOk X own κ φ α hp s) {t : Nat} {xs : List AV} {v : Value} (e : hp[t]? = some (.list xs)) (r : Rep X α φ v (.ref t)) : Recv α s v t := by
  obtain ⟨a, n, vs, rfl, ha, ho, _⟩ := tag_list H e r
  obtain ⟨p, q⟩ := isList_typ ho
  exact ⟨a, rfl, ha, p, q⟩
theorem listAt_inv {o : Option AO} (h : (onList o fun _ => some ()).isSome = true) : ∃ xs, o = some (.list xs) := by
  obtain ⟨u, hu⟩ := Option.isSome_iff_exists.mp h
  obtain ⟨xs, e, _⟩ := onList_inv hu
  exact ⟨xs, e⟩
theorem RepAll.snoc {vs : List Value} {xs : List AV} {v : Value} {x : AV} (h : RepAll X α φ vs xs) (r : Rep X α φ v x) : RepAll X α φ (vs ++ [v]) (xs ++ [x]) := h.append (.cons r .nil)
theorem RepAll.eraseIdx {vs : List Value} {xs : List AV} (r : RepAll X α φ vs xs) : ∀ n : Nat, RepAll X α φ (vs.eraseIdx n) (xs.eraseIdx n) :=
  r.ind (P := fun vs xs => ∀ n : Nat, RepAll X α φ (vs.eraseIdx n) (xs.eraseIdx n)) (fun n => .nil) fun _ _ _ _ h r ih n => by
    cases n with
    | zero => exact r
    | succ n => exact .cons h (ih n)
theorem RepAll.set {v : Value} {x : AV} (h' : Rep X α φ v x) {vs : List Value} {xs : List AV} (r : RepAll X α φ vs xs) : ∀ n : Nat, RepAll X α φ (vs.set n v) (xs.set n x) :=
  r.ind (P := fun vs xs => ∀ n : Nat, RepAll X α φ (vs.set n v) (xs.set n x)) (fun n => .nil) fun _ _ _ _ h r ih n => by
    cases n with
    | zero => exact .cons h' r
    | succ n => exact .cons h (ih n)
inductive AppOk (X : Wd) (fm : Fm) (κ φ : Part) (α : List Addr) (ρ : Env') (hp' : Hp) (av : AV) (v w : Value) (s : Shared) : Prop
  | mk (a : Addr) (vs : Array Value) (n : Nat) : v = .ref a → vs.size ≤ sizeLine → s.heap.get? a = some { cls := .type "list", dict := none, data := .seq vs n, slots := #[] } →
      PV X fm κ φ α ρ hp' av .none { s with heap := s.heap.update a (Obj.mapSeq fun xs => xs.push w) } → AppOk X fm κ φ α ρ hp' av v w s
theorem app_ok (W : fm.Wf X) (F₂ : FOk X fm κ φ α ρ hp s) {t : Nat} {v w : Value} {y av : AV} (h : appendA hp (.ref t) y = some (av, hp')) (r₁ : Rep X α φ v (.ref t)) (r₂ : Rep X α φ w y) : AppOk X fm κ φ α ρ hp' av v w s := by
  obtain ⟨xs, ex, h2⟩ := onList_inv (o := hp[t]?) h
  obtain ⟨hz, h3⟩ := ite_inv h2
  obtain ⟨rfl, rfl⟩ := Prod.mk.inj h3
  obtain ⟨b, n, vs, hb, hb', hob, rr⟩ := tag_list F₂.H ex r₁
  refine ⟨b, vs.toArray, n, hb, ?_, hob, PV.of (list_set W F₂ hb' hob _ (by simp) (rr.snoc r₂)) .none⟩
  rw [szLine, List.size_toArray, rr.length]; exact Nat.le_of_lt hz
theorem se_append (W : fm.Wf X) {o e : Expr} {mo me : ME} {apos pos : Pos} (So : SE X G fm o mo) (Se : SE X G fm e me) (ho : plainBase o = true) (he : notStar e = true) (hline : (apos.endLine == pos.line) = true) :
    SE X G fm (.Call (.Attribute o "append" apos) [e] [] pos) (.meth .append mo [me]) := by
  intro ρ hp av hp' h κ φ α s F
  obtain ⟨x, hp₁, y, hp₂, e1, hr, e2, h1⟩ := meth1_parts h
  obtain ⟨t, rfl, _⟩ := onTag_inv h1
  obtain ⟨xs₁, ex₁⟩ := listAt_inv hr
  refine call_meth1 ho he hline (So.andThen e1 F fun β ψ v s₁ hα hφ F₁ r₁ => ?_)
  obtain ⟨a, rfl, ha, hT, hd⟩ := recv_list F₁.H ex₁ r₁
  refine ⟨"list", _, PySem.F.plainAttrs_list, PySem.F.slot_list_append, PySem.F.type_list_append, hT, hd, P.append_list (Se.andThen e2 F₁ fun γ χ w s₂ hβ hψ F₂ r₂ => ?_)⟩
  obtain ⟨b, vs, n, hb, hz, hob, P⟩ := app_ok W F₂ h1 (r₁.mono hβ hψ) r₂
  cases hb
  exact ⟨vs, n, hz, hob, PV.lift (hα.trans hβ) (Part.le_trans hφ hψ) P⟩
inductive PopOk (X : Wd) (fm : Fm) (κ φ : Part) (α : List Addr) (ρ : Env') (hp' : Hp) (av : AV) (v w : Value) (s : Shared) : Prop
  | mk (a : Addr) (vs : Array Value) (n : Nat) (i : Int) (u : Tok) (k : Nat) (y : Value) : v = .ref a → vs.size ≤ sizeLine → w = .int i u → s.heap.get? a = some { cls := .type "list", dict := none, data := .seq vs n, slots := #[] } → Builtin.List.listFitsIndex i = true →
      seqIndex? i vs.size = some k → vs[k]? = some y → PV X fm κ φ α ρ hp' av y { s with heap := s.heap.update a (Obj.mapSeq fun xs => xs.eraseIdxIfInBounds k) } → PopOk X fm κ φ α ρ hp' av v w s
theorem idx_nat {i : Int} {n : Nat} (h0 : 0 ≤ i) (h : i.toNat < n) (hn : n ≤ 16777216) : seqIndex? i n = some i.toNat ∧ Builtin.List.listFitsIndex i = true := by
  constructor
  · unfold seqIndex?
    simp only [show ¬ i < 0 by lia, if_false]
    rw [if_pos]
    simp; lia
  · simp only [Builtin.List.listFitsIndex]; simp; lia
theorem pop_ok (W : fm.Wf X) (F₂ : FOk X fm κ φ α ρ hp s) {t : Nat} {v w : Value} {y av : AV} (h : popA hp (.ref t) y = some (av, hp')) (r₁ : Rep X α φ v (.ref t)) (r₂ : Rep X α φ w y) : PopOk X fm κ φ α ρ hp' av v w s := by
  obtain ⟨i, rfl, h2⟩ := onInt_inv (a := y) h
  obtain ⟨xs, ex, h3⟩ := onList_inv (o := hp[t]?) h2
  obtain ⟨hz, h4⟩ := if_inv h3
  obtain ⟨z, hzv, h5⟩ := mapp_inv h4
  obtain ⟨rfl, rfl⟩ := Prod.mk.inj h5
  obtain ⟨b, n, vs, hb, hb', hob, rr⟩ := tag_list F₂.H ex r₁
  obtain ⟨u, rfl⟩ := r₂.inv_int
  obtain ⟨q, hq, rq⟩ := rr.get hzv
  obtain ⟨k1, k2⟩ := idx_nat (n := vs.length) hz.1 (by rw [rr.length]; exact at_lt hzv) (by rw [rr.length]; exact hz.2)
  exact ⟨b, vs.toArray, n, i, u, i.toNat, q, hb, by rw [szLine, List.size_toArray, rr.length]; exact hz.2, rfl, hob, k2, by rw [List.size_toArray]; exact k1, by simpa using hq,
    PV.of (list_set W F₂ hb' hob _ (us := vs.eraseIdx i.toNat) (by simp) (rr.eraseIdx _)) rq⟩
theorem se_pop (W : fm.Wf X) {o e : Expr} {mo me : ME} {apos pos : Pos} (So : SE X G fm o mo) (Se : SE X G fm e me) (ho : plainBase o = true) (he : notStar e = true) (hline : (apos.endLine == pos.line) = true) :
    SE X G fm (.Call (.Attribute o "pop" apos) [e] [] pos) (.meth .pop mo [me]) := by
  intro ρ hp av hp' h κ φ α s F
  obtain ⟨x, hp₁, y, hp₂, e1, hr, e2, h1⟩ := meth1_parts h
  obtain ⟨t, rfl, _⟩ := onTag_inv h1
  obtain ⟨xs₁, ex₁⟩ := listAt_inv hr
  refine call_meth1 ho he hline (So.andThen e1 F fun β ψ v s₁ hα hφ F₁ r₁ => ?_)
  obtain ⟨a, rfl, ha, hT, hd⟩ := recv_list F₁.H ex₁ r₁
  refine ⟨"list", _, PySem.F.plainAttrs_list, PySem.F.slot_list_pop, PySem.F.type_list_pop, hT, hd, P.pop_at_list (Se.andThen e2 F₁ fun γ χ w s₂ hβ hψ F₂ r₂ => ?_)⟩
  obtain ⟨b, vs, n, i, u, k, q, hb, hz, hw, hob, k1, k2, k3, P⟩ := pop_ok W F₂ h1 (r₁.mono hβ hψ) r₂
  cases hb
  exact ⟨vs, n, i, u, k, q, hz, hw, hob, k1, k2, k3, PV.lift (hα.trans hβ) (Part.le_trans hφ hψ) P⟩
inductive ExtOk (X : Wd) (fm : Fm) (κ φ : Part) (α : List Addr) (ρ : Env') (hp' : Hp) (av : AV) (v w : Value) (s : Shared) : Prop
  | mk (a c : Addr) (vs us : Array Value) (n m : Nat) : v = .ref a → vs.size ≤ sizeLine → vs.size + us.size ≤ sizeLine + 1 → ¬(!vs.isEmpty && Builtin.List.listTooLong (vs.size + us.size)) = true → w = .ref c →
      s.heap.get? a = some { cls := .type "list", dict := none, data := .seq vs n, slots := #[] } → s.heap.get? c = some { cls := .type "list", dict := none, data := .seq us m, slots := #[] } →
      PV X fm κ φ α ρ hp' av .none { s with heap := s.heap.update a (Obj.mapSeq fun xs => xs ++ us) } → ExtOk X fm κ φ α ρ hp' av v w s
theorem ext_sizes {a b : Nat} {e : Bool} (h : a + b ≤ 1000000) : a ≤ sizeLine ∧ a + b ≤ sizeLine + 1 ∧ ¬(!e && Builtin.List.listTooLong (a + b)) = true := by
  rw [szLine]
  unfold szMax
  refine ⟨by lia, by lia, fun q => ?_⟩
  have := (Bool.and_eq_true_iff.mp q).2
  simp only [Builtin.List.listTooLong, szLine, szMax, decide_eq_true_eq] at this
  lia
theorem ext_ok (W : fm.Wf X) (F₂ : FOk X fm κ φ α ρ hp s) {t : Nat} {v w : Value} {y av : AV} (h : extendA hp (.ref t) y = some (av, hp')) (r₁ : Rep X α φ v (.ref t)) (r₂ : Rep X α φ w y) : ExtOk X fm κ φ α ρ hp' av v w s := by
  obtain ⟨xs, ex, h2⟩ := onList_inv (o := hp[t]?) h
  obtain ⟨ys, ey, h3⟩ := bind_inv h2
  obtain ⟨hz, h5⟩ := ite_inv h3
  obtain ⟨rfl, rfl⟩ := Prod.mk.inj h5
  obtain ⟨b, n, vs, hb, hb', hob, rr⟩ := tag_list F₂.H ex r₁
  obtain ⟨c, m, us, rfl, hoc, ru⟩ := items_ok F₂.H ey r₂
  obtain ⟨z1, z2, z3⟩ := ext_sizes (e := vs.toArray.isEmpty) hz
  rw [← rr.length] at z1
  rw [← rr.length, ← ru.length] at z2 z3
  exact ⟨b, c, vs.toArray, us.toArray, n, m, hb, by rw [List.size_toArray]; exact z1, by rw [List.size_toArray, List.size_toArray]; exact z2, by rw [List.size_toArray, List.size_toArray]; exact z3, rfl, hob, hoc, PV.of (list_set W F₂ hb' hob _ (us := vs ++ us) (by simp) (rr.append ru)) .none⟩
theorem se_extend (W : fm.Wf X) {o e : Expr} {mo me : ME} {apos pos : Pos} (So : SE X G fm o mo) (Se : SE X G fm e me) (ho : plainBase o = true) (he : notStar e = true) (hline : (apos.endLine == pos.line) = true) :
    SE X G fm (.Call (.Attribute o "extend" apos) [e] [] pos) (.meth .extend mo [me]) := by
  intro ρ hp av hp' h κ φ α s F
  obtain ⟨x, hp₁, y, hp₂, e1, hr, e2, h1⟩ := meth1_parts h
  obtain ⟨t, rfl, _⟩ := onTag_inv h1
  obtain ⟨xs₁, ex₁⟩ := listAt_inv hr
  refine call_meth1 ho he hline (So.andThen e1 F fun β ψ v s₁ hα hφ F₁ r₁ => ?_)
  obtain ⟨a, rfl, ha, hT, hd⟩ := recv_list F₁.H ex₁ r₁
  refine ⟨"list", _, PySem.F.plainAttrs_list, PySem.F.slot_list_extend, PySem.F.type_list_extend, hT, hd, P.extend_list (Se.andThen e2 F₁ fun γ χ w s₂ hβ hψ F₂ r₂ => ?_)⟩
  obtain ⟨b, c, vs, us, n, m, hb, z1, z2, z3, hw, hob, hoc, P⟩ := ext_ok W F₂ h1 (r₁.mono hβ hψ) r₂
  cases hb
  exact ⟨c, vs, us, n, m, z1, z2, z3, hw, hob, hoc, PV.lift (hα.trans hβ) (Part.le_trans hφ hψ) P⟩
end
end Mine
end
section
namespace Mine
open PySem PyProof.Rows
section
variable {X : Wd} {G : Gl} {fm : Fm} {κ φ ψ : Part} {α β : List Addr} {ρ : Env'} {hp hp' : Hp} {s : Shared}
theorem map_pair {τ : Type} {o : Option τ} {hp hp' : Hp} {v : τ} (h : (o.map fun r => (r, hp)) = some (v, hp')) : o = some v ∧ hp' = hp := by
  cases o with
  | none => cases h
  | some w => cases h; exact ⟨rfl, rfl⟩
theorem se_find (W : fm.Wf X) {o e : Expr} {mo me : ME} {apos pos : Pos} (So : SE X G fm o mo) (Se : SE X G fm e me) (ho : plainBase o = true) (he : notStar e = true) (hline : (apos.endLine == pos.line) = true) :
    SE X G fm (.Call (.Attribute o "find" apos) [e] [] pos) (.meth .find mo [me]) := by
  intro ρ hp av hp' h κ φ α s F
  obtain ⟨x, hp₁, y, hp₂, e1, hr, e2, h1⟩ := meth1_parts h
  obtain ⟨r, h2, e⟩ := mapp_inv h1
  obtain ⟨rfl, rfl⟩ := Prod.mk.inj e
  obtain ⟨cs, rfl, h3⟩ := onStr_inv h2
  obtain ⟨ds, rfl, h4⟩ := onStr_inv h3
  obtain rfl := some_inv h4
  refine call_meth1 ho he hline (So.andThen e1 F fun β ψ v s₁ hα hφ F₁ r₁ => ?_)
  obtain ⟨x, t, rfl, rfl⟩ := r₁.inv_str
  refine SB.find (Se.andThen e2 F₁ fun γ χ w s₂ hβ hψ F₂ r₂ => ?_)
  obtain ⟨y, u, rfl, rfl⟩ := r₂.inv_str
  refine ⟨y, u, rfl, PV.lift (hα.trans hβ) (Part.le_trans hφ hψ) (PV.of (F₂.tok _) ?_)⟩
  rw [S_cps, S_cps]; exact .int _ _
theorem intsA_rep {xs : List AV} : ∀ {vs : List Value} {l : List Int}, intsA xs = some l → RepAll X α φ vs xs → IntsAre vs l := by
  induction xs with
  | nil => intro vs l h r; obtain rfl := r.inv_nil; obtain rfl := some_inv h; exact .nil
  | cons x xs ih =>
    intro vs l h r
    obtain ⟨v, ws, rfl, hv, rr⟩ := r.inv_cons
    obtain ⟨i, rfl, h1⟩ := onInt_inv h
    obtain ⟨l', q, rfl⟩ := mapp_inv h1
    obtain ⟨t, rfl⟩ := hv.inv_int
    exact .cons _ _ (ih q rr)
noncomputable def isInt (i : Int) : Value → Bool
  | .int j _ => j == i
  | _ => false
theorem count_ints (i : Int) : ∀ {vs : List Value} {l : List Int}, IntsAre vs l → vs.countP (isInt i) = l.count i
  | _, _, .nil => rfl
  | _, _, .cons j t r => by
    rw [List.countP_cons, List.count_cons, count_ints i r]; rfl
theorem ints_mem {vs : List Value} {l : List Int} (r : IntsAre vs l) : ∀ y ∈ vs, ∃ j t, y = .int j t := by
  induction r with
  | nil => intro y h; cases h
  | cons j t r ih =>
    intro y h
    rcases List.mem_cons.mp h with e | h
    · exact ⟨_, _, e⟩
    · exact ih y h
theorem count_at {vs : List Value} {xs : List AV} {l : List Int} {j : Int} {u : Tok} {n : Nat} {b : Addr} {Q : Value → Shared → Prop} (rr : RepAll X α φ vs xs) (ql : intsA xs = some l) (hob : s.heap.get? b = some { cls := .type "list", dict := none, data := .seq vs.toArray n, slots := #[] })
    (k : ∀ tk, Q (.int (l.count j) tk) { s with toks := s.toks + 1 }) : ∃ (items : Array Value) (n : Nat) (e : Value → Bool), s.heap.get? b = some { cls := .type "list", dict := none, data := .seq items n, slots := #[] } ∧ (∀ y, y ∈ items → MeetsSeq.EqGives y (.int j u) (e y)) ∧ Q (.int (items.toList.countP e : Nat) s.toks) { s with toks := s.toks + 1 } := by
  have hi := intsA_rep ql rr
  refine ⟨vs.toArray, n, isInt j, hob, fun y hy => ?_, ?_⟩
  · obtain ⟨i, t, rfl⟩ := ints_mem hi y (by simpa using hy)
    exact MeetsSeq.EqGives.int i j t u
  · rw [count_ints j hi]; exact k _
theorem se_countL (W : fm.Wf X) {o e : Expr} {mo me : ME} {apos pos : Pos} {x : AV} {hp₁ hp₂ : Hp} {j : Int} {l : List Int} (So : SE X G fm o mo) (Se : SE X G fm e me) (ho : plainBase o = true) (he : notStar e = true) (hline : (apos.endLine == pos.line) = true)
    (e1 : evE G mo ρ hp = some (x, hp₁)) (hr : (items hp₁ x).isSome = true) (e2 : evE G me ρ hp₁ = some (.int j, hp₂)) (h2 : (items hp₂ x).bind intsA = some l) (F : FOk X fm κ φ α ρ hp s) :
    Wp X fm (eval (.Call (.Attribute o "count" apos) [e] [] pos) fm.env) (PV X fm κ φ α ρ hp₂ (.int (l.count j))) s := by
  obtain ⟨xs, q, ql⟩ := bind_inv h2
  refine call_meth1 ho he hline (So.andThen e1 F fun β ψ v s₁ hα hφ F₁ r₁ => ?_)
  obtain ⟨xs₁, ex₁⟩ := Option.isSome_iff_exists.mp hr
  obtain ⟨a, n₁, vs₁, rfl, ho₁, _⟩ := items_ok F₁.H ex₁ r₁
  obtain ⟨hT, hd⟩ := isList_typ ho₁
  refine ⟨"list", _, PySem.F.plainAttrs_list, PySem.F.slot_list_count, PySem.F.type_list_count, hT, hd, P.count_list (Se.andThen e2 F₁ fun γ χ w s₂ hβ hψ F₂ r₂ => ?_)⟩
  obtain ⟨b, n, vs, hb, hob, rr⟩ := items_ok F₂.H q (r₁.mono hβ hψ)
  cases hb
  obtain ⟨u, rfl⟩ := r₂.inv_int
  exact count_at rr ql hob fun tk => PV.lift (hα.trans hβ) (Part.le_trans hφ hψ) (PV.of (F₂.tok _) (.int _ _))
theorem recv_items {x : AV} (hn : isStrA x = false) (hr : recvOk hp .count x = true) : (items hp x).isSome = true := by
  have h : (isStrA x || (items hp x).isSome) = true := hr
  rwa [hn, Bool.false_or] at h
theorem se_count (W : fm.Wf X) {o e : Expr} {mo me : ME} {apos pos : Pos} (So : SE X G fm o mo) (Se : SE X G fm e me) (ho : plainBase o = true) (he : notStar e = true) (hline : (apos.endLine == pos.line) = true) :
    SE X G fm (.Call (.Attribute o "count" apos) [e] [] pos) (.meth .count mo [me]) := by
  intro ρ hp av hp' h κ φ α s F
  obtain ⟨x, hp₁, y, hp₂, e1, hr, e2, h1⟩ := meth1_parts h
  obtain ⟨r, h2, e⟩ := mapp_inv h1
  obtain ⟨rfl, rfl⟩ := Prod.mk.inj e
  cases x with
  | str cs =>
    obtain ⟨ds, rfl, h4⟩ := onStr_inv h2
    obtain rfl := some_inv h4
    refine call_meth1 ho he hline (So.andThen e1 F fun β ψ v s₁ hα hφ F₁ r₁ => ?_)
    obtain ⟨x, t, rfl, rfl⟩ := r₁.inv_str
    refine SB.count (Se.andThen e2 F₁ fun γ χ w s₂ hβ hψ F₂ r₂ => ?_)
    obtain ⟨y, u, rfl, rfl⟩ := r₂.inv_str
    refine ⟨y, u, rfl, PV.lift (hα.trans hβ) (Part.le_trans hφ hψ) (PV.of (F₂.tok _) ?_)⟩
    rw [S_cps, S_cps]; exact .int _ _
  | lst xs =>
    obtain ⟨j, rfl, h3⟩ := onInt_inv h2
    obtain ⟨l, h4, rfl⟩ := mapp_inv h3
    exact se_countL W So Se ho he hline e1 (recv_items rfl hr) e2 h4 F
  | ref t =>
    obtain ⟨j, rfl, h3⟩ := onInt_inv h2
    obtain ⟨l, h4, rfl⟩ := mapp_inv h3
    exact se_countL W So Se ho he hline e1 (recv_items rfl hr) e2 h4 F
  | _ => cases hr
inductive StrsAt (vs : List Value) (l : List (List Nat)) : Prop
  | mk (p : List (Str × Tok)) : vs = strValues p → p.map (fun q => q.1.cps.toList) = l → StrsAt vs l
theorem strsA_rep {xs : List AV} : ∀ {vs : List Value} {l : List (List Nat)}, strsA xs = some l → RepAll X α φ vs xs → StrsAt vs l := by
  induction xs with
  | nil => intro vs l h r; obtain rfl := r.inv_nil; obtain rfl := some_inv h; exact ⟨[], rfl, rfl⟩
  | cons x xs ih =>
    intro vs l h r
    obtain ⟨v, ws, rfl, hv, rr⟩ := r.inv_cons
    obtain ⟨i, rfl, h1⟩ := onStr_inv h
    obtain ⟨l', q, rfl⟩ := mapp_inv h1
    obtain ⟨w, t, rfl, rfl⟩ := hv.inv_str
    obtain ⟨p, rfl, e⟩ := ih q rr
    exact ⟨(w, t) :: p, rfl, by rw [List.map_cons, e]⟩
theorem join_list (x : Str) : ∀ p : List Str, (Str.join x p).cps.toList = join x.cps.toList (p.map fun q => q.cps.toList)
  | [] => rfl
  | [a] => rfl
  | a :: b :: r => by
    show ((a ++ x) ++ Str.join x (b :: r)).cps.toList = _
    rw [cps_append, cps_append, join_list x (b :: r)]
    rfl
theorem foldl_len (k : Nat) : ∀ (l : List Str) (acc : Nat), (∀ y ∈ l, y.length ≤ 10000) → l.foldl (· + ·.length + k) acc ≤ acc + l.length * (10000 + k)
  | [], acc, _ => by simp
  | y :: l, acc, h => by
    rw [List.foldl_cons]
    refine Nat.le_trans (foldl_len k l _ fun z hz => h z (.tail _ hz)) ?_
    have := h y (.head _)
    rw [List.length_cons, Nat.add_mul]
    lia
theorem join_fits {x : Str} {p : List Str} {l : List (List Nat)} (hp : p.map (fun q => q.cps.toList) = l) (hz : l.length ≤ 1000 ∧ x.cps.toList.length ≤ 1000 ∧ l.all (fun y => y.length ≤ 10000) = true) : JoinOk x p := by
  unfold JoinOk Builtin.Str.tooLong
  rw [Bool.not_eq_true']
  refine decide_eq_false ?_
  have hall : ∀ y ∈ p, y.length ≤ 10000 := by
    intro y hy
    have := List.all_eq_true.mp hz.2.2 y.cps.toList (by rw [← hp]; exact List.mem_map.mpr ⟨y, hy, rfl⟩)
    rw [str_len]; simpa using this
  have h0 := foldl_len x.length p 0 hall
  have hl : p.length ≤ 1000 := by
    have h1 := hz.1; rw [← hp] at h1; simpa using h1
  have hx : x.length ≤ 1000 := by rw [str_len]; exact hz.2.1
  have h2 : p.length * (10000 + x.length) ≤ 1000 * 11000 := Nat.mul_le_mul hl (Nat.add_le_add_left hx _)
  rw [szLine, List.foldl_toArray']
  · unfold szMax; lia
  · rfl
theorem se_join (W : fm.Wf X) {o e : Expr} {mo me : ME} {apos pos : Pos} (So : SE X G fm o mo) (Se : SE X G fm e me) (ho : plainBase o = true) (he : notStar e = true) (hline : (apos.endLine == pos.line) = true) :
    SE X G fm (.Call (.Attribute o "join" apos) [e] [] pos) (.meth .join mo [me]) := by
  intro ρ hp av hp' h κ φ α s F
  obtain ⟨x, hp₁, y, hp₂, e1, hr, e2, h1⟩ := meth1_parts h
  obtain ⟨r, h2, e⟩ := mapp_inv h1
  obtain ⟨rfl, rfl⟩ := Prod.mk.inj e
  obtain ⟨cs, rfl, h3⟩ := onStr_inv h2
  obtain ⟨l, h4, h5⟩ := bind_inv h3
  obtain ⟨xs, q, ql⟩ := bind_inv h4
  obtain ⟨hz, rfl⟩ := ite_inv h5
  refine call_meth1 ho he hline (So.andThen e1 F fun β ψ v s₁ hα hφ F₁ r₁ => ?_)
  obtain ⟨x, t, rfl, rfl⟩ := r₁.inv_str
  refine SB.join (Se.andThen e2 F₁ fun γ χ w s₂ hβ hψ F₂ r₂ => ?_)
  obtain ⟨b, n, vs, rfl, hob, rr⟩ := items_ok F₂.H q r₂
  obtain ⟨p, rfl, hp⟩ := strsA_rep ql rr
  have hp2 : (p.map (·.1)).map (fun q => q.cps.toList) = l := by rw [List.map_map]; exact hp
  refine ⟨b, p, rfl, ⟨_, hob, rfl, n, rfl⟩, p.map (·.1), rfl, join_fits hp2 hz, fun t' k => PV.lift (hα.trans hβ) (Part.le_trans hφ hψ) (PV.of (F₂.tok _) ?_)⟩
  have e : join x.cps.toList l = (Txt.join x (p.map (·.1))).cps.toList := by
    unfold Txt.join
    rw [StrLaws.glued_eq_join, join_list, hp2]
  rw [e]; exact .str _ _
end
end Mine
end
section
namespace Mine
open PySem PyProof.Rows
section
variable {X : Wd} {G : Gl} {fm : Fm} {κ φ ψ : Part} {α β : List Addr} {ρ : Env'} {hp hp' : Hp} {s : Shared}
theorem rep_strs : ∀ p : List (Str × Tok), RepAll X α φ (strValues p) (p.map fun q => .str q.1.cps.toList)
  | [] => .nil
  | (x, t) :: p => .cons (.str x t) (rep_strs p)
theorem split_ok (W : fm.Wf X) {x y : Str} {t u : Tok} (F₂ : FOk X fm κ φ α ρ hp s)
    (hz : y.cps.toList.length ≠ 0 ∧ x.cps.toList.length ≤ 1000 ∧ (Builtin.Str.partsBetween (S x.cps.toList) (Builtin.Str.occurrences (S x.cps.toList) (S y.cps.toList) 0 (S x.cps.toList).length ((S x.cps.toList).length + 1)) (S y.cps.toList).length).length ≤ szMax)
    {Q : Value → Shared → Prop} (k : ∀ v s', PV X fm κ φ α ρ hp (.lst ((Txt.split (S x.cps.toList) (S y.cps.toList)).map fun z => .str z.cps.toList)) v s' → Q v s') :
    ∃ P, Meets (Builtin.«str.split» ⟨[.str x t, .str y u], []⟩) P ∧ P fm.A (wants Q noE) s := by
  have hy : (y.length == 0) = false := by rw [str_len]; have := hz.1; simpa using this
  have hx : x.length ≤ 1000 := by rw [str_len]; exact hz.2.1
  have fin : ∀ (p : List (Str × Tok)) (tk : Nat), p.map (·.1) = Txt.split x y → Q (.ref s.heap.objs.size) { s with heap := s.heap.push { cls := .type "list", data := .seq (strValues p).toArray }, toks := tk } := fun p tk hp => by
    refine k _ _ ?_
    rw [S_cps, S_cps, ← hp, List.map_map]
    exact PL.frz W (PL.push W F₂ (rep_strs p) 0 tk)
  cases h1 : (decide (x.length < y.length) || decide (Builtin.Str.strKind x < Builtin.Str.strKind y))
  · cases hf : (Builtin.Str.occurrences x y 0 x.length (x.length + 1)).isEmpty
    · refine ⟨_, meets_str_split_sep x y t u h1 hy hf (by rw [szLine]; unfold szMax; lia) ?_, ?_⟩
      · have := hz.2.2; rw [S_cps, S_cps] at this; exact this
      · show wants _ _ _ { s with toks := _, heap := s.heap.push { cls := .type "list", data := .seq (strsFrom s.toks (Builtin.Str.partsBetween x (Builtin.Str.occurrences x y 0 x.length (x.length + 1)) y.length)).toArray } }
        rw [strsFrom_eq]
        exact fin _ _ ((numbered_texts _ _).trans ((if_neg (ne_true_of_eq_false h1)).trans (if_neg (ne_true_of_eq_false hf))).symm)
    · exact ⟨_, meets_str_split_not_found x y t u h1 hy hf, fin [(x, t)] s.toks ((if_neg (ne_true_of_eq_false h1)).trans (if_pos hf)).symm⟩
  · exact ⟨_, meets_str_split_cannot_occur x y t u h1, fin [(x, t)] s.toks (if_pos h1).symm⟩
theorem se_split (W : fm.Wf X) {o e : Expr} {mo me : ME} {apos pos : Pos} (So : SE X G fm o mo) (Se : SE X G fm e me) (ho : plainBase o = true) (he : notStar e = true) (hline : (apos.endLine == pos.line) = true) :
    SE X G fm (.Call (.Attribute o "split" apos) [e] [] pos) (.meth .split mo [me]) := by
  intro ρ hp av hp' h κ φ α s F
  obtain ⟨x, hp₁, y, hp₂, e1, hr, e2, h1⟩ := meth1_parts h
  obtain ⟨r, h2, e⟩ := mapp_inv h1
  obtain ⟨rfl, rfl⟩ := Prod.mk.inj e
  obtain ⟨cs, rfl, h3⟩ := onStr_inv h2
  obtain ⟨ds, rfl, h4⟩ := onStr_inv h3
  obtain ⟨hz, rfl⟩ := ite_inv h4
  refine call_meth1 ho he hline (So.andThen e1 F fun β ψ v s₁ hα hφ F₁ r₁ => ?_)
  obtain ⟨x, t, rfl, rfl⟩ := r₁.inv_str
  refine ⟨"str", _, PySem.F.plainAttrs_str, PySem.F.slot_str_split, PySem.F.type_str_split, typeIs_str _ _ _, (fun _ e => nomatch e),
    method1_meets PySem.F.slot_str_split PySem.F.entry_str_split (Se.andThen e2 F₁ fun γ χ w s₂ hβ hψ F₂ r₂ => ?_)⟩
  obtain ⟨y, u, rfl, rfl⟩ := r₂.inv_str
  exact ⟨typeIs_str _ _ _, PySem.F.args_str_split_2 _ _, split_ok W F₂ hz fun v s' p => PV.lift (hα.trans hβ) (Part.le_trans hφ hψ) p⟩
inductive Meth2 (G : Gl) (m : MN) (mo me me' : ME) (ρ : Env') (hp : Hp) (av : AV) (hp' : Hp) : Prop
  | mk (x : AV) (hp₁ : Hp) (y : AV) (hp₂ : Hp) (z : AV) (hp₃ : Hp) : evE G mo ρ hp = some (x, hp₁) → recvOk hp₁ m x = true → evE G me ρ hp₁ = some (y, hp₂) → evE G me' ρ hp₂ = some (z, hp₃) → methA G hp₃ m x [y, z] = some (av, hp') → Meth2 G m mo me me' ρ hp av hp'
theorem meth2_parts {m : MN} {mo me me' : ME} {av : AV} (h : evE G (.meth m mo [me, me']) ρ hp = some (av, hp')) : Meth2 G m mo me me' ρ hp av hp' := by
  obtain ⟨x, hp₁, e1, h1⟩ := bnd_inv h
  obtain ⟨hr, h2⟩ := if_inv h1
  obtain ⟨xs, hp₂, e2, h3⟩ := bnd_inv h2
  obtain ⟨y, hp₄, e3, h4⟩ := bnd_inv e2
  obtain ⟨zs, hp₅, e4, h5⟩ := bnd_inv h4
  obtain ⟨rfl, rfl⟩ := pair_inv h5
  obtain ⟨z, e5, rfl⟩ := evEs1' e4
  exact ⟨x, hp₁, y, hp₄, z, _, e1, hr, e3, e5, h3⟩
theorem call_meth2 {o e e' : Expr} {name : Str} {apos pos : Pos} {Q : Value → Shared → Prop} (ho : plainBase o = true) (he : notStar e = true) (he' : notStar e' = true) (hline : (apos.endLine == pos.line) = true)
    (h : Wp X fm (eval o fm.env) (fun ov s₁ => MethodOnS X.prog X.w fm.A noE name ov pos [(false, eval e fm.env), (false, eval e' fm.env)] Q s₁) s) : Wp X fm (eval (.Call (.Attribute o name apos) [e, e'] [] pos) fm.env) Q s :=
  Call_method2 (base_of ho _ _ _) (by rw [star1 he, star1 he']; rfl) hline h
theorem se_get (W : fm.Wf X) (D : DictOk X G) {o e e' : Expr} {mo me me' : ME} {apos pos : Pos} (So : SE X G fm o mo) (Se : SE X G fm e me) (Se' : SE X G fm e' me') (ho : plainBase o = true) (he : notStar e = true) (he' : notStar e' = true) (hline : (apos.endLine == pos.line) = true) :
    SE X G fm (.Call (.Attribute o "get" apos) [e, e'] [] pos) (.meth .get mo [me, me']) := by
  intro ρ hp av hp' h κ φ α s F
  obtain ⟨x, hp₁, y, hp₂, z, hp₃, e1, hr, e2, e3, h1⟩ := meth2_parts h
  obtain ⟨r, h2, e⟩ := mapp_inv h1
  obtain ⟨rfl, rfl⟩ := Prod.mk.inj e
  obtain ⟨d, rfl, h3⟩ := onCst_inv h2
  obtain ⟨cs, rfl, h4⟩ := onStr_inv h3
  obtain ⟨i, rfl, h5⟩ := onInt_inv h4
  obtain ⟨hd, rfl⟩ := ite_inv h5
  refine call_meth2 ho he he' hline (So.andThen e1 F fun β ψ v s₁ hα hφ F₁ r₁ => ?_)
  obtain ⟨da, e, hs, k⟩ := D.dict
  have ev := r₁.inv_cst
  rw [hd, e] at ev
  subst ev
  obtain ⟨f₁, hf₁, _⟩ := k s₁.heap F₁.H.baseIn
  refine ⟨"dict", "dict.get", PySem.F.plainAttrs_dict, PySem.F.slot_dict_get, PySem.F.type_dict_get, hf₁.typeIs, hf₁.noDict, ?_⟩
  refine wpAny_dict_get2 (knd := strKind X.prog X.w) hs (Se.andThen e2 F₁ fun γ χ w s₂ hβ hψ F₂ r₂ => Se'.andThen e3 F₂ fun γ' χ' w' s₃ hγ hχ F₃ r₃ => ?_)
  obtain ⟨y, u, rfl, rfl⟩ := r₂.inv_str
  obtain ⟨u', rfl⟩ := r₃.inv_int
  obtain ⟨f, hf, q⟩ := k s₃.heap F₃.H.baseIn
  refine ⟨y, f, strKind_is X.prog X.w y u, hf, PV.lift ((hα.trans hβ).trans hγ) (Part.le_trans (Part.le_trans hφ hψ) hχ) (PV.of (F₃.tok _) ?_)⟩
  cases z : tabGet G.tab y.cps.toList with
  | none => rw [(q y).1 z]; exact .int _ _
  | some w => obtain ⟨u₂, e⟩ := (q y).2 w z; rw [e]; exact .int _ _
end
end Mine
end
section
namespace Mine
open PySem PyProof.Rows
section
variable {X : Wd} {G : Gl} {fm : Fm} {κ φ ψ : Part} {α β : List Addr} {ρ : Env'} {hp hp' : Hp} {s : Shared}
theorem twoE {a b : ME} {x y : AV} {hp₁ : Hp} {ea eb : Expr} (Sa : SE X G fm ea a) (Sb : SE X G fm eb b) (e1 : evE G a ρ hp = some (x, hp₁)) (e2 : evE G b ρ hp₁ = some (y, hp')) (F : FOk X fm κ φ α ρ hp s)
    {Q : Value → Value → Shared → Prop} (k : ∀ β ψ v w s', α <+: β → φ.le ψ → FOk X fm κ ψ β ρ hp' s' → Rep X β ψ v x → Rep X β ψ w y → Q v w s') :
    Wp X fm (eval ea fm.env) (fun v s₁ => Wp X fm (eval eb fm.env) (fun w s₂ => Q v w s₂) s₁) s :=
  Sa.andThen e1 F fun β ψ v s₁ hα hφ F₁ r₁ => Sb.andThen e2 F₁ fun γ χ w s₂ hβ hψ F₂ r₂ => k γ χ v w s₂ (hα.trans hβ) (Part.le_trans hφ hψ) F₂ (r₁.mono hβ hψ) r₂
theorem se_bin (W : fm.Wf X) {ea eb : Expr} {a b : ME} {op : Operator} {pos : Pos} (Sa : SE X G fm ea a) (Sb : SE X G fm eb b) : SE X G fm (.BinOp ea op eb pos) (.bin op a b) := by
  intro ρ hp av hp' h κ φ α s F
  obtain ⟨x, hp₁, e1, h1⟩ := bnd_inv h
  obtain ⟨y, hp₂, e2, h2⟩ := bnd_inv h1
  obtain ⟨hm, rfl⟩ := map_pair h2
  exact wpAny_BinOp (twoE Sa Sb e1 e2 F fun β ψ v w s' hα hφ F' r1 r2 => Wp.lift hα hφ (bin_ok W hm F' r1 r2))
theorem se_cmp {n : Nat} (W : fm.Wf X) (R : Room fm.A n) (D : DictOk X G) {ea eb : Expr} {a b : ME} {op : CmpOp} {pos : Pos} (hm : behindInMarks op eb = false) (Sa : SE X G fm ea a) (Sb : SE X G fm eb b) : SE X G fm (.Compare ea [op] [eb] pos) (.cmp op a b) := by
  intro ρ hp av hp' h κ φ α s F
  obtain ⟨x, hp₁, e1, h1⟩ := bnd_inv h
  obtain ⟨y, hp₂, e2, h2⟩ := bnd_inv h1
  obtain ⟨c, q, e⟩ := mapp_inv h2
  obtain ⟨rfl, rfl⟩ := Prod.mk.inj e
  refine wpAny_Compare1 (twoE Sa Sb e1 e2 F fun β ψ v w s' hα hφ F' r1 r2 => wpAny_mono (cmp_ok W R D q F' r1 r2) (fun u s₂ hu => ?_) fun _ _ z => z) hm
  rw [hu.1]
  exact PV.lift hα hφ (PV.of hu.2 (.bool _))
theorem map_pair' {τ σ : Type} {o : Option τ} {hp hp' : σ} {v : τ} (h : (o.map fun r => (r, hp)) = some (v, hp')) : o = some v ∧ hp' = hp := by
  obtain ⟨x, q, e⟩ := mapp_inv h
  obtain ⟨rfl, rfl⟩ := Prod.mk.inj e
  exact ⟨q, rfl⟩
noncomputable def SC (X : Wd) (G : Gl) (fm : Fm) (e : Expr) (me : ME) : Prop :=
  ∀ ρ hp b hp', evC G me ρ hp = some (b, hp') → ∀ κ φ α s, FOk X fm κ φ α ρ hp s → Wp X fm (isTrue e fm.env (eval e fm.env)) (PB X fm κ φ α ρ hp' b) s
theorem PB.of {b : Bool} (F : FOk X fm κ φ α ρ hp s) : PB X fm κ φ α ρ hp b b s := ⟨rfl, α, φ, List.prefix_refl _, Part.le_refl _, F⟩
theorem PB.lift {b b' : Bool} (hα : α <+: β) (hφ : φ.le ψ) (P : PB X fm κ ψ β ρ hp' b b' s) : PB X fm κ φ α ρ hp' b b' s := by
  obtain ⟨e, γ, χ, h1, h2, F⟩ := P
  exact ⟨e, γ, χ, hα.trans h1, Part.le_trans hφ h2, F⟩
theorem SC.andThen {e : Expr} {me : ME} (S : SC X G fm e me) {b : Bool} (h : evC G me ρ hp = some (b, hp')) (F : FOk X fm κ φ α ρ hp s) {Q : Bool → Shared → Prop}
    (k : ∀ β ψ s', α <+: β → φ.le ψ → FOk X fm κ ψ β ρ hp' s' → Q b s') : Wp X fm (isTrue e fm.env (eval e fm.env)) Q s :=
  wpAny_mono (S ρ hp b hp' h κ φ α s F) (fun b' s' ⟨e, β, ψ, a, c, d⟩ => by subst e; exact k β ψ s' a c d) fun _ _ x => x
theorem sc_cmp {n : Nat} (W : fm.Wf X) (R : Room fm.A n) (D : DictOk X G) {ea eb : Expr} {a b : ME} {op : CmpOp} {pos : Pos} (hm : behindInMarks op eb = false) (Sa : SE X G fm ea a) (Sb : SE X G fm eb b) : SC X G fm (.Compare ea [op] [eb] pos) (.cmp op a b) := by
  intro ρ hp c hp' h κ φ α s F
  obtain ⟨x, hp₁, e1, h1⟩ := bnd_inv h
  obtain ⟨y, hp₂, e2, h2⟩ := bnd_inv h1
  obtain ⟨q, rfl⟩ := map_pair' h2
  refine wpAny_isTrue_Compare1 (twoE Sa Sb e1 e2 F fun β ψ v w s' hα hφ F' r1 r2 => wpAny_mono (cmp_ok W R D q F' r1 r2) (fun u s₂ hu => ?_) fun _ _ z => z) hm
  rw [hu.1]
  exact wpAny_truthy_bool (PB.lift hα hφ (PB.of hu.2))
theorem sc_and (W : fm.Wf X) {ea eb : Expr} {a b : ME} {pos : Pos} (Sa : SC X G fm ea a) (Sb : SC X G fm eb b) : SC X G fm (.BoolOp .And [ea, eb] pos) (.and a b) := by
  intro ρ hp c hp' h κ φ α s F
  obtain ⟨t, hp₁, e1, h1⟩ := bnd_inv h
  rw [arm_isTrue_BoolOp, arm_allTrue_cons]
  refine wpAny_bind (Sa.andThen e1 F fun β ψ s₁ hα hφ F₁ => ?_)
  cases t with
  | false => obtain ⟨rfl, rfl⟩ := pair_inv h1; exact wpAny_pure (PB.lift hα hφ (PB.of F₁))
  | true =>
    show Wp X fm (allTrue .And [eb] fm.env) _ _
    rw [arm_allTrue_cons]
    refine wpAny_bind (Sb.andThen h1 F₁ fun γ χ s₂ hβ hψ F₂ => ?_)
    have P := PB.lift (b := c) (hα.trans hβ) (Part.le_trans hφ hψ) (PB.of F₂)
    cases c <;> exact wpAny_pure P
theorem se_ite (W : fm.Wf X) {ec ea eb : Expr} {c a b : ME} {pos : Pos} (Sc : SC X G fm ec c) (Sa : SE X G fm ea a) (Sb : SE X G fm eb b) : SE X G fm (.IfExp ec ea eb pos) (.ite c a b) := by
  intro ρ hp av hp' h κ φ α s F
  obtain ⟨t, hp₁, e1, h1⟩ := bnd_inv h
  rw [arm_eval_IfExp]
  refine wpAny_bind (Sc.andThen e1 F fun β ψ s₁ hα hφ F₁ => Wp.lift hα hφ ?_)
  cases t with
  | true => exact Sa _ _ _ _ h1 _ _ _ _ F₁
  | false => exact Sb _ _ _ _ h1 _ _ _ _ F₁
noncomputable def notSlice : Expr → Bool
  | .Slice .. => false
  | _ => true
theorem sub_plain {i : Expr} (h : notSlice i = true) (o iv : Value) : subscripted i false o iv = operate [o, iv] (getItem o iv) := by
  cases i <;> first | rfl | cases h
theorem se_idx (W : fm.Wf X) {ea ei : Expr} {a i : ME} {pos : Pos} (hi : notSlice ei = true) (Sa : SE X G fm ea a) (Si : SE X G fm ei i) : SE X G fm (.Subscript ea ei pos) (.idx a i) := by
  intro ρ hp av hp' h κ φ α s F
  obtain ⟨x, hp₁, e1, h1⟩ := bnd_inv h
  obtain ⟨y, hp₂, e2, h2⟩ := bnd_inv h1
  obtain ⟨q, rfl⟩ := map_pair h2
  refine Subscript_ (twoE Sa Si e1 e2 F fun β ψ v w s' hα hφ F' r1 r2 => ?_)
  obtain ⟨T, id, hT, hl, hg⟩ := idx_ok W q F' r1 r2
  exact tail_any hT hl (Wp.lift hα hφ hg) (sub_plain hi _ _)
inductive PO (X : Wd) (fm : Fm) (κ φ : Part) (α : List Addr) (ρ : Env') (hp' : Hp) (l : Option AV) (v : Value) (s' : Shared) : Prop
  | mk (β : List Addr) (ψ : Part) : α <+: β → φ.le ψ → FOk X fm κ ψ β ρ hp' s' → PartIs X β ψ v l → PO X fm κ φ α ρ hp' l v s'
noncomputable def SO (X : Wd) (G : Gl) (fm : Fm) (e : Option Expr) (me : Option ME) : Prop :=
  ∀ ρ hp l hp', evO G me ρ hp = some (l, hp') → ∀ κ φ α s, FOk X fm κ φ α ρ hp s → Wp X fm (evalPart e fm.env) (PO X fm κ φ α ρ hp' l) s
theorem so_none : SO X G fm none none := by
  intro ρ hp l hp' h κ φ α s F
  obtain ⟨rfl, rfl⟩ := pair_inv h
  exact wpAny_pure ⟨α, φ, List.prefix_refl _, Part.le_refl _, F, rfl⟩
theorem so_some {e : Expr} {me : ME} (S : SE X G fm e me) : SO X G fm (some e) (some me) := by
  intro ρ hp l hp' h κ φ α s F
  obtain ⟨v, hp₁, q, h1⟩ := bnd_inv h
  obtain ⟨rfl, rfl⟩ := pair_inv h1
  exact S.andThen q F fun β ψ v s' hα hφ F' r => ⟨β, ψ, hα, hφ, F', r⟩
theorem PartIs.mono {v : Value} {l : Option AV} (p : PartIs X α φ v l) (hα : α <+: β) (hφ : φ.le ψ) : PartIs X β ψ v l := by
  cases l with
  | none => exact p
  | some x => exact Rep.mono hα hφ p
theorem se_slice (W : fm.Wf X) {ea : Expr} {el eu : Option Expr} {a : ME} {l u : Option ME} {pos p : Pos} (Sa : SE X G fm ea a) (Sl : SO X G fm el l) (Su : SO X G fm eu u) : SE X G fm (.Subscript ea (.Slice el eu none p) pos) (.slice a l u) := by
  intro ρ hp av hp' h κ φ α s F
  obtain ⟨x, hp₁, e1, h1⟩ := bnd_inv h
  obtain ⟨lo, hp₂, e2, h2⟩ := bnd_inv h1
  obtain ⟨hi, hp₃, e3, h3⟩ := bnd_inv h2
  obtain ⟨q, rfl⟩ := map_pair h3
  refine Subscript_ (Sa.andThen e1 F fun β ψ v s₁ hα hφ F₁ r₁ => wpAny_Slice (wpAny_mono (Sl _ _ _ _ e2 _ _ _ _ F₁) (fun lv s₂ P2 => ?_) fun _ _ z => z))
  obtain ⟨γ, χ, hβ, hψ, F₂, r₂⟩ := P2
  refine wpAny_mono (Su _ _ _ _ e3 _ _ _ _ F₂) (fun uv s₃ P3 => ?_) fun _ _ z => z
  obtain ⟨γ', χ', hγ, hχ, F₃, r₃⟩ := P3
  refine wpAny_pure ?_
  obtain ⟨T, id, hT, hl, hg⟩ := slice_ok W q F₃ (r₁.mono (hβ.trans hγ) (Part.le_trans hψ hχ)) (r₂.mono hγ hχ) r₃
  exact tail_any hT hl (Wp.lift ((hα.trans hβ).trans hγ) (Part.le_trans (Part.le_trans hφ hψ) hχ) hg) rfl
noncomputable def SEs (X : Wd) (G : Gl) (fm : Fm) (es : List Expr) (mes : List ME) : Prop :=
  ∀ ρ hp xs hp', evEs G mes ρ hp = some (xs, hp') → ∀ κ φ α s pos, FOk X fm κ φ α ρ hp s → Wp X fm (spliced (backTo pos (starEach es fm.env))) (PVs X fm κ φ α ρ hp' xs) s
theorem ses_nil : SEs X G fm [] [] := by
  intro ρ hp xs hp' h κ φ α s pos F
  obtain ⟨rfl, rfl⟩ := pair_inv h
  exact Calls.spliced_nil ⟨α, φ, List.prefix_refl _, Part.le_refl _, F, .nil⟩
theorem ses_cons {e : Expr} {es : List Expr} {me : ME} {mes : List ME} (he : notStar e = true) (S : SE X G fm e me) (Ss : SEs X G fm es mes) : SEs X G fm (e :: es) (me :: mes) := by
  intro ρ hp xs hp' h κ φ α s pos F
  obtain ⟨x, hp₁, e1, h1⟩ := bnd_inv h
  obtain ⟨ys, hp₂, e2, h2⟩ := bnd_inv h1
  obtain ⟨rfl, rfl⟩ := pair_inv h2
  rw [star1 he]
  refine Calls.spliced_cons (S.andThen e1 F fun β ψ v s₁ hα hφ F₁ r₁ => ?_)
  refine wpAny_mono (Ss _ _ _ _ e2 _ _ _ _ pos F₁) (fun vs s₂ P => ?_) fun _ _ z => z
  obtain ⟨γ, χ, hβ, hψ, F₂, r₂⟩ := P
  exact ⟨γ, χ, hα.trans hβ, Part.le_trans hφ hψ, F₂, .cons (r₁.mono hβ hψ) r₂⟩
theorem se_tuple (W : fm.Wf X) {es : List Expr} {mes : List ME} {k : Nat} {pos : Pos} (Ss : SEs X G fm es mes) : SE X G fm (.Tuple es k pos) (.tuple mes) := by
  intro ρ hp av hp' h κ φ α s F
  obtain ⟨xs, hp₁, e1, h1⟩ := bnd_inv h
  obtain ⟨hz, e⟩ := ite_inv h1
  obtain ⟨rfl, rfl⟩ := Prod.mk.inj e
  refine Tuple_ (wpAny_mono (Ss _ _ _ _ e1 _ _ _ _ pos F) (fun vs s₂ P => ?_) fun _ _ z => z)
  obtain ⟨γ, χ, hβ, hψ, F₂, r₂⟩ := P
  refine wpAny_newObj_type (PV.lift hβ hψ (PV.tup W F₂ r₂ 0 s₂.toks)) ?_
  show vs.toArray.size ≤ sizeLine
  rw [List.size_toArray, r₂.length, szLine]; exact hz
noncomputable def SL (X : Wd) (G : Gl) (fm : Fm) (e : Expr) (me : ME) : Prop :=
  ∀ ρ hp xs hp', evL G me ρ hp = some (xs, hp') → ∀ κ φ α s, FOk X fm κ φ α ρ hp s → Wp X fm (eval e fm.env) (PL X fm κ φ α ρ hp' xs) s
theorem se_frz (W : fm.Wf X) {e : Expr} {l : ME} (S : SL X G fm e l) : SE X G fm e (.frz l) := by
  intro ρ hp av hp' h κ φ α s F
  obtain ⟨xs, hp₁, q, h1⟩ := bnd_inv h
  obtain ⟨rfl, rfl⟩ := pair_inv h1
  exact wpAny_mono (S _ _ _ _ q _ _ _ _ F) (fun v s' P => PL.frz W P) fun _ _ z => z
theorem se_mut (W : fm.Wf X) {e : Expr} {l : ME} (S : SL X G fm e l) : SE X G fm e (.mut l) := by
  intro ρ hp av hp' h κ φ α s F
  obtain ⟨xs, hp₁, q, h1⟩ := bnd_inv h
  obtain ⟨rfl, rfl⟩ := pair_inv h1
  exact wpAny_mono (S _ _ _ _ q _ _ _ _ F) (fun v s' P => PL.mut W P) fun _ _ z => z
theorem chkL_some {xs ys : List AV} (h : (chkL xs).map (fun xs => (xs, hp)) = some (ys, hp')) : ys = xs ∧ hp' = hp ∧ xs.length ≤ szMax := by
  obtain ⟨q, rfl⟩ := map_pair' h
  obtain ⟨hz, rfl⟩ := ite_inv q
  exact ⟨rfl, rfl, hz⟩
theorem sl_disp (W : fm.Wf X) {es : List Expr} {mes : List ME} {pos : Pos} (Ss : SEs X G fm es mes) : SL X G fm (.List es pos) (.lDisp mes) := by
  intro ρ hp xs hp' h κ φ α s F
  obtain ⟨ys, hp₁, e1, h1⟩ := bnd_inv h
  obtain ⟨rfl, rfl, hz⟩ := chkL_some h1
  refine List_ (wpAny_mono (Ss _ _ _ _ e1 _ _ _ _ pos F) (fun vs s₂ P => ?_) fun _ _ z => z)
  obtain ⟨γ, χ, hβ, hψ, F₂, r₂⟩ := P
  refine wpAny_newObj_type (PL.lift hβ hψ (PL.push W F₂ r₂ 0 s₂.toks)) ?_
  show vs.toArray.size ≤ sizeLine
  rw [List.size_toArray, r₂.length, szLine]; exact hz
theorem sl_add (W : fm.Wf X) {ea eb : Expr} {a b : ME} {pos : Pos} (Sa : SE X G fm ea a) (Sb : SE X G fm eb b) : SL X G fm (.BinOp ea .Add eb pos) (.lAdd a b) := by
  intro ρ hp xs hp' h κ φ α s F
  obtain ⟨x, hp₁, e1, h1⟩ := bnd_inv h
  obtain ⟨y, hp₂, e2, h2⟩ := bnd_inv h1
  obtain ⟨us, q1, h3⟩ := bind_inv h2
  obtain ⟨ws, q2, h4⟩ := bind_inv h3
  obtain ⟨rfl, rfl, hz⟩ := chkL_some h4
  refine wpAny_BinOp (twoE Sa Sb e1 e2 F fun β ψ v w s' hα hφ F' r1 r2 => ?_)
  obtain ⟨a1, n1, vs1, rfl, o1, rr1⟩ := items_ok F'.H q1 r1
  obtain ⟨a2, n2, vs2, rfl, o2, rr2⟩ := items_ok F'.H q2 r2
  refine P.add_list o1 o2 ?_ ?_
  · have := PL.push W F' (rr1.append rr2) 0 s'.toks
    rw [← List.append_toArray] at this
    exact PL.lift hα hφ this
  · rw [List.size_toArray, List.size_toArray, rr1.length, rr2.length, szLine, ← List.length_append]; exact hz
theorem rep_all {vs : List Value} {xs : List AV} (r : RepAll X α φ vs xs) : ∀ n : Nat, RepAll X α φ (rep n vs) (rep n xs)
  | 0 => .nil
  | n + 1 => by
    simp only [rep, List.replicate_succ, List.flatten_cons]
    exact r.append (rep_all r n)
theorem mul_sizes {a : Nat} {n : Int} (h1 : a ≤ 1000) (h2 : -1000 < n ∧ n < 1000) : ¬(!Builtin.List.listFitsIndex n) = true ∧ ¬ a * n.toNat > (2 ^ 63 - 1) / 8 ∧ ¬ Builtin.List.listTooLong (a * n.toNat) = true := by
  have h3 : a * n.toNat ≤ 1000 * 1000 := Nat.mul_le_mul h1 (by lia)
  refine ⟨by simp [Builtin.List.listFitsIndex]; lia, by lia, by simp [Builtin.List.listTooLong, sizeLine]; lia⟩
theorem sl_mul (W : fm.Wf X) {ea eb : Expr} {a b : ME} {pos : Pos} (Sa : SE X G fm ea a) (Sb : SE X G fm eb b) : SL X G fm (.BinOp ea .Mult eb pos) (.lMul a b) := by
  intro ρ hp xs hp' h κ φ α s F
  obtain ⟨x, hp₁, e1, h1⟩ := bnd_inv h
  obtain ⟨y, hp₂, e2, h2⟩ := bnd_inv h1
  obtain ⟨n, rfl, h3⟩ := onInt_inv h2
  obtain ⟨us, q1, h4⟩ := bind_inv h3
  obtain ⟨hz, e⟩ := ite_inv h4
  obtain ⟨rfl, rfl⟩ := Prod.mk.inj e
  refine wpAny_BinOp (twoE Sa Sb e1 e2 F fun β ψ v w s' hα hφ F' r1 r2 => ?_)
  obtain ⟨a1, n1, vs1, rfl, o1, rr1⟩ := items_ok F'.H q1 r1
  obtain ⟨u, rfl⟩ := r2.inv_int
  obtain ⟨z1, z2, z3⟩ := mul_sizes (a := vs1.toArray.size) (n := n) (by rw [List.size_toArray, rr1.length]; exact hz.1) hz.2
  refine wpAny_binaryOp_repeat_ref (T := "list") (U := "int") (by decide) ⟨_, o1, rfl⟩ (fun s' => typeIs_int s' n u) noFill_list_mul PySem.F.fills_int_mul PySem.F.slot_int_rmul repeat_list PySem.F.slot_int_index.lookup
    (call_meets PySem.F.slot_int_rmul (typeIs_int s' n u) PySem.F.entry_int_rmul (PySem.F.args_int_rmul_2 _ _) (int___rmul___int_list n u a1 vs1.toArray n1)
      ⟨o1, rfl, ⟨_, o1, rfl⟩, call_meets PySem.F.slot_list_mul ⟨_, o1, rfl⟩ PySem.F.entry_list_mul (PySem.F.args_list_mul_2 _ _)
        (AutoListH.list___mul___list_int_3 a1 vs1.toArray n1 n u z1 z2 z3)
        ⟨o1, ?_⟩⟩)
  have := PL.push W F' (rep_all rr1 n.toNat) 0 s'.toks
  rw [show rep n.toNat vs1 = (List.replicate n.toNat vs1.toArray.toList).flatten from rfl, ← listMul_foldl_if] at this
  exact PL.lift hα hφ this
end
end Mine
end
section
namespace Mine
open PySem PyProof.Rows
noncomputable def GlobOk (X : Wd) (x : Str) (v : Value) : Prop :=
  ∀ h : Heap, (∀ a o, X.base a = some o → h.get? a = some o) → ∃ mg mb, h.Ns mainGlobals mg ∧ h.Ns builtinsNs mb ∧ (mg x = some v ∨ (mg x = none ∧ mb x = some v))
section
variable {X : Wd} {G : Gl} {fm : Fm} {κ φ ψ : Part} {α β : List Addr} {ρ : Env'} {hp hp' : Hp} {s : Shared}
theorem fits_small {n : Nat} (h : n ≤ szMax) : (n : Int) < 2 ^ 63 := by have h : n ≤ 16777216 := h; lia
theorem load_glob (W : fm.Wf X) {x : Str} {v : Value} (g : GlobOk X x v) (hk : fm.env.kindOf x = some .globalImplicit) (hd : (x == ("__debug__" : Str)) = false) {pos : Pos} (F : FOk X fm κ φ α ρ hp s) {Q : Value → Shared → Prop} (h : Q v s) :
    Wp X fm (eval (.Name x pos) fm.env) Q s := by
  obtain ⟨mg, mb, h1, h2, h3⟩ := g s.heap F.H.baseIn
  refine Calls.Name_function_global W.kind hk ?_ hd
  rcases h3 with h3 | ⟨h3, h4⟩
  · exact Calls.loadGlobal_global (W.globals ▸ h1) h3 h
  · exact Calls.loadGlobal_builtin (W.globals ▸ h1) h3 (W.builtins ▸ h2) h4 h
theorem se_glob (W : fm.Wf X) {x : Str} {v : Value} (g : GlobOk X x v) (hk : fm.env.kindOf x = some .globalImplicit) (hd : (x == ("__debug__" : Str)) = false) {pos : Pos} : SE X G fm (.Name x pos) (.glob v) := by
  intro ρ hp av hp' h κ φ α s F
  obtain ⟨rfl, rfl⟩ := pair_inv h
  exact load_glob W g hk hd F (PV.of F (.cst v))
theorem call_b1 (W : fm.Wf X) {x : Str} {id : String} (g : GlobOk X x (.builtin id)) (hk : fm.env.kindOf x = some .globalImplicit) (hd : (x == ("__debug__" : Str)) = false) {np pos : Pos} {e : Expr} (he : notStar e = true)
    (F : FOk X fm κ φ α ρ hp s) {Q : Value → Shared → Prop} (h : Wp X fm (eval e fm.env) (fun v s₁ => Wp X fm (call (.builtin id) [v]) Q s₁) s) : Wp X fm (eval (.Call (.Name x np) [e] [] pos) fm.env) Q s :=
  Call_name1 (star1 he _ _) (load_glob W g hk hd F (callWith_builtin1 h))
theorem len_list (W : fm.Wf X) {v : Value} {xs : List AV} (hz : xs.length ≤ szMax) (F : FOk X fm κ φ α ρ hp s) (I : ItemsAt X α φ s.heap v xs) : Wp X fm (call (.builtin "len") [v]) (PV X fm κ φ α ρ hp (.int xs.length)) s := by
  obtain ⟨a, m, vs, rfl, ho, rr⟩ := I
  refine Calls.call_len_list ⟨_, ho, rfl, m, rfl⟩ (by rw [List.size_toArray, rr.length]; exact fits_small hz) (PV.of (F.tok _) ?_)
  rw [List.size_toArray, rr.length]; exact .int _ _
theorem len_ok (W : fm.Wf X) {x : AV} {v : Value} {n : Nat} (q : lenA hp x = some n) (hz : n ≤ szMax) (F : FOk X fm κ φ α ρ hp s) (r : Rep X α φ v x) : Wp X fm (call (.builtin "len") [v]) (PV X fm κ φ α ρ hp (.int n)) s := by
  cases x with
  | str cs =>
    obtain rfl := some_inv q
    obtain ⟨x, t, rfl, rfl⟩ := r.inv_str
    refine P.len_str (by rw [str_len]; exact Int.not_le.mpr (fits_small hz)) (PV.of (F.tok _) ?_)
    rw [← str_len]; exact .int _ _
  | lst xs => obtain rfl := some_inv q; exact len_list W hz F (items_ok F.H rfl r)
  | ref t =>
    obtain ⟨xs, qi, rfl⟩ := mapp_inv q
    exact len_list W hz F (items_ok F.H qi r)
  | _ => cases q
theorem se_len (W : fm.Wf X) (g : GlobOk X "len" (.builtin "len")) (hk : fm.env.kindOf "len" = some .globalImplicit) {np pos : Pos} {e : Expr} {me : ME} (he : notStar e = true) (S : SE X G fm e me) : SE X G fm (.Call (.Name "len" np) [e] [] pos) (.len me) := by
  intro ρ hp av hp' h κ φ α s F
  obtain ⟨x, hp₁, e1, h1⟩ := bnd_inv h
  obtain ⟨n, q, h2⟩ := bind_inv h1
  obtain ⟨hz, e⟩ := ite_inv h2
  obtain ⟨rfl, rfl⟩ := Prod.mk.inj e
  exact call_b1 W g hk (by decide) he F (S.andThen e1 F fun β ψ v s₁ hα hφ F₁ r₁ => Wp.lift hα hφ (len_ok W q hz F₁ r₁))
theorem sum_ok (W : fm.Wf X) {v : Value} {xs : List AV} {l : List Int} (ql : intsA xs = some l) (F : FOk X fm κ φ α ρ hp s) (I : ItemsAt X α φ s.heap v xs) : Wp X fm (call (.builtin "sum") [v]) (PV X fm κ φ α ρ hp (.int l.sum)) s := by
  obtain ⟨a, m, vs, rfl, ho, rr⟩ := I
  have hi := intsA_rep ql rr
  obtain ⟨ys, hy⟩ := hi.allInts.items
  have hL : s.heap.IsList a (intItems ys) := hy ▸ ⟨_, ho, rfl, m, rfl⟩
  refine sum_intListG W.handled hL fun h' tk t' hk' => PV.of (F.grow W hk' tk) ?_
  have e2 : preSum (numAt ys) ys.size = l.sum := by
    rw [preSum_eq, List.take_of_length_le (by simp)]
    have := hi.numsOf
    rw [show vs = vs.toArray.toList from rfl, hy, nums_intItems] at this
    rw [this]
  rw [e2]; exact .int _ _
theorem se_sum (W : fm.Wf X) (g : GlobOk X "sum" (.builtin "sum")) (hk : fm.env.kindOf "sum" = some .globalImplicit) {np pos : Pos} {e : Expr} {me : ME} (he : notStar e = true) (S : SE X G fm e me) : SE X G fm (.Call (.Name "sum" np) [e] [] pos) (.sum me) := by
  intro ρ hp av hp' h κ φ α s F
  obtain ⟨x, hp₁, e1, h1⟩ := bnd_inv h
  obtain ⟨l, h2, e⟩ := mapp_inv h1
  obtain ⟨rfl, rfl⟩ := Prod.mk.inj e
  obtain ⟨xs, q, ql⟩ := bind_inv h2
  exact call_b1 W g hk (by decide) he F (S.andThen e1 F fun β ψ v s₁ hα hφ F₁ r₁ => Wp.lift hα hφ (sum_ok W ql F₁ (items_ok F₁.H q r₁)))
theorem call_b2 (W : fm.Wf X) {x : Str} {id : String} (g : GlobOk X x (.builtin id)) (hk : fm.env.kindOf x = some .globalImplicit) (hd : (x == ("__debug__" : Str)) = false) {np pos : Pos} {e e' : Expr} (he : notStar e = true) (he' : notStar e' = true)
    (F : FOk X fm κ φ α ρ hp s) {Q : Value → Shared → Prop} (h : Wp X fm (eval e fm.env) (fun v s₁ => Wp X fm (eval e' fm.env) (fun w s₂ => Wp X fm (call (.builtin id) [v, w]) Q s₂) s₁) s) : Wp X fm (eval (.Call (.Name x np) [e, e'] [] pos) fm.env) Q s := by
  show Wp X fm (do callWith pos (← eval (.Name x np) fm.env) [] (backTo pos (starEach [e, e'] fm.env)) (backToKw pos (keywordEach [] fm.env))) Q s
  rw [star1 he, star1 he']
  refine wpAny_bind (load_glob W g hk hd F ?_)
  exact Calls.callWith_builtin rfl (Calls.evalArgs_plain (Calls.spliced_cons (wpAny_mono h (fun _ _ h₁ => Calls.spliced_cons (wpAny_mono h₁ (fun _ _ h₂ => Calls.spliced_nil h₂) fun _ _ z => z)) fun _ _ z => z)))
inductive PT (X : Wd) (fm : Fm) (κ φ : Part) (α : List Addr) (ρ : Env') (hp : Hp) (b b' : Bool) (s' : Shared) : Prop
  | mk : b' = b → FOk X fm κ φ α ρ hp s' → PT X fm κ φ α ρ hp b b' s'
theorem truth_ok (W : fm.Wf X) {x : AV} {b : Bool} {v : Value} (h : truth hp x = some b) (F : FOk X fm κ φ α ρ hp s) (r : Rep X α φ v x) : Wp X fm (truthy v) (PT X fm κ φ α ρ hp b) s := by
  cases x with
  | bool c =>
    obtain rfl := some_inv h
    obtain rfl := r.inv_bool
    exact wpAny_truthy_bool ⟨rfl, F⟩
  | ref t =>
    obtain ⟨xs, e, h1⟩ := onList_inv h
    obtain ⟨hz, rfl⟩ := ite_inv h1
    obtain ⟨a, n, vs, rfl, _, ho, rr⟩ := tag_list F.H e r
    refine wpAny_truthy_list ⟨_, ho, rfl, n, rfl⟩ (by rw [List.size_toArray, rr.length]; exact fits_small hz) ⟨?_, F.tok _⟩
    cases xs with
    | nil => obtain rfl := rr.inv_nil; rfl
    | cons x xs => obtain ⟨v, ws, rfl, _, _⟩ := rr.inv_cons; rfl
  | _ => cases h
noncomputable def plainTest : Expr → Bool
  | .UnaryOp .. | .BoolOp .. | .IfExp .. | .Compare .. => false
  | _ => true
theorem isTrue_plain' {e : Expr} (h : plainTest e = true) (env : Env) (w : Sem Value) : isTrue e env w = (do let v ← w; standAt e.pos; holding [v] (truthy v)) := by
  cases e <;> first | rfl | cases h
theorem sc_var (W : fm.Wf X) {e : Expr} {i : Nat} (hp' : plainTest e = true) (S : SE X G fm e (.var i)) : SC X G fm e (.var i) := by
  intro ρ hp b hp' h κ φ α s F
  obtain ⟨v, hv, h1⟩ := onVar_inv h
  obtain ⟨q, rfl⟩ := map_pair h1
  rw [isTrue_plain' (by assumption)]
  refine wpAny_bind (S.andThen (av := v) (show onVar ρ[i]? _ = _ by rw [hv]; rfl) F fun β ψ w s₁ hα hφ F₁ r₁ => ?_)
  refine wpAny_bind (wpAny_standAt (wpAny_holding (wpAny_mono (truth_ok W q F₁ r₁) (fun b' s' P => ?_) fun _ _ z => z)))
  obtain ⟨rfl, F'⟩ := P
  exact PB.lift hα hφ (PB.of F')
theorem sc_attr (W : fm.Wf X) {e : Expr} {o : ME} {f : Nat} (hp' : plainTest e = true) (S : SE X G fm e (.attr o f)) : SC X G fm e (.attr o f) := by
  intro ρ hp b hp' h κ φ α s F
  obtain ⟨x, hp₁, e1, h1⟩ := bnd_inv h
  obtain ⟨q, rfl⟩ := map_pair h1
  obtain ⟨v, qf, q2⟩ := bind_inv q
  rw [isTrue_plain' (by assumption)]
  refine wpAny_bind (S.andThen (av := v) (hp' := hp') (show bnd (evE G o ρ hp) _ = _ by rw [e1, bnd_some, qf]; rfl) F fun β ψ w s₁ hα hφ F₁ r₁ => ?_)
  refine wpAny_bind (wpAny_standAt (wpAny_holding (wpAny_mono (truth_ok W q2 F₁ r₁) (fun b' s' P => ?_) fun _ _ z => z)))
  obtain ⟨rfl, F'⟩ := P
  exact PB.lift hα hφ (PB.of F')
end
end Mine
end
section
namespace Mine
open PySem PyProof.Rows
section
variable {X : Wd} {G : Gl} {fm : Fm} {κ φ ψ : Part} {α β : List Addr} {ρ ρ' : Env'} {hp hp' : Hp} {s : Shared}
theorem aug_ok (W : fm.Wf X) {op : Operator} {x y av : AV} {a b : Value} (h : augA op x y = some av) (F : FOk X fm κ φ α ρ hp s) (ra : Rep X α φ a x) (rb : Rep X α φ b y) :
    Wp X fm (inplaceOp op a b) (PV X fm κ φ α ρ hp av) s := by
  cases op with
  | Add =>
    cases x with
    | int i =>
      obtain ⟨j, rfl, h1⟩ := onInt_inv h
      obtain rfl := some_inv h1
      obtain ⟨t, rfl⟩ := ra.inv_int
      obtain ⟨u, rfl⟩ := rb.inv_int
      exact P.iadd_int (PV.of (F.tok _) (.int _ _))
    | str x =>
      obtain ⟨y, rfl, h1⟩ := onStr_inv h
      obtain ⟨hz, rfl⟩ := ite_inv h1
      obtain ⟨i, t, rfl, rfl⟩ := ra.inv_str
      obtain ⟨j, u, rfl, rfl⟩ := rb.inv_str
      refine SB.iadd (fun t' k => PV.of (F.tok _) ?_) ?_
      · rw [← cps_append]; exact .str _ _
      · rw [szLine, str_len, str_len, ← List.length_append]; exact hz
    | _ => cases h
  | Sub =>
    obtain ⟨i, j, t, u, rfl, rfl, h1⟩ := twoI (r := av) (f := fun i j => some (AV.int (i - j))) h ra rb
    obtain rfl := some_inv h1
    exact P.isub_int (PV.of (F.tok _) (.int _ _))
  | _ => cases h
inductive FlowIs (X : Wd) (α : List Addr) (φ : Part) : Flow → Fl → Prop
  | next : FlowIs X α φ .next .next
  | cont : FlowIs X α φ .cont .cont
  | ret {v : Value} {x : AV} : Rep X α φ v x → FlowIs X α φ (.ret v) (.ret x)
theorem FlowIs.inv_next {X : Wd} {α : List Addr} {φ : Part} {fl : Flow} : FlowIs X α φ fl .next → fl = .next
  | .next => rfl
theorem FlowIs.inv_ret {X : Wd} {α : List Addr} {φ : Part} {fl : Flow} {x : AV} : FlowIs X α φ fl (.ret x) → ∃ v, fl = .ret v ∧ Rep X α φ v x
  | .ret r => ⟨_, rfl, r⟩
inductive PS (X : Wd) (fm : Fm) (κ φ : Part) (α : List Addr) (ρ' : Env') (hp' : Hp) (f : Fl) (fl : Flow) (s' : Shared) : Prop
  | mk (β : List Addr) (ψ : Part) : α <+: β → φ.le ψ → FOk X fm κ ψ β ρ' hp' s' → FlowIs X β ψ fl f → PS X fm κ φ α ρ' hp' f fl s'
theorem PS.lift {f : Fl} {fl : Flow} (hα : α <+: β) (hφ : φ.le ψ) (P : PS X fm κ ψ β ρ' hp' f fl s) : PS X fm κ φ α ρ' hp' f fl s := by
  obtain ⟨γ, χ, h1, h2, F, f⟩ := P
  exact ⟨γ, χ, hα.trans h1, Part.le_trans hφ h2, F, f⟩
theorem PS.next (F : FOk X fm κ φ α ρ hp s) : PS X fm κ φ α ρ hp .next .next s := ⟨α, φ, List.prefix_refl _, Part.le_refl _, F, .next⟩
noncomputable def SS (X : Wd) (G : Gl) (fm : Fm) (st : Stmt) (ms : MS) : Prop :=
  ∀ ρ hp f ρ' hp', evS G ms ρ hp = some (f, ρ', hp') → ∀ κ φ α s, FOk X fm κ φ α ρ hp s → Wp X fm (exec st fm.env) (PS X fm κ φ α ρ' hp' f) s
noncomputable def SSs (X : Wd) (G : Gl) (fm : Fm) (st : List Stmt) (ms : List MS) : Prop :=
  ∀ ρ hp f ρ' hp', evSs G ms ρ hp = some (f, ρ', hp') → ∀ κ φ α s, FOk X fm κ φ α ρ hp s → Wp X fm (execs st fm.env) (PS X fm κ φ α ρ' hp' f) s
theorem sss_nil : SSs X G fm [] [] := by
  intro ρ hp f ρ' hp' h κ φ α s F
  obtain ⟨rfl, rfl, rfl⟩ := tri_inv h
  exact wpAny_execs_nil (PS.next F)
theorem sss_cons {st : Stmt} {r : List Stmt} {ms : MS} {mr : List MS} (S : SS X G fm st ms) (R : SSs X G fm r mr) : SSs X G fm (st :: r) (ms :: mr) := by
  intro ρ hp f ρ' hp' h κ φ α s F
  cases seqF_inv h with
  | next ρ₁ hp₁ e1 h1 =>
    refine wpAny_execs_cons (wpAny_mono (S _ _ _ _ _ e1 _ _ _ _ F) (fun fl s₁ P => ?_) fun _ _ z => z)
    obtain ⟨β, ψ, hα, hφ, F₁, fi⟩ := P
    obtain rfl := fi.inv_next
    exact wpAny_mono (R _ _ _ _ _ h1 _ _ _ _ F₁) (fun _ _ p => PS.lift hα hφ p) fun _ _ z => z
  | stop e1 hne =>
    refine wpAny_execs_cons (wpAny_mono (S _ _ _ _ _ e1 _ _ _ _ F) (fun fl s₁ P => ?_) fun _ _ z => z)
    obtain ⟨β, ψ, hα, hφ, F₁, fi⟩ := P
    cases fi with
    | next => exact absurd rfl hne
    | cont => exact ⟨β, ψ, hα, hφ, F₁, .cont⟩
    | ret r => exact ⟨β, ψ, hα, hφ, F₁, .ret r⟩
theorem turn_step {b : List Stmt} {mb : List MS} (Sb : SSs X G fm b mb) {k : Env' → Hp → Option (Fl × Env' × Hp)} {r : Fl × Env' × Hp} (h : turnF (evSs G mb ρ hp) k = some r) (F : FOk X fm κ φ α ρ hp s) {Q : Flow → Shared → Prop}
    (go : ∀ fl ρ₁ hp₁ β ψ s', α <+: β → φ.le ψ → FOk X fm κ ψ β ρ₁ hp₁ s' → k ρ₁ hp₁ = some r → fl = .next ∨ fl = .cont → Q fl s')
    (ret : ∀ v av ρ₁ hp₁ β ψ s', α <+: β → φ.le ψ → FOk X fm κ ψ β ρ₁ hp₁ s' → r = (.ret av, ρ₁, hp₁) → Rep X β ψ v av → Q (.ret v) s') : Wp X fm (execs b fm.env) Q s := by
  cases turnF_inv h with
  | go f ρ₁ hp₁ e1 hne h1 =>
    refine wpAny_mono (Sb _ _ _ _ _ e1 _ _ _ _ F) (fun fl s₁ P => ?_) fun _ _ z => z
    obtain ⟨β, ψ, hα, hφ, F₁, fi⟩ := P
    refine go fl ρ₁ hp₁ β ψ s₁ hα hφ F₁ h1 ?_
    cases fi with
    | next => exact .inl rfl
    | cont => exact .inr rfl
    | ret r => exact absurd rfl (hne _)
  | ret av ρ₁ hp₁ e1 e =>
    refine wpAny_mono (Sb _ _ _ _ _ e1 _ _ _ _ F) (fun fl s₁ P => ?_) fun _ _ z => z
    obtain ⟨β, ψ, hα, hφ, F₁, fi⟩ := P
    obtain ⟨v, rfl, rv⟩ := fi.inv_ret
    exact ret v av ρ₁ hp₁ β ψ s₁ hα hφ F₁ e rv
noncomputable def notComp : Expr → Bool
  | .ListComp .. | .SetComp .. | .DictComp .. => false
  | _ => true
theorem swaps_no {e : Expr} (h : notComp e = true) (t : Option Expr) (n : Nat) (env : Env) : swapsWith e t n env = pure false := by
  cases e <;> first | rfl | cases h
noncomputable def Stores (fm : Fm) (x : Str) : Prop := fm.env.kindOf x = some .local ∨ (fm.env.kindOf x = some .cell ∧ ∀ c, fm.env.cells.lookup x = some c → c ∈ fm.own)
theorem ss_assign (W : fm.Wf X) {x : Str} {i : Nat} {e : Expr} {me : ME} {p pos : Pos} (hx : fm.names[i]? = some x) (hs : Stores fm x) (he : notComp e = true) (S : SE X G fm e me) : SS X G fm (.Assign [.Name x p] e pos) (.assign i me) := by
  intro ρ hp f ρ' hp' h κ φ α s F
  obtain ⟨v, hp₁, q, h1⟩ := bnd_inv h
  obtain ⟨rfl, rfl, rfl⟩ := tri_inv h1
  refine wpAny_Assign_Name (S.andThen q F fun β ψ v s₁ hα hφ F₁ r₁ => store_at W F₁ hx r₁ hs fun s₂ F₂ => ?_) (swaps_no he _ _ _)
  exact PS.lift hα hφ (PS.next F₂)
theorem ss_expr (W : fm.Wf X) {e : Expr} {me : ME} {pos : Pos} (hi : interactive fm.env = false) (he : notComp e = true) (S : SE X G fm e me) : SS X G fm (.Expr e pos) (.expr me) := by
  intro ρ hp f ρ' hp' h κ φ α s F
  obtain ⟨v, hp₁, q, h1⟩ := bnd_inv h
  obtain ⟨rfl, rfl, rfl⟩ := tri_inv h1
  exact wpAny_Expr_any (S.andThen q F fun β ψ v s₁ hα hφ F₁ r₁ => PS.lift hα hφ (PS.next F₁)) hi (swaps_no he _ _ _)
theorem ss_ret (W : fm.Wf X) {e : Expr} {me : ME} {pos : Pos} (S : SE X G fm e me) : SS X G fm (.Return (some e) pos) (.ret me) := by
  intro ρ hp f ρ' hp' h κ φ α s F
  obtain ⟨v, hp₁, q, h1⟩ := bnd_inv h
  obtain ⟨rfl, rfl, rfl⟩ := tri_inv h1
  exact wpAny_Return_some (S.andThen q F fun β ψ v s₁ hα hφ F₁ r₁ => ⟨β, ψ, hα, hφ, F₁, .ret r₁⟩)
theorem ss_cont (W : fm.Wf X) {pos : Pos} : SS X G fm (.Continue pos) .cont := by
  intro ρ hp f ρ' hp' h κ φ α s F
  obtain ⟨rfl, rfl, rfl⟩ := tri_inv h
  rw [arm_exec_Continue]
  exact wpAny_bind (wpAny_standAt (wpAny_pure ⟨α, φ, List.prefix_refl _, Part.le_refl _, F, .cont⟩))
theorem ss_ite (W : fm.Wf X) {c : Expr} {t e : List Stmt} {mc : ME} {mt me : List MS} {pos : Pos} (Sc : SC X G fm c mc) (St : SSs X G fm t mt) (Se : SSs X G fm e me) : SS X G fm (.If c t e pos) (.ite mc mt me) := by
  intro ρ hp f ρ' hp' h κ φ α s F
  obtain ⟨t', hp₁, e1, h1⟩ := bnd_inv h
  refine wpAny_If (Sc.andThen e1 F fun β ψ s₁ hα hφ F₁ => ?_)
  cases t' with
  | true => exact wpAny_mono (St _ _ _ _ _ h1 _ _ _ _ F₁) (fun _ _ p => PS.lift hα hφ p) fun _ _ z => z
  | false => exact wpAny_mono (Se _ _ _ _ _ h1 _ _ _ _ F₁) (fun _ _ p => PS.lift hα hφ p) fun _ _ z => z
inductive LoopAt (X : Wd) (fm : Fm) (κ φ : Part) (α : List Addr) (L : Nat → Env' → Hp → Option (Fl × Env' × Hp)) (r : Fl × Env' × Hp) (n : Nat) (s : Shared) : Prop
  | mk (ρ : Env') (hp : Hp) (β : List Addr) (ψ : Part) : L n ρ hp = some r → α <+: β → φ.le ψ → FOk X fm κ ψ β ρ hp s → LoopAt X fm κ φ α L r n s
inductive WTurn (X : Wd) (fm : Fm) (κ φ : Part) (α : List Addr) (L : Nat → Env' → Hp → Option (Fl × Env' × Hp)) (f : Fl) (ρ' : Env') (hp' : Hp) (n : Nat) : Flow → Shared → Prop
  | go {fl : Flow} {s : Shared} : fl = .next ∨ fl = .cont → LoopAt X fm κ φ α L (f, ρ', hp') n s → WTurn X fm κ φ α L f ρ' hp' n fl s
  | ret {v : Value} {s : Shared} : PS X fm κ φ α ρ' hp' f (.ret v) s → WTurn X fm κ φ α L f ρ' hp' n (.ret v) s
theorem ss_while (W : fm.Wf X) {c : Expr} {b : List Stmt} {mc : ME} {mb : List MS} {pos : Pos} (Sc : SC X G fm c mc) (Sb : SSs X G fm b mb) : SS X G fm (.While c b [] pos) (.while mc mb) := by
  intro ρ hp f ρ' hp' h κ φ α s F
  refine wpAny_While ?_
  refine codeAny_whileLoop (LoopAt X fm κ φ α (fun n ρ hp => whileN (fun ρ hp => evC G mc ρ hp) (fun ρ hp => evSs G mb ρ hp) n ρ hp) (f, ρ', hp')) ?_ G.N ⟨ρ, hp, α, φ, h, List.prefix_refl _, Part.le_refl _, F⟩
  intro n s₁ I
  obtain ⟨ρ₁, hp₁, β, ψ, hw, hα, hφ, F₁⟩ := I
  cases n with
  | zero => cases hw
  | succ n =>
    obtain ⟨t, hp₂, e1, h1⟩ := bnd_inv hw
    refine wpAny_mono (Sc _ _ _ _ e1 _ _ _ _ F₁) (fun b s₂ P => ?_) fun _ _ z => z.elim
    obtain ⟨rfl, γ, χ, hβ, hψ, F₂⟩ := P
    cases b with
    | false =>
      obtain ⟨rfl, rfl, rfl⟩ := tri_inv h1
      exact wpAny_execs_nil (PS.lift (hα.trans hβ) (Part.le_trans hφ hψ) (PS.next F₂))
    | true =>
      refine wpAny_mono (turn_step Sb h1 F₂ (Q := fun fl s₃ => WTurn X fm κ φ α (fun n ρ hp => whileN (fun ρ hp => evC G mc ρ hp) (fun ρ hp => evSs G mb ρ hp) n ρ hp) f ρ' hp' n fl s₃) (fun fl ρ₃ hp₃ δ ω s₃ q1 q2 F₃ h2 hfl => ?_) fun v av ρ₃ hp₃ δ ω s₃ q1 q2 F₃ e rv => ?_) ?_ fun _ _ z => z.elim
      · exact .go hfl ⟨ρ₃, hp₃, δ, ω, h2, (hα.trans hβ).trans q1, Part.le_trans (Part.le_trans hφ hψ) q2, F₃⟩
      · obtain ⟨rfl, e2⟩ := Prod.mk.inj e
        obtain ⟨rfl, rfl⟩ := Prod.mk.inj e2
        exact .ret ⟨δ, ω, (hα.trans hβ).trans q1, Part.le_trans (Part.le_trans hφ hψ) q2, F₃, .ret rv⟩
      · intro fl s₃ T
        cases T with
        | go hfl L => rcases hfl with rfl | rfl <;> exact ⟨n, Nat.lt_succ_self _, L⟩
        | ret P => exact P
theorem ss_augVar (W : fm.Wf X) {x : Str} {i : Nat} {e : Expr} {me : ME} {op : Operator} {p pos : Pos} (hx : fm.names[i]? = some x) (hs : Stores fm x) (S : SE X G fm e me) : SS X G fm (.AugAssign (.Name x p) op e pos) (.augVar i op me) := by
  intro ρ hp f ρ' hp' h κ φ α s F
  obtain ⟨a, ha, h1⟩ := onVar_inv h
  obtain ⟨y, hp₁, e1, h2⟩ := bnd_inv h1
  obtain ⟨v, q, e⟩ := mapp_inv h2
  obtain ⟨rfl, e2⟩ := Prod.mk.inj e
  obtain ⟨rfl, rfl⟩ := Prod.mk.inj e2
  refine wpAny_AugAssign_Name (load_at W F hx ha fun old r₀ => S.andThen e1 F fun β ψ w s₁ hα hφ F₁ r₁ => ?_)
  refine wpAny_mono (aug_ok W q F₁ (r₀.mono hα hφ) r₁) (fun v s₂ P => ?_) fun _ _ z => z
  obtain ⟨γ, χ, hβ, hψ, F₂, r₂⟩ := P
  exact store_at W F₂ hx r₂ hs fun s₃ F₃ => PS.lift (hα.trans hβ) (Part.le_trans hφ hψ) (PS.next F₃)
end
end Mine
end
section
namespace Mine
open PySem PyProof.Rows
section
variable {X : Wd} {G : Gl} {fm : Fm} {κ φ ψ : Part} {α β : List Addr} {ρ ρ' : Env'} {hp hp' : Hp} {s : Shared}
inductive PC (X : Wd) (κ φ : Part) (α : List Addr) (hp' : Hp) (av : AV) (r : Result) (s' : Shared) : Prop
  | mk (v : Value) (β : List Addr) (ψ : Part) : r = .ok (.ret v) → α <+: β → φ.le ψ → HOk X [] κ ψ β hp' s' → Rep X β ψ v av → PC X κ φ α hp' av r s'
noncomputable def CS (X : Wd) (G : Gl) (n : Nat) : Prop :=
  ∀ f args hp av hp', G.call f args hp = some (av, hp') → ∀ A κ φ α s vs, Room A n → HOk X [] κ φ α hp s → RepAll X α φ vs args → codeAny (model X.prog X.w) A (.call f ⟨vs, []⟩) (PC X κ φ α hp' av) s
noncomputable def keepK (κ : Part) (own : List Addr) (h : Heap) : Part := fun a => if a ∈ own then h.get? a else κ a
theorem HOk.enter (H : HOk X fm.own κ φ α hp s) : HOk X [] (keepK κ fm.own s.heap) φ α hp s := by
  have hnd := H.nodup
  rw [List.nodup_cons, List.nodup_append] at hnd
  have hno : ∀ a ∈ X.P :: ([] ++ α), a ∉ fm.own := by
    intro a ha hin
    rcases List.mem_cons.mp ha with rfl | ha
    · exact hnd.1 (List.mem_append_left _ hin)
    · exact hnd.2.2.2 a hin a ha rfl
  refine ⟨H.gens, H.drawn, H.os, H.base, fun a o k => ?_, H.froz, H.tab, (fun _ h => nomatch h), H.len, H.obj, ?_, fun a ha => ⟨?_, ?_⟩, fun a o k => ?_⟩
  · unfold keepK at k
    split at k
    · exact k
    · exact H.kept a o k
  · rw [List.nodup_cons]
    exact ⟨fun q => hnd.1 (List.mem_append_right _ q), hnd.2.2.1⟩
  · unfold keepK; rw [if_neg (hno a ha)]
    exact (H.apart a (by rcases List.mem_cons.mp ha with q | q; · exact q ▸ List.mem_cons_self
                         · exact List.mem_cons_of_mem _ (List.mem_append_right _ q))).1
  · exact (H.apart a (by rcases List.mem_cons.mp ha with q | q; · exact q ▸ List.mem_cons_self
                         · exact List.mem_cons_of_mem _ (List.mem_append_right _ q))).2
  · unfold keepK at k
    split at k
    · rename_i hin; exact (H.apart a (List.mem_cons_of_mem _ (List.mem_append_left _ hin))).2
    · exact H.disj a o k
theorem FOk.back (F : FOk X fm κ φ α ρ hp s) (W : fm.Wf X) {s' : Shared} (H' : HOk X [] (keepK κ fm.own s.heap) ψ β hp' s') (hα : α <+: β) (hφ : φ.le ψ) : FOk X fm κ ψ β ρ hp' s' := by
  have H := F.H
  have hnd := H.nodup
  rw [List.nodup_cons, List.nodup_append] at hnd
  have hnd' := H'.nodup
  rw [List.nodup_cons] at hnd'
  have hown : ∀ a ∈ fm.own, ∃ o, keepK κ fm.own s.heap a = some o ∧ s.heap.get? a = some o := fun a ha => by
    obtain ⟨o, e⟩ := H.ownIn a ha
    exact ⟨o, by unfold keepK; rw [if_pos ha]; exact e, e⟩
  have hκ : ∀ a o, κ a = some o → keepK κ fm.own s.heap a = some o := fun a o k => by
    unfold keepK
    split
    · rename_i hin; rw [(H.apart a (List.mem_cons_of_mem _ (List.mem_append_left _ hin))).1] at k; cases k
    · exact k
  refine ⟨⟨H'.gens, H'.drawn, H'.os, H'.base, fun a o k => H'.kept a o (hκ a o k), H'.froz, H'.tab, fun a ha => ?_, H'.len, H'.obj, ?_, fun a ha => ?_, fun a o k => H'.disj a o (hκ a o k)⟩, F.L.keeps W hα hφ fun c o hc e => ?_⟩
  · obtain ⟨o, k, _⟩ := hown a ha
    exact ⟨o, H'.kept a o k⟩
  · rw [List.nodup_cons, List.nodup_append]
    refine ⟨fun q => ?_, hnd.2.1, hnd'.2, fun a ha b hb e => ?_⟩
    · rcases List.mem_append.mp q with q | q
      · exact hnd.1 (List.mem_append_left _ q)
      · exact hnd'.1 q
    · subst e
      obtain ⟨o, k, _⟩ := hown a ha
      rw [(H'.apart a (List.mem_cons_of_mem _ hb)).1] at k; cases k
  · rcases List.mem_cons.mp ha with rfl | ha
    · exact ⟨(H.apart _ List.mem_cons_self).1, (H'.apart _ List.mem_cons_self).2⟩
    · rcases List.mem_append.mp ha with ha | ha
      · obtain ⟨o, k, _⟩ := hown a ha
        exact ⟨(H.apart a (List.mem_cons_of_mem _ (List.mem_append_left _ ha))).1, H'.disj a o k⟩
      · refine ⟨?_, (H'.apart a (List.mem_cons_of_mem _ ha)).2⟩
        cases q : κ a with
        | none => rfl
        | some o => rw [← hκ a o q]; exact (H'.apart a (List.mem_cons_of_mem _ ha)).1
  · rcases hc with hc | hc
    · obtain ⟨o₁, k, e₁⟩ := hown c hc
      rw [e] at e₁; cases e₁
      exact H'.kept c o k
    · rcases F.L.capsIn c hc with ⟨o', hc⟩ | ⟨o', hc⟩
      · have h1 := H.kept c o' hc
        rw [e] at h1; cases h1
        exact H'.kept c o (hκ c o hc)
      · have h1 := H.froz c o' hc
        rw [e] at h1; cases h1
        exact H'.froz c o (hφ c o hc)
theorem Room.mono {A : Around} {n m : Nat} (R : Room A n) (h : m ≤ n) : Room A m := ⟨R.1, by have := R.2.1; lia, by have := R.2.2; lia⟩
theorem call_from {n : Nat} (W : fm.Wf X) (C : CS X G n) (R : Room fm.A n) {f : Value} {args : List AV} {vs : List Value} {av : AV} (h : G.call f args hp = some (av, hp')) (F : FOk X fm κ φ α ρ hp s) (r : RepAll X α φ vs args) :
    Wp X fm (call f vs) (PV X fm κ φ α ρ hp' av) s := by
  refine wpAny_call (codeAny_mono (C _ _ _ _ _ h _ _ _ _ _ _ R F.H.enter r) fun res s' P => ?_)
  obtain ⟨v, β, ψ, rfl, hα, hφ, H', rv⟩ := P
  exact ⟨β, ψ, hα, hφ, F.back W H' hα hφ, rv⟩
noncomputable def FnAt (X : Wd) (f : Value) : Prop := ∃ a o fd, f = .ref a ∧ X.base a = some o ∧ o.data = .func fd
theorem se_call {n : Nat} (W : fm.Wf X) (C : CS X G n) (R : Room fm.A n) {x : Str} {f : Value} (g : GlobOk X x f) (hf : FnAt X f) (hk : fm.env.kindOf x = some .globalImplicit) (hd : (x == ("__debug__" : Str)) = false) {np pos : Pos} {es : List Expr} {mes : List ME}
    (he : es.all notStar = true) (hne : es ≠ []) (Ss : SEs X G fm es mes) : SE X G fm (.Call (.Name x np) es [] pos) (.call f mes) := by
  intro ρ hp av hp' h κ φ α s F
  obtain ⟨xs, hp₁, e1, h1⟩ := bnd_inv h
  obtain ⟨a, o, fd, rfl, ho, hfd⟩ := hf
  cases es with
  | nil => exact absurd rfl hne
  | cons e0 es =>
    have he0 : notStar e0 = true := (List.all_eq_true.mp he) _ (.head _)
    show Wp X fm (do callWith pos (← eval (.Name x np) fm.env) [] (backTo pos (starEach (e0 :: es) fm.env)) (backToKw pos (keywordEach [] fm.env))) _ s
    refine wpAny_bind (load_glob W g hk hd F ?_)
    refine Calls.callWith_function (o := o) (fd := fd) ?_
    have key : Wp X fm (spliced (backTo pos (starEach (e0 :: es) fm.env))) (fun vs s₁ => (s₁.heap.get? a = some o ∧ o.data = .func fd) ∧ Wp X fm (call (.ref a) ([] ++ vs) []) (PV X fm κ φ α ρ hp' av) s₁) s := by
      refine wpAny_mono (Ss _ _ _ _ e1 _ _ _ _ pos F) (fun vs s₁ P => ?_) fun _ _ z => z
      obtain ⟨β, ψ, hα, hφ, F₁, r₁⟩ := P
      exact ⟨⟨F₁.H.baseIn a o ho, hfd⟩, Wp.lift hα hφ (call_from W C R h1 F₁ r₁)⟩
    rw [star1 he0] at key ⊢
    exact Calls.evalArgs_plain key
end
end Mine
end
section
namespace Mine
open PySem PyProof.Rows
mutual
noncomputable def below (n : Nat) : AV → Bool
  | .tup xs => belows n xs
  | .lst xs => belows n xs
  | .ref t => decide (t < n)
  | .inst t => decide (t < n)
  | .stm t => decide (t < n)
  | _ => true
noncomputable def belows (n : Nat) : List AV → Bool
  | [] => true
  | x :: xs => below n x && belows n xs
end
noncomputable def belowO (n : Nat) : AO → Bool
  | .list xs => belows n xs
  | .dict xs => belows n xs
  | .citer t _ => decide (t < n)
noncomputable def fzs (f : AV → Option AV) : List AV → Option (List AV)
  | [] => some []
  | x :: xs => (f x).bind fun d => (fzs f xs).map fun ds => d :: ds
noncomputable def fz0 (n : Nat) (x : AV) : Option AV := match x with
  | .ref t => if t < n then some (.ref t) else none
  | .inst t => if t < n then some (.inst t) else none
  | .stm t => if t < n then some (.stm t) else none
  | .tup _ => none
  | .lst _ => none
  | x => some x
noncomputable def fz (hp : Hp) (n : Nat) : Nat → AV → Option AV
  | 0, x => fz0 n x
  | k + 1, x => match x with
    | .tup xs => (fzs (fz hp n k) xs).map .tup
    | .lst xs => (fzs (fz hp n k) xs).map .lst
    | .ref t => if t < n then some (.ref t) else onList hp[t]? fun xs => (fzs (fz hp n k) xs).map .lst
    | x => fz0 n x
noncomputable def close (trunc : Bool) (n : Nat) (v : AV) (hp : Hp) : Option (AV × Hp) :=
  cond trunc (if (hp.take n).all (belowO n) then (fz hp n 6 v).map fun v => (v, hp.take n) else none) (some (v, hp))
structure FnDef where
  names : List Str
  np : Nat
  body : List MS
  trunc : Bool
noncomputable def endB (o : Option (Fl × Env' × Hp)) (k : AV → Hp → Option (AV × Hp)) : Option (AV × Hp) := match o with
  | some (.ret v, _, hp') => k v hp'
  | some (.next, _, hp') => k .none hp'
  | some (.cont, _, _) => none
  | none => none
inductive EndB (o : Option (Fl × Env' × Hp)) (k : AV → Hp → Option (AV × Hp)) (r : AV × Hp) : Prop
  | ret (v : AV) (ρ : Env') (hp : Hp) : o = some (.ret v, ρ, hp) → k v hp = some r → EndB o k r
  | next (ρ : Env') (hp : Hp) : o = some (.next, ρ, hp) → k .none hp = some r → EndB o k r
theorem endB_inv {o : Option (Fl × Env' × Hp)} {k : AV → Hp → Option (AV × Hp)} {r : AV × Hp} (h : endB o k = some r) : EndB o k r := by
  match o, h with
  | some (.ret v, ρ, hp), h => exact .ret v ρ hp rfl h
  | some (.next, ρ, hp), h => exact .next ρ hp rfl h
noncomputable def runFn (G : Gl) (d : FnDef) (args : List AV) (hp : Hp) : Option (AV × Hp) :=
  if args.length = d.np then endB (evSs G d.body (args.map some ++ List.replicate (d.names.length - d.np) none) hp) fun v hp' => close d.trunc hp.length v hp' else none
section
variable {X : Wd} {G : Gl} {κ φ ψ : Part} {α β : List Addr} {ρ ρ' : Env'} {hp hp' : Hp} {s : Shared}
theorem take_get {l : List Addr} {n t : Nat} {a : Addr} (h : l[t]? = some a) (ht : t < n) : (l.take n)[t]? = some a := by
  rw [List.getElem?_take_of_lt ht]; exact h
theorem Rep.under {n : Nat} (hφ : φ.le ψ) {v : Value} {x : AV} (r : Rep X α φ v x) : Mine.below n x = true → Rep X (α.take n) ψ v x :=
  Rep.rec (motive_1 := fun v x _ => Mine.below n x = true → Rep X (α.take n) ψ v x) (motive_2 := fun vs xs _ => belows n xs = true → RepAll X (α.take n) ψ vs xs) (fun _ => .none) (fun b _ => .bool b) (fun i t _ => .int i t) (fun x t _ => .str x t)
    (fun h ho _ ih q => .tup (hφ _ _ h) ho (ih q)) (fun h ho _ ih q => .lst (hφ _ _ h) ho (ih q)) (fun h q => .ref (take_get h (of_decide_eq_true q)))
    (fun h a b c d q => .inst (hφ _ _ h) a b c (take_get d (of_decide_eq_true q))) (fun h d q => .stm (X.stm_mono _ _ _ _ hφ h) (take_get d (of_decide_eq_true q))) (fun v _ => .cst v) (fun _ => .nil) (fun _ _ h r q => .cons (h (Bool.and_eq_true_iff.mp q).1) (r (Bool.and_eq_true_iff.mp q).2)) r
theorem RepAll.under {n : Nat} (hφ : φ.le ψ) {vs : List Value} {xs : List AV} (r : RepAll X α φ vs xs) : belows n xs = true → RepAll X (α.take n) ψ vs xs :=
  r.ind (P := fun vs xs => belows n xs = true → RepAll X (α.take n) ψ vs xs) (fun _ => .nil) fun _ _ _ _ h _ ih q => .cons (h.under hφ (Bool.and_eq_true_iff.mp q).1) (ih (Bool.and_eq_true_iff.mp q).2)
noncomputable def Part.tail (φ : Part) (h : Heap) (l : List Addr) : Part := fun a => if a ∈ l then h.get? a else φ a
theorem tail_le {own : List Addr} (H : HOk X own κ φ α hp s) (n : Nat) : φ.le (φ.tail s.heap (α.drop n)) := fun a o e => by
  unfold Part.tail
  split
  · rename_i hm
    have := (H.apart a (List.mem_cons_of_mem _ (List.mem_append_right _ (List.mem_of_mem_drop hm)))).2
    rw [this] at e; cases e
  · exact e
theorem fz0_ok (hφ : φ.le ψ) {n : Nat} {x y : AV} {v : Value} (h : fz0 n x = some y) (r : Rep X α φ v x) : Rep X (α.take n) ψ v y := by
  cases x with
  | ref t =>
    obtain ⟨ht, rfl⟩ := ite_inv h
    obtain ⟨a, rfl, ha⟩ := r.inv_ref
    exact .ref (take_get ha ht)
  | inst t =>
    obtain ⟨ht, rfl⟩ := ite_inv h
    obtain ⟨a, d, o, rfl, h1, h2, h3, h4, h5⟩ := r.inv_inst
    exact .inst (hφ _ _ h1) h2 h3 h4 (take_get h5 ht)
  | stm t =>
    obtain ⟨ht, rfl⟩ := ite_inv h
    obtain ⟨a, l, rfl, h1, h5⟩ := r.inv_stm
    exact .stm (X.stm_mono _ _ _ _ hφ h1) (take_get h5 ht)
  | tup xs => cases h
  | lst xs => cases h
  | none => obtain rfl := some_inv h; exact r.under hφ rfl
  | bool b => obtain rfl := some_inv h; exact r.under hφ rfl
  | int i => obtain rfl := some_inv h; exact r.under hφ rfl
  | str i => obtain rfl := some_inv h; exact r.under hφ rfl
  | cst i => obtain rfl := some_inv h; exact r.under hφ rfl
theorem fzs_ok {n : Nat} {f : AV → Option AV} (ih : ∀ x y v, f x = some y → Rep X α φ v x → Rep X (α.take n) ψ v y) {vs : List Value} {xs : List AV} (r : RepAll X α φ vs xs) : ∀ {ys : List AV}, fzs f xs = some ys → RepAll X (α.take n) ψ vs ys :=
  r.ind (P := fun vs xs => ∀ {ys : List AV}, fzs f xs = some ys → RepAll X (α.take n) ψ vs ys) (fun h => by obtain rfl := some_inv h; exact .nil) fun v x vs xs hv _ hi ys h => by
    obtain ⟨d, e1, h1⟩ := bind_inv h
    obtain ⟨ds, e2, rfl⟩ := mapp_inv h1
    exact .cons (ih x d v e1 hv) (hi e2)
theorem fz_ok {own : List Addr} (H : HOk X own κ φ α hp s) (n : Nat) : ∀ (k : Nat) {x y : AV} {v : Value}, fz hp n k x = some y → Rep X α φ v x → Rep X (α.take n) (φ.tail s.heap (α.drop n)) v y := by
  have hle := tail_le H n
  intro k
  induction k with
  | zero => intro x y v h r; exact fz0_ok hle h r
  | succ k ih =>
    intro x y v h r
    cases x with
    | tup xs =>
      obtain ⟨ys, q, rfl⟩ := mapp_inv h
      obtain ⟨a, m, vs, rfl, h1, h3⟩ := r.inv_tup
      exact .tup (hle _ _ h1) ⟨m, rfl⟩ (fzs_ok (fun _ _ _ => ih) h3 q)
    | lst xs =>
      obtain ⟨ys, q, rfl⟩ := mapp_inv h
      obtain ⟨a, m, vs, rfl, h1, h3⟩ := r.inv_lst
      exact .lst (hle _ _ h1) ⟨m, rfl⟩ (fzs_ok (fun _ _ _ => ih) h3 q)
    | ref t =>
      by_cases ht : t < n
      · obtain rfl := some_inv ((if_pos ht).symm.trans h)
        obtain ⟨a, rfl, ha⟩ := r.inv_ref
        exact .ref (take_get ha ht)
      · obtain ⟨xs, e, h1⟩ := onList_inv ((if_neg ht).symm.trans h)
        obtain ⟨ys, q, rfl⟩ := mapp_inv h1
        obtain ⟨b, m, vs, rfl, hb, ho, rr⟩ := tag_list H e r
        have hm : b ∈ α.drop n := by
          rw [List.mem_iff_getElem?]
          exact ⟨t - n, by rw [List.getElem?_drop, Nat.add_sub_cancel' (Nat.not_lt.mp ht)]; exact hb⟩
        exact .lst (o := _) (by unfold Part.tail; rw [if_pos hm]; exact ho) ⟨m, rfl⟩ (fzs_ok (fun _ _ _ => ih) rr q)
    | inst t => exact fz0_ok (x := .inst t) hle h r
    | stm t => exact fz0_ok (x := .stm t) hle h r
    | none => exact fz0_ok (x := .none) hle h r
    | bool b => exact fz0_ok (x := .bool b) hle h r
    | int i => exact fz0_ok (x := .int i) hle h r
    | str i => exact fz0_ok (x := .str i) hle h r
    | cst i => exact fz0_ok (x := .cst i) hle h r
theorem HOk.trunc (H : HOk X [] κ φ α hp s) (n : Nat) (hb : (hp.take n).all (belowO n) = true) : HOk X [] κ (φ.tail s.heap (α.drop n)) (α.take n) (hp.take n) s := by
  have hle := tail_le H n
  have hnd := H.nodup
  rw [List.nil_append, List.nodup_cons] at hnd
  refine ⟨H.gens, H.drawn, H.os, Part.le_trans H.base hle, H.kept, fun a o k => ?_, (let ⟨o, k, p⟩ := H.tab; ⟨o, k, X.tab_mono _ _ _ hle p⟩), (fun _ h => nomatch h), by rw [List.length_take, List.length_take, H.len], fun t x k => ?_, ?_, fun a ha => ⟨?_, ?_⟩, fun a o k => ?_⟩
  · unfold Part.tail at k
    split at k
    · exact k
    · exact H.froz a o k
  · have ht : t < n := by
      have := (List.getElem?_eq_some_iff.mp k).1
      rw [List.length_take] at this; lia
    rw [List.getElem?_take_of_lt ht] at k
    obtain ⟨a, ha, r⟩ := H.obj t x k
    have hx : belowO n x = true := List.all_eq_true.mp hb x (List.mem_of_getElem? (by rw [List.getElem?_take_of_lt ht]; exact k))
    refine ⟨a, take_get ha ht, ?_⟩
    cases r with
    | list h1 h2 h3 => exact .list h1 h2 (h3.under hle (by simpa [belowO] using hx))
    | dict h1 h2 => exact .dict h1 (h2.under hle (by simpa [belowO] using hx))
    | citer h1 h2 h3 => exact .citer h1 (hle _ _ h2) (h3.under hle (by simpa [belowO, below] using hx))
    | cdone h1 => exact .cdone h1
  · rw [List.nil_append, List.nodup_cons]
    exact ⟨fun q => hnd.1 (List.mem_of_mem_take q), hnd.2.sublist (List.take_sublist _ _)⟩
  · refine (H.apart a ?_).1
    rcases List.mem_cons.mp ha with rfl | ha
    · exact List.mem_cons_self
    · exact List.mem_cons_of_mem _ (List.mem_of_mem_take ha)
  · have h1 : φ a = none := by
      refine (H.apart a ?_).2
      rcases List.mem_cons.mp ha with rfl | ha
      · exact List.mem_cons_self
      · exact List.mem_cons_of_mem _ (List.mem_of_mem_take ha)
    unfold Part.tail
    split
    · rename_i hm
      exfalso
      rcases List.mem_cons.mp ha with rfl | ha
      · exact hnd.1 (List.mem_of_mem_drop hm)
      · have := hnd.2
        rw [← List.take_append_drop n α, List.nodup_append] at this
        exact this.2.2 a ha a hm rfl
    · exact h1
  · unfold Part.tail
    split
    · rename_i hm
      have := (H.apart a (List.mem_cons_of_mem _ (List.mem_of_mem_drop hm))).1
      rw [this] at k; cases k
    · exact H.disj a o k
theorem close_ok (H : HOk X [] κ ψ β hp s) {tr : Bool} {av av' : AV} {v : Value} (h : close tr α.length av hp = some (av', hp')) (hα : α <+: β) (hφ : φ.le ψ) (r : Rep X β ψ v av) : PC X κ φ α hp' av' (.ok (.ret v)) s := by
  cases tr with
  | false =>
    obtain ⟨rfl, rfl⟩ := pair_inv h
    exact ⟨v, β, ψ, rfl, hα, hφ, H, r⟩
  | true =>
    obtain ⟨hb, h1⟩ := if_inv h
    obtain ⟨w, q, e0⟩ := mapp_inv h1
    obtain ⟨rfl, rfl⟩ := Prod.mk.inj e0
    have e : β.take α.length = α := by obtain ⟨t, rfl⟩ := hα; simp
    have H' := H.trunc α.length hb
    have r' := fz_ok H α.length 6 q r
    rw [e] at H' r'
    exact ⟨v, α, _, rfl, List.prefix_refl _, Part.le_trans hφ (tail_le H _), H', r'⟩
end
end Mine
end
section
namespace Mine
open PySem PyProof.Rows
structure FnOk (X : Wd) (a : Addr) (fd : FuncData) (body : List Stmt) (d : FnDef) : Prop where
  obj : ∃ o, X.base a = some o ∧ o.data = .func fd
  body : fd.body = .stmts body
  clo : fd.closure = []
  glob : fd.globals = mainGlobals
  bui : fd.builtins = builtinsNs
  bind : ∀ vals : List Value, vals.length = d.np → bindArgs fd ⟨vals, []⟩ = pure ((d.names.take d.np).zip vals)
  np : d.np ≤ d.names.length
  nodup : d.names.Nodup
  kinds : ∀ x ∈ d.names, fd.scope.names.lookup x = some .local ∨ fd.scope.names.lookup x = some .cell
  cellsNd : ((cellsFrom 0 fd.scope.names []).map (·.1)).Nodup
  co : fd.scope.isCoroutine = false
  gen : fd.scope.isGenerator = false
  kind : fd.scope.kind = .function
  lim : ∀ h : Heap, (∀ a o, X.base a = some o → h.get? a = some o) → h.NoLimit
  cd : ∀ h : Heap, (∀ a o, X.base a = some o → h.get? a = some o) → h.CodeRec fd.code fd.qualname
noncomputable def fmOf (fd : FuncData) (d : FnDef) (a L : Addr) (A : Around) : Fm :=
  { A := A.deeper (callEnvC fd L a), env := callEnvC fd L a, names := d.names, own := L :: (cellsFrom (L + 1) fd.scope.names []).map (·.2) }
theorem bindL_get {k : Str → Option NameKind} {x : Str} {v : Value} : ∀ (b : List (Str × Value)) (m : Str → Option Value), (b.map (·.1)).Nodup → (x, v) ∈ b → k x = some .local → bindL k b m x = some v := by
  have stay : ∀ (b : List (Str × Value)) (m : Str → Option Value), x ∉ b.map (·.1) → m x = some v → bindL k b m x = some v := by
    intro b
    induction b with
    | nil => intro m _ h; exact h
    | cons p b ih =>
      intro m hn h
      obtain ⟨y, w⟩ := p
      rw [bindL]
      refine ih _ (fun q => hn (List.mem_cons_of_mem _ q)) ?_
      split
      · have : x ≠ y := fun e => hn (by rw [e]; exact List.mem_cons_self)
        show (if x = y then some w else m x) = some v
        rw [if_neg this]; exact h
      · exact h
  intro b
  induction b with
  | nil => intro m _ h; cases h
  | cons p b ih =>
    intro m hn hm hk
    obtain ⟨y, w⟩ := p
    rw [List.map_cons, List.nodup_cons] at hn
    rw [bindL]
    rcases List.mem_cons.mp hm with e | hm
    · cases e
      refine stay b _ hn.1 ?_
      rw [if_pos hk]; exact if_pos rfl
    · exact ih _ hn.2 hm hk
theorem bindC_get {k : Str → Option NameKind} {x : Str} {v : Value} : ∀ (b : List (Str × Value)) (m : Str → Option Value), (b.map (·.1)).Nodup → (x, v) ∈ b → k x ≠ some .local → PySem.bindC k b m x = some v := by
  have stay : ∀ (b : List (Str × Value)) (m : Str → Option Value), x ∉ b.map (·.1) → m x = some v → PySem.bindC k b m x = some v := by
    intro b
    induction b with
    | nil => intro m _ h; exact h
    | cons p b ih =>
      intro m hn h
      obtain ⟨y, w⟩ := p
      rw [PySem.bindC]
      refine ih _ (fun q => hn (List.mem_cons_of_mem _ q)) ?_
      split
      · exact h
      · have : x ≠ y := fun e => hn (by rw [e]; exact List.mem_cons_self)
        show (if x = y then some w else m x) = some v
        rw [if_neg this]; exact h
  intro b
  induction b with
  | nil => intro m _ h; cases h
  | cons p b ih =>
    intro m hn hm hk
    obtain ⟨y, w⟩ := p
    rw [List.map_cons, List.nodup_cons] at hn
    rw [PySem.bindC]
    rcases List.mem_cons.mp hm with e | hm
    · cases e
      refine stay b _ hn.1 ?_
      rw [if_neg hk]; exact if_pos rfl
    · exact ih _ hn.2 hm hk
section
variable {X : Wd} {G : Gl} {κ φ ψ : Part} {α β : List Addr} {ρ ρ' : Env'} {hp hp' : Hp} {s : Shared}
theorem wf_fn {a : Addr} {fd : FuncData} {body : List Stmt} {d : FnDef} (K : FnOk X a fd body d) {L : Addr} {A : Around} (hA : A.handled = none) (ap : ((cellsFrom (L + 1) fd.scope.names []).Pairwise fun x y => x.2 ≠ y.2)) (ab : ∀ n c, (n, c) ∈ cellsFrom (L + 1) fd.scope.names [] → L < c) : (fmOf fd d a L A).Wf X where
  kind := K.kind
  nodup := K.nodup
  cellsInj := fun x y c h1 h2 => name_of_addr ap (mem_of_lookup h1) (mem_of_lookup h2)
  cellsLoc := fun x c h => Nat.ne_of_gt (ab x c (mem_of_lookup h))
  locIn := List.mem_cons_self
  handled := hA
  globals := K.glob
  builtins := K.bui
theorem HOk.noOwn {own : List Addr} (H : HOk X own κ φ α hp s) : HOk X [] κ φ α hp s := by
  have hnd := H.nodup
  rw [List.nodup_cons, List.nodup_append] at hnd
  refine ⟨H.gens, H.drawn, H.os, H.base, H.kept, H.froz, H.tab, (fun _ h => nomatch h), H.len, H.obj, ?_, fun a ha => H.apart a ?_, H.disj⟩
  · rw [List.nil_append, List.nodup_cons]
    exact ⟨fun q => hnd.1 (List.mem_append_right _ q), hnd.2.2.1⟩
  · rcases List.mem_cons.mp ha with rfl | ha
    · exact List.mem_cons_self
    · exact List.mem_cons_of_mem _ (List.mem_append_right _ ha)
theorem pw_map : ∀ {l : List (Str × Addr)}, (l.Pairwise fun x y => x.2 ≠ y.2) → (l.map (·.2)).Nodup
  | [], _ => List.nodup_nil
  | p :: l, h => by
    rw [List.pairwise_cons] at h
    rw [List.map_cons, List.nodup_cons]
    refine ⟨fun q => ?_, pw_map h.2⟩
    obtain ⟨y, hy, e⟩ := List.mem_map.mp q
    exact h.1 y hy e.symm
theorem fn_start {a : Addr} {fd : FuncData} {body : List Stmt} {d : FnDef} (K : FnOk X a fd body d) {A : Around} {args : List AV} {vs : List Value} (hn : args.length = d.np) (H : HOk X [] κ φ α hp s) (r : RepAll X α φ vs args) {s₁ : Shared}
    (x : InCallC s (callEnvC fd s.heap.objs.size a).locals (bindL (callEnvC fd s.heap.objs.size a).kindOf ((d.names.take d.np).zip vs) fun _ => none) (callEnvC fd s.heap.objs.size a).cells
        (PySem.bindC (callEnvC fd s.heap.objs.size a).kindOf ((d.names.take d.np).zip vs) fun _ => none) s₁) :
    FOk X (fmOf fd d a s.heap.objs.size A) κ φ α (args.map some ++ List.replicate (d.names.length - d.np) none) hp s₁ := by
  obtain ⟨h₁, tk, rfl⟩ := x.toInCall.same
  have hk := x.toInCall.keep
  have hfresh : ∀ b, b ∈ (fmOf fd d a s.heap.objs.size A).own → s.heap.get? b = none := by
    intro b hb
    cases q : s.heap.get? b with
    | none => rfl
    | some o =>
      have hlt := Heap.lt_size q
      rcases List.mem_cons.mp hb with rfl | hb
      · exact absurd hlt (Nat.lt_irrefl _)
      · obtain ⟨⟨n, c⟩, hc, rfl⟩ := List.mem_map.mp hb
        have := x.above n c hc
        have e : (callEnvC fd s.heap.objs.size a).locals = s.heap.objs.size := rfl
        rw [e] at this
        exact absurd (Nat.lt_trans this hlt) (Nat.lt_irrefl _)
  have hl := r.length
  have hnd := H.nodup
  rw [List.nil_append, List.nodup_cons] at hnd
  have hmem : ∀ b, b ∈ (fmOf fd d a s.heap.objs.size A).own → ∃ o, h₁.get? b = some o := by
    intro b hb
    rcases List.mem_cons.mp hb with rfl | hb
    · obtain ⟨o, _, _, e, _⟩ := x.toInCall.ns; exact ⟨o, e⟩
    · obtain ⟨⟨n, c⟩, hc, rfl⟩ := List.mem_map.mp hb
      obtain ⟨o, e, _⟩ := x.cell n c (PyProof.Rows.lookup_of_mem_nodup (PyProof.Rows.cellsFrom_names fd.scope.names 0 (s.heap.objs.size + 1) [] [] rfl ▸ K.cellsNd) hc)
      exact ⟨o, e⟩
  refine ⟨⟨H.gens, H.drawn, H.os, H.base, fun b o k => hk b o (H.kept b o k), fun b o k => hk b o (H.froz b o k), ?_, hmem, H.len, fun t y k => ?_, ?_, fun b hb => ?_, H.disj⟩, ⟨⟨_, x.toInCall.ns, fun i y av hi hr => ?_⟩, fun y hy => ?_, ?_, fun _ h => nomatch h⟩⟩
  · obtain ⟨o, e, p⟩ := H.tab; exact ⟨o, hk _ _ e, p⟩
  · obtain ⟨b, hb, q⟩ := H.obj t y k
    exact ⟨b, hb, q.mono (List.prefix_refl _) (Part.le_refl _) fun o z => hk _ _ z⟩
  · rw [List.nodup_cons, List.nodup_append]
    have hno : ∀ b ∈ X.P :: ([] ++ α), b ∉ (fmOf fd d a s.heap.objs.size A).own := fun b hb hin => by
      obtain ⟨o, e⟩ := H.known b hb
      rw [hfresh b hin] at e; cases e
    refine ⟨fun q => ?_, ?_, hnd.2, fun b hb c hc e => ?_⟩
    · rcases List.mem_append.mp q with q | q
      · exact hno _ List.mem_cons_self q
      · exact hnd.1 q
    · show (s.heap.objs.size :: (cellsFrom (s.heap.objs.size + 1) fd.scope.names []).map (·.2)).Nodup
      rw [List.nodup_cons]
      refine ⟨fun q => ?_, pw_map x.apart⟩
      obtain ⟨⟨n, c⟩, hc, e⟩ := List.mem_map.mp q
      have := x.above n c hc
      have e' : (callEnvC fd s.heap.objs.size a).locals = s.heap.objs.size := rfl
      rw [e'] at this
      have e2 : c = s.heap.objs.size := e
      rw [e2] at this
      exact absurd this (Nat.lt_irrefl _)
    · subst e
      exact hno b (List.mem_cons_of_mem _ hc) hb
  · rcases List.mem_cons.mp hb with rfl | hb
    · exact H.apart _ List.mem_cons_self
    · rcases List.mem_append.mp hb with hb | hb
      · have := H.fresh (hfresh b hb); exact ⟨this.1, this.2.1⟩
      · exact H.apart b (List.mem_cons_of_mem _ hb)
  · -- a parameter's value
    have hia : i < args.length := by
      rcases Nat.lt_or_ge i args.length with q | q
      · exact q
      · rw [List.getElem?_append_right (by simpa using q)] at hr
        simp [List.getElem?_replicate] at hr
    rw [List.getElem?_append_left (by simpa using hia)] at hr
    have hav : args[i]? = some av := by simpa using hr
    obtain ⟨v, hv, rv⟩ := r.get hav
    have hi' : d.names[i]? = some y := hi
    have hz : (y, v) ∈ (d.names.take d.np).zip vs := by
      rw [List.mem_iff_getElem?]
      refine ⟨i, ?_⟩
      rw [List.getElem?_zip_eq_some]
      refine ⟨?_, hv⟩
      rw [List.getElem?_take_of_lt (by lia)]; exact hi'
    have hdup : (((d.names.take d.np).zip vs).map (·.1)).Nodup := by
      rw [List.map_fst_zip (by rw [List.length_take]; lia)]
      exact K.nodup.sublist (List.take_sublist _ _)
    have hy : y ∈ d.names := List.mem_of_getElem? hi'
    refine ⟨v, rv, ?_⟩
    rcases K.kinds y hy with hk' | hk'
    · exact .inl ⟨hk', bindL_get _ _ hdup hz hk'⟩
    · have hs := W.cellsFrom_some fd.scope.names (s.heap.objs.size + 1) [] (.inl hk')
      obtain ⟨c, hc⟩ := Option.isSome_iff_exists.mp hs
      have hcell := x.cell y c hc
      rw [bindC_get _ _ hdup hz (by show fd.scope.names.lookup y ≠ _; rw [hk']; decide)] at hcell
      exact .inr ⟨c, .inl hk', hc, .inl (List.mem_cons_of_mem _ (List.mem_map.mpr ⟨_, mem_of_lookup hc, rfl⟩)), hcell⟩
  · have hk' : fd.scope.names.lookup y = some .cell := hy
    have hs := W.cellsFrom_some fd.scope.names (s.heap.objs.size + 1) [] (.inl hk')
    obtain ⟨c, hc⟩ := Option.isSome_iff_exists.mp hs
    exact ⟨c, hc, .inl (List.mem_cons_of_mem _ (List.mem_map.mpr ⟨_, mem_of_lookup hc, rfl⟩)), _, x.cell y c hc⟩
  · show (args.map some ++ List.replicate (d.names.length - d.np) none).length = d.names.length
    have := K.np
    simp; lia
theorem Room.deeper {A : Around} {n : Nat} (R : Room A (n + 1)) (env : Env) : Room (A.deeper env) n := by
  obtain ⟨h1, h2, h3⟩ := R
  refine ⟨h1, ?_, ?_⟩
  · show A.depth + 1 + n < 900; lia
  · show A.units + 3 + 20 * n < 9000; lia
theorem fn_sound {a : Addr} {fd : FuncData} {body : List Stmt} {d : FnDef} (K : FnOk X a fd body d) {n : Nat}
    (S : ∀ L A, Room (fmOf fd d a L A).A n → (fmOf fd d a L A).Wf X → SSs X G (fmOf fd d a L A) body d.body)
    {args : List AV} {av : AV} (h : runFn G d args hp = some (av, hp')) {A : Around} {vs : List Value} (R : Room A (n + 1)) (H : HOk X [] κ φ α hp s) (r : RepAll X α φ vs args) :
    codeAny (model X.prog X.w) A (.call (.ref a) ⟨vs, []⟩) (PC X κ φ α hp' av) s := by
  obtain ⟨hn, h1⟩ := if_inv h
  obtain ⟨o, ho, hfd⟩ := K.obj
  have bi := H.baseIn
  refine codeAny_call_cells (Nat.lt_of_le_of_lt (Nat.le_add_right _ _) (Nat.lt_trans R.2.1 (by decide))) (bi a o ho) hfd (K.lim _ bi) (K.cd _ bi) K.body (K.bind vs (r.length.trans hn)) K.clo (fun x hx => ?_) (fun s₁ x => ?_) K.co K.gen K.kind
  · have hx' : x.1 ∈ d.names := List.mem_of_mem_take (List.of_mem_zip hx).1
    rcases K.kinds x.1 hx' with q | q
    · exact .inl q
    · exact .inr ⟨q, W.cellsFrom_some _ _ _ (.inl q)⟩
  · have F := fn_start (A := A) K hn H r x
    have Wf := wf_fn (A := A) K R.1 x.apart x.above
    have Rm : Room (fmOf fd d a s.heap.objs.size A).A n := R.deeper _
    cases endB_inv h1 with
    | ret v ρ₁ hp₁ e1 h2 =>
      refine wpAny_mono (S _ _ Rm Wf _ _ _ _ _ e1 _ _ _ _ F) (fun fl s' P => ?_) fun _ _ z => z.elim
      obtain ⟨β, ψ, hα, hφ, F', fi⟩ := P
      obtain ⟨w, rfl, rv⟩ := fi.inv_ret
      rw [← H.len] at h2
      exact close_ok F'.H.noOwn h2 hα hφ rv
    | next ρ₁ hp₁ e1 h2 =>
      refine wpAny_mono (S _ _ Rm Wf _ _ _ _ _ e1 _ _ _ _ F) (fun fl s' P => ?_) fun _ _ z => z.elim
      obtain ⟨β, ψ, hα, hφ, F', fi⟩ := P
      obtain rfl := fi.inv_next
      rw [← H.len] at h2
      exact close_ok F'.H.noOwn h2 hα hφ .none
end
end Mine
end
section
namespace Mine
open PySem PyProof.Rows
noncomputable def Froz (φ : Part) (h : Heap) : Prop := ∀ a o, φ a = some o → h.get? a = some o
noncomputable def Iter (X : Wd) (A : Around) (α : List Addr) (φ : Part) (I : Addr) : List AV → Obj → Prop
  | [], o => ∀ (s : Shared) (Q : Option Value → Shared → Prop) (E : Value → Shared → Prop), Froz φ s.heap → s.heap.get? I = some o →
      (∀ h' tk, (∀ b x, b ≠ I → s.heap.get? b = some x → h'.get? b = some x) → Q none { s with heap := h', toks := tk }) → wpAny (model X.prog X.w) A (pyNext (.ref I)) Q E s
  | v :: vs, o => ∀ (s : Shared) (Q : Option Value → Shared → Prop) (E : Value → Shared → Prop), Froz φ s.heap → s.heap.get? I = some o →
      (∀ u h' tk o', h'.get? I = some o' → Iter X A α φ I vs o' → Rep X α φ u v → (∀ b x, b ≠ I → s.heap.get? b = some x → h'.get? b = some x) → Q (some u) { s with heap := h', toks := tk }) → wpAny (model X.prog X.w) A (pyNext (.ref I)) Q E s
structure Ready (X : Wd) (A : Around) (α : List Addr) (φ : Part) (I : Addr) (xs : List AV) (o : Obj) : Prop where
  it : Iter X A α φ I xs o
  self : ∀ (s : Shared) (Q : Value → Shared → Prop) (E : Value → Shared → Prop), Froz φ s.heap → s.heap.get? I = some o → Q (.ref I) s → wpAny (model X.prog X.w) A (pyIter (.ref I)) Q E s
section
variable {X : Wd} {A : Around} {G : Gl} {fm : Fm} {κ φ ψ : Part} {α β : List Addr} {ρ ρ' : Env'} {hp hp' : Hp} {s : Shared}
theorem drop_cons {τ : Type} {xs : List τ} {i : Nat} {x : τ} (h : xs[i]? = some x) : xs.drop i = x :: xs.drop (i + 1) := by
  obtain ⟨hi, e⟩ := List.getElem?_eq_some_iff.mp h
  rw [List.drop_eq_getElem_cons hi, e]
theorem iter_walk {I : Addr} {fp : List Addr} {n : Nat} {P : Nat → Value → Prop} {St : Nat → Heap → Prop} {xs : List AV} (W : Walks X.prog X.w A I fp [I] n P St) (hφ : φ I = none)
    (hfp : ∀ b ∈ fp, b = I ∨ ∃ o, φ b = some o) (hn : n = xs.length) (hP : ∀ i v, P i v → i < n → ∃ x, xs[i]? = some x ∧ Rep X α φ v x) (hI : ∀ i h, St i h → ∃ o, h.get? I = some o) :
    ∀ k i, i + k = n → ∀ h o, Froz φ h → St i h → h.get? I = some o → Iter X A α φ I (xs.drop i) o := by
  have fr : ∀ i h h' o, Froz φ h → Froz φ h' → h.get? I = some o → h'.get? I = some o → St i h → St i h' := fun i h h' o f f' e e' st =>
    W.frame i h h' st fun b hb x q => by
      rcases hfp b hb with rfl | ⟨y, hy⟩
      · rw [e] at q; cases q; exact e'
      · rw [f b y hy] at q; cases q; exact f' b x hy
  intro k
  induction k with
  | zero =>
    intro i hi h o f st e
    have : xs.drop i = [] := List.drop_eq_nil_of_le (by lia)
    rw [this]
    intro s Q E f' e' hQ
    refine W.done s Q E (by have := fr i h s.heap o f f' e e' st; rwa [show i = n by lia] at this) fun h' tk hk => hQ h' tk fun b x hb q => hk b x (by simpa using hb) q
  | succ k ih =>
    intro i hi h o f st e
    have hlt : i < xs.length := by lia
    have hx : xs[i]? = some xs[i] := List.getElem?_eq_getElem hlt
    rw [drop_cons hx]
    intro s Q E f' e' hQ
    refine W.item i s Q E (by lia) (fr i h s.heap o f f' e e' st) fun v h' tk hv st' hk => ?_
    obtain ⟨x, hx', r⟩ := hP i v hv (by lia)
    rw [hx] at hx'; cases hx'
    obtain ⟨o', ho'⟩ := hI _ _ st'
    have f'' : Froz φ h' := fun b y q => hk b y (by simp; rintro rfl; rw [hφ] at q; cases q) (f' b y q)
    exact hQ v h' tk o' ho' (ih (i + 1) (by lia) h' o' f'' st' ho') r fun b y hb q => hk b y (by simpa using hb) q
theorem ready_walk {I : Addr} {fp : List Addr} {n : Nat} {P : Nat → Value → Prop} {St : Nat → Heap → Prop} {xs : List AV} (W : Walks X.prog X.w A I fp [I] n P St) (hφ : φ I = none)
    (hfp : ∀ b ∈ fp, b = I ∨ ∃ o, φ b = some o) (hn : n = xs.length) (hP : ∀ i v, P i v → i < n → ∃ x, xs[i]? = some x ∧ Rep X α φ v x) (hI : ∀ i h, St i h → ∃ o, h.get? I = some o)
    {h : Heap} {o : Obj} (f : Froz φ h) (st : St 0 h) (e : h.get? I = some o) : Ready X A α φ I xs o where
  it := iter_walk W hφ hfp hn hP hI n 0 (by lia) h o f st e
  self := fun s Q E f' e' hQ => W.self 0 s Q E (W.frame 0 h s.heap st fun b hb x q => by
      rcases hfp b hb with rfl | ⟨y, hy⟩
      · rw [e] at q; cases q; exact e'
      · rw [f b y hy] at q; cases q; exact f' b x hy) hQ
theorem HOk.addK {own : List Addr} (H : HOk X own κ φ α hp s) {I : Addr} {o : Obj} (e : s.heap.get? I = some o) (hκ : κ I = none) (hφ : φ I = none) (hn : I ∉ X.P :: (own ++ α)) : HOk X own (κ.put I o) φ α hp s :=
  ⟨H.gens, H.drawn, H.os, H.base, fun a x k => by
    by_cases q : a = I
    · subst q; rw [Part.put_self] at k; cases k; exact e
    · rw [Part.put_ne _ _ q] at k; exact H.kept a x k, H.froz, H.tab, H.ownIn, H.len, H.obj, H.nodup, fun a ha => ⟨by
    have q : a ≠ I := by rintro rfl; exact hn ha
    rw [Part.put_ne _ _ q]; exact (H.apart a ha).1, (H.apart a ha).2⟩, fun a x k => by
    by_cases q : a = I
    · subst q; exact hφ
    · rw [Part.put_ne _ _ q] at k; exact H.disj a x k⟩
theorem FOk.addK (F : FOk X fm κ φ α ρ hp s) {I : Addr} {o : Obj} (e : s.heap.get? I = some o) (hκ : κ I = none) (hφ : φ I = none) (hn : I ∉ X.P :: (fm.own ++ α)) : FOk X fm (κ.put I o) φ α ρ hp s :=
  ⟨F.H.addK e hκ hφ hn, ⟨F.L.ns, F.L.cells, F.L.len, fun c hc => (F.L.capsIn c hc).imp (fun ⟨x, k⟩ => ⟨x, Part.le_put hκ c x k⟩) id⟩⟩
theorem FOk.notCap (F : FOk X fm κ φ α ρ hp s) {I : Addr} (hκ : κ I = none) (hφ : φ I = none) : I ∉ fm.caps := fun h => by
  rcases F.L.capsIn I h with ⟨o, k⟩ | ⟨o, k⟩
  · rw [hκ] at k; cases k
  · rw [hφ] at k; cases k
theorem FOk.putApart {I : Addr} {o : Obj} (F : FOk X fm (κ.put I o) φ α ρ hp s) : s.heap.get? I = some o ∧ φ I = none ∧ I ∉ X.P :: (fm.own ++ α) :=
  ⟨F.H.kept I o (Part.put_self _ _ _), F.H.disj I o (Part.put_self _ _ _), fun h => by have := (F.H.apart I h).1; rw [Part.put_self] at this; cases this⟩
theorem FOk.lessK (W : fm.Wf X) {I : Addr} {o : Obj} (F : FOk X fm (κ.put I o) φ α ρ hp s) (hκ : κ I = none) (hc : I ∉ fm.caps) {h' : Heap} (e : ∀ b x, b ≠ I → s.heap.get? b = some x → h'.get? b = some x) (tk : Nat) :
    FOk X fm κ φ α ρ hp { s with heap := h', toks := tk } := by
  obtain ⟨eI, hφ, hn⟩ := F.putApart
  have H := F.H
  have inP : ∀ a ∈ X.P :: (fm.own ++ α), a ≠ I := fun a ha q => hn (q ▸ ha)
  have ck : ∀ c ∈ fm.caps, c ≠ I := fun c h q => hc (q ▸ h)
  have lep : κ.le (κ.put I o) := Part.le_put hκ
  refine ⟨⟨H.gens, H.drawn, H.os, H.base, fun a x k => e a x (fun q => by rw [q, hκ] at k; cases k) (H.kept a x (lep a x k)), fun a x k => e a x (fun q => by rw [q, hφ] at k; cases k) (H.froz a x k), ?_, fun a ha => ?_, H.len, fun t x k => ?_, H.nodup, fun a ha => ⟨?_, (H.apart a ha).2⟩, fun a x k => H.disj a x (lep a x k)⟩, ?_⟩
  · obtain ⟨x, k, p⟩ := H.tab
    exact ⟨x, e _ _ (inP _ List.mem_cons_self) k, p⟩
  · obtain ⟨x, k⟩ := H.ownIn a ha
    exact ⟨x, e _ _ (inP _ (List.mem_cons_of_mem _ (List.mem_append_left _ ha))) k⟩
  · obtain ⟨a, ha, r⟩ := H.obj t x k
    exact ⟨a, ha, r.mono (List.prefix_refl _) (Part.le_refl _) fun y q => e _ _ (inP _ (List.mem_cons_of_mem _ (List.mem_append_right _ (List.mem_of_getElem? ha)))) q⟩
  · have := (H.apart a ha).1; rwa [Part.put_ne _ _ (inP a ha)] at this
  · have L := F.L.keeps (h' := h') W (List.prefix_refl _) (Part.le_refl φ) fun c x hcc q => e c x (by
      rcases hcc with hcc | hcc
      · exact inP _ (List.mem_cons_of_mem _ (List.mem_append_left _ hcc))
      · exact ck c hcc) q
    exact ⟨L.ns, L.cells, L.len, fun c h => (L.capsIn c h).imp (fun ⟨x, k⟩ => ⟨x, by rwa [Part.put_ne _ _ (ck c h)] at k⟩) id⟩
inductive PSrc (X : Wd) (fm : Fm) (κ φ : Part) (α : List Addr) (ρ : Env') (hp' : Hp) (xs : List AV) (it : Value) (s₂ : Shared) : Prop
  | mk (I : Addr) (o : Obj) (β : List Addr) (ψ : Part) : it = .ref I → α <+: β → φ.le ψ → FOk X fm κ ψ β ρ hp' s₂ → s₂.heap.get? I = some o → κ I = none → ψ I = none → I ∉ X.P :: (fm.own ++ β) → Ready X fm.A β ψ I xs o → PSrc X fm κ φ α ρ hp' xs it s₂
noncomputable def SSrc (X : Wd) (G : Gl) (fm : Fm) (e : Expr) (me : ME) : Prop :=
  ∀ ρ hp xs hp', evSrc G me ρ hp = some (.fix xs, hp') → ∀ κ φ α s, FOk X fm κ φ α ρ hp s →
    Wp X fm (eval e fm.env) (fun xv s₁ => Wp X fm (pyIter xv) (PSrc X fm κ φ α ρ hp' xs) s₁) s
theorem Ext.push' (h : Heap) {o : Obj} (f : o.isFreed = false) : (h.push o).get? h.objs.size = some o := Heap.get?_push_size _ f
theorem fresh_size (h : Heap) : h.get? h.objs.size = none := by
  cases e : h.get? h.objs.size with
  | none => rfl
  | some o => exact absurd (Heap.lt_size e) (Nat.lt_irrefl _)
theorem PSrc.fresh (W : fm.Wf X) (F : FOk X fm κ φ α ρ hp s) {o : Obj} {xs : List AV} (f : o.isFreed = false) (r : Ready X fm.A α φ s.heap.objs.size xs o) {tk : Nat} : PSrc X fm κ φ α ρ hp xs (.ref s.heap.objs.size) { s with heap := s.heap.push o, toks := tk } := by
  obtain ⟨h1, h2, h3⟩ := F.H.fresh (fresh_size s.heap)
  exact ⟨_, o, α, φ, rfl, List.prefix_refl _, Part.le_refl _, F.grow W (Ext.push _ _) tk, Ext.push' _ f, h1, h2, h3, r⟩
theorem src_val (W : fm.Wf X) {av : AV} {v : Value} {xs : List AV} (h : srcVal av = some (.fix xs)) (F : FOk X fm κ φ α ρ hp s) (r : Rep X α φ v av) : Wp X fm (pyIter v) (PSrc X fm κ φ α ρ hp xs) s := by
  have hfr : φ s.heap.objs.size = none := (F.H.fresh (fresh_size s.heap)).2.1
  have fz : ∀ o, Froz φ (s.heap.push o) := fun o a x k => Heap.get?_push_of_some _ (F.H.froz a x k)
  cases r with
  | str x t =>
    obtain rfl := Sr.fix_inj (Option.some.inj h)
    have hP : ∀ i v, SignAt x i v → i < x.cps.size → ∃ y, (x.cps.toList.map fun c => AV.str [c])[i]? = some y ∧ Rep X α φ v y := by
      intro i v hv hi
      obtain ⟨c, u, e, rfl⟩ := hv
      refine ⟨.str [c], by simp [List.getElem?_map]; simpa using e, ?_⟩
      exact Rep.str ⟨#[c]⟩ u
    cases ha : x.cps.all (· < 128)
    · exact wpAny_pyIter_wide ha (PSrc.fresh W F (tk := s.toks) rfl (ready_walk (Walks.strWide W.handled _ x t) hfr (fun b hb => .inl (by simpa using hb)) (by simp) hP (fun i h st => let ⟨o, e, _⟩ := st; ⟨o, e⟩) (fz _) ⟨_, Ext.push' _ rfl, rfl, rfl⟩ (Ext.push' _ rfl)))
    · exact wpAny_pyIter_ascii ha (PSrc.fresh W F (tk := s.toks) rfl (ready_walk (Walks.strAscii W.handled _ x t) hfr (fun b hb => .inl (by simpa using hb)) (by simp) hP (fun i h st => let ⟨o, e, _⟩ := st; ⟨o, e⟩) (fz _) ⟨_, Ext.push' _ rfl, rfl, rfl⟩ (Ext.push' _ rfl)))
  | tup ho hT rr =>
    rename_i a o vs ys
    obtain rfl := Sr.fix_inj (Option.some.inj h)
    obtain ⟨n, rfl⟩ := hT
    have hg := F.H.froz _ _ ho
    have ht : s.heap.IsTuple a vs.toArray := ⟨_, hg, rfl, n, rfl⟩
    have hne : a ≠ s.heap.objs.size := Nat.ne_of_lt (Heap.lt_size hg)
    refine wpAny_pyIter_tuple ht (PSrc.fresh W F (tk := s.toks) rfl (ready_walk (Walks.tuple W.handled _ a hne vs.toArray) hfr ?_ (by simp [rr.length]) (fun i v hv hi => ?_) (fun i h st => ?_) (fz _) ⟨⟨_, Ext.push' _ rfl, rfl, rfl⟩, _, Heap.get?_push_of_some _ hg, rfl, n, rfl⟩ (Ext.push' _ rfl)))
    · intro b hb
      rcases List.mem_cons.mp hb with q | q
      · exact .inl q
      · simp at q; subst q; exact .inr ⟨_, ho⟩
    · have hi' : i < ys.length := by rw [← rr.length]; simpa using hi
      obtain ⟨w, hw, rw'⟩ := rr.get (List.getElem?_eq_getElem hi')
      simp at hv; rw [hv] at hw; cases hw
      exact ⟨_, List.getElem?_eq_getElem hi', rw'⟩
    · obtain ⟨o, e, _⟩ := st.1; exact ⟨o, e⟩
  | lst ho hT rr =>
    rename_i a o vs ys
    obtain rfl := Sr.fix_inj (Option.some.inj h)
    obtain ⟨n, rfl⟩ := hT
    have hg := F.H.froz _ _ ho
    have ht : s.heap.IsList a vs.toArray := ⟨_, hg, rfl, n, rfl⟩
    have hne : a ≠ s.heap.objs.size := Nat.ne_of_lt (Heap.lt_size hg)
    refine wpAny_pyIter_list ht (PSrc.fresh W F (tk := s.toks) rfl (ready_walk (Walks.list W.handled _ a hne vs.toArray) hfr ?_ (by simp [rr.length]) (fun i v hv hi => ?_) (fun i h st => ?_) (fz _) ⟨⟨_, Ext.push' _ rfl, rfl, rfl⟩, _, Heap.get?_push_of_some _ hg, rfl, n, rfl⟩ (Ext.push' _ rfl)))
    · intro b hb
      rcases List.mem_cons.mp hb with q | q
      · exact .inl q
      · simp at q; subst q; exact .inr ⟨_, ho⟩
    · have hi' : i < ys.length := by rw [← rr.length]; simpa using hi
      obtain ⟨w, hw, rw'⟩ := rr.get (List.getElem?_eq_getElem hi')
      simp at hv; rw [hv] at hw; cases hw
      exact ⟨_, List.getElem?_eq_getElem hi', rw'⟩
    · obtain ⟨o, e, _⟩ := st.1; exact ⟨o, e⟩
  | _ => simp [srcVal] at h
theorem ssrc_val (W : fm.Wf X) {e : Expr} {me : ME} (S : SE X G fm e me) : SSrc X G fm e (.sVal me) := by
  intro ρ hp xs hp' h κ φ α s F
  obtain ⟨x, hp₁, e1, h1⟩ := bnd_inv h
  obtain ⟨hm, rfl⟩ := map_pair' h1
  refine S.andThen e1 F fun β ψ v s₁ hα hφ F₁ r₁ => wpAny_mono (src_val W hm F₁ r₁) (fun it s₂ P => ?_) fun _ _ z => z
  obtain ⟨I, o, γ, χ, h1, h2, h3, h4, h5, h6, h7, h8, h9⟩ := P
  exact ⟨I, o, γ, χ, h1, hα.trans h2, Part.le_trans hφ h3, h4, h5, h6, h7, h8, h9⟩
end
end Mine
end
section
namespace Mine
open PySem PyProof.Rows
section
variable {X : Wd} {G : Gl} {fm : Fm} {κ φ ψ : Part} {α β : List Addr} {ρ ρ' : Env'} {hp hp' : Hp} {s : Shared}
theorem PSrc.lift {xs : List AV} {it : Value} {s₂ : Shared} (hα : α <+: β) (hφ : φ.le ψ) (P : PSrc X fm κ ψ β ρ hp' xs it s₂) : PSrc X fm κ φ α ρ hp' xs it s₂ := by
  obtain ⟨I, o, γ, χ, h1, h2, h3, h4, h5, h6, h7, h8, h9⟩ := P
  exact ⟨I, o, γ, χ, h1, hα.trans h2, Part.le_trans hφ h3, h4, h5, h6, h7, h8, h9⟩
theorem range_ready (W : fm.Wf X) (F : FOk X fm κ φ α ρ hp s) {lo hi : Int} {t u v : Tok} {tk : Nat} (h1 : lo.natAbs < 2 ^ 20) (h2 : hi.natAbs < 2 ^ 20) :
    Wp X fm (pyIter (.ref s.heap.objs.size)) (PSrc X fm κ φ α ρ hp (range lo hi)) { s with heap := s.heap.push { cls := .type "range", data := .fields #[.int lo t, .int hi u, .int 1 v] }, toks := tk } := by
  have F₁ := F.grow W (Ext.push s.heap { cls := .type "range", data := .fields #[.int lo t, .int hi u, .int 1 v] }) tk
  have hsz : Builtin.Range.rangeSize lo hi 1 = ((hi - lo).toNat : Int) := by rw [rangeSize_one]; split <;> lia
  refine wpAny_pyIter_range (IsRange.new ..) (small_one (by lia) (by lia) (by lia) (by lia)) (PSrc.fresh W F₁ (tk := tk) rfl (ready_walk (Walks.range W.handled _ lo 1 (hi - lo).toNat) (F₁.H.fresh (fresh_size _)).2.1 (fun b hb => .inl (by simpa using hb)) ?_ (fun i v hv hi => ?_) (fun i h st => ⟨_, st⟩) ?_ ?_ (Ext.push' _ rfl)))
  · simp [range]
  · obtain ⟨w, rfl⟩ := hv
    refine ⟨.int (lo + i), by simp [range, List.getElem?_map, List.getElem?_range hi], ?_⟩
    rw [Int.mul_one]; exact .int _ _
  · exact fun a x k => Heap.get?_push_of_some _ (F₁.H.froz a x k)
  · have e1 : (lo + ((0 : Nat) : Int) * 1) = lo := by simp
    have e2 : (((hi - lo).toNat : Int) - ((0 : Nat) : Int)) = Builtin.Range.rangeSize lo hi 1 := by rw [hsz]; simp
    show IsRangeIter _ _ (lo + ((0 : Nat) : Int) * 1) (((hi - lo).toNat : Int) - ((0 : Nat) : Int)) 1
    rw [e1, e2]
    exact Heap.get?_push_size _ rfl
theorem ssrc_range1 (W : fm.Wf X) (g : GlobOk X "range" (.type "range")) (hk : fm.env.kindOf "range" = some .globalImplicit) {np pos : Pos} {e : Expr} {me : ME} (he : notStar e = true) (S : SE X G fm e me) :
    SSrc X G fm (.Call (.Name "range" np) [e] [] pos) (.sRange (.int 0) me) := by
  intro ρ hp xs hp' h κ φ α s F
  obtain ⟨x, hp₂, e1, h2⟩ := bnd_inv (o := evE G me ρ hp) h
  obtain ⟨hi, rfl, h3⟩ := onInt_inv h2
  obtain ⟨hz, e⟩ := ite_inv h3
  obtain ⟨e2, rfl⟩ := Prod.mk.inj e
  obtain rfl := Sr.fix_inj e2
  refine wpAny_Call_NameR (load_glob W g hk (by decide) F ?_)
  rw [star1 he]
  refine PySem.callWith_type rfl (Calls.evalArgs_plain (Calls.spliced_cons (S.andThen e1 F fun β ψ v s₁ hα hφ F₁ r₁ => Calls.spliced_nil ?_)))
  obtain ⟨t, rfl⟩ := r₁.inv_int
  refine call_range_1 ?_
  exact wpAny_mono (range_ready W F₁ hz.1 hz.2) (fun _ _ P => P.lift hα hφ) fun _ _ z => z
theorem ssrc_range2 (W : fm.Wf X) (g : GlobOk X "range" (.type "range")) (hk : fm.env.kindOf "range" = some .globalImplicit) {np pos : Pos} {e e' : Expr} {me me' : ME} (he : notStar e = true) (he' : notStar e' = true) (S : SE X G fm e me) (S' : SE X G fm e' me') :
    SSrc X G fm (.Call (.Name "range" np) [e, e'] [] pos) (.sRange me me') := by
  intro ρ hp xs hp' h κ φ α s F
  obtain ⟨x, hp₁, e1, h1⟩ := bnd_inv h
  obtain ⟨lo, rfl, h2⟩ := onInt_inv h1
  obtain ⟨y, hp₂, e2, h3⟩ := bnd_inv h2
  obtain ⟨hi, rfl, h4⟩ := onInt_inv h3
  obtain ⟨hz, e⟩ := ite_inv h4
  obtain ⟨e3, rfl⟩ := Prod.mk.inj e
  obtain rfl := Sr.fix_inj e3
  refine wpAny_Call_NameR (load_glob W g hk (by decide) F ?_)
  rw [star1 he, star1 he']
  refine PySem.callWith_type rfl (Calls.evalArgs_plain (Calls.spliced_cons (S.andThen e1 F fun β ψ v s₁ hα hφ F₁ r₁ => Calls.spliced_cons (S'.andThen e2 F₁ fun γ χ w s₂ hβ hψ F₂ r₂ => Calls.spliced_nil ?_))))
  obtain ⟨t, rfl⟩ := r₁.inv_int
  obtain ⟨u, rfl⟩ := r₂.inv_int
  refine call_range_2 ?_
  exact wpAny_mono (range_ready W F₂ hz.1 hz.2) (fun _ _ P => P.lift (hα.trans hβ) (Part.le_trans hφ hψ)) fun _ _ z => z
theorem next_ok (W : fm.Wf X) {I : Addr} {o : Obj} {v : AV} {vs : List AV} {β' : List Addr} {ψ' : Part} (it : Iter X fm.A β' ψ' I (v :: vs) o) (hα : β' <+: α) (hφ : ψ'.le φ) (hκ : κ I = none) (hc : I ∉ fm.caps)
    (F : FOk X fm (κ.put I o) φ α ρ hp s) {Q : Option Value → Shared → Prop} {E : Value → Shared → Prop} (k : ∀ u o' s', Iter X fm.A β' ψ' I vs o' → Rep X α φ u v → FOk X fm (κ.put I o') φ α ρ hp s' → Q (some u) s') : wpAny (model X.prog X.w) fm.A (pyNext (.ref I)) Q E s := by
  obtain ⟨eI, hφI, hn⟩ := F.putApart
  refine it s Q E (fun a x q => F.H.froz a x (hφ a x q)) eI fun u h' tk o' ho' it' r hk => ?_
  exact k u o' _ it' (r.mono hα hφ) ((F.lessK W hκ hc hk tk).addK ho' hκ hφI hn)
theorem done_ok (W : fm.Wf X) {I : Addr} {o : Obj} {β' : List Addr} {ψ' : Part} (it : Iter X fm.A β' ψ' I [] o) (hα : β' <+: α) (hφ : ψ'.le φ) (hκ : κ I = none) (hc : I ∉ fm.caps)
    (F : FOk X fm (κ.put I o) φ α ρ hp s) {Q : Option Value → Shared → Prop} {E : Value → Shared → Prop} (k : ∀ s', FOk X fm κ φ α ρ hp s' → Q none s') : wpAny (model X.prog X.w) fm.A (pyNext (.ref I)) Q E s := by
  obtain ⟨eI, hφI, hn⟩ := F.putApart
  exact it s Q E (fun a x q => F.H.froz a x (hφ a x q)) eI fun h' tk hk => k _ (F.lessK W hκ hc hk tk)
noncomputable def STg (X : Wd) (fm : Fm) (e : Expr) (unp : Option (List Nat)) (x : Nat) : Prop :=
  (∀ it v, letOwnedTupleGo e it v = pure ()) ∧
  ∀ ρ hp av ρ', bindF unp x av ρ = some ρ' → ∀ κ φ α s v, FOk X fm κ φ α ρ hp s → Rep X α φ v av → ∀ Q : Unit → Shared → Prop, (∀ s', FOk X fm κ φ α ρ' hp s' → Q () s') → Wp X fm (assign e fm.env v) Q s
theorem stg_name (W : fm.Wf X) {x : Str} {i : Nat} {p : Pos} (hx : fm.names[i]? = some x) (hs : Stores fm x) : STg X fm (.Name x p) none i := by
  refine ⟨fun _ _ => rfl, ?_⟩
  intro ρ hp av ρ' h κ φ α s v F r Q k
  cases h
  exact wpAny_assign_Name (store_at W F hx r hs k)
inductive ForAt (X : Wd) (fm : Fm) (κ : Part) (I : Addr) (β' : List Addr) (ψ' : Part) (L : List AV → Env' → Hp → Option (Fl × Env' × Hp)) (r : Fl × Env' × Hp) (n : Nat) (s : Shared) : Prop
  | mk (ρ : Env') (hp : Hp) (β : List Addr) (ψ : Part) (vs : List AV) (o : Obj) : vs.length = n → Iter X fm.A β' ψ' I vs o → L vs ρ hp = some r → β' <+: β → ψ'.le ψ → FOk X fm (κ.put I o) ψ β ρ hp s → ForAt X fm κ I β' ψ' L r n s
inductive NextAt (X : Wd) (fm : Fm) (κ φ : Part) (α : List Addr) (ρ : Env') (hp : Hp) (I : Addr) (β' : List Addr) (ψ' : Part) (v : AV) (vs : List AV) (r : Option Value) (s : Shared) : Prop
  | mk (u : Value) (o : Obj) : r = some u → Iter X fm.A β' ψ' I vs o → Rep X α φ u v → FOk X fm (κ.put I o) φ α ρ hp s → NextAt X fm κ φ α ρ hp I β' ψ' v vs r s
inductive ForTurn (X : Wd) (fm : Fm) (κ φ : Part) (α : List Addr) (I : Addr) (β' : List Addr) (ψ' : Part) (L : List AV → Env' → Hp → Option (Fl × Env' × Hp)) (f : Fl) (ρ' : Env') (hp' : Hp) (n : Nat) : Flow → Shared → Prop
  | go {fl : Flow} {s : Shared} : fl = .next ∨ fl = .cont → ForAt X fm κ I β' ψ' L (f, ρ', hp') n s → ForTurn X fm κ φ α I β' ψ' L f ρ' hp' n fl s
  | ret {v : Value} {s : Shared} : PS X fm κ φ α ρ' hp' f (.ret v) s → ForTurn X fm κ φ α I β' ψ' L f ρ' hp' n (.ret v) s
theorem PS.cast {f : Fl} {fl : Flow} {r : Fl × Env' × Hp} (e : (f, ρ', hp') = r) (P : PS X fm κ φ α r.2.1 r.2.2 r.1 fl s) : PS X fm κ φ α ρ' hp' f fl s := by subst e; exact P
theorem for_turn (W : fm.Wf X) {t : Expr} {b : List Stmt} {unp : Option (List Nat)} {x : Nat} {mb : List MS} (T : STg X fm t unp x) (Sb : SSs X G fm b mb) {I : Addr} {o : Obj} {v : AV} {vs : List AV} {β' : List Addr} {ψ' : Part} {f : Fl} (it : Iter X fm.A β' ψ' I vs o) {u : Value}
    (hα : β' <+: β) (hφ : ψ'.le ψ) (hα₀ : α <+: β') (hφ₀ : φ.le ψ') (hκ : κ I = none) (hc : I ∉ fm.caps) (ru : Rep X β ψ u v) (F : FOk X fm (κ.put I o) ψ β ρ hp s)
    (hl : forL (fun ρ hp => evSs G mb ρ hp) unp x (v :: vs) ρ hp = some (f, ρ', hp')) :
    Wp X fm (assign t fm.env u) (fun _ s₅ => Wp X fm (execs b fm.env) (ForTurn X fm κ φ α I β' ψ' (fun vs ρ hp => forL (fun ρ hp => evSs G mb ρ hp) unp x vs ρ hp) f ρ' hp' vs.length) s₅) s := by
  obtain ⟨ρ₂, eb, h1⟩ := bind_inv hl
  refine T.2 _ _ _ _ eb _ _ _ _ _ F ru _ fun s₅ F₅ => ?_
  refine turn_step Sb h1 F₅ (fun fl ρ₃ hp₃ δ ω s₆ q1 q2 F₆ h2 hfl => ?_) fun v av ρ₃ hp₃ δ ω s₆ q1 q2 F₆ e rv => ?_
  · exact .go hfl ⟨ρ₃, hp₃, δ, ω, vs, o, rfl, it, h2, hα.trans q1, Part.le_trans hφ q2, F₆⟩
  · have F₇ := F₆.lessK W hκ hc (h' := s₆.heap) (fun _ _ _ q => q) s₆.toks
    exact .ret (PS.cast e ⟨δ, ω, (hα₀.trans hα).trans q1, Part.le_trans (Part.le_trans hφ₀ hφ) q2, F₇, .ret rv⟩)
theorem ss_for (W : fm.Wf X) {t e : Expr} {b : List Stmt} {unp : Option (List Nat)} {x : Nat} {me : ME} {mb : List MS} {pos : Pos} (hf : ∀ x, foldedSetIterable e fm.env x = pure x) (T : STg X fm t unp x) (Se : SSrc X G fm e me) (Sb : SSs X G fm b mb) :
    SS X G fm (.For t e b [] pos) (.for unp x me mb) := by
  intro ρ hp f ρ' hp' h κ φ α s F
  obtain ⟨sr, hp₁, e1, h1⟩ := bnd_inv h
  obtain ⟨xs, rfl, h2⟩ := onFix_inv h1
  refine wpAny_For (wpAny_mono (Se _ _ _ _ e1 _ _ _ _ F) (fun xv s₁ h₁ => wpAny_mono h₁ (fun it s₂ P => ?_) fun _ _ z => z.elim) fun _ _ z => z.elim) hf
  obtain ⟨I, o, β', ψ', rfl, hα', hφ', F', eI, hκ, hψ, hn, rd⟩ := P
  refine codeAny_forLoop (ForAt X fm κ I β' ψ' (fun vs ρ hp => forL (fun ρ hp => evSs G mb ρ hp) unp x vs ρ hp) (f, ρ', hp'))
    ?_ xs.length ⟨ρ, hp₁, β', ψ', xs, o, rfl, rd.it, h2, List.prefix_refl _, Part.le_refl _, F'.addK eI hκ hψ hn⟩ (T.1 _)
  intro n s₃ J
  obtain ⟨ρ₁, hp₂, β, ψ, vs, o, rfl, it, hl, hβ, hψ', F₃⟩ := J
  have hc := F'.notCap hκ hψ
  cases vs with
  | nil =>
    obtain ⟨rfl, rfl, rfl⟩ := tri_inv hl
    refine done_ok W it hβ hψ' hκ hc F₃ fun s₄ F₄ => ?_
    exact wpAny_execs_nil (PS.lift (hα'.trans hβ) (Part.le_trans hφ' hψ') (PS.next F₄))
  | cons v vs =>
    refine next_ok W it hβ hψ' hκ hc F₃ fun u o' s₄ it' ru F₄ => ?_
    refine wpAny_mono (for_turn W T Sb it' hβ hψ' hα' hφ' hκ hc ru F₄ hl) (fun _ s₅ h₅ => ?_) fun _ _ z => z.elim
    refine wpAny_mono h₅ (fun fl s₆ Z => ?_) fun _ _ z => z.elim
    cases Z with
    | go hfl Z => rcases hfl with rfl | rfl <;> exact ⟨vs.length, Nat.lt_succ_self _, Z⟩
    | ret Z => exact Z
end
end Mine
end
section
namespace Mine
open PySem PyProof.Rows
theorem closure_go {env : Env} {P : Str → Prop} : ∀ (ns : List (Str × NameKind)) (cs : List (Str × Addr)), (∀ y ∈ ns, y.2 = .free → P y.1 ∧ ∃ c, env.cells.lookup y.1 = some c) → (∀ y c, cs.lookup y = some c → env.cells.lookup y = some c ∧ P y) →
    ∃ cl : List (Str × Addr), (forIn ns cs fun (x : Str × NameKind) (r : List (Str × Addr)) => match x with
      | (name, kind) => if kind == .free then do let a ← cellOf env name; pure (ForInStep.yield ((name, a) :: r)) else pure (ForInStep.yield r)) = (pure cl : Sem _) ∧
      (∀ y c, cl.lookup y = some c → env.cells.lookup y = some c ∧ P y) ∧ (∀ y c, cs.lookup y = some c → cl.lookup y = some c) ∧ (∀ y ∈ ns, y.2 = .free → ∃ c, cl.lookup y.1 = some c) := by
  intro ns
  induction ns with
  | nil => intro cs _ h; exact ⟨cs, rfl, h, fun _ _ e => e, fun _ h => nomatch h⟩
  | cons p ns ih =>
    intro cs hf h
    obtain ⟨n, k⟩ := p
    by_cases hk : k = .free
    · subst hk
      obtain ⟨hP, c, hc⟩ := hf _ List.mem_cons_self rfl
      have hc' : env.cells.lookup n = some c := hc
      obtain ⟨cl, e1, e2, e3, e4⟩ := ih ((n, c) :: cs) (fun y hy => hf y (List.mem_cons_of_mem _ hy)) (fun y c' e => by
        rw [List.lookup_cons] at e
        split at e
        · rename_i q
          cases e
          rw [eq_of_beq q]; exact ⟨hc', hP⟩
        · exact h y c' e)
      have hn : cl.lookup n = some c := e3 n c (by simp)
      refine ⟨cl, ?_, e2, fun y c' e => ?_, fun y hy hyf => ?_⟩
      · rw [List.forIn_cons, ← e1]
        have : cellOf env n = (pure c : Sem Addr) := by unfold cellOf; rw [hc']
        simp [this]
      · by_cases q : y = n
        · subst q
          rw [hn]; rw [(h y c' e).1] at hc'; cases hc'; rfl
        · exact e3 y c' (by rw [List.lookup_cons]; have : (y == n) = false := by simpa using q
                            rw [this]; exact e)
      · rcases List.mem_cons.mp hy with rfl | hy
        · exact ⟨c, hn⟩
        · exact e4 y hy hyf
    · have hk' : (k == NameKind.free) = false := by simpa using hk
      obtain ⟨cl, e1, e2, e3, e4⟩ := ih cs (fun y hy => hf y (List.mem_cons_of_mem _ hy)) h
      refine ⟨cl, ?_, e2, e3, fun y hy hyf => ?_⟩
      · rw [List.forIn_cons, ← e1]
        simp [hk']
      · rcases List.mem_cons.mp hy with rfl | hy
        · exact absurd hyf hk
        · exact e4 y hy hyf
theorem closure_ok {scope : Scope} {env : Env} {P : Str → Prop} (hf : ∀ y ∈ scope.names, y.2 = .free → P y.1 ∧ ∃ c, env.cells.lookup y.1 = some c) :
    ∃ cl, closureFor scope env = pure cl ∧ (∀ y c, cl.lookup y = some c → env.cells.lookup y = some c ∧ P y) ∧ (∀ y ∈ scope.names, y.2 = .free → ∃ c, cl.lookup y.1 = some c) := by
  obtain ⟨cl, e1, e2, _, e4⟩ := closure_go (P := P) scope.names [] hf (fun _ _ h => nomatch h)
  refine ⟨cl, ?_, e2, e4⟩
  rw [← e1]
  simp only [closureFor, bind_pure]
theorem lookup_relabel {env : Env} (names : List (Str × NameKind)) (x : Str) :
    (names.map fun (n, k) => if (k == NameKind.free && env.scope.kind == .function && env.kindOf n == some .cell) then (n, NameKind.cell) else (n, k)).lookup x =
      (names.lookup x).map fun k => if (k == NameKind.free && env.scope.kind == .function && env.kindOf x == some .cell) then NameKind.cell else k := by
  induction names with
  | nil => rfl
  | cons p r ih =>
    obtain ⟨n, k⟩ := p
    rw [List.map_cons]
    by_cases q : x = n
    · subst q
      simp only [List.lookup_cons_self, Option.map_some]
      split
      · simp
      · simp
    · have q' : (x == n) = false := by simpa using q
      have : ∀ p : Str × NameKind, p.1 = n → List.lookup x (p :: (r.map fun (n, k) => if (k == NameKind.free && env.scope.kind == .function && env.kindOf n == some .cell) then (n, NameKind.cell) else (n, k))) = List.lookup x (r.map fun (n, k) => if (k == NameKind.free && env.scope.kind == .function && env.kindOf n == some .cell) then (n, NameKind.cell) else (n, k)) := by
        rintro ⟨a, b⟩ rfl
        rw [List.lookup_cons]
        simp only at q'
        rw [q']
      refine Eq.trans (this _ ?_) (ih.trans ?_)
      · show (if (k == NameKind.free && env.scope.kind == .function && env.kindOf n == some .cell) = true then (n, NameKind.cell) else (n, k)).1 = n
        split <;> rfl
      · rw [List.lookup_cons, q']
structure CompOk (fm : Fm) (scope : Scope) (x : Str) (ys : List Str) (caps : List Nat) : Prop where
  kind : scope.kind = .function
  noCell : ∀ y ∈ scope.names, y.2 ≠ .cell
  tgt : scope.names.lookup x = some .local
  locals : ∀ y ∈ scope.names, y.2 = .local → scope.names.lookup y.1 = some .local
  free : ∀ y ∈ scope.names, y.2 = .free → fm.env.kindOf y.1 = some .cell ∧ y.1 ∈ ys
  capAt : ∀ (i : Nat) (y : Str), ys[i]? = some y → scope.names.lookup y = some .free ∧ ∃ j : Nat, caps[i]? = some j ∧ fm.names[j]? = some y
  len : caps.length = ys.length
  nodup : (x :: ys).Nodup
noncomputable def cfm (fm : Fm) (scope : Scope) (cl : List (Str × Addr)) (C : Addr) (x : Str) (ys : List Str) : Fm :=
  { A := fm.A, env := compEnvC scope cl C fm.env, names := x :: ys, own := [C], caps := ys.filterMap fun y => cl.lookup y }
theorem mem_of_lookup' {k : NameKind} {x : Str} : ∀ {l : List (Str × NameKind)}, l.lookup x = some k → (x, k) ∈ l
  | [], h => by cases h
  | (n, j) :: l, h => by
    rw [List.lookup_cons] at h
    split at h
    · rename_i q
      cases h
      rw [eq_of_beq q]; exact List.mem_cons_self
    · exact List.mem_cons_of_mem _ (mem_of_lookup' h)
section
variable {X : Wd} {G : Gl} {fm : Fm} {κ φ ψ : Part} {α β : List Addr} {ρ ρ' : Env'} {hp hp' : Hp} {s : Shared}
theorem wf_cfm (W : fm.Wf X) {scope : Scope} {x : Str} {ys : List Str} {caps : List Nat} (K : CompOk fm scope x ys caps) {cl : List (Str × Addr)} {C : Addr} (hcl : ∀ y c, cl.lookup y = some c → fm.env.cells.lookup y = some c) (hC : ∀ y c, cl.lookup y = some c → c ≠ C) :
    (cfm fm scope cl C x ys).Wf X where
  kind := K.kind
  nodup := K.nodup
  cellsInj := fun a b c h1 h2 => W.cellsInj a b c (hcl _ _ h1) (hcl _ _ h2)
  cellsLoc := fun a c h => hC _ _ h
  locIn := List.mem_cons_self
  handled := W.handled
  globals := W.globals
  builtins := W.builtins
theorem HOk.addOwn (H : HOk X [] κ φ α hp s) {C : Addr} {o : Obj} (e : s.heap.get? C = some o) (hκ : κ C = none) (hφ : φ C = none) (hn : C ∉ X.P :: ([] ++ α)) : HOk X [C] κ φ α hp s := by
  have hnd := H.nodup
  rw [List.nil_append, List.nodup_cons] at hnd
  refine ⟨H.gens, H.drawn, H.os, H.base, H.kept, H.froz, H.tab, fun a ha => ?_, H.len, H.obj, ?_, fun a ha => ?_, H.disj⟩
  · rw [List.mem_singleton] at ha; subst ha; exact ⟨o, e⟩
  · rw [List.nodup_cons]
    refine ⟨fun q => ?_, ?_⟩
    · rcases List.mem_cons.mp q with q | q
      · exact hn (q ▸ List.mem_cons_self)
      · exact hnd.1 q
    · rw [List.singleton_append, List.nodup_cons]
      exact ⟨fun q => hn (List.mem_cons_of_mem _ q), hnd.2⟩
  · rcases List.mem_cons.mp ha with rfl | ha
    · exact H.apart _ List.mem_cons_self
    · rcases List.mem_append.mp ha with ha | ha
      · rw [List.mem_singleton] at ha; subst ha; exact ⟨hκ, hφ⟩
      · exact H.apart a (List.mem_cons_of_mem _ ha)
theorem Part.put_comm {I D : Addr} {o d : Obj} (h : I ≠ D) : (κ.put I o).put D d = (κ.put D d).put I o := by
  funext b
  by_cases q1 : b = I
  · subst q1; rw [Part.put_self, Part.put_ne _ _ h, Part.put_self]
  · by_cases q2 : b = D
    · subst q2; rw [Part.put_self, Part.put_ne _ _ q1, Part.put_self]
    · rw [Part.put_ne _ _ q1, Part.put_ne _ _ q2, Part.put_ne _ _ q2, Part.put_ne _ _ q1]
theorem cfm_start (W : fm.Wf X) {scope : Scope} {x : Str} {ys : List Str} {caps : List Nat} (K : CompOk fm scope x ys caps) {cl : List (Str × Addr)} {C : Addr} (hcl : ∀ y c, cl.lookup y = some c → fm.env.cells.lookup y = some c)
    (hcf : ∀ y ∈ scope.names, y.2 = .free → ∃ c, cl.lookup y.1 = some c) (F : FOk X fm κ φ α ρ hp s) (hκ : κ C = none) (hφ : φ C = none) (hn : C ∉ X.P :: (fm.own ++ α)) (hns : s.heap.Ns C fun _ => none) :
    FOk X (cfm fm scope cl C x ys) (keepK κ fm.own s.heap) φ α (none :: caps.map fun i => (ρ[i]?).join) hp s := by
  have hk : ∀ c, (c ∈ fm.own ∨ c ∈ fm.caps) → (∃ o, keepK κ fm.own s.heap c = some o) ∨ ∃ o, φ c = some o := fun c hc => by
    unfold keepK
    split
    · rename_i q; exact .inl (F.H.ownIn c q)
    · rename_i q
      rcases hc with hc | hc
      · exact absurd hc q
      · exact F.L.capsIn c hc
  have kindF : ∀ y, scope.names.lookup y = some .free → fm.env.kindOf y = some .cell := fun y hy => (K.free _ (mem_of_lookup' hy) rfl).1
  have kindC : ∀ y, scope.names.lookup y = some .free → (cfm fm scope cl C x ys).env.kindOf y = some .cell := fun y hy => by
    show (relabel scope fm.env).names.lookup y = _
    unfold relabel
    simp only
    rw [lookup_relabel, hy, Option.map_some, kindF y hy, W.kind]; rfl
  obtain ⟨o, _, _, eC, _⟩ := id hns
  refine ⟨F.H.enter.addOwn eC ?_ hφ ?_, ⟨⟨_, hns, fun i y av hi hr => ?_⟩, fun y hy => ?_, ?_, fun c hc => ?_⟩⟩
  · unfold keepK; rw [if_neg fun q => hn (List.mem_cons_of_mem _ (List.mem_append_left _ q))]; exact hκ
  · intro q
    rcases List.mem_cons.mp q with q | q
    · exact hn (q ▸ List.mem_cons_self)
    · exact hn (List.mem_cons_of_mem _ (List.mem_append_right _ q))
  · cases i with
    | zero => simp at hr
    | succ i =>
      have hi' : ys[i]? = some y := by simpa [cfm] using hi
      obtain ⟨hfree, j, hj, hjn⟩ := K.capAt i y hi'
      have hr' : (ρ[j]?).join = some av := by
        simp only [List.getElem?_cons_succ, List.getElem?_map, hj, Option.map_some, Option.some.injEq] at hr; exact hr
      have hr'' : ρ[j]? = some (some av) := by
        cases q : ρ[j]? with
        | none => rw [q] at hr'; cases hr'
        | some z => rw [q] at hr'; simp at hr'; rw [hr']
      obtain ⟨m, hm, l⟩ := F.L.ns
      obtain ⟨v, r, a⟩ := l j y av hjn hr''
      refine ⟨v, r, ?_⟩
      rcases a with ⟨a, _⟩ | ⟨c, hk', hl, ho, hc⟩
      · rw [kindF y hfree] at a; cases a
      · obtain ⟨c', hc'⟩ := hcf _ (mem_of_lookup' hfree) rfl
        have := hcl _ _ hc'
        rw [hl] at this; cases this
        exact .inr ⟨c, .inl (kindC y hfree), hc', .inr (List.mem_filterMap.mpr ⟨y, List.mem_of_getElem? hi', hc'⟩), hc⟩
  · have hy' : (relabel scope fm.env).names.lookup y = some .cell := hy
    unfold relabel at hy'
    simp only at hy'
    rw [lookup_relabel] at hy'
    cases q : scope.names.lookup y with
    | none => rw [q] at hy'; cases hy'
    | some k =>
      rw [q, Option.map_some] at hy'
      split at hy'
      · rename_i q2
        simp only [Bool.and_eq_true, beq_iff_eq] at q2
        obtain ⟨⟨rfl, _⟩, hkc⟩ := q2
        obtain ⟨c, hc⟩ := hcf _ (mem_of_lookup' q) rfl
        have hc2 : cl.lookup y = some c := hc
        obtain ⟨c', hc', ho, v, hv⟩ := F.L.cells y hkc
        rw [hcl _ _ hc2] at hc'; cases hc'
        exact ⟨c, hc2, .inr (List.mem_filterMap.mpr ⟨y, (K.free _ (mem_of_lookup' q) rfl).2, hc2⟩), v, hv⟩
      · cases hy'; exact absurd rfl (K.noCell _ (mem_of_lookup' q))
  · simp [cfm, K.len]
  · obtain ⟨y, hy, hc⟩ := List.mem_filterMap.mp hc
    have hcc := hcl _ _ hc
    obtain ⟨i, hi, e⟩ := List.mem_iff_getElem.mp hy
    obtain ⟨hfree, _⟩ := K.capAt i y (by rw [List.getElem?_eq_getElem hi, e])
    obtain ⟨c', hc', ho, _⟩ := F.L.cells y (kindF y hfree)
    rw [hcc] at hc'; cases hc'
    exact hk _ ho
end
end Mine
end
section
namespace Mine
open PySem PyProof.Rows
noncomputable def SIfs (X : Wd) (G : Gl) (fm : Fm) (ifs : List Expr) (mc : Option ME) : Prop :=
  (ifs = [] ∧ mc = none) ∨ ∃ c m, ifs = [c] ∧ mc = some m ∧ SC X G fm c m
section
variable {X : Wd} {G : Gl} {fm : Fm} {κ φ ψ : Part} {α β : List Addr} {ρ ρ' : Env'} {hp hp' : Hp} {s : Shared}
theorem sifs_ok {ifs : List Expr} {mc : Option ME} (S : SIfs X G fm ifs mc) {b : Bool} (h : evOC G mc ρ hp = some (b, hp')) (F : FOk X fm κ φ α ρ hp s) :
    Wp X fm (forIn ifs true fun c r => if r = true then do let ok ← isTrue c fm.env (eval c fm.env); pure (ForInStep.yield ok) else pure (ForInStep.yield r)) (PB X fm κ φ α ρ hp' b) s := by
  rcases S with ⟨rfl, rfl⟩ | ⟨c, m, rfl, rfl, S⟩
  · obtain ⟨rfl, rfl⟩ := pair_inv h
    exact wpAny_tests_nil (PB.of F)
  · exact wpAny_tests_one (S _ _ _ _ h _ _ _ _ F)
theorem FOk.push (W : fm.Wf X) {D : Addr} {n : Nat} {vs : List Value} (F : FOk X fm (κ.put D { cls := .type "list", dict := none, data := .seq vs.toArray n, slots := #[] }) φ α ρ hp s) (hκ : κ D = none) (hc : D ∉ fm.caps) (hz : vs.length ≤ sizeLine) {v : Value} {Q : Value → Shared → Prop}
    (k : ∀ n' s', FOk X fm (κ.put D { cls := .type "list", dict := none, data := .seq (vs ++ [v]).toArray n', slots := #[] }) φ α ρ hp s' → Q .none s') : Wp X fm (call (.builtin "list.append") [.ref D, v]) Q s := by
  obtain ⟨eD, hφD, hn⟩ := F.putApart
  refine wpAny_list_append_plain (items := vs.toArray) ⟨n, eD⟩ (fun h' hl hs => ?_) (by simpa using hz)
  obtain ⟨n', hl⟩ := hl
  rw [List.push_toArray] at hl
  exact k n' _ ((F.lessK W hκ hc (fun b x hb e => hs.extBut b x hb e) s.toks).addK hl hκ hφD hn)
noncomputable def lObj (vs : List Value) (n : Nat) : Obj := { cls := .type "list", dict := none, data := .seq vs.toArray n, slots := #[] }
inductive CompAt (X : Wd) (fm' : Fm) (κ φ : Part) (α : List Addr) (I D : Addr) (β' : List Addr) (ψ' : Part) (crho : Env') (L : List AV → Hp → Option (List AV × Hp)) (xs : List AV) (hp' : Hp) (k : Nat) (s : Shared) : Prop
  | mk (vs : List AV) (o : Obj) (hp₁ : Hp) (β : List Addr) (ψ : Part) (ys : List Value) (done rest : List AV) (n : Nat) (q : Option AV) : k = vs.length → Iter X fm'.A β' ψ' I vs o → L vs hp₁ = some (rest, hp') → xs = done ++ rest → α <+: β → φ.le ψ → RepAll X β ψ ys done → ys.length + vs.length ≤ sizeLine →
      FOk X fm' ((κ.put D (lObj ys n)).put I o) ψ β (q :: crho) hp₁ s → CompAt X fm' κ φ α I D β' ψ' crho L xs hp' k s
theorem size_step {a b c : Nat} (h : a + (b + 1) ≤ c) : a + 1 + b ≤ c ∧ a + b ≤ c ∧ a ≤ c := ⟨by lia, by lia, by lia⟩
theorem comp_turn {fm' : Fm} (W : fm'.Wf X) {elt : Expr} {x : Str} {ifs : List Expr} {mE : ME} {mc : Option ME} {crho : Env'} {D I : Addr} (hDI : I ≠ D) (hx : fm'.names[0]? = some x) (hst : Stores fm' x)
    (Se : SE X G fm' elt mE) (Sc : SIfs X G fm' ifs mc) (hκD : κ D = none) (hcD : D ∉ fm'.caps) {β' : List Addr} {ψ' : Part} {o : Obj} {v : AV} {vs : List AV} (it : Iter X fm'.A β' ψ' I vs o)
    {q : Option AV} {n : Nat} {xs done rest : List AV} {ys : List Value} {u : Value} (hl : compLoop (fun ρ hp => evOC G mc ρ hp) (fun ρ hp => evE G mE ρ hp) none crho (v :: vs) hp = some (rest, hp'))
    (exs : xs = done ++ rest) (hβ : α <+: β) (hψ : φ.le ψ) (rr : RepAll X β ψ ys done) (hz : ys.length + (vs.length + 1) ≤ sizeLine) (ru : Rep X β ψ u v) (F : FOk X fm' ((κ.put D (lObj ys n)).put I o) ψ β (q :: crho) hp s)
    {Q : Shared → Prop} {E : Value → Shared → Prop} (hQ : ∀ s', CompAt X fm' κ φ α I D β' ψ' crho (compLoop (fun ρ hp => evOC G mc ρ hp) (fun ρ hp => evE G mE ρ hp) none crho) xs hp' vs.length s' → Q s') :
    wpAny (model X.prog X.w) fm'.A (storeName fm'.env x u) (fun _ s₃ => wpAny (model X.prog X.w) fm'.A (forIn ifs true fun c r => if r = true then do let ok ← isTrue c fm'.env (eval c fm'.env); pure (ForInStep.yield ok) else pure (ForInStep.yield r))
      (fun b s₄ => if b = true then wpAny (model X.prog X.w) fm'.A (eval elt fm'.env) (fun w s₅ => wpAny (model X.prog X.w) fm'.A (call (.builtin "list.append") [.ref D, w]) (fun _ s₆ => Q s₆) E s₅) E s₄ else Q s₄) E s₃) E s := by
  obtain ⟨z1, z2, z3⟩ := size_step hz
  obtain ⟨ρ₀, e0, h0⟩ := bind_inv (o := bindC none v crho) hl
  obtain rfl := some_inv e0
  obtain ⟨b, hp₂, e1, h1⟩ := bnd_inv h0
  refine (store_at W F hx ru hst fun s₃ F₃ => wpAny_mono (sifs_ok Sc e1 F₃) (fun b' s₄ P => ?_) fun _ _ z => z.elim).any
  obtain ⟨rfl, γ, χ, hγ, hχ, F₄⟩ := P
  cases b' with
  | false =>
    rw [if_neg (by decide)]
    exact hQ _ ⟨vs, o, hp₂, γ, χ, ys, done, rest, n, _, rfl, it, h1, exs, hβ.trans hγ, Part.le_trans hψ hχ, rr.mono hγ hχ, z2, F₄⟩
  | true =>
    rw [if_pos rfl]
    obtain ⟨y, hp₃, e2, h2⟩ := bnd_inv h1
    obtain ⟨rest', hp₄, e3, h3⟩ := bnd_inv h2
    obtain ⟨rfl, rfl⟩ := pair_inv h3
    refine wpAny_mono (Se _ _ _ _ e2 _ _ _ _ F₄) (fun w s₅ P => ?_) fun _ _ z => z.elim
    obtain ⟨δ, ω, hδ, hω, F₅, rw'⟩ := P
    rw [Part.put_comm hDI.symm] at F₅
    have hκD' : (κ.put I o) D = none := by rw [Part.put_ne _ _ hDI.symm]; exact hκD
    refine (F₅.push W hκD' hcD z3 fun n' s₆ F₆ => hQ _ ?_).any
    rw [Part.put_comm hDI] at F₆
    exact ⟨vs, o, hp₃, δ, ω, ys ++ [w], done ++ [y], rest', n', _, rfl, it, e3, by rw [exs, List.append_assoc]; rfl, hβ.trans (hγ.trans hδ), Part.le_trans hψ (Part.le_trans hχ hω), (rr.mono (hγ.trans hδ) (Part.le_trans hχ hω)).append (.cons rw' .nil), by rw [List.length_append]; exact z1, F₆⟩
theorem comp_loop {fm' : Fm} (W : fm'.Wf X) {elt iter : Expr} {x : Str} {px : Pos} {ifs : List Expr} {scope : Scope} {pos : Pos} {mE : ME} {mc : Option ME} {crho : Env'} {D I : Addr} (hDI : I ≠ D) (hx : fm'.names[0]? = some x) (hst : Stores fm' x)
    (Se : SE X G fm' elt mE) (Sc : SIfs X G fm' ifs mc) (hκI : κ I = none) (hκD : κ D = none) (hcI : I ∉ fm'.caps) (hcD : D ∉ fm'.caps) {β' : List Addr} {ψ' : Part} {o : Obj} {vs : List AV} (it : Iter X fm'.A β' ψ' I vs o) (hsz : vs.length ≤ sizeLine)
    {q : Option AV} {n : Nat} {xs : List AV} (h : compLoop (fun ρ hp => evOC G mc ρ hp) (fun ρ hp => evE G mE ρ hp) none crho vs hp = some (xs, hp'))
    (hα : β' <+: α) (hφ : ψ'.le φ) (F : FOk X fm' ((κ.put D { cls := .type "list", dict := none, data := .seq #[] n, slots := #[] }).put I o) φ α (q :: crho) hp s) {R : Result → Shared → Prop}
    (hR : ∀ β ψ ys n q s', α <+: β → φ.le ψ → RepAll X β ψ ys xs → FOk X fm' (κ.put D { cls := .type "list", dict := none, data := .seq ys.toArray n, slots := #[] }) ψ β (q :: crho) hp' s' → R (.ok .next) s') :
    codeAny (model X.prog X.w) fm'.A (.compLoop (.ListComp elt [⟨.Name x px, iter, ifs, 0⟩] scope pos) 0 (.ref I) (.ref D) fm'.env) R s := by
  refine codeAny_compLoop_tests (CompAt X fm' κ φ α I D β' ψ' crho (compLoop (fun ρ hp => evOC G mc ρ hp) (fun ρ hp => evE G mE ρ hp) none crho) xs hp') ?_ vs.length
    ⟨vs, o, hp, α, φ, [], [], xs, n, q, rfl, it, h, rfl, List.prefix_refl _, Part.le_refl _, .nil, by simpa using hsz, F⟩
  intro k s₁ J
  obtain ⟨vs, o, hp₁, β, ψ, ys, done, rest, n, q, rfl, it, hl, exs, hβ, hψ, rr, hz, F₁⟩ := J
  have hκI' : ∀ d : Obj, (κ.put D d) I = none := fun d => by rw [Part.put_ne _ _ hDI]; exact hκI
  cases vs with
  | nil =>
    obtain ⟨rfl, rfl⟩ := pair_inv hl
    rw [List.append_nil] at exs
    subst exs
    exact done_ok W it (hα.trans hβ) (Part.le_trans hφ hψ) (hκI' _) hcI F₁ fun s₂ F₂ => hR _ _ _ _ _ _ hβ hψ rr F₂
  | cons v vs =>
    refine next_ok W it (hα.trans hβ) (Part.le_trans hφ hψ) (hκI' _) hcI F₁ fun u o' s₂ it' ru F₂ => ?_
    exact wpAny_assign_Name (comp_turn W hDI hx hst Se Sc hκD hcD it' hl exs hβ hψ rr hz ru F₂ fun s' J => ⟨vs.length, Nat.lt_succ_self _, J⟩)
end
end Mine
end
section
namespace Mine
open PySem PyProof.Rows
section
variable {X : Wd} {G : Gl} {fm : Fm} {κ φ ψ : Part} {α β : List Addr} {ρ ρ' : Env'} {hp hp' : Hp} {s : Shared}
theorem HOk.subK {own : List Addr} {κ' : Part} (h : κ.le κ') (H : HOk X own κ' φ α hp s) : HOk X own κ φ α hp s :=
  ⟨H.gens, H.drawn, H.os, H.base, fun a o k => H.kept a o (h a o k), H.froz, H.tab, H.ownIn, H.len, H.obj, H.nodup, fun a ha => ⟨(by
    cases q : κ a with
    | none => rfl
    | some o =>
      have := h a o q
      rw [(H.apart a ha).1] at this; cases this), (H.apart a ha).2⟩, fun a o k => H.disj a o (h a o k)⟩
inductive PLC (X : Wd) (fm : Fm) (κ φ : Part) (α : List Addr) (ρ : Env') (hp' : Hp) (xs : List AV) (v : Value) (C : Addr) (s' : Shared) : Prop
  | mk (c : Obj) (m : Str → Option Value) : κ C = none → C ∉ fm.caps → (∀ h : Heap, h.get? C = some c → h.Ns C m) → PL X fm (κ.put C c) φ α ρ hp' xs v s' → PLC X fm κ φ α ρ hp' xs v C s'
theorem comp_core (W : fm.Wf X) {elt iter : Expr} {x : Str} {px : Pos} {ifs : List Expr} {scope : Scope} {pos : Pos} {ys : List Str} {caps : List Nat} {mE : ME} {mc : Option ME} (K : CompOk fm scope x ys caps) {cl : List (Str × Addr)}
    (hcl : ∀ y c, cl.lookup y = some c → fm.env.cells.lookup y = some c) (hck : ∀ y c, cl.lookup y = some c → fm.env.kindOf y = some .cell) (hcf : ∀ y ∈ scope.names, y.2 = .free → ∃ c, cl.lookup y.1 = some c)
    (Se : ∀ C cl, (cfm fm scope cl C x ys).Wf X → SE X G (cfm fm scope cl C x ys) elt mE) (Sc : ∀ C cl, (cfm fm scope cl C x ys).Wf X → SIfs X G (cfm fm scope cl C x ys) ifs mc)
    {vs xs : List AV} (hsz : vs.length ≤ sizeLine) (h : compLoop (fun ρ hp => evOC G mc ρ hp) (fun ρ hp => evE G mE ρ hp) none (caps.map fun i => (ρ[i]?).join) vs hp = some (xs, hp'))
    {it : Value} (P : PSrc X fm κ φ α ρ hp vs it s) {R : Value → Addr → Result → Shared → Prop}
    (hR : ∀ v C s', PLC X fm κ φ α ρ hp' xs v C s' → R v C (.ok .next) s') :
    Wp X fm (newList []) (fun acc s₃ => Wp X fm (newFunctionEnv scope fm.env.globals cl [] fm.env.qual none .none (some fm.env)) (fun cenv s₄ =>
      codeAny (model X.prog X.w) fm.A (.compStart (.ListComp elt [⟨.Name x px, iter, ifs, 0⟩] scope pos) 0 it acc { cenv with scope := relabel scope fm.env }) (R acc cenv.locals) s₄) s₃) s := by
  obtain ⟨I, o, β, ψ, rfl, hβ, hψ, F, eI, hκI, hψI, hnI, rd⟩ := P
  refine wpAny_newObj_type (wpAny_newFunctionEnv K.noCell (by intro y hy; simp at hy) (fun h₁ hns₁ hsb₁ => ?_) K.kind)
  dsimp only at hns₁ hsb₁ ⊢
  generalize hH2 : s.heap.push { cls := .type "list", dict := none, data := .seq ([] : List Value).toArray } = H2 at hns₁ hsb₁ ⊢
  have hC : H2.objs.size = s.heap.objs.size + 1 := by rw [← hH2, Heap.size_push]
  have hDC : s.heap.objs.size ≠ H2.objs.size := by rw [hC]; exact Nat.ne_of_lt (Nat.lt_succ_self _)
  have below : ∀ b, b < s.heap.objs.size → b ≠ H2.objs.size ∧ b ≠ s.heap.objs.size := fun b hb => ⟨by rw [hC]; exact Nat.ne_of_lt (Nat.lt_succ_of_lt hb), Nat.ne_of_lt hb⟩
  have old : Ext s.heap h₁ := fun b o e => hsb₁.extBut b o (below b (Heap.lt_size e)).1 (Heap.get?_push_of_some _ (hH2 ▸ Heap.get?_push_of_some _ e))
  have hacc : h₁.get? s.heap.objs.size = some { cls := .type "list", dict := none, data := .seq ([] : List Value).toArray, slots := #[] } := hsb₁.extBut _ _ hDC (Heap.get?_push_of_some _ (hH2 ▸ Heap.get?_push_size _ rfl))
  have fresh : ∀ a, s.heap.objs.size ≤ a → s.heap.get? a = none := fun a ha => by
    cases e : s.heap.get? a with
    | none => rfl
    | some o' => exact absurd (Heap.lt_size e) (Nat.not_lt.mpr ha)
  have fD := F.H.fresh (fresh _ (Nat.le_refl _))
  have fC := F.H.fresh (fresh H2.objs.size (by rw [hC]; exact Nat.le_succ _))
  generalize hDd : s.heap.objs.size = D at *
  generalize hCc : H2.objs.size = C at *
  have hID : I ≠ D := fun q => by rw [q] at eI; rw [fresh D (Nat.le_refl _)] at eI; cases eI
  have hIC : I ≠ C := fun q => by rw [q] at eI; rw [fresh C (by rw [hC]; exact Nat.le_succ _)] at eI; cases eI
  have F₁ := F.grow W old (s.toks + ([] : List (Str × Value)).length)
  have WC : (cfm fm scope cl C x ys).Wf X := wf_cfm W K hcl fun y c e => by
    rintro rfl
    obtain ⟨c', hc', ho, v, q, hq, _⟩ := F.L.cells y (hck y c e)
    rw [hcl _ _ e] at hc'; cases hc'
    rw [fresh c (by rw [hC]; exact Nat.le_succ _)] at hq; cases hq
  have F₂ := cfm_start W K hcl hcf F₁ fC.1 fC.2.1 fC.2.2 (by simpa using hns₁)
  have notOwn : ∀ a, a ∉ X.P :: (fm.own ++ β) → κ a = none → keepK κ fm.own h₁ a = none := fun a h k => by
    unfold keepK; rw [if_neg fun q => h (List.mem_cons_of_mem _ (List.mem_append_left _ q))]; exact k
  have notC : ∀ a, a ≠ C → a ∉ X.P :: (fm.own ++ β) → a ∉ X.P :: ([C] ++ β) := fun a ha h q => by
    rcases List.mem_cons.mp q with q | q
    · exact h (q ▸ List.mem_cons_self)
    · rcases List.mem_append.mp q with q | q
      · exact ha (by simpa using q)
      · exact h (List.mem_cons_of_mem _ (List.mem_append_right _ q))
  have kD := notOwn D fD.2.2 fD.1
  have kI := notOwn I hnI hκI
  have F₃ := F₂.addK (I := D) hacc kD fD.2.1 (notC D hDC fD.2.2)
  have F₄ := F₃.addK (I := I) (old _ _ eI) (by rw [Part.put_ne _ _ hID]; exact kI) hψI (notC I hIC hnI)
  have loop : ∀ s₃ : Shared, s₃ = { s with heap := h₁, toks := s.toks + ([] : List (Str × Value)).length } →
      codeAny (model X.prog X.w) fm.A (.compLoop (.ListComp elt [⟨.Name x px, iter, ifs, 0⟩] scope pos) 0 (.ref I) (.ref D) (cfm fm scope cl C x ys).env) (R (.ref D) C) s₃ := by
    rintro s₃ rfl
    refine comp_loop (fm' := cfm fm scope cl C x ys) WC hID rfl (.inl (lookup_relabel_local K.tgt)) (Se C cl WC) (Sc C cl WC) kI kD (F₂.notCap kI hψI) (F₂.notCap kD fD.2.1) rd.it hsz h (List.prefix_refl _) (Part.le_refl _) F₄ fun γ χ zs n q s' hγ hχ rr F' => hR _ _ _ ?_
    obtain ⟨m, hm, _⟩ := F'.L.ns
    obtain ⟨c, es, ep, ec, rest⟩ := hm
    obtain ⟨eD, hχD, hnD⟩ := F'.putApart
    have hCa := F'.H.apart C (List.mem_cons_of_mem _ (List.mem_append_left _ List.mem_cons_self))
    have hnd := F'.H.nodup
    rw [List.nodup_cons, List.nodup_append] at hnd
    have hCn : C ∉ X.P :: (fm.own ++ γ) := fun z => by
      rcases List.mem_cons.mp z with z | z
      · exact hnd.1 (z ▸ List.mem_append_left _ List.mem_cons_self)
      · rcases List.mem_append.mp z with z | z
        · exact fC.2.2 (List.mem_cons_of_mem _ (List.mem_append_left _ z))
        · exact hnd.2.2.2 C List.mem_cons_self C z rfl
    have hDn : D ∉ X.P :: (fm.own ++ γ) := fun z => by
      rcases List.mem_cons.mp z with z | z
      · exact hnD (z ▸ List.mem_cons_self)
      · rcases List.mem_append.mp z with z | z
        · exact fD.2.2 (List.mem_cons_of_mem _ (List.mem_append_left _ z))
        · exact hnD (List.mem_cons_of_mem _ (List.mem_append_right _ z))
    have H' := (F'.H.noOwn).subK (Part.le_put kD)
    have FB := F₁.back W H' hγ hχ
    exact ⟨c, m, fC.1, F.notCap fC.1 fC.2.1, fun h e => ⟨c, es, ep, e, rest⟩, ⟨γ, χ, D, _, zs, hβ.trans hγ, Part.le_trans hψ hχ, FB.addK ec fC.1 hCa.2 hCn, rfl, eD, ⟨n, rfl⟩, rr, by rw [Part.put_ne _ _ hDC]; exact fD.1, hχD, hDn⟩⟩
  exact codeAny_compStart_list (loop _ rfl) (rd.self _ _ _ (fun a x k => F₄.H.froz a x k) (old _ _ eI) (loop _ rfl))
theorem closure_fm (F : FOk X fm κ φ α ρ hp s) {scope : Scope} {x : Str} {ys : List Str} {caps : List Nat} (K : CompOk fm scope x ys caps) :
    ∃ cl, closureFor scope fm.env = pure cl ∧ (∀ y c, cl.lookup y = some c → fm.env.cells.lookup y = some c ∧ fm.env.kindOf y = some .cell) ∧ (∀ y ∈ scope.names, y.2 = .free → ∃ c, cl.lookup y.1 = some c) :=
  closure_ok fun y hy hf => by
    have hk := (K.free y hy hf).1
    obtain ⟨c, hc, _⟩ := F.L.cells y.1 hk
    exact ⟨hk, c, hc⟩
theorem PLC.go (W : fm.Wf X) {xs : List AV} {v : Value} {C : Addr} {s' : Shared} (P : PLC X fm κ φ α ρ hp' xs v C s') :
    ∃ m, s'.heap.Ns C m ∧ ∀ h', Heap.SameBut C s'.heap h' → PL X fm κ φ α ρ hp' xs v { s' with heap := h' } := by
  obtain ⟨c, m, hκ, hc, hm, P⟩ := P
  obtain ⟨γ, χ, a, o, vs, h1, h2, F, rfl, ho, hl, rr, k1, k2, k3⟩ := P
  obtain ⟨eC, _, _⟩ := F.putApart
  have hne : a ≠ C := by rintro rfl; rw [Part.put_self] at k1; cases k1
  refine ⟨m, hm _ eC, fun h' hs => ⟨γ, χ, a, o, vs, h1, h2, F.lessK W hκ hc (fun b x hb e => hs.extBut b x hb e) s'.toks, rfl, hs.extBut _ _ hne ho, hl, rr, ?_, k2, k3⟩⟩
  rw [Part.put_ne _ _ hne] at k1; exact k1
theorem sl_comp (W : fm.Wf X) {elt iter : Expr} {x : Str} {px : Pos} {ifs : List Expr} {scope : Scope} {pos : Pos} {ys : List Str} {caps : List Nat} {mE mS : ME} {mc : Option ME} (K : CompOk fm scope x ys caps) (hf : ∀ x, foldedSetIterable iter fm.env x = pure x) (S : SSrc X G fm iter mS)
    (Se : ∀ C cl, (cfm fm scope cl C x ys).Wf X → SE X G (cfm fm scope cl C x ys) elt mE) (Sc : ∀ C cl, (cfm fm scope cl C x ys).Wf X → SIfs X G (cfm fm scope cl C x ys) ifs mc) :
    SL X G fm (.ListComp elt [⟨.Name x px, iter, ifs, 0⟩] scope pos) (.lComp mE mc none mS caps) := by
  intro ρ hp xs hp' h κ φ α s F
  obtain ⟨sr, hp₁, e1, h1⟩ := bnd_inv h
  obtain ⟨vs, rfl, h2⟩ := onFix_inv h1
  obtain ⟨hl, h3⟩ := if_inv h2
  obtain ⟨cl, k1, k2, k3⟩ := closure_fm F K
  rw [eval_ListComp]
  refine wpAny_comprehension_free (use := none) rfl hf k1 K.kind K.locals (wpAny_mono (S _ _ _ _ e1 _ _ _ _ F) (fun xv s₁ P => wpAny_mono P (fun it s₂ P => ?_) fun _ _ z => z) fun _ _ z => z)
  refine comp_core W K (fun y c e => (k2 y c e).1) (fun y c e => (k2 y c e).2) k3 Se Sc (Nat.le_of_lt hl) h3 P (R := fun acc C => compPost (model X.prog X.w) fm.A noE none (PL X fm κ φ α ρ hp' xs) acc C) fun v C s' P => ?_
  exact P.go W
theorem ss_compAssign (W : fm.Wf X) {elt iter : Expr} {x y : Str} {px py : Pos} {ifs : List Expr} {scope : Scope} {pos spos : Pos} {ys : List Str} {caps : List Nat} {mE mS : ME} {mc : Option ME} {i : Nat} (hx : fm.names[i]? = some y) (hst : Stores fm y) (K : CompOk fm scope x ys caps) (hf : ∀ x, foldedSetIterable iter fm.env x = pure x) (S : SSrc X G fm iter mS)
    (Se : ∀ C cl, (cfm fm scope cl C x ys).Wf X → SE X G (cfm fm scope cl C x ys) elt mE) (Sc : ∀ C cl, (cfm fm scope cl C x ys).Wf X → SIfs X G (cfm fm scope cl C x ys) ifs mc)
    (hsw : swapsWith (.ListComp elt [⟨.Name x px, iter, ifs, 0⟩] scope pos) (some (.Name y py)) spos.line fm.env = pure true) :
    SS X G fm (.Assign [.Name y py] (.ListComp elt [⟨.Name x px, iter, ifs, 0⟩] scope pos) spos) (.assign i (.frz (.lComp mE mc none mS caps))) := by
  intro ρ hp f ρ' hp' h κ φ α s F
  obtain ⟨v, hp₂, e0, h0⟩ := bnd_inv h
  obtain ⟨rfl, rfl, rfl⟩ := tri_inv h0
  obtain ⟨xs, hp₃, e2, h3⟩ := bnd_inv e0
  obtain ⟨rfl, rfl⟩ := pair_inv h3
  obtain ⟨sr, hp₁, e1, h1⟩ := bnd_inv e2
  obtain ⟨vs, rfl, h2⟩ := onFix_inv h1
  obtain ⟨hl, q⟩ := if_inv h2
  obtain ⟨cl, k1, k2, k3⟩ := closure_fm F K
  rw [exec_Assign_Name_used _ _ _ _ hsw]
  refine wpAny_bind (wpAny_standAt (wpAny_bind ?_))
  show wpAny _ fm.A (do let _ ← comprehension (.ListComp elt [⟨.Name x px, iter, ifs, 0⟩] scope pos) scope fm.env _ (newList []) false (eval iter fm.env) (some (assign (.Name y py) fm.env))) _ _ s
  refine wpAny_bind (wpAny_mono (wpAny_comprehension_free (use := some (assign (.Name y py) fm.env)) (Q := fun _ s' => PS X fm κ φ α (setLoc ρ i (.lst xs)) hp₃ Fl.next .next s') rfl hf k1 K.kind K.locals
    (wpAny_mono (S _ _ _ _ e1 _ _ _ _ F) (fun xv s₁ P => wpAny_mono P (fun it s₂ P => ?_) fun _ _ z => z) fun _ _ z => z)) (fun _ s' hq => wpAny_pure (wpAny_pure hq)) fun _ _ z => z)
  refine comp_core W K (fun y c e => (k2 y c e).1) (fun y c e => (k2 y c e).2) k3 Se Sc (Nat.le_of_lt hl) q P (R := fun acc C => compPost (model X.prog X.w) fm.A noE (some (assign (.Name y py) fm.env)) (fun _ s' => PS X fm κ φ α (setLoc ρ i (.lst xs)) hp₃ Fl.next .next s') acc C) fun v C s' P => ?_
  obtain ⟨c, m, hκ, hc, hm, P⟩ := P
  obtain ⟨γ, χ, g1, g2, F', rv⟩ := P.frz W
  refine wpAny_assign_Name (store_at W F' hx rv hst fun s'' F'' => ⟨m, hm _ F''.putApart.1, fun h' hs => ?_⟩)
  exact PS.lift g1 g2 (PS.next (F''.lessK W hκ hc (fun b x hb e => hs.extBut b x hb e) s''.toks))
end
end Mine
end
section
namespace Mine
open PySem PyProof.Rows
section
variable {X : Wd} {G : Gl} {fm : Fm} {κ φ ψ : Part} {α β : List Addr} {ρ ρ' : Env'} {hp hp' : Hp} {s : Shared}
noncomputable def St1 (X : Wd) (fm : Fm) (t : Value → Sem Unit) (i : Nat) : Prop :=
  ∀ ρ hp κ φ α s v av (Q : Unit → Shared → Prop), FOk X fm κ φ α ρ hp s → Rep X α φ v av → (∀ s', FOk X fm κ φ α (setLoc ρ i av) hp s' → Q () s') → Wp X fm (t v) Q s
inductive StAll (X : Wd) (fm : Fm) : List (Value → Sem Unit) → List Nat → Prop
  | nil : StAll X fm [] []
  | cons {t : Value → Sem Unit} {i : Nat} {ts : List (Value → Sem Unit)} {is : List Nat} : St1 X fm t i → StAll X fm ts is → StAll X fm (t :: ts) (i :: is)
theorem StAll.append {ts us : List (Value → Sem Unit)} {is js : List Nat} (h : StAll X fm ts is) (k : StAll X fm us js) : StAll X fm (ts ++ us) (is ++ js) := by
  induction h with
  | nil => exact k
  | cons h _ ih => exact .cons h ih
theorem StAll.reverse {ts : List (Value → Sem Unit)} {is : List Nat} (h : StAll X fm ts is) : StAll X fm ts.reverse is.reverse := by
  induction h with
  | nil => exact .nil
  | cons h _ ih => rw [List.reverse_cons, List.reverse_cons]; exact ih.append (.cons h .nil)
theorem RepAll.reverse {vs : List Value} {xs : List AV} (r : RepAll X α φ vs xs) : RepAll X α φ vs.reverse xs.reverse :=
  r.ind (P := fun vs xs => RepAll X α φ vs.reverse xs.reverse) .nil fun _ _ _ _ h _ ih => by rw [List.reverse_cons, List.reverse_cons]; exact ih.append (.cons h .nil)
theorem stores_ok {ts : List (Value → Sem Unit)} {is : List Nat} (S : StAll X fm ts is) : ∀ {vs : List Value} {avs : List AV} {ρ ρ' : Env'} {s : Shared} {Q : Unit → Shared → Prop}, RepAll X α φ vs avs → setLocs ρ is avs = some ρ' → FOk X fm κ φ α ρ hp s → (∀ s', FOk X fm κ φ α ρ' hp s' → Q () s') → Wp X fm (assignInOrder ts vs) Q s := by
  induction S with
  | nil =>
    intro vs avs ρ ρ' s Q r h F k
    cases avs with
    | nil =>
      obtain rfl := r.inv_nil
      obtain rfl := some_inv h
      exact wpAny_pure (k _ F)
    | cons _ _ => cases h
  | cons h1 S ih =>
    intro vs avs ρ ρ' s Q r h F k
    cases avs with
    | nil => cases h
    | cons x xs =>
      obtain ⟨v, ws, rfl, rv, rr⟩ := r.inv_cons
      exact wpAny_bind (wpAny_holding (h1 _ _ _ _ _ _ _ _ _ F rv fun s' F' => ih rr h F' k))
theorem setLoc_comm {i j : Nat} (h : i ≠ j) (a b : AV) (ρ : Env') : setLoc (setLoc ρ i a) j b = setLoc (setLoc ρ j b) i a := List.set_comm (some a) (some b) h
theorem setLocs_push {i : Nat} {v : AV} (is : List Nat) : ∀ (vs : List AV) (ρ ρ' : Env'), i ∉ is → setLocs (setLoc ρ i v) is vs = some ρ' → ∃ ρ₁, setLocs ρ is vs = some ρ₁ ∧ ρ' = setLoc ρ₁ i v := by
  induction is with
  | nil =>
    intro vs ρ ρ' _ h
    cases vs with
    | nil => obtain rfl := some_inv h; exact ⟨ρ, rfl, rfl⟩
    | cons _ _ => cases h
  | cons j is ih =>
    intro vs ρ ρ' hn h
    cases vs with
    | nil => cases h
    | cons w vs =>
      have hij : i ≠ j := fun e => hn (by rw [e]; exact List.mem_cons_self)
      refine ih vs (setLoc ρ j w) ρ' (fun q => hn (List.mem_cons_of_mem _ q)) ?_
      rw [← setLoc_comm hij]; exact h
theorem setLocs_snoc {i : Nat} {v : AV} (is : List Nat) : ∀ (vs : List AV) (ρ ρ' : Env'), setLocs ρ is vs = some ρ' → setLocs ρ (is ++ [i]) (vs ++ [v]) = some (setLoc ρ' i v) := by
  induction is with
  | nil =>
    intro vs ρ ρ' h
    cases vs with
    | nil => obtain rfl := some_inv h; rfl
    | cons _ _ => cases h
  | cons j is ih =>
    intro vs ρ ρ' h
    cases vs with
    | nil => cases h
    | cons w vs => exact ih vs _ _ h
theorem setLocs_rev (is : List Nat) : ∀ (vs : List AV) (ρ ρ' : Env'), is.Nodup → setLocs ρ is vs = some ρ' → setLocs ρ is.reverse vs.reverse = some ρ' := by
  induction is with
  | nil =>
    intro vs ρ ρ' _ h
    cases vs with
    | nil => exact h
    | cons _ _ => cases h
  | cons j is ih =>
    intro vs ρ ρ' hn h
    cases vs with
    | nil => cases h
    | cons w vs =>
      rw [List.nodup_cons] at hn
      obtain ⟨ρ₁, h1, rfl⟩ := setLocs_push is vs ρ ρ' hn.1 h
      rw [List.reverse_cons, List.reverse_cons]
      exact setLocs_snoc _ _ _ _ (ih vs ρ ρ₁ hn.2 h1)
theorem st_bind (W : fm.Wf X) {x : Str} {i : Nat} (hx : fm.names[i]? = some x) (hs : Stores fm x) : St1 X fm (fun v => bindName fm.env x v) i := by
  intro ρ hp κ φ α s v av Q F r k
  exact wpAny_bindName (store_at W F hx r hs k)
theorem st_assign (W : fm.Wf X) {x : Str} {i : Nat} {p : Pos} (hx : fm.names[i]? = some x) (hs : Stores fm x) : St1 X fm (assign (.Name x p) fm.env) i := by
  intro ρ hp κ φ α s v av Q F r k
  exact wpAny_assign_Name (store_at W F hx r hs k)
inductive Tgs (fm : Fm) : List Expr → List Str → List Nat → Prop
  | nil : Tgs fm [] [] []
  | cons {x : Str} {i : Nat} {p : Pos} {es : List Expr} {xs : List Str} {is : List Nat} : fm.names[i]? = some x → Stores fm x → Tgs fm es xs is → Tgs fm (.Name x p :: es) (x :: xs) (i :: is)
theorem Tgs.each (W : fm.Wf X) {es : List Expr} {xs : List Str} {is : List Nat} (T : Tgs fm es xs is) : StAll X fm ((assignEach es fm.env).map (·.2)) is ∧ (assignEach es fm.env).length = is.length ∧ (assignEach es fm.env).findIdx? (·.1) = none ∧ StAll X fm (xs.map fun n => bindName fm.env n) is ∧ xs.length = is.length := by
  induction T with
  | nil => exact ⟨.nil, rfl, rfl, .nil, rfl⟩
  | cons hx hs T ih =>
    obtain ⟨h1, h2, h3, h4, h5⟩ := ih
    have e : ∀ x p es, assignEach (.Name x p :: es) fm.env = (false, assign (.Name x p) fm.env) :: assignEach es fm.env := fun _ _ _ => rfl
    refine ⟨?_, ?_, ?_, ?_, ?_⟩
    · rw [e]; exact .cons (st_assign W hx hs) h1
    · rw [e, List.length_cons, List.length_cons, h2]
    · rw [e, List.findIdx?_cons]; simp [h3]
    · exact .cons (st_bind W hx hs) h4
    · rw [List.length_cons, List.length_cons, h5]
theorem setLocs_len (is : List Nat) : ∀ (vs : List AV) (ρ ρ' : Env'), setLocs ρ is vs = some ρ' → is.length = vs.length := by
  induction is with
  | nil =>
    intro vs ρ ρ' h
    cases vs with
    | nil => rfl
    | cons _ _ => cases h
  | cons j is ih =>
    intro vs ρ ρ' h
    cases vs with
    | nil => cases h
    | cons w vs => exact congrArg Nat.succ (ih vs _ _ h)
theorem Ext.but {h h' : Heap} (e : Heap.ExtBut h.objs.size h h') : Ext h h' := fun b o q => e b o (Nat.ne_of_lt (Heap.lt_size q)) q
theorem tup_at (F : FOk X fm κ φ α ρ hp s) {v : Value} {vs : List AV} (r : Rep X α φ v (.tup vs)) : ∃ (a : Addr) (us : List Value), v = .ref a ∧ s.heap.IsTuple a us.toArray ∧ RepAll X α φ us vs := by
  obtain ⟨a, n, us, rfl, ho, rr⟩ := r.inv_tup
  exact ⟨a, us, rfl, ⟨_, F.H.froz _ _ ho, rfl, n, rfl⟩, rr⟩
theorem ss_unpack (W : fm.Wf X) {es : List Expr} {xs : List Str} {is : List Nat} {k : Nat} {tpos pos : Pos} {e : Expr} {me : ME} (T : Tgs fm es xs is) (hn : is.Nodup) (hs : swapsWithSole [.Tuple es k tpos] e pos.line fm.env = pure false)
    (hw : swappedStores [.Tuple es k tpos] e fm.env = pure none ∨ swappedStores [.Tuple es k tpos] e fm.env = pure (some xs)) (S : SE X G fm e me) : SS X G fm (.Assign [.Tuple es k tpos] e pos) (.unpack is me) := by
  intro ρ hp f ρ' hp' h κ φ α s F
  obtain ⟨v, hp₁, e1, h1⟩ := bnd_inv h
  obtain ⟨vs, rfl, h2⟩ := onTup_inv h1
  obtain ⟨ρ₁, q, e0⟩ := mapp_inv h2
  obtain ⟨rfl, e2⟩ := Prod.mk.inj e0
  obtain ⟨rfl, rfl⟩ := Prod.mk.inj e2
  obtain ⟨t1, t2, t3, t4, t5⟩ := T.each W
  have hlen := setLocs_len _ _ _ _ q
  rcases hw with hw | hw
  · refine Assign_Tuple (S.andThen e1 F fun β ψ v s₁ hα hφ F₁ r₁ => ?_) hs hw
    obtain ⟨a, us, rfl, ht, rr⟩ := tup_at F₁ r₁
    refine wpAny_assign_Tuple W.handled ht (by rw [t2, hlen, List.size_toArray, rr.length]) t3 fun h' he => ?_
    exact stores_ok t1 rr q (F₁.grow W (Ext.but he) s₁.toks) fun s' F' => PS.lift hα hφ (PS.next F')
  · refine Assign_Tuple_swapped (names := xs) (S.andThen e1 F fun β ψ v s₁ hα hφ F₁ r₁ => ?_) hs hw
    obtain ⟨a, us, rfl, ht, rr⟩ := tup_at F₁ r₁
    have hz : xs.length = us.toArray.size := by rw [t5, hlen, List.size_toArray, rr.length]
    rw [hz]
    refine wpAny_unpackItems_tuple W.handled ht fun h' he => ?_
    rw [List.map_reverse]
    exact stores_ok t4.reverse rr.reverse (setLocs_rev _ _ _ _ hn q) (F₁.grow W (Ext.but he) s₁.toks) fun s' F' => PS.lift hα hφ (PS.next F')
end
end Mine
end
section
namespace Mine
open PySem PyProof.Rows
section
variable {X : Wd} {G : Gl} {fm : Fm} {κ φ ψ : Part} {α β : List Addr} {ρ ρ' : Env'} {hp hp' : Hp} {s : Shared}
theorem repAll_of_get (xs : List AV) : ∀ {vs : List Value}, vs.length = xs.length → (∀ (i : Nat) (v : Value), vs[i]? = some v → ∃ x, xs[i]? = some x ∧ Rep X α φ v x) → RepAll X α φ vs xs := by
  induction xs with
  | nil =>
    intro vs h k
    cases vs with
    | nil => exact .nil
    | cons _ _ => cases h
  | cons x xs ih =>
    intro vs h k
    cases vs with
    | nil => cases h
    | cons v vs =>
      obtain ⟨y, e, r⟩ := k 0 v rfl
      obtain rfl := some_inv e
      exact .cons r (ih (Nat.succ.inj h) fun i w hw => k (i + 1) w hw)
theorem repAll_items {P : Nat → Value → Prop} {acc : Array Value} {n : Nat} {xs : List AV} (I : ItemsOf P acc n) (hn : n = xs.length) (k : ∀ i v, P i v → i < n → ∃ x, xs[i]? = some x ∧ Rep X α φ v x) : RepAll X α φ acc.toList xs := by
  refine repAll_of_get _ (by rw [Array.length_toList, I.1, hn]) fun i v h => ?_
  have hi : i < acc.size := by simpa using (List.getElem?_eq_some_iff.mp h).1
  exact k i v (I.2 i v (by simpa using h)) (I.1 ▸ hi)
noncomputable def SLs (X : Wd) (G : Gl) (fm : Fm) (e : Expr) (me : ME) : Prop :=
  ∀ ρ hp xs hp', evL G (.lList me) ρ hp = some (xs, hp') → ∀ κ φ α s, FOk X fm κ φ α ρ hp s →
    Wp X fm (eval e fm.env) (fun xv s₁ => Wp X fm (call (.type "list") [xv]) (PL X fm κ φ α ρ hp' xs) s₁) s
theorem sl_list (W : fm.Wf X) (g : GlobOk X "list" (.type "list")) (hk : fm.env.kindOf "list" = some .globalImplicit) {np pos : Pos} {e : Expr} {me : ME} (he : notStar e = true) (S : SLs X G fm e me) : SL X G fm (.Call (.Name "list" np) [e] [] pos) (.lList me) := by
  intro ρ hp xs hp' h κ φ α s F
  refine wpAny_Call_NameR (load_glob W g hk (by decide) F ?_)
  rw [star1 he]
  exact PySem.callWith_type rfl (Calls.evalArgs_plain (Calls.spliced_cons (wpAny_mono (S _ _ _ _ h _ _ _ _ F) (fun xv s₁ P => Calls.spliced_nil P) fun _ _ z => z)))
theorem PL.made (W : fm.Wf X) (F : FOk X fm κ φ α ρ hp s) {h' : Heap} {tk n : Nat} {vs : List Value} {xs : List AV} (e : Ext s.heap h') (ho : h'.get? s.heap.objs.size = some { cls := .type "list", dict := none, data := .seq vs.toArray n, slots := #[] }) (r : RepAll X α φ vs xs) :
    PL X fm κ φ α ρ hp xs (.ref s.heap.objs.size) { s with heap := h', toks := tk } := by
  obtain ⟨a, b, c⟩ := F.H.fresh (fresh_size s.heap)
  exact ⟨α, φ, _, _, vs, List.prefix_refl _, Part.le_refl _, F.grow W e tk, rfl, ho, ⟨n, rfl⟩, r, a, b, c⟩
theorem list_range (W : fm.Wf X) (F : FOk X fm κ φ α ρ hp s) {lo hi : Int} {t u v : Tok} {tk : Nat} (h1 : lo.natAbs < 2 ^ 20) (h2 : hi.natAbs < 2 ^ 20) :
    Wp X fm (call (.type "list") [.ref s.heap.objs.size]) (PL X fm κ φ α ρ hp (range lo hi)) { s with heap := s.heap.push { cls := .type "range", data := .fields #[.int lo t, .int hi u, .int 1 v] }, toks := tk } := by
  have F₁ := F.grow W (Ext.push s.heap { cls := .type "range", data := .fields #[.int lo t, .int hi u, .int 1 v] }) tk
  have hsz : Builtin.Range.rangeSize lo hi 1 = ((hi - lo).toNat : Int) := by rw [rangeSize_one]; split <;> lia
  refine call_list_range W.handled (IsRange.new ..) (small_one (by lia) (by lia) (by lia) (by lia)) hsz (by lia) fun h' tk' acc c hk ho hI => ?_
  refine PL.made W F₁ hk (vs := acc.toList) (by simpa using ho) (repAll_items hI (by simp [range]) fun i v hv hi => ?_)
  obtain ⟨w, rfl⟩ := hv
  refine ⟨.int (lo + i), by simp [range, List.getElem?_map, List.getElem?_range hi], ?_⟩
  rw [Int.mul_one]; exact .int _ _
theorem sls_range2 (W : fm.Wf X) (g : GlobOk X "range" (.type "range")) (hk : fm.env.kindOf "range" = some .globalImplicit) {np pos : Pos} {e e' : Expr} {me me' : ME} (he : notStar e = true) (he' : notStar e' = true) (S : SE X G fm e me) (S' : SE X G fm e' me') :
    SLs X G fm (.Call (.Name "range" np) [e, e'] [] pos) (.sRange me me') := by
  intro ρ hp xs hp' h κ φ α s F
  obtain ⟨sr, hp₀, e0, h0⟩ := bnd_inv h
  obtain ⟨x, hp₁, q, h1⟩ := bnd_inv e0
  obtain ⟨lo, rfl, h2⟩ := onInt_inv h1
  obtain ⟨y, hp₂, q', h3⟩ := bnd_inv h2
  obtain ⟨hi, rfl, h4⟩ := onInt_inv h3
  obtain ⟨hz, e⟩ := ite_inv h4
  obtain ⟨rfl, rfl⟩ := Prod.mk.inj e
  obtain ⟨rfl, rfl, _⟩ := chkL_some h0
  refine wpAny_Call_NameR (load_glob W g hk (by decide) F ?_)
  rw [star1 he, star1 he']
  refine PySem.callWith_type rfl (Calls.evalArgs_plain (Calls.spliced_cons (S.andThen q F fun β ψ v s₁ hα hφ F₁ r₁ => Calls.spliced_cons (S'.andThen q' F₁ fun γ χ w s₂ hβ hψ F₂ r₂ => Calls.spliced_nil ?_))))
  obtain ⟨t, rfl⟩ := r₁.inv_int
  obtain ⟨u, rfl⟩ := r₂.inv_int
  refine call_range_2 ?_
  exact wpAny_mono (list_range W F₂ hz.1 hz.2) (fun _ _ P => P.lift (hα.trans hβ) (Part.le_trans hφ hψ)) fun _ _ z => z
theorem list_val (W : fm.Wf X) {v : Value} {av : AV} {sr : Sr} {xs : List AV} (hm : srcVal av = some sr) (h : listOf hp sr = some (xs, hp')) (F : FOk X fm κ φ α ρ hp s) (r : Rep X α φ v av) : Wp X fm (call (.type "list") [v]) (PL X fm κ φ α ρ hp' xs) s := by
  have szs : ∀ {vs : List Value} {ys : List AV}, RepAll X α φ vs ys → ys.length ≤ szMax → vs.toArray.size ≤ sizeLine := fun rr hz => by rw [szLine, List.size_toArray, rr.length]; exact hz
  cases av with
  | str cs =>
    obtain rfl := some_inv hm
    obtain ⟨x, t, rfl, rfl⟩ := r.inv_str
    obtain ⟨rfl, rfl, hz⟩ := chkL_some h
    rw [List.length_map, Array.length_toList] at hz
    refine call_list_str W.handled x t (fun h' tk' acc c hk ho hI => PL.made W F hk (vs := acc.toList) (by simpa using ho) (repAll_items hI (by simp) fun i v hv hi => ?_)) hz
    obtain ⟨c, u, e, rfl⟩ := hv
    refine ⟨.str [c], by simp [List.getElem?_map]; simpa using e, ?_⟩
    exact Rep.str ⟨#[c]⟩ u
  | tup ys =>
    obtain rfl := some_inv hm
    obtain ⟨a, n, vs, rfl, ho, rr⟩ := r.inv_tup
    obtain ⟨rfl, rfl, hz⟩ := chkL_some h
    exact call_list_seq _ (.inr rfl) (F.H.froz _ _ ho) rfl rfl (fun h' c hk hl => PL.made (tk := s.toks) W F hk hl rr) (szs rr hz)
  | lst ys =>
    obtain rfl := some_inv hm
    obtain ⟨a, n, vs, rfl, ho, rr⟩ := r.inv_lst
    obtain ⟨rfl, rfl, hz⟩ := chkL_some h
    exact call_list_seq _ (.inl rfl) (F.H.froz _ _ ho) rfl rfl (fun h' c hk hl => PL.made (tk := s.toks) W F hk hl rr) (szs rr hz)
  | ref t =>
    obtain rfl := some_inv hm
    obtain ⟨ys, qt, h1⟩ := onList_inv (o := hp[t]?) h
    obtain ⟨a, n, vs, rfl, _, ho, rr⟩ := tag_list F.H qt r
    obtain ⟨rfl, rfl, hz⟩ := chkL_some h1
    exact call_list_seq _ (.inl rfl) ho rfl rfl (fun h' c hk hl => PL.made (tk := s.toks) W F hk hl rr) (szs rr hz)
  | _ => cases hm
theorem sls_val (W : fm.Wf X) {e : Expr} {me : ME} (S : SE X G fm e me) : SLs X G fm e (.sVal me) := by
  intro ρ hp xs hp' h κ φ α s F
  obtain ⟨sr, hp₀, e0, h0⟩ := bnd_inv h
  obtain ⟨av, hp₁, q, h1⟩ := bnd_inv e0
  obtain ⟨hm, rfl⟩ := map_pair' h1
  exact S.andThen q F fun β ψ v s₁ hα hφ F₁ r₁ => wpAny_mono (list_val W hm h0 F₁ r₁) (fun _ _ P => P.lift hα hφ) fun _ _ z => z
end
end Mine
end
section
namespace Mine
open PySem PyProof.Rows
structure ClsDat where
  nm : Str
  q : Str
  N : Addr
  bs : List Value
  sn : List Str
  sub : List Value
  ab : Bool
  col : Option Bool
  dd : Option Addr
  k0 : Option Value
  k1 : Option Value
  k2 : Option Value
  k3 : Option Value
  k5 : Option Value
  newId : String
noncomputable abbrev ClsDat.obj (d : ClsDat) (C : Addr) : Obj := excClassObj d.nm d.q C d.N d.bs [.type "object"] true d.sn d.sub d.ab d.col d.dd d.k0 d.k1 d.k2 d.k3 d.k5 d.newId
structure ClsAt (X : Wd) (mN : Str → Option Value) : Prop where
  cls : ∃ d : ClsDat, ∀ h : Heap, (∀ a o, X.base a = some o → h.get? a = some o) → h.get? X.C = some (d.obj X.C) ∧ h.Ns d.N mN
  ga : mN "__getattribute__" = none
  gh : mN "__getattr__" = none
  sa : mN "__setattr__" = none
  fields : ∀ f ∈ X.fields, mN f = none ∧ typeLookup (.type "object") f = pure none
  nodup : X.fields.Nodup
  few : X.fields.length ≤ 100
theorem fieldOf_get : ∀ {names : List Str} {vs : List Value}, names.Nodup → ∀ {f : Nat} {x : Str} {v : Value}, names[f]? = some x → vs[f]? = some v → fieldOf names vs x = some v
  | [], _, _, f, x, v, h, _ => by simp at h
  | _ :: _, [], _, f, x, v, _, h => by simp at h
  | n :: ns, w :: vs, hn, 0, x, v, h1, h2 => by
    simp at h1 h2; subst h1; subst h2
    simp [fieldOf]
  | n :: ns, w :: vs, hn, f + 1, x, v, h1, h2 => by
    rw [List.nodup_cons] at hn
    simp at h1 h2
    have hne : (x == n) = false := by
      have : x ≠ n := fun e => hn.1 (e ▸ List.mem_of_getElem? h1)
      simpa using this
    have := fieldOf_get hn.2 h1 h2
    simp only [fieldOf, List.zip_cons_cons, List.lookup_cons, hne] at this ⊢
    exact this
theorem fieldOf_set : ∀ {names : List Str} {vs : List Value}, names.Nodup → ∀ {f : Nat} {x : Str} {v : Value}, names[f]? = some x → f < vs.length → fieldOf names (vs.set f v) = fun y => if y = x then some v else fieldOf names vs y
  | [], _, _, f, x, v, h, _ => by simp at h
  | _ :: _, [], _, f, x, v, _, h => by simp at h
  | n :: ns, w :: vs, hn, 0, x, v, h1, h2 => by
    simp at h1; subst h1
    funext y
    by_cases q : y = n
    · subst q; simp [fieldOf]
    · have : (y == n) = false := by simpa using q
      simp [fieldOf, List.lookup_cons, this, q]
  | n :: ns, w :: vs, hn, f + 1, x, v, h1, h2 => by
    rw [List.nodup_cons] at hn
    simp at h1 h2
    have ih := fieldOf_set (vs := vs) hn.2 (v := v) h1 h2
    funext y
    have ihy := congrFun ih y
    by_cases q : y = n
    · subst q
      have hne : y ≠ x := fun e => hn.1 (e ▸ List.mem_of_getElem? h1)
      simp [fieldOf, hne]
    · have : (y == n) = false := by simpa using q
      simp only [fieldOf, List.set_cons_succ, List.zip_cons_cons, List.lookup_cons, this] at ihy ⊢
      exact ihy
theorem fieldOf_none {names : List Str} {vs : List Value} {x : Str} (h : x ∉ names) : fieldOf names vs x = none := by
  cases q : fieldOf names vs x with
  | none => rfl
  | some v =>
    exact absurd (List.of_mem_zip (mem_of_lookup q)).1 h
section
variable {X : Wd} {G : Gl} {fm : Fm} {κ φ ψ : Part} {α β : List Addr} {ρ ρ' : Env'} {hp hp' : Hp} {s : Shared}
inductive InstIs (X : Wd) (φ : Part) (α : List Addr) (h : Heap) (v : Value) (t : Nat) (fs : List AV) : Prop
  | mk (a d : Addr) (o : Obj) (vs : List Value) : v = .ref a → φ a = some o → o.dict = some d → α[t]? = some d → RepAll X α φ vs fs → h.Inst a X.C (fieldOf X.fields vs) → a ≠ d → h.Ns1 d (fieldOf X.fields vs) → InstIs X φ α h v t fs
theorem inst_at {t : Nat} {v : Value} {fs : List AV} (H : HOk X fm.own κ φ α hp s) (e : hp[t]? = some (.dict fs)) (r : Rep X α φ v (.inst t)) :
    InstIs X φ α s.heap v t fs := by
  obtain ⟨a, d, o, rfl, ho, hc, hd, hn, ht⟩ := r.inv_inst
  obtain ⟨b, hb, ra⟩ := H.obj t _ e
  rw [ht] at hb
  obtain rfl := some_inv hb
  obtain ⟨vs, hns, rr⟩ := ra.inv_dict
  have hne : a ≠ d := by
    rintro rfl
    rw [(H.apart a (List.mem_cons_of_mem _ (List.mem_append_right _ (List.mem_of_getElem? ht)))).2] at ho; cases ho
  exact ⟨a, d, o, vs, rfl, ho, hd, ht, rr, ⟨o, H.froz _ _ ho, hc, hn, .inr ⟨d, hd, hne.symm, hns⟩⟩, hne, hns⟩
theorem noCst_inv {x y : AV} {v : Value} (h : noCst x = some y) (r : Rep X α φ v x) : x = y ∧ handedOut v = pure v := by
  cases x with
  | cst c => cases h
  | none => obtain rfl := r.inv_none; exact ⟨some_inv h, rfl⟩
  | bool b => obtain rfl := r.inv_bool; exact ⟨some_inv h, rfl⟩
  | int i => obtain ⟨t, rfl⟩ := r.inv_int; exact ⟨some_inv h, rfl⟩
  | str i => obtain ⟨w, t, rfl, _⟩ := r.inv_str; exact ⟨some_inv h, rfl⟩
  | tup i => obtain ⟨a, n, vs, rfl, _⟩ := r.inv_tup; exact ⟨some_inv h, rfl⟩
  | lst i => obtain ⟨a, n, vs, rfl, _⟩ := r.inv_lst; exact ⟨some_inv h, rfl⟩
  | ref i => obtain ⟨a, rfl, _⟩ := r.inv_ref; exact ⟨some_inv h, rfl⟩
  | inst i => obtain ⟨a, d, o, rfl, _⟩ := r.inv_inst; exact ⟨some_inv h, rfl⟩
  | stm i => obtain ⟨a, l, rfl, _⟩ := r.inv_stm; exact ⟨some_inv h, rfl⟩
theorem getAttr_ok {mN : Str → Option Value} (K : ClsAt X mN) (W : fm.Wf X) {o v : AV} {ov : Value} {f : Nat} {x : Str} (hx : X.fields[f]? = some x) (h : getField hp o f = some v) (F : FOk X fm κ φ α ρ hp s) (r : Rep X α φ ov o) {expr : Bool} :
    Wp X fm (getAttr ov x expr) (PV X fm κ φ α ρ hp v) s := by
  obtain ⟨t, rfl, h1⟩ := onInst_inv h
  obtain ⟨fs, e, h2⟩ := onDict_inv h1
  obtain ⟨w, q, h3⟩ := bind_inv h2
  obtain ⟨a, d, o, vs, rfl, ho, hd, ht, rr, I, _, _⟩ := inst_at F.H e r
  obtain ⟨u, hu, ru⟩ := rr.get q
  obtain ⟨rfl, hh⟩ := noCst_inv h3 ru
  obtain ⟨cdt, hc⟩ := K.cls
  obtain ⟨hC, hN⟩ := hc s.heap F.H.baseIn
  have hf := K.fields x (List.mem_of_getElem? hx)
  obtain ⟨h0, g0, d0, t0, os0⟩ := s
  exact load_attr hC hN K.ga hf.1 hf.2 I (fieldOf_get K.nodup hx hu) hh (PV.of (F.tok _) ru)
theorem RepAll.setAt {v : Value} {x : AV} (k : Rep X α φ v x) {vs : List Value} {xs : List AV} (r : RepAll X α φ vs xs) (i : Nat) : RepAll X α φ (vs.set i v) (xs.set i x) := r.set k i
theorem setAttr_ok {mN : Str → Option Value} (K : ClsAt X mN) (W : fm.Wf X) {o v : AV} {ov vv : Value} {f : Nat} {x : Str} (hx : X.fields[f]? = some x) {fs : List AV} {t : Nat} (e : hp[t]? = some (.dict fs)) (hf : f < fs.length) (F : FOk X fm κ φ α ρ hp s) (r : Rep X α φ ov (.inst t)) (rv : Rep X α φ vv v) :
    Wp X fm (setAttr ov x vv) (fun _ s' => FOk X fm κ φ α ρ (hp.set t (.dict (fs.set f v))) s') s := by
  obtain ⟨a, d, o, vs, rfl, ho, hd, ht, rr, I, hne, hns⟩ := inst_at F.H e r
  obtain ⟨cdt, hc⟩ := K.cls
  obtain ⟨hC, hN⟩ := hc s.heap F.H.baseIn
  have hfx := K.fields x (List.mem_of_getElem? hx)
  have hga := F.H.froz _ _ ho
  have haC : a ≠ X.C := by
    rintro rfl
    obtain ⟨o', h1, _, h3, _⟩ := I
    rw [hC] at h1; cases h1
    exact h3 _ rfl
  obtain ⟨h0, g0, d0, t0, os0⟩ := s
  refine store_attr (ns := X.fields) PySem.F.store_object hC hN K.sa hfx.1 hfx.2 haC I (fun h' tk' I' hk hsame => ?_) (fun y hy => ?_) (Nat.le_trans K.few (by rw [sizeLine_eq]; decide))
  · obtain ⟨o₁, e₁, c1, c2, c3, c4⟩ := hsame o hga
    have : o₁ = o := by
      obtain ⟨a1, a2, a3, a4⟩ := o
      obtain ⟨b1, b2, b3, b4⟩ := o₁
      simp only at c1 c2 c3 hd
      have := c4 d hd
      simp only at this
      subst c1; subst c2; subst c3; rw [this, hd]
    subst this
    obtain ⟨o₂, e₂, _, _, I'⟩ := I'
    rw [e₁] at e₂; cases e₂
    rcases I' with ⟨hno, _⟩ | ⟨d', hd', _, hns'⟩
    · rw [hd] at hno; cases hno
    · rw [hd] at hd'; cases hd'
      refine F.setTag W ht (fun b ob hb hg => ?_) (.dict (vs := vs.set f vv) ?_ (RepAll.setAt rv rr f)) tk'
      · by_cases hba : b = a
        · subst hba
          rw [hga] at hg; cases hg; exact e₁
        · exact hk b ob hba (fun o₀ dx h1 h2 => by rw [hga] at h1; cases h1; rw [hd] at h2; cases h2; exact hb) hg
      · rw [fieldOf_set K.nodup hx (by rw [rr.length]; exact hf)]; exact hns'
  · by_cases q : y ∈ X.fields
    · exact q
    · exact absurd (fieldOf_none q) hy
theorem se_attr {mN : Str → Option Value} (K : ClsAt X mN) (W : fm.Wf X) {b : Str} {bp pos : Pos} {x : Str} {f : Nat} {mo : ME} (hx : X.fields[f]? = some x) (S : SE X G fm (.Name b bp) mo) : SE X G fm (.Attribute (.Name b bp) x pos) (.attr mo f) := by
  intro ρ hp av hp' h κ φ α s F
  obtain ⟨o, hp₁, e1, h1⟩ := bnd_inv h
  obtain ⟨hm, rfl⟩ := map_pair' h1
  rw [arm_eval_Attribute, base_of rfl]
  refine wpAny_bind (S.andThen e1 F fun β ψ v s₁ hα hφ F₁ r₁ => wpAny_bind (wpAny_standAt (wpAny_bind (wpAny_holding (wpAny_mono (getAttr_ok K W hx hm F₁ r₁) (fun u s₂ P => ?_) fun _ _ z => z)))))
  exact wpAny_bind (wpAny_pure (wpAny_pure (P.lift hα hφ)))
theorem putField_ok {mN : Str → Option Value} (K : ClsAt X mN) (W : fm.Wf X) {o v : AV} {ov vv : Value} {f : Nat} {x : Str} (hx : X.fields[f]? = some x) (q : putField hp o f v = some hp') (F : FOk X fm κ φ α ρ hp s) (r : Rep X α φ ov o) (rv : Rep X α φ vv v) :
    Wp X fm (setAttr ov x vv) (fun _ s' => FOk X fm κ φ α ρ hp' s') s := by
  obtain ⟨t, rfl, h1⟩ := onInst_inv q
  obtain ⟨fs, et, h2⟩ := onDict_inv h1
  obtain ⟨hlt, rfl⟩ := ite_inv h2
  exact setAttr_ok K W (o := .none) hx et hlt F r rv
theorem ss_augAttr {mN : Str → Option Value} (K : ClsAt X mN) (W : fm.Wf X) {o e : Expr} {x : Str} {f : Nat} {op : Operator} {tp pos : Pos} {mo me : ME} (hx : X.fields[f]? = some x) (So : SE X G fm o mo) (Se : SE X G fm e me) : SS X G fm (.AugAssign (.Attribute o x tp) op e pos) (.augAttr mo f op me) := by
  intro ρ hp fl ρ' hp' h κ φ α s F
  obtain ⟨ob, hp₁, e1, h1⟩ := bnd_inv h
  obtain ⟨w, ew, h2⟩ := bind_inv h1
  obtain ⟨y, hp₂, e2, h3⟩ := bnd_inv h2
  obtain ⟨v, ev, h4⟩ := bind_inv h3
  obtain ⟨hp₃, q, e0⟩ := mapp_inv h4
  obtain ⟨rfl, e3⟩ := Prod.mk.inj e0
  obtain ⟨rfl, rfl⟩ := Prod.mk.inj e3
  refine wpAny_AugAssign_AttributeAny (So.andThen e1 F fun β ψ ov s₁ hα hφ F₁ r₁ => wpAny_mono (getAttr_ok K W hx ew F₁ r₁) (fun u s₂ P => ?_) fun _ _ z => z)
  obtain ⟨γ, χ, hγ, hχ, F₂, r₂⟩ := P
  refine Se.andThen e2 F₂ fun δ ω yv s₃ hδ hω F₃ r₃ => wpAny_mono (aug_ok W ev F₃ (r₂.mono hδ hω) r₃) (fun nv s₄ P => ?_) fun _ _ z => z
  obtain ⟨ε, θ, hε, hθ, F₄, r₄⟩ := P
  refine wpAny_mono (putField_ok K W hx q F₄ (r₁.mono (hγ.trans (hδ.trans hε)) (Part.le_trans hχ (Part.le_trans hω hθ))) r₄) (fun _ s₅ F₅ => ?_) fun _ _ z => z
  exact ⟨ε, θ, hα.trans (hγ.trans (hδ.trans hε)), Part.le_trans hφ (Part.le_trans hχ (Part.le_trans hω hθ)), F₅, .next⟩
end
end Mine
end
section
namespace Mine
open PySem PyProof.Rows
structure MethAt (X : Wd) (mN : Str → Option Value) (name : Str) (f : Value) : Prop where
  obj : ∃ a o fd, f = .ref a ∧ X.base a = some o ∧ o.data = .func fd ∧ o.cls = .type "function"
  ns : mN name = some f
  look : ∃ y, typeLookup (.type "object") name = pure y
  notField : name ∉ X.fields
section
variable {X : Wd} {G : Gl} {fm : Fm} {κ φ ψ : Part} {α β : List Addr} {ρ ρ' : Env'} {hp hp' : Hp} {s : Shared}
theorem evalArgs_any {f : Value} {es : List Expr} {pos : Pos} {Q : Args → Shared → Prop} (he : es.all notStar = true) (h : Wp X fm (spliced (backTo pos (starEach es fm.env))) (fun vs s' => Q ⟨vs, []⟩ s') s) : Wp X fm (evalArgs f true (backTo pos (starEach es fm.env)) []) Q s := by
  cases es with
  | nil =>
    have : backTo pos (starEach [] fm.env) = [] := rfl
    rw [this] at h ⊢
    unfold evalArgs
    show wpAny _ _ (spliced [] >>= _) _ _ s
    refine wpAny_bind (wpAny_mono h (fun vs s' h' => ?_) fun _ _ x => x)
    exact wpAny_holding (wpAny_bind (wpAny_pure (wpAny_bind (wpAny_pure (wpAny_pure h')))))
  | cons e es =>
    have he0 : notStar e = true := (List.all_eq_true.mp he) _ (.head _)
    rw [star1 he0] at h ⊢
    exact Calls.evalArgs_plain h
theorem stars_few {es : List Expr} {pos : Pos} (env : Env) (he : es.all notStar = true) : (backTo pos (starEach es env)).all (fun x => !x.1) = true := by
  induction es with
  | nil => rfl
  | cons e es ih =>
    have he0 : notStar e = true := (List.all_eq_true.mp he) _ (.head _)
    have ih' := ih (by rw [List.all_cons, Bool.and_eq_true] at he; exact he.2)
    rw [star1 he0]
    unfold backTo at ih' ⊢
    rw [List.map_cons, List.all_cons, ih']; rfl
theorem instAt_inv {t : Nat} (h : isInstA hp (.inst t) = true) : ∃ fs, hp[t]? = some (.dict fs) := by
  obtain ⟨u, hu⟩ := Option.isSome_iff_exists.mp h
  obtain ⟨xs, e, _⟩ := onDict_inv hu
  exact ⟨xs, e⟩
theorem se_user {n : Nat} {mN : Str → Option Value} (K : ClsAt X mN) (W : fm.Wf X) (C : CS X G n) (R : Room fm.A n) {name : Str} {f : Value} (M : MethAt X mN name f) {o : Expr} {mo : ME} {apos pos : Pos} {es : List Expr} {mes : List ME} (So : SE X G fm o mo) (ho : plainBase o = true) (he : es.all notStar = true) (hlen : es.length < 20) (hline : (apos.endLine == pos.line) = true) (Ss : SEs X G fm es mes) :
    SE X G fm (.Call (.Attribute o name apos) es [] pos) (.meth (.user f) mo mes) := by
  intro ρ hp av hp' h κ φ α s F
  obtain ⟨x, hp₁, e1, h1⟩ := bnd_inv h
  obtain ⟨hr, h2⟩ := if_inv h1
  obtain ⟨xs, hp₂, e2, h3⟩ := bnd_inv h2
  obtain ⟨t, rfl, h4⟩ := onInst_inv h3
  obtain ⟨fs, et⟩ := instAt_inv hr
  obtain ⟨fa, ob, fd, rfl, hbase, hfd, hcls⟩ := M.obj
  have hform : methodCallForm (es.length + ([] : List Keyword).length) (backTo pos (starEach es fm.env)) (backToKw pos (keywordEach [] fm.env)) = true := by
    unfold methodCallForm
    rw [stars_few fm.env he]
    show (true && true && decide (es.length + 0 + 0 < 30)) = true
    simp; lia
  have hpos : methodCallPos true o fm.env apos pos = pure pos := by unfold methodCallPos; simp [hline]
  rw [arm_eval_Call, base_of ho]
  refine wpAny_bind (So.andThen e1 F fun β ψ ov s₁ hα hφ F₁ r₁ => wpAny_bind (wpAny_standAt ?_))
  unfold methodCall
  rw [hform]
  obtain ⟨a, d, oo, vs, rfl, _, _, _, rr, I, _, _⟩ := inst_at F₁.H et r₁
  obtain ⟨cdt, hc⟩ := K.cls
  obtain ⟨hC, hN⟩ := hc s₁.heap F₁.H.baseIn
  obtain ⟨y, hy⟩ := M.look
  refine wpAny_bind (wpAny_holding ?_)
  have key : ∀ pl, Wp X fm (getMethod (.ref a) name pl) (fun p s₂ => p = (.ref fa, [.ref a]) ∧ s₂ = s₁) s₁ := fun pl => by
    obtain ⟨h0, g0, d0, t0, os0⟩ := s₁
    exact method_of hC hN K.ga K.gh M.ns (F₁.H.baseIn _ _ hbase) hcls hy I (fieldOf_none M.notField) ⟨rfl, rfl⟩
  refine wpAny_mono (key _) (fun p s₂ z => ?_) fun _ _ z => z.elim
  obtain ⟨rfl, rfl⟩ := z
  refine wpAny_bind (wpAny_of_eq hpos ?_)
  refine Calls.callWith_function (o := ob) (fd := fd) (evalArgs_any he (wpAny_mono (Ss _ _ _ _ e2 _ _ _ _ pos F₁) (fun us s₃ P => ?_) fun _ _ z => z))
  obtain ⟨γ, χ, hγ, hχ, F₂, r₂⟩ := P
  exact ⟨⟨F₂.H.baseIn _ _ hbase, hfd⟩, Wp.lift (hα.trans hγ) (Part.le_trans hφ hχ) (call_from W C R h4 F₂ (.cons (r₁.mono hγ hχ) r₂))⟩
end
end Mine
end
section
namespace Mine
open PySem PyProof.Rows
theorem lk_fn_gh : typeLookup (.type "function") "__getattr__" = pure none := by rw [typeLookup_type, builtinLookup_eq_fast]; kernel_rfl
theorem lk_fn_read : typeLookup (.type "function") "read" = pure none := by rw [typeLookup_type, builtinLookup_eq_fast]; kernel_rfl
theorem slot_fn_ga : Slot "function" "__getattribute__" "object.__getattribute__" :=
  .of (owner := "object") (n := "__getattribute__") (by rw [typeLookup_type, builtinLookup_eq_fast]; kernel_rfl) (by decide +kernel) (by decide +kernel) (by decide +kernel)
    (by first | exact .inl (by decide +kernel) | exact .inr (by decide +kernel)) (by rw [isSubtype_type]; kernel_rfl)
theorem entry_obj_ga : entryFor table "object.__getattribute__" = some Builtin.«object.__getattribute__» := entryFor_of_tree (by kernel_rfl)
theorem args_obj_ga (a b : Value) : argsOk "object.__getattribute__" ⟨[a, b], []⟩ := by unfold argsOk; kernel_rfl
theorem canon_obj_ga : (Manifest.canonical "object.__getattribute__" != "object.__getattribute__") = false := by decide +kernel
theorem sub_fn_static : isSubtype (.type "function") (.type "staticmethod") = pure false := by rw [isSubtype_type]; kernel_rfl
theorem sub_fn_classm : isSubtype (.type "function") (.type "classmethod") = pure false := by rw [isSubtype_type]; kernel_rfl
section
variable {prog : Program} {w : World} {A : Around} {E : Value → Shared → Prop} {h : Heap} {g : Array GenState} {d : Drawn} {t : Nat} {os : OsState} {Mo D : Addr} {md : Str → Option Value} {o : Obj}
theorem fn_object_entry {tk : Tok} {v : Value} {Q : Fin → Shared → Prop} (hM : h.get? Mo = some o) (hc : o.cls = .type "function") (hdd : o.dict = some D) (hdata : ∀ c, o.data ≠ .cls c) (hD : h.Ns D md) (hv : md "read" = some v)
    (hq : Q (.done (.ret v)) ⟨h, g, d, t, os⟩) : wpAny (model prog w) A (Builtin.«object.__getattribute__» ⟨[.ref Mo, .str "read" tk], []⟩) Q E ⟨h, g, d, t, os⟩ := by
  have hT : (⟨h, g, d, t, os⟩ : Shared).TypeIs (.ref Mo) "function" := ⟨_, hM, hc⟩
  have f1 := sub_fn_static
  have f2 := sub_fn_classm
  have f3 := lk_fn_read
  unfold Builtin.«object.__getattribute__»
  repeat (any_goals (first | assumption | with_reducible apply wpAny_nsGet_known | with_reducible apply wpAny_loadPart_known | wp_step))
  split
  · rename_i c hcd
    exact absurd hcd (hdata c)
  unfold instanceDict
  repeat (first | (with_reducible refine wpAny_loadPart_at hM ?_; rw [hc]) | wp_step)
  rw [hdd]
  repeat (first | (with_reducible refine wpAny_nsGet hD ?_; rw [hv]) | wp_step)
  exact hq
theorem getAttr_fn {v : Value} {Q : Value → Shared → Prop} {ex : Bool} (hM : h.get? Mo = some o) (hc : o.cls = .type "function") (hdd : o.dict = some D) (hdata : ∀ c, o.data ≠ .cls c) (hD : h.Ns D md) (hv : md "read" = some v)
    (hh : handedOut v = pure v) (hq : Q v ⟨h, g, d, t + 1, os⟩) : wpAny (model prog w) A (getAttr (.ref Mo) "read" ex) Q E ⟨h, g, d, t, os⟩ := by
  have hT : (⟨h, g, d, t, os⟩ : Shared).TypeIs (.ref Mo) "function" := ⟨_, hM, hc⟩
  have hT1 : (⟨h, g, d, t + 1, os⟩ : Shared).TypeIs (.ref Mo) "function" := ⟨_, hM, hc⟩
  have f1 := slot_fn_ga.lookup
  have f2 := lk_fn_gh
  have f4 := slot_fn_ga.bind (.ref Mo)
  cases ex
  all_goals (
    repeat (any_goals (first | assumption | (rw [if_neg (show ¬ (true && onTheHeap (Value.builtin "object.__getattribute__")) = true by decide)]) | wp_step))
    refine codeAny_call_builtin slot_fn_ga.plain entry_obj_ga (slot_fn_ga.check _ _ _ _ _ _ _ _ hT1 (args_obj_ga _ _) (fn_object_entry hM hc hdd hdata hD hv ?_))
    repeat (any_goals (first | assumption | wp_step)))
theorem getMethod_fn {v : Value} {Q : Value × List Value → Shared → Prop} {pl : Sem Bool} (hM : h.get? Mo = some o) (hc : o.cls = .type "function") (hdd : o.dict = some D) (hdata : ∀ c, o.data ≠ .cls c) (hD : h.Ns D md) (hv : md "read" = some v)
    (hh : handedOut v = pure v) (hq : Q (v, []) ⟨h, g, d, t + 1, os⟩) : wpAny (model prog w) A (getMethod (.ref Mo) "read" pl) Q E ⟨h, g, d, t, os⟩ := by
  have hT : (⟨h, g, d, t, os⟩ : Shared).TypeIs (.ref Mo) "function" := ⟨_, hM, hc⟩
  unfold getMethod
  refine wpAny_bind (wpAny_specialOf hT slot_fn_ga.lookup ?_)
  show wpAny _ A (if (Manifest.canonical "object.__getattribute__" != "object.__getattribute__") = true then _ else _) Q E _
  rw [canon_obj_ga, if_neg (by decide)]
  refine wpAny_bind (wpAny_specialOf hT lk_fn_gh ?_)
  simp only [Option.isSome_none, Bool.false_eq_true, if_false]
  refine wpAny_bind (wpAny_specialOf hT lk_fn_read ?_)
  exact wpAny_bind (getAttr_fn hM hc hdd hdata hD hv hh (wpAny_pure hq))
end
end Mine
end
section
namespace Mine
open PySem PyProof.Rows
structure CloOk (fd : FuncData) (body : List Stmt) (p q : Str) (c : Addr) : Prop where
  body : fd.body = .stmts body
  clo : fd.closure = [(q, c)]
  names : fd.scope.names = [(p, .local), (q, .free)]
  ne : p ≠ q
  free : (q == ("__classdict__" : Str)) = false
  glob : fd.globals = mainGlobals
  bui : fd.builtins = builtinsNs
  bind : ∀ v : Value, bindArgs fd ⟨[v], []⟩ = pure [(p, v)]
  co : fd.scope.isCoroutine = false
  gen : fd.scope.isGenerator = false
  kind : fd.scope.kind = .function
noncomputable def cloEnv (fd : FuncData) (L a : Addr) : Env := newEnv fd.scope L fd.globals fd.closure (fd.qualname ++ ".<locals>.") (some a) fd.code none fd.builtins
noncomputable def cloFm (fd : FuncData) (p q : Str) (c a L : Addr) (A : Around) : Fm :=
  { A := A.deeper (cloEnv fd L a), env := cloEnv fd L a, names := [p, q], own := [L], caps := [c] }
section
variable {X : Wd} {G : Gl} {κ φ ψ : Part} {α β : List Addr} {ρ ρ' : Env'} {hp hp' : Hp} {s : Shared}
theorem clo_sound {fd : FuncData} {body : List Stmt} {p q : Str} {c a : Addr} {o oc : Obj} {lv : Value} {mb : List MS} {n : Nat} (K : CloOk fd body p q c) (ho : φ a = some o) (hfd : o.data = .func fd) (hoc : φ c = some oc) (hcell : ∀ h : Heap, h.get? c = some oc → h.IsCell c (some lv))
    (hlim : s.heap.NoLimit) (hcd : s.heap.CodeRec fd.code fd.qualname)
    (S : ∀ L A, Room (cloFm fd p q c a L A).A n → (cloFm fd p q c a L A).Wf X → SSs X G (cloFm fd p q c a L A) body mb) {x y av : AV} {v : Value}
    (h : evSs G mb [some x, some y] hp = some (.ret av, ρ', hp')) {A : Around} (R : Room A (n + 1)) (H : HOk X [] κ φ α hp s) (rx : Rep X α φ v x) (ry : Rep X α φ lv y) :
    codeAny (model X.prog X.w) A (.call (.ref a) ⟨[v], []⟩) (PC X κ φ α hp' av) s := by
  refine codeAny_call_function (by have := R.2.1; show A.depth < 1000; lia) (H.froz _ _ ho) hfd K.co K.gen K.body hcd ?_
  rw [K.bind]
  refine wpAny_pure (wpAny_newFunctionEnv ?_ ?_ (fun h₁ hns hsb => ?_) K.kind)
  · intro z hz; rw [K.names] at hz
    rcases List.mem_cons.mp hz with rfl | hz
    · exact nofun
    · rcases List.mem_cons.mp hz with rfl | hz
      · exact nofun
      · cases hz
  · intro z hz
    rcases List.mem_cons.mp hz with rfl | hz
    · rw [K.names]; simp
    · cases hz
  · have old : Ext s.heap h₁ := fun b ob e => hsb.extBut b ob (Nat.ne_of_lt (Heap.lt_size e)) (Heap.get?_push_of_some _ e)
    refine ⟨hlim.keeps old, codeAny_func ?_⟩
    obtain ⟨f1, f2, f3⟩ := H.fresh (fresh_size s.heap)
    have hcs := H.froz _ _ hoc
    have hcL : c ≠ s.heap.objs.size := Nat.ne_of_lt (Heap.lt_size hcs)
    have hclo := K.clo
    have lk : (cloEnv fd s.heap.objs.size a).cells = [(q, c)] := K.clo
    have kp : (cloFm fd p q c a s.heap.objs.size A).env.kindOf p = some .local := by
      show fd.scope.names.lookup p = _; rw [K.names]; simp
    have kq : (cloFm fd p q c a s.heap.objs.size A).env.kindOf q = some .free := by
      show fd.scope.names.lookup q = _; rw [K.names]
      have : (q == p) = false := by simpa using K.ne.symm
      simp [List.lookup_cons, this]
    have W : (cloFm fd p q c a s.heap.objs.size A).Wf X := by
      refine ⟨K.kind, ?_, ?_, ?_, List.mem_cons_self, R.1, K.glob, K.bui⟩
      · show [p, q].Nodup
        simp [K.ne]
      · intro z w d h1 h2
        have h1' : (cloEnv fd s.heap.objs.size a).cells.lookup z = some d := h1
        have h2' : (cloEnv fd s.heap.objs.size a).cells.lookup w = some d := h2
        rw [lk] at h1' h2'
        have one : ∀ u, List.lookup u [(q, c)] = some d → u = q := fun u e => by
          rw [List.lookup_cons] at e
          split at e
          · rename_i q1; exact eq_of_beq q1
          · cases e
        rw [one z h1', one w h2']
      · intro z d h1
        have h1' : (cloEnv fd s.heap.objs.size a).cells.lookup z = some d := h1
        rw [lk, List.lookup_cons] at h1'
        split at h1'
        · cases h1'; exact hcL
        · cases h1'
    have H₁ : HOk X [s.heap.objs.size] κ φ α hp { s with heap := h₁, toks := s.toks + 1 } := by
      obtain ⟨ol, _, _, el, _⟩ := id hns
      exact (H.grow old (s.toks + 1)).addOwn el f1 f2 f3
    have F : FOk X (cloFm fd p q c a s.heap.objs.size A) κ φ α [some x, some y] hp { s with heap := h₁, toks := s.toks + 1 } := by
      refine ⟨H₁, ⟨⟨_, hns, fun i z w hi hr => ?_⟩, fun z hz => ?_, rfl, fun d hd => ?_⟩⟩
      · match i with
        | 0 =>
          have hi' : p = z := by simpa [cloFm] using hi
          have hr' : x = w := by simpa using hr
          subst hi'; subst hr'
          exact ⟨v, rx, .inl ⟨kp, by simp⟩⟩
        | 1 =>
          have hi' : q = z := by simpa [cloFm] using hi
          have hr' : y = w := by simpa using hr
          subst hi'; subst hr'
          refine ⟨lv, ry, .inr ⟨c, .inr ⟨kq, K.free⟩, ?_, .inr List.mem_cons_self, hcell _ (old _ _ hcs)⟩⟩
          show (cloEnv fd s.heap.objs.size a).cells.lookup q = some c
          rw [lk]; simp
        | i + 2 => simp at hr
      · have hz' : fd.scope.names.lookup z = some .cell := hz
        rw [K.names] at hz'
        have := mem_of_lookup' hz'
        rcases List.mem_cons.mp this with e | this
        · cases e
        · rcases List.mem_cons.mp this with e | this
          · cases e
          · cases this
      · have : d = c := by simpa [cloFm] using hd
        subst this
        exact .inr ⟨oc, hoc⟩
    refine wpAny_mono (S _ _ (R.deeper _) W _ _ _ _ _ h _ _ _ _ F) (fun fl s' P => ?_) fun _ _ z => z.elim
    obtain ⟨β, ψ, hα, hφ, F', fi⟩ := P
    cases fi with
    | ret rv => exact ⟨_, β, ψ, rfl, hα, hφ, F'.H.noOwn, rv⟩
end
end Mine
end
section
namespace Mine
open PySem PyProof.Rows
inductive StmAt (rb : List Stmt) (φ : Part) (a l : Addr) : Prop
  | mk (o : Obj) (D : Addr) (oD : Obj) (md : Str → Option Value) (cf : Addr) (f : Obj) (fd : FuncData) (c : Addr) (oc : Obj) :
    φ a = some o → o.cls = .type "function" → o.dict = some D → (∀ c, o.data ≠ .cls c) → φ D = some oD → (∀ h : Heap, h.get? D = some oD → h.Ns D md) → md "read" = some (.ref cf) →
    φ cf = some f → f.data = .func fd → CloOk fd rb "size" "left" c → φ c = some oc → (∀ h : Heap, h.get? c = some oc → h.IsCell c (some (.ref l))) → (∀ h : Heap, Froz φ h → h.NoLimit ∧ h.CodeRec fd.code fd.qualname) → StmAt rb φ a l
noncomputable def readMS : List MS := [.ret (.ite (.and (.cmp .Eq (.var 0) (.int 1)) (.cmp .NotEq (.var 1) (.frz (.lDisp [])))) (.meth .pop (.var 1) [.int 0]) (.str []))]
theorem eqv_nil (ds : List PyData) : PyData.eqv (.list ds) (.list []) = ds.isEmpty := by
  cases ds <;> simp [PyData.eqv, PyData.eqvAll]
theorem toPys_nil {f : AV → Option PyData} {xs : List AV} {ds : List PyData} (h : toPys f xs = some ds) : ds.isEmpty = xs.isEmpty := by
  cases xs with
  | nil => obtain rfl := some_inv h; rfl
  | cons x xs =>
    obtain ⟨d, _, h1⟩ := bind_inv h
    obtain ⟨ds', _, rfl⟩ := mapp_inv h1
    rfl
theorem read_ne {G : Gl} {hp : Hp} {t : Nat} {xs : List AV} {d : PyData} (et : hp[t]? = some (.list xs)) (ed : toPy hp 8 (.ref t) = some d) :
    evC G (.and (.cmp .Eq (.var 0) (.int 1)) (.cmp .NotEq (.var 1) (.frz (.lDisp [])))) [some (.int 1), some (.ref t)] hp = some (!xs.isEmpty, hp) := by
  have ed' : ∃ es, toPys (toPy hp 7) xs = some es ∧ d = .list es := by
    have e : (onList hp[t]? fun xs => (toPys (toPy hp 7) xs).map .list) = some d := ed
    rw [et] at e
    obtain ⟨es, q, e2⟩ := mapp_inv e
    exact ⟨es, q, e2.symm⟩
  obtain ⟨es, he, rfl⟩ := ed'
  have h2 : eqvA hp (.ref t) (.lst []) = some xs.isEmpty := by
    unfold eqvA
    rw [ed]
    show some (PyData.eqv (.list es) (.list [])) = _
    rw [eqv_nil, toPys_nil he]
  show ((eqvA hp (.ref t) (.lst [])).map not).map (fun v => (v, hp)) = _
  rw [h2]; rfl
theorem read_ev {G : Gl} {hp hp' : Hp} {t : Nat} {v av : AV} (h : readA hp (.stm t) v = some (av, hp')) : ∃ ρ', evSs G readMS [some v, some (.ref t)] hp = some (.ret av, ρ', hp') := by
  obtain ⟨i, rfl, h1⟩ := onInt_inv (a := v) h
  obtain ⟨rfl, h2⟩ := if_inv h1
  obtain ⟨xs, et, h3⟩ := onList_inv h2
  obtain ⟨d, ed, h4⟩ := bind_inv h3
  have hc := read_ne (G := G) et ed
  refine ⟨[some (.int 1), some (.ref t)], ?_⟩
  show seqF (bnd (bnd (evC G _ _ hp) _) _) _ = _
  rw [hc]
  cases xs with
  | nil => obtain ⟨rfl, rfl⟩ := pair_inv h4; rfl
  | cons x r =>
    obtain ⟨hl, e⟩ := ite_inv h4
    obtain ⟨rfl, rfl⟩ := Prod.mk.inj e
    have hr : recvOk hp .pop (.ref t) = true := by
      show (onList hp[t]? fun _ => some ()).isSome = true
      rw [et]; rfl
    have hm : methA G hp .pop (.ref t) [.int 0] = some (x, hp.set t (.list r)) := by
      show (onList hp[t]? fun xs => _) = _
      rw [et]
      exact if_pos ⟨Int.le_refl _, hl⟩
    show seqF (bnd (if recvOk hp .pop (.ref t) = true then methA G hp .pop (.ref t) [.int 0] else none) _) _ = _
    rw [if_pos hr, hm]; rfl
end Mine
end
section
namespace Mine
open PySem PyProof.Rows
section
variable {X : Wd} {G : Gl} {fm : Fm} {κ φ ψ : Part} {α β : List Addr} {ρ ρ' : Env'} {hp hp' : Hp} {s : Shared}
theorem call_back (W : fm.Wf X) {f : Value} {vs : List Value} {av : AV} (F : FOk X fm κ φ α ρ hp s)
    (h : codeAny (model X.prog X.w) fm.A (.call f ⟨vs, []⟩) (PC X (keepK κ fm.own s.heap) φ α hp' av) s) : Wp X fm (call f vs) (PV X fm κ φ α ρ hp' av) s := by
  refine wpAny_call (codeAny_mono h fun res s' P => ?_)
  obtain ⟨v, β, ψ, rfl, hα, hφ, H', rv⟩ := P
  exact ⟨β, ψ, hα, hφ, F.back W H' hα hφ, rv⟩
theorem se_read {n : Nat} (W : fm.Wf X) (R : Room fm.A (n + 1)) {rb : List Stmt} (hS : ∀ φ a l, X.StmP φ a l → StmAt rb φ a l)
    (S : ∀ fd c a L A, CloOk fd rb "size" "left" c → Room (cloFm fd "size" "left" c a L A).A n → (cloFm fd "size" "left" c a L A).Wf X → SSs X G (cloFm fd "size" "left" c a L A) rb readMS)
    {o e : Expr} {mo me : ME} {apos pos : Pos} (So : SE X G fm o mo) (Se : SE X G fm e me) (ho : plainBase o = true) (he : notStar e = true) (hline : (apos.endLine == pos.line) = true) :
    SE X G fm (.Call (.Attribute o "read" apos) [e] [] pos) (.meth .read mo [me]) := by
  intro ρ hp av hp' h κ φ α s F
  obtain ⟨x, hp₁, y, hp₂, e1, hr, e2, h1⟩ := meth1_parts h
  obtain ⟨t, rfl, _⟩ := onStm_inv h1
  have hform : methodCallForm ([e].length + ([] : List Keyword).length) (backTo pos (starEach [e] fm.env)) (backToKw pos (keywordEach [] fm.env)) = true := by
    unfold methodCallForm
    rw [stars_few fm.env (by simpa using he)]
    rfl
  have hpos : methodCallPos true o fm.env apos pos = pure pos := by unfold methodCallPos; simp [hline]
  rw [arm_eval_Call, base_of ho]
  refine wpAny_bind (So.andThen e1 F fun β ψ ov s₁ hα hφ F₁ r₁ => wpAny_bind (wpAny_standAt ?_))
  unfold methodCall
  rw [hform]
  obtain ⟨a, l, rfl, hstm, ht⟩ := r₁.inv_stm
  obtain ⟨ob, D, oD, md, cf, f, fd, c, oc, h1', h2, h3, h4, h5, h6, h7, h8, h9, hclo, h11, h12, h13⟩ := hS _ _ _ hstm
  refine wpAny_bind (wpAny_holding ?_)
  have key : ∀ pl, Wp X fm (getMethod (.ref a) "read" pl) (fun p s₂ => p = (.ref cf, []) ∧ FOk X fm κ ψ β ρ hp₁ s₂) s₁ := fun pl => by
    have F₂ := F₁.tok (s₁.toks + 1)
    obtain ⟨h0, g0, d0, t0, os0⟩ := s₁
    exact getMethod_fn (F₁.H.froz _ _ h1') h2 h3 h4 (h6 _ (F₁.H.froz _ _ h5)) h7 rfl ⟨rfl, F₂⟩
  refine wpAny_mono (key _) (fun p s₂ z => ?_) fun _ _ z => z.elim
  obtain ⟨rfl, F₂⟩ := z
  refine wpAny_bind (wpAny_of_eq hpos ?_)
  rw [star1 he]
  refine Calls.callWith_function (o := f) (fd := fd) (Calls.evalArgs_plain (Calls.spliced_cons (Se.andThen e2 F₂ fun γ χ yv s₃ hγ hχ F₃ r₃ => Calls.spliced_nil ?_)))
  refine ⟨⟨F₃.H.froz _ _ (hχ _ _ h8), h9⟩, ?_⟩
  obtain ⟨ρ₁, hev⟩ := read_ev (G := G) h1
  obtain ⟨hlim, hcd⟩ := h13 s₃.heap fun b x k => F₃.H.froz b x (hχ b x k)
  refine Wp.lift (hα.trans hγ) (Part.le_trans hφ hχ) (call_back W F₃ ?_)
  exact clo_sound hclo (hχ _ _ h8) h9 (hχ _ _ h11) h12 hlim hcd (fun L A => S fd c cf L A hclo) hev R F₃.H.enter r₃ (.ref (prefix_get hγ ht))
end
end Mine
end
section
namespace Mine
open PySem PyProof.Rows
open Builtin Builtin.ObjectAttr PySem.W
theorem lk_fn_get : typeLookup (.type "function") "__get__" = pure (some (.builtin "function.__get__")) := by rw [typeLookup_type, builtinLookup_eq_fast]; kernel_rfl
theorem lk_fn_set : typeLookup (.type "function") "__set__" = pure none := by rw [typeLookup_type, builtinLookup_eq_fast]; kernel_rfl
theorem lk_fn_delete : typeLookup (.type "function") "__delete__" = pure none := by rw [typeLookup_type, builtinLookup_eq_fast]; kernel_rfl
section
variable {prog : Program} {w : World} {A : Around} {E : Value → Shared → Prop} {h : Heap} {g : Array GenState} {d : Drawn} {t : Nat} {os : OsState}
variable {nm q : Str} {C N x : Addr} {bs : List Value} {sn : List Str} {sub : List Value} {ab : Bool} {col : Option Bool} {dd : Option Addr} {k0 k1 k2 k3 k5 : Option Value} {newId : String}
  {mN mA : Str → Option Value} {name : Str} {v : Value} {f : Addr} {o_f : Obj}
theorem bound_entry {tk : Tok} {Q : PySem.Fin → Shared → Prop}
    (hC : h.get? C = some (excClassObj nm q C N bs [.type "object"] true sn sub ab col dd k0 k1 k2 k3 k5 newId)) (hn : h.Ns N mN) (hna : mN name = some (.ref f)) (hgh : mN "__getattr__" = none) (hf : h.get? f = some o_f) (hfc : o_f.cls = .type "function")
    (hB : typeLookup (.type "object") name = pure none) {o : Obj} {dx : Addr} (hx : h.get? x = some o) (hc : o.cls = .ref C) (hnc : ∀ c, o.data ≠ .cls c) (hdx : o.dict = some dx) (hns : h.Ns1 dx mA) (hv : mA name = none)
    (hcop : (["__module__", "__name__", "__qualname__", "__doc__", "__annotations__"] : List Str).contains name = false)
    (hq : Q (.done (.ret (.ref h.objs.size))) ⟨h.push (methodObj (.ref f) (.ref x)), g, d, t, os⟩) :
    wpAny (model prog w) A (Builtin.«proto.getattr_hooked» ⟨[.ref x, .str name tk], []⟩) Q E ⟨h, g, d, t, os⟩ := by
  unfold Builtin.«proto.getattr_hooked»
  repeat (first | (with_reducible refine wpAny_loadPart_at hx ?_; rw [hc]) | (with_reducible refine wpAny_typeLookup_exc hC hn PySem.F.mro_object hB ?_; rw [hna]) | (rw [hfc]) | (with_reducible refine wpAny_of_eq lk_fn_get ?_) | (with_reducible refine wpAny_of_eq lk_fn_set ?_) | (with_reducible refine wpAny_of_eq lk_fn_delete ?_) | wp_step)
  split
  · rename_i c hcd
    exact absurd hcd (hnc c)
  unfold instanceDict
  repeat (first | (with_reducible refine wpAny_loadPart_at hx ?_; rw [hc]) | with_reducible refine wpAny_loadPart_at hC ?_ | wp_step)
  rw [hdx]
  repeat (first | (with_reducible refine wpAny_nsGet hns.ns ?_; rw [hv]) | (with_reducible refine wpAny_typeLookup_exc hC hn PySem.F.mro_object PySem.F.lk_object_getattr ?_; rw [hgh]) | wp_step)
  rw [hcop, if_neg (by decide)]
  repeat (first | (with_reducible refine wpAny_typeLookup_exc hC hn PySem.F.mro_object PySem.F.lk_object_getattr ?_; rw [hgh]) | wp_step)
  refine fn_get (K := [(f, o_f)]) (s := ⟨h, g, d, t, os⟩) (fun a o e => ?_) (by simp [typeIn, hfc]) (wpAny_pure hq)
  rw [List.lookup_cons] at e
  split at e
  · rename_i z; cases e; rw [eq_of_beq z]; exact hf
  · cases e
theorem getAttr_bound {expr : Bool} {Q : Value → Shared → Prop}
    (hC : h.get? C = some (excClassObj nm q C N bs [.type "object"] true sn sub ab col dd k0 k1 k2 k3 k5 newId)) (hn : h.Ns N mN) (hng : mN "__getattribute__" = none) (hna : mN name = some (.ref f)) (hgh : mN "__getattr__" = none) (hf : h.get? f = some o_f) (hfc : o_f.cls = .type "function")
    (hB : typeLookup (.type "object") name = pure none) {o : Obj} {dx : Addr} (hx : h.get? x = some o) (hc : o.cls = .ref C) (hnc : ∀ c, o.data ≠ .cls c) (hdx : o.dict = some dx) (hns : h.Ns1 dx mA) (hv : mA name = none)
    (hcop : (["__module__", "__name__", "__qualname__", "__doc__", "__annotations__"] : List Str).contains name = false)
    (hq : Q (.ref h.objs.size) ⟨h.push (methodObj (.ref f) (.ref x)), g, d, t + 1, os⟩) :
    wpAny (model prog w) A (getAttr (.ref x) name expr) Q E ⟨h, g, d, t, os⟩ := by
  unfold getAttr getAttrBy
  repeat (first | (with_reducible refine wpAny_loadPart_at hx ?_; rw [hc]) | (with_reducible refine wpAny_typeLookup_exc hC hn PySem.F.mro_object PySem.F.lk_object_ga ?_; rw [hng]) | wp_step)
  show wpAny _ _ ((runValue (.builtin "proto.getattr_hooked" ⟨[.ref x, .str name t], []⟩)).onRaise (noteIf true (.ref x) (.str name t))) _ _ _
  refine wpAny_onRaise (wpAny_runValue (codeAny_builtin PySem.F.plainObj_entry_getattr_hooked (bound_entry hC hn hna hgh hf hfc hB hx hc hnc hdx hns hv hcop ?_)))
  show wpAny _ _ (handedOut (.ref h.objs.size)) _ _ _
  exact wpAny_pure hq
end
end Mine
end
section
namespace Mine
open PySem PyProof.Rows PySem.W
theorem borrowed_eq (f : Value) (pos : List Value) : callBorrowed f pos = (call f pos).keep [borrowed] := by
  unfold callBorrowed call runValue
  simp only [Sem.keep, run]
  first
    | rfl
    | (congr 1; funext r; rcases r with _ | r <;> first | rfl | (cases r <;> rfl))
section
variable {X : Wd} {A : Around} {E : Value → Shared → Prop} {s : Shared}
theorem call_borrowed {M : Model} {f : Value} {pos : List Value} {Q : Value → Shared → Prop} (h : wpAny M A (call f pos) Q E s) : wpAny M A (callBorrowed f pos) Q E s := by
  rw [borrowed_eq]; exact Calls.wpAny_keep h
theorem call_method {m f a : Addr} {R : Result → Shared → Prop} {prog : Program} {w : World} (hm : s.heap.get? m = some (methodObj (.ref f) (.ref a))) (h : codeAny (model prog w) A (.call (.ref f) ⟨[.ref a], []⟩) R s) :
    codeAny (model prog w) A (.call (.ref m) ⟨[], []⟩) R s := by
  refine codeAny_of_tree ?_
  show wpAny _ _ (callAny (.ref m) ⟨[], []⟩) _ _ s
  simp only [callAny]
  refine wpAny_bind (wpAny_load hm ?_)
  simp only [methodObj]
  refine wpAny_pure ⟨rfl, h⟩
end
end Mine
end
section
namespace Mine
open PySem PyProof.Rows PySem.W
section
variable {M : Model} {A : Around} {E : Value → Shared → Prop} {s : Shared} {α : Type} {c : Prop} [Decidable c] {a b : Sem α} {Q : α → Shared → Prop}
theorem wpI (h : c) (k : wpAny M A a Q E s) : wpAny M A (if c then a else b) Q E s := by rw [if_pos h]; exact k
theorem wpN (h : ¬ c) (k : wpAny M A b Q E s) : wpAny M A (if c then a else b) Q E s := by rw [if_neg h]; exact k
end
theorem slot_ci_next : Slot "callable_iterator" "__next__" "callable_iterator.__next__" :=
  .of (owner := "callable_iterator") (n := "__next__") (by rw [typeLookup_type, builtinLookup_eq_fast]; kernel_rfl) (by decide +kernel) (by decide +kernel) (by decide +kernel)
    (by first | exact .inl (by decide +kernel) | exact .inr (by decide +kernel)) (by rw [isSubtype_type]; kernel_rfl)
theorem slot_ci_iter : Slot "callable_iterator" "__iter__" "callable_iterator.__iter__" :=
  .of (owner := "callable_iterator") (n := "__iter__") (by rw [typeLookup_type, builtinLookup_eq_fast]; kernel_rfl) (by decide +kernel) (by decide +kernel) (by decide +kernel)
    (by first | exact .inl (by decide +kernel) | exact .inr (by decide +kernel)) (by rw [isSubtype_type]; kernel_rfl)
theorem entry_ci_next : entryFor table "callable_iterator.__next__" = some Builtin.«callable_iterator.__next__» := entryFor_of_tree (by kernel_rfl)
theorem entry_ci_iter : entryFor table "callable_iterator.__iter__" = some Builtin.«dict_keyiterator.__iter__» :=
  entryFor_alias (id' := "dict_keyiterator.__iter__") (by kernel_rfl) (by first | rfl | decide +kernel | (unfold String.splitOn; simp +decide [String.splitOnAux])) (by decide +kernel) (by kernel_rfl)
theorem args_ci_next (a : Value) : argsOk "callable_iterator.__next__" ⟨[a], []⟩ := by unfold argsOk; kernel_rfl
theorem args_ci_iter (a : Value) : argsOk "callable_iterator.__iter__" ⟨[a], []⟩ := by unfold argsOk; kernel_rfl
noncomputable abbrev citerObj (f sen : Value) (done : Bool) : Obj := { cls := .type "callable_iterator", dict := none, data := .fields #[f, sen, .bool done], slots := #[] }
section
variable {prog : Program} {w : World} {A : Around} {E : Value → Shared → Prop} {s : Shared}
theorem citer_iter {I : Addr} {f sen : Value} {b : Bool} {Q : Value → Shared → Prop} (hit : s.heap.get? I = some (citerObj f sen b)) (h : Q (.ref I) s) : wpAny (model prog w) A (pyIter (.ref I)) Q E s := by
  have hT : s.TypeIs (.ref I) "callable_iterator" := ⟨_, hit, rfl⟩
  refine wpAny_pyIter_slot hT slot_ci_iter (wpAny_call_entry slot_ci_iter hT entry_ci_iter ?_ (args_ci_iter _))
  show wpAny _ _ (ret (.ref I)) _ _ s
  exact wpAny_pure ⟨_, rfl, "callable_iterator", _, hT, slot_ci_next.lookup, h⟩
end
end Mine
end
section
namespace Mine
open PySem PyProof.Rows PySem.W
section
variable {prog : Program} {w : World} {A : Around} {E : Value → Shared → Prop} {s : Shared}
theorem borrows_meth {m f a : Addr} {of : Obj} {fd : FuncData} {Q : Bool → Shared → Prop} (hm : s.heap.get? m = some (methodObj (.ref f) (.ref a))) (hf : s.heap.get? f = some of) (hfd : of.data = .func fd) (h : Q true s) : wpAny (model prog w) A (borrowsExactly (.ref m)) Q E s := by
  unfold borrowsExactly
  refine wpAny_bind (wpAny_load hm ?_)
  simp only [methodObj]
  refine wpI (by decide) ?_
  show wpAny _ _ (load f >>= _) _ _ s
  refine wpAny_bind (wpAny_load hf ?_)
  rw [hfd]
  exact wpAny_pure h
theorem stop_ok {Q : Option Value → Shared → Prop} {T : PySem.Fin → Shared → Prop} (hh : A.handled = none) (h : ∀ h', (∀ b o, s.heap.get? b = some o → h'.get? b = some o) → Q none { s with heap := h' }) :
    wpAny (model prog w) A.in1 (Builtin.SmallTypes.stopIteration : Sem PySem.Fin) T (fun e s' => wpAny (model prog w) A (do if (← isInstance e (.type "StopIteration")) = true then pure none else throw e) Q E s') s := by
  show wpAny _ _ (newExc (.type "StopIteration") [] >>= _) _ _ _
  refine wpAny_bind ?_
  simp only [newExc, newTuple]
  refine wpAny_bind (wpAny_newObj_type ?_ (by size_fits))
  refine wpAny_bind (m := firstArgMember _ _) (wpAny_of_eq (a := Value.none) (by first | rfl | (simp only [firstArgMember]; rfl)) ?_)
  refine wpAny_newObj_type ?_ (by size_fits)
  simp only [raiseNew]
  refine wpAny_bind (wpAny_handled ?_)
  rw [show A.in1.handled = none from hh]
  refine wpAny_bind (wpAny_pure (wpAny_throw ?_))
  refine wpAny_bind (wpAny_isInstance (T := "StopIteration") (b := true) ⟨_, Heap.get?_push_size _ rfl, rfl⟩ isSubtype_stop ?_)
  exact wpAny_pure (h _ fun b o e => Heap.get?_push_of_some _ (Heap.get?_push_of_some _ e))
end
end Mine
end
section
namespace Mine
open PySem PyProof.Rows PySem.W
section
variable {prog : Program} {w : World} {A : Around} {E : Value → Shared → Prop} {s : Shared}
theorem citer_next {I m f a : Addr} {tok : Tok} {of : Obj} {fd : FuncData} {Q : Option Value → Shared → Prop} (hh : A.handled = none) (hit : s.heap.get? I = some (citerObj (.ref m) (.str ⟨#[]⟩ tok) false))
    (hm : s.heap.get? m = some (methodObj (.ref f) (.ref a))) (hf : s.heap.get? f = some of) (hfd : of.data = .func fd)
    (h : codeAny (model prog w) A.in1 (.call (.ref f) ⟨[.ref a], []⟩) (fun r s' => ∃ (x : Str) (t : Tok) (m' a' : Addr) (tok' : Tok), r = .ok (.ret (.str x t)) ∧ s'.heap.get? I = some (citerObj (.ref m') (.str ⟨#[]⟩ tok') false) ∧ s'.heap.get? m' = some (methodObj (.ref f) (.ref a')) ∧ s'.heap.get? f = some of ∧
      (x = ⟨#[]⟩ → ∀ h', h'.get? I = some (citerObj .none .none true) → Heap.ExtBut I s'.heap h' → Q none { s' with heap := h' }) ∧ (x ≠ ⟨#[]⟩ → Q (some (.str x t)) s')) s) :
    wpAny (model prog w) A (pyNext (.ref I)) Q E s := by
  have hT : s.TypeIs (.ref I) "callable_iterator" := ⟨_, hit, rfl⟩
  unfold pyNext
  refine wpAny_bind (wpAny_attempt (wpAny_callSpecial?_slot (name := Str.ofString "__next__") hT slot_ci_next (wpAny_call_entry slot_ci_next hT entry_ci_next ?_ (args_ci_next _))))
  unfold Builtin.«callable_iterator.__next__»
  refine wpAny_bind (wpAny_of_eq (a := (Value.ref I, ([] : List Value))) rfl ?_)
  dsimp only
  refine wpAny_bind (wpAny_field hit rfl (x := .bool false) rfl ?_)
  refine wpN (by decide) ?_
  refine wpAny_bind (wpAny_field hit rfl (x := .ref m) rfl ?_)
  refine wpAny_bind (wpAny_attempt ?_)
  unfold callOutOfASlot
  refine wpAny_bind (borrows_meth hm hf hfd ?_)
  rw [if_pos rfl]
  refine call_borrowed (wpAny_call (codeAny_mono (call_method hm h) fun r s' P => ?_))
  obtain ⟨x, t, m', a', tok', rfl, hit', hm', hf', h1, h2⟩ := P
  dsimp only
  refine wpAny_bind (wpAny_field hit' rfl (x := .bool false) rfl ?_)
  refine wpN (by decide) ?_
  refine wpAny_bind (wpAny_field hit' rfl (x := .str ⟨#[]⟩ tok') rfl ?_)
  refine wpAny_bind (wpAny_holding (wpAny_eqBool_str ?_))
  by_cases hx : x = ⟨#[]⟩
  · have : decide ((⟨#[]⟩ : Str) = x) = true := by simp [hx]
    rw [this]
    refine wpN (by decide) ?_
    refine wpAny_bind (wpAny_rule ?_)
    refine wpAny_bind ?_
    wp_delta
    refine wpAny_bind (wpAny_field hit' rfl (x := .ref m') rfl ?_)
    refine wpAny_bind ?_
    unfold slotLetsGo
    refine wpAny_bind (borrows_meth hm' hf' hfd ?_)
    rw [if_pos rfl]
    refine wpAny_pure ?_
    refine wpAny_bind (wpAny_setField_rec hit' (by simp) fun h₁ g₁ k₁ => ?_)
    refine wpAny_bind (wpAny_setField_rec g₁ (by simp) fun h₂ g₂ k₂ => ?_)
    refine wpAny_setField_rec g₂ (by simp) fun h₃ g₃ k₃ => ?_
    refine stop_ok hh fun h₄ k₄ => h1 hx h₄ (k₄ _ _ (by simpa using g₃)) fun b o hb e => k₄ _ _ ?_
    exact k₃.extBut b o hb (k₂.extBut b o hb (k₁.extBut b o hb e))
  · have : decide ((⟨#[]⟩ : Str) = x) = false := by simpa using fun e => hx e.symm
    rw [this]
    refine wpI rfl ?_
    exact wpAny_pure ⟨_, rfl, wpAny_pure (h2 hx)⟩
theorem citer_done {I : Addr} {Q : Option Value → Shared → Prop} (hh : A.handled = none) (hit : s.heap.get? I = some (citerObj .none .none true)) (h : ∀ h', (∀ b o, s.heap.get? b = some o → h'.get? b = some o) → Q none { s with heap := h' }) :
    wpAny (model prog w) A (pyNext (.ref I)) Q E s := by
  have hT : s.TypeIs (.ref I) "callable_iterator" := ⟨_, hit, rfl⟩
  unfold pyNext
  refine wpAny_bind (wpAny_attempt (wpAny_callSpecial?_slot (name := Str.ofString "__next__") hT slot_ci_next (wpAny_call_entry slot_ci_next hT entry_ci_next ?_ (args_ci_next _))))
  unfold Builtin.«callable_iterator.__next__»
  refine wpAny_bind (wpAny_of_eq (a := (Value.ref I, ([] : List Value))) rfl ?_)
  dsimp only
  refine wpAny_bind (wpAny_field hit rfl (x := .bool true) rfl ?_)
  refine wpI (by decide) ?_
  refine wpAny_bind (wpAny_rule (wpAny_bind ?_))
  show wpAny _ _ (newExc (.type "StopIteration") [] >>= _) _ _ _
  refine wpAny_bind ?_
  simp only [newExc, newTuple]
  refine wpAny_bind (wpAny_newObj_type ?_ (by size_fits))
  refine wpAny_bind (m := firstArgMember _ _) (wpAny_of_eq (a := Value.none) (by first | rfl | (simp only [firstArgMember]; rfl)) ?_)
  refine wpAny_newObj_type ?_ (by size_fits)
  simp only [raiseNew]
  refine wpAny_bind (wpAny_handled ?_)
  rw [show A.in1.handled = none from hh]
  refine wpAny_bind (wpAny_pure (wpAny_throw ?_))
  refine wpAny_bind (wpAny_isInstance (T := "StopIteration") (b := true) ⟨_, Heap.get?_push_size _ rfl, rfl⟩ isSubtype_stop ?_)
  exact wpAny_pure (h _ fun b o e => Heap.get?_push_of_some _ (Heap.get?_push_of_some _ e))
end
end Mine
end
section
namespace Mine
open PySem PyProof.Rows PySem.W
theorem lk_method_call : typeLookup (.type "method") "__call__" = pure (some (.builtin "method.__call__")) := by rw [typeLookup_type, builtinLookup_eq_fast]; kernel_rfl
theorem plain_iter : plainId "iter" = true := by decide +kernel
theorem entry_iter : entryFor table "iter" = some Builtin.«iter» := entryFor_of_tree (by kernel_rfl)
theorem args_iter (a b : Value) : argsOk "iter" ⟨[a, b], []⟩ := by unfold argsOk; kernel_rfl
theorem kind_iter : builtinKind "iter" = none := by decide +kernel
section
variable {prog : Program} {w : World} {A : Around} {E : Value → Shared → Prop} {s : Shared}
theorem call_iter2 {m : Addr} {f self sen : Value} {Q : Value → Shared → Prop} (hm : s.heap.get? m = some (methodObj f self))
    (h : Q (.ref s.heap.objs.size) { s with heap := s.heap.push (citerObj (.ref m) sen false) }) : wpAny (model prog w) A (call (.builtin "iter") [.ref m, sen]) Q E s := by
  refine Calls.call_function_entry kind_iter plain_iter entry_iter (args_iter _ _) ?_
  unfold Builtin.«iter»
  refine wpAny_bind (wpAny_of_eq (a := [.ref m, sen]) (by first | rfl | kernel_rfl) ?_)
  dsimp only
  refine wpAny_bind (wpAny_specialOf (T := "method") ⟨_, hm, rfl⟩ lk_method_call ?_)
  refine wpN (by decide) ?_
  refine wpAny_bind (wpAny_rule (wpAny_bind ?_))
  unfold newFields
  exact wpAny_newObj_type (wpAny_pure ⟨_, rfl, h⟩) (by size_fits)
end
end Mine
end
section
namespace Mine
open PySem PyProof.Rows PySem.W
theorem lk_obj_rc : typeLookup (.type "object") "_read_char" = pure none := by rw [typeLookup_type, builtinLookup_eq_fast]; kernel_rfl
section
variable {X : Wd} {G : Gl} {fm : Fm} {κ φ ψ : Part} {α β : List Addr} {ρ ρ' : Env'} {hp hp' : Hp} {s : Shared}
theorem Room.in1 {A : Around} {n : Nat} (R : Room A (n + 1)) : Room A.in1 n := by
  obtain ⟨h1, h2, h3⟩ := R
  refine ⟨h1, ?_, ?_⟩
  · show A.depth + n < 900; lia
  · show A.units + 1 + 20 * n < 9000; lia
theorem se_citer {mN : Str → Option Value} (K : ClsAt X mN) (W : fm.Wf X) (g : GlobOk X "iter" (.builtin "iter")) (hk : fm.env.kindOf "iter" = some .globalImplicit) (M : MethAt X mN "_read_char" (.ref X.rc))
    {b : Str} {np bp ap cp pos : Pos} {k : Nat} {mo : ME} (So : SE X G fm (.Name b bp) mo) :
    SE X G fm (.Call (.Name "iter" np) [.Attribute (.Name b bp) "_read_char" ap, .Constant (.str ⟨#[]⟩) k cp] [] pos) (.citer mo) := by
  intro ρ hp av hp' h κ φ α s F
  obtain ⟨x, hp₁, e1, h1⟩ := bnd_inv h
  obtain ⟨t, rfl, h2⟩ := onInst_inv h1
  obtain ⟨fs, et, h3⟩ := onDict_inv h2
  obtain ⟨rfl, rfl⟩ := pair_inv h3
  refine call_b2 W g hk (by decide) rfl rfl F ?_
  rw [arm_eval_Attribute, base_of rfl]
  refine wpAny_bind (So.andThen e1 F fun β ψ v s₁ hα hφ F₁ r₁ => wpAny_bind (wpAny_standAt (wpAny_bind (wpAny_holding ?_))))
  obtain ⟨a, d, o, rfl, ho, hcl, hd, hdata, ht⟩ := r₁.inv_inst
  obtain ⟨_, _, _, vs, ea, ho', hd', _, rr, I, hne, hns⟩ := inst_at F₁.H et r₁
  cases ea
  rw [ho] at ho'; cases ho'
  rw [hd] at hd'; cases hd'
  obtain ⟨fa, ob, fd, hfa, hbase, hfd, hcls⟩ := M.obj
  cases hfa
  have key : Wp X fm (getAttr (.ref a) "_read_char" true) (fun v s₂ => v = .ref s₁.heap.objs.size ∧ s₂ = { s₁ with heap := s₁.heap.push (methodObj (.ref X.rc) (.ref a)), toks := s₁.toks + 1 }) s₁ := by
    obtain ⟨cdt, hc⟩ := K.cls
    obtain ⟨hC, hN⟩ := hc s₁.heap F₁.H.baseIn
    have hg := F₁.H.froz _ _ ho
    have hb := F₁.H.baseIn _ _ hbase
    obtain ⟨h0, g0, d0, t0, os0⟩ := s₁
    exact getAttr_bound hC hN K.ga M.ns K.gh hb hcls lk_obj_rc hg hcl hdata hd hns (fieldOf_none M.notField) (by decide) ⟨rfl, rfl⟩
  refine wpAny_mono key (fun v s₂ z => ?_) fun _ _ z => z.elim
  obtain ⟨rfl, rfl⟩ := z
  refine wpAny_bind (wpAny_pure (wpAny_pure ?_))
  refine Calls.Constant_str ?_
  have fr := F₁.H.fresh (fresh_size s₁.heap)
  have F₂ := (F₁.grow W (Ext.push s₁.heap (methodObj (.ref X.rc) (.ref a))) (s₁.toks + 1 + 1)).freeze W (Heap.get?_push_size _ rfl) fr.1 fr.2.1 fr.2.2
  refine call_iter2 (Heap.get?_push_size _ rfl) ?_
  have fr2 := F₂.H.fresh (fresh_size _)
  have F₃ := F₂.grow W (Ext.push _ (citerObj (.ref s₁.heap.objs.size) (.str ⟨#[]⟩ (s₁.toks + 1)) false)) (s₁.toks + 1 + 1)
  have hle : ψ.le (ψ.put s₁.heap.objs.size (methodObj (.ref X.rc) (.ref a))) := Part.le_put fr.2.1
  refine ⟨_, _, hα.trans (List.prefix_append _ _), Part.le_trans hφ hle, F₃.newTag W (x := .citer t false) ?_ fr2.1 fr2.2.1 fr2.2.2, ?_⟩
  · exact .citer (Heap.get?_push_size _ rfl) (Part.put_self _ _ _) (r₁.mono (List.prefix_append _ _) hle)
  · refine .ref ?_
    rw [← F₁.H.len, List.getElem?_append_right (Nat.le_refl _)]; simp
theorem tag_obj (F : FOk X fm κ φ α ρ hp s) {u : Nat} {I : Addr} {x : AO} (hI : α[u]? = some I) (e : hp[u]? = some x) : RepA X α φ s.heap I x := by
  obtain ⟨a, ha, r⟩ := F.H.obj _ _ e
  rw [hI] at ha
  obtain rfl := some_inv ha
  exact r
theorem repA_citer {h : Heap} {a : Addr} {t : Nat} (r : RepA X α φ h a (.citer t false)) : ∃ m x tok, h.get? a = some { cls := .type "callable_iterator", dict := none, data := .fields #[.ref m, .str ⟨#[]⟩ tok, .bool false], slots := #[] } ∧ φ m = some { cls := .type "method", data := .fields #[.ref X.rc, .ref x] } ∧ Rep X α φ (.ref x) (.inst t) := by
  cases r with
  | citer h1 h2 h3 => exact ⟨_, _, _, h1, h2, h3⟩
theorem repA_cdone {h : Heap} {a : Addr} {t : Nat} (r : RepA X α φ h a (.citer t true)) : h.get? a = some { cls := .type "callable_iterator", dict := none, data := .fields #[.none, .none, .bool true], slots := #[] } := by
  cases r with
  | cdone h1 => exact h1
theorem cps_nil {w : Str} (h : w.cps.toList = []) : w = ⟨#[]⟩ := by
  have : w.cps = #[] := by simpa using h
  cases w; simp at this; subst this; rfl
inductive CTurn (X : Wd) (fm : Fm) (κ φ : Part) (α : List Addr) (L : Nat → Env' → Hp → Option (Fl × Env' × Hp)) (f : Fl) (ρ' : Env') (hp' : Hp) (n : Nat) : Flow → Shared → Prop
  | go {fl : Flow} {s : Shared} : fl = .next ∨ fl = .cont → LoopAt X fm κ φ α L (f, ρ', hp') n s → CTurn X fm κ φ α L f ρ' hp' n fl s
  | ret {v : Value} {s : Shared} : PS X fm κ φ α ρ' hp' f (.ret v) s → CTurn X fm κ φ α L f ρ' hp' n (.ret v) s
theorem forC_iter {u : Nat} {I : Addr} {i N : Nat} {b : Env' → Hp → Option (Fl × Env' × Hp)} {r : Fl × Env' × Hp} (F : FOk X fm κ φ α ρ hp s) (hI : α[u]? = some I) (hN : forC G b i u N ρ hp = some r) : Wp X fm (pyIter (.ref I)) (fun it s₂ => it = .ref I ∧ FOk X fm κ φ α ρ hp s₂) s := by
  cases N with
  | zero => cases hN
  | succ N =>
    obtain ⟨t, d, e, h1⟩ := onCiter_inv hN
    cases d with
    | true => exact citer_iter (repA_cdone (tag_obj F hI e)) ⟨rfl, F⟩
    | false => obtain ⟨m, x, tok, hg, _⟩ := repA_citer (tag_obj F hI e); exact citer_iter hg ⟨rfl, F⟩
theorem forC_next {n N u : Nat} {I : Addr} {i : Nat} {b : Env' → Hp → Option (Fl × Env' × Hp)} {r : Fl × Env' × Hp} {E : Value → Shared → Prop} {Q : Option Value → Shared → Prop} (W : fm.Wf X) (C : CS X G n) (R : Room fm.A (n + 1)) (hrc : G.rc = .ref X.rc) (hfn : ∃ o fd, X.base X.rc = some o ∧ o.data = .func fd)
    (F : FOk X fm κ φ α ρ hp s) (hI : α[u]? = some I) (hl : forC G b i u (N + 1) ρ hp = some r)
    (done : ∀ hp₁ β ψ s', α <+: β → φ.le ψ → r = (.next, ρ, hp₁) → FOk X fm κ ψ β ρ hp₁ s' → Q none s')
    (item : ∀ w tk hp₁ β ψ s', α <+: β → φ.le ψ → turnF (b (setLoc ρ i (.str w.cps.toList)) hp₁) (fun ρ hp => forC G b i u N ρ hp) = some r → FOk X fm κ ψ β ρ hp₁ s' → Q (some (.str w tk)) s') :
    wpAny (model X.prog X.w) fm.A (pyNext (.ref I)) Q E s := by
  obtain ⟨t, d, e, h3⟩ := onCiter_inv hl
  cases d with
  | true => exact citer_done W.handled (repA_cdone (tag_obj F hI e)) fun h' hk => done hp α φ _ (List.prefix_refl _) (Part.le_refl _) (some_inv h3).symm (F.grow W hk s.toks)
  | false =>
    obtain ⟨z, hp₂, ec, h4⟩ := bnd_inv h3
    obtain ⟨zs, rfl, h5⟩ := onStr_inv h4
    obtain ⟨t', d', e', h6⟩ := onCiter_inv h5
    cases d' with
    | true => cases h6
    | false =>
      obtain ⟨m, a, tok, hg, hm, hr⟩ := repA_citer (tag_obj F hI e)
      obtain ⟨of, fd, hbf, hfd⟩ := hfn
      rw [hrc] at ec
      refine citer_next W.handled hg (F.H.froz _ _ hm) (F.H.baseIn _ _ hbf) hfd (codeAny_mono (C _ _ _ _ _ ec _ _ _ _ _ [.ref a] R.in1 F.H.enter (.cons hr .nil)) fun r s₄ P => ?_)
      obtain ⟨v, γ, χ, rfl, hγ, hχ, H₄, rv⟩ := P
      have F₄ := F.back W H₄ hγ hχ
      have hI₄ := prefix_get hγ hI
      obtain ⟨w, tk, rfl, rfl⟩ := rv.inv_str
      obtain ⟨m', a', tok', hg', hm', hr'⟩ := repA_citer (tag_obj F₄ hI₄ e')
      refine ⟨w, tk, m', a', tok', rfl, hg', F₄.H.froz _ _ hm', F₄.H.baseIn _ _ hbf, fun hw h' hI' hk => ?_, fun hw => item w tk hp₂ γ χ s₄ hγ hχ ((if_neg (fun q => hw (cps_nil q))).symm.trans h6) F₄⟩
      subst hw
      exact done _ γ χ _ hγ hχ (some_inv h6).symm (F₄.setTag W (x := .citer t' true) hI₄ (fun b o hb q => hk b o hb q) (.cdone hI') s₄.toks)
theorem ss_forC {n : Nat} (W : fm.Wf X) (C : CS X G n) (R : Room fm.A (n + 1)) (hrc : G.rc = .ref X.rc) (hfn : ∃ o fd, X.base X.rc = some o ∧ o.data = .func fd) {x y : Str} {i j : Nat} {tp yp : Pos} {b : List Stmt} {mb : List MS} {pos : Pos} (hx : fm.names[i]? = some x) (hst : Stores fm x) (hy : fm.names[j]? = some y)
    (hd : (y == ("__debug__" : Str)) = false) (Sb : SSs X G fm b mb) : SS X G fm (.For (.Name x tp) (.Name y yp) b [] pos) (.forC i j mb) := by
  intro ρ hp f ρ' hp' h κ φ α s F
  obtain ⟨v, hu, h1⟩ := onVar_inv h
  obtain ⟨u, rfl, h2⟩ := onTag_inv h1
  refine wpAny_For (wpAny_Name (load_at W F hy hu fun v r => ?_) hd) (fun _ => rfl)
  obtain ⟨I, rfl, hI⟩ := r.inv_ref
  refine wpAny_mono (forC_iter F hI h2) (fun it s₂ z => ?_) fun _ _ z => z.elim
  obtain ⟨rfl, F₂⟩ := z
  refine codeAny_forLoop (LoopAt X fm κ φ α (fun N ρ hp => forC G (fun ρ hp => evSs G mb ρ hp) i u N ρ hp) (f, ρ', hp')) (fun N s₃ J => ?_) G.N ⟨ρ, hp, α, φ, h2, List.prefix_refl _, Part.le_refl _, F₂⟩ (fun _ => rfl)
  obtain ⟨ρ₁, hp₁, β, ψ, hl, hβ, hψ, F₃⟩ := J
  cases N with
  | zero => cases hl
  | succ N =>
    refine forC_next W C R hrc hfn F₃ (prefix_get hβ hI) hl (fun hp₂ γ χ s₄ hγ hχ e F₄ => wpAny_execs_nil (PS.lift (hβ.trans hγ) (Part.le_trans hψ hχ) (PS.cast e (PS.next F₄)))) fun w tk hp₂ γ χ s₄ hγ hχ h7 F₄ => ?_
    refine wpAny_mono (wpAny_assign_Name (store_at W F₄ hx (.str w tk) hst (Q := fun _ s₅ => Wp X fm (execs b fm.env) (CTurn X fm κ φ α (fun N ρ hp => forC G (fun ρ hp => evSs G mb ρ hp) i u N ρ hp) f ρ' hp' N) s₅) fun s₅ F₅ =>
      turn_step Sb h7 F₅ (fun fl ρ₃ hp₃ δ ω s₆ q1 q2 F₆ h8 hfl => .go hfl ⟨ρ₃, hp₃, δ, ω, h8, (hβ.trans hγ).trans q1, Part.le_trans (Part.le_trans hψ hχ) q2, F₆⟩) fun v av ρ₃ hp₃ δ ω s₆ q1 q2 F₆ e rv => .ret (PS.cast e ⟨δ, ω, (hβ.trans hγ).trans q1, Part.le_trans (Part.le_trans hψ hχ) q2, F₆, .ret rv⟩)))
      (fun _ s₅ h₅ => wpAny_mono h₅ (fun fl s₆ Z => ?_) fun _ _ z => z.elim) fun _ _ z => z.elim
    cases Z with
    | go hfl Z => rcases hfl with rfl | rfl <;> exact ⟨N, Nat.lt_succ_self _, Z⟩
    | ret Z => exact Z
end
end Mine
end
section
namespace Mine
open PySem PySem.Sre
theorem runFor_done {m : M} (h : m.outcome.isSome = true) : ∀ n, m.runFor n = m
  | 0 => rfl
  | n + 1 => by rw [M.runFor, if_pos h]
theorem runFor_add : ∀ (a b : Nat) (m : M), m.runFor (a + b) = (m.runFor a).runFor b
  | 0, b, m => by rw [Nat.zero_add]; rfl
  | a + 1, b, m => by
    rw [show a + 1 + b = (a + b) + 1 by lia, M.runFor, M.runFor]
    split
    · rename_i h; rw [runFor_done h]
    · exact runFor_add a b m.step
theorem runFor_same {m : M} {a b : Nat} (ha : (m.runFor a).outcome.isSome = true) (hb : (m.runFor b).outcome.isSome = true) : m.runFor a = m.runFor b := by
  rcases Nat.le_total a b with h | h
  · obtain ⟨c, rfl⟩ := Nat.le.dest h
    rw [runFor_add, runFor_done ha]
  · obtain ⟨c, rfl⟩ := Nat.le.dest h
    rw [runFor_add, runFor_done hb]
noncomputable def code1 : Array Nat := #[14, 4, 0, 1, 1, 6, 1, 16, 46, 1]
noncomputable def code2 : Array Nat := #[14, 9, 4, 1, 2, 16, 10, 16, 13, 0, 7, 7, 16, 13, 16, 10, 15, 18, 5, 16, 10, 15, 13, 11, 16, 13, 5, 5, 0, 16, 10, 1, 15, 2, 0, 1]
noncomputable def mst (code text : Array Nat) (lim s0 ls : Nat) (pc pos handed : Nat) (om : Bool) (frames : List Sre.Frame) (weight : Nat) (answer : Option Bool) (seen : Seen) (outcome : Option Sre.Outcome) : M :=
  { code, text, lim, start := s0, lastStart := ls, wholeText := false, mustAdvance := false, pc, pos, handed, outermost := om, marks := #[], lastmark := -1, lastindex := -1, loops := #[], inner := none, frames, weight, answer, seen, outcome }
noncomputable def fr1 (s : Nat) (om : Bool) (pc : Nat) : Sre.Frame := { wait := .nextStart, pc, pos := s, outermost := om }
noncomputable def S1 (text : Array Nat) (s : Nat) (om : Bool) (seen : Seen) : M := mst code1 text text.size s text.size 5 s s om [fr1 s om 5] 1 none seen none
noncomputable def bol (text : Array Nat) (s : Nat) : Bool := s == 0 || text.getD (s - 1) 0 == 10
theorem t1_at (text : Array Nat) (s : Nat) (om : Bool) (seen : Seen) : ∃ seen', (S1 text s om seen).step = bif bol text s then mst code1 text text.size s text.size 7 s s om [fr1 s om 5] 1 none seen' none else mst code1 text text.size s text.size 5 s s om [fr1 s om 5] 1 (some false) seen' none := by
  refine ⟨(seen.add 6).add 44, ?_⟩
  cases h : bol text s
  · have : (s == 0 || text.getD (s - 1) 0 == 10) = false := h
    show (if (s == 0 || text.getD (s - 1) 0 == 10) = true then _ else _) = _
    rw [this]; rfl
  · have : (s == 0 || text.getD (s - 1) 0 == 10) = true := h
    show (if (s == 0 || text.getD (s - 1) 0 == 10) = true then _ else _) = _
    rw [this]; rfl
theorem t1_lit_end (text : Array Nat) (s : Nat) (om : Bool) (seen : Seen) (h : s ≥ text.size) : ∃ seen', (mst code1 text text.size s text.size 7 s s om [fr1 s om 5] 1 none seen none).step = mst code1 text text.size s text.size 7 s s om [fr1 s om 5] 1 (some false) seen' none := by
  refine ⟨seen.add 16, ?_⟩
  show (if s ≥ text.size then _ else _) = _
  rw [if_pos h]; rfl
theorem t1_lit_no (text : Array Nat) (s : Nat) (om : Bool) (seen : Seen) (h : s < text.size) (hc : (text.getD s 0 == 46) = false) : ∃ seen', (mst code1 text text.size s text.size 7 s s om [fr1 s om 5] 1 none seen none).step = mst code1 text text.size s text.size 7 s s om [fr1 s om 5] 1 (some false) seen' none := by
  refine ⟨seen.add 16, ?_⟩
  show (if s ≥ text.size then _ else match (Except.ok (text.getD s 0 == 46, seen.add 16) : Except String (Bool × Seen)) with | .error why => _ | .ok (false, seen) => _ | .ok (true, seen) => _) = _
  rw [if_neg (by lia), hc]; rfl
theorem t1_lit_yes (text : Array Nat) (s : Nat) (om : Bool) (seen : Seen) (h : s < text.size) (hc : (text.getD s 0 == 46) = true) : ∃ seen', (mst code1 text text.size s text.size 7 s s om [fr1 s om 5] 1 none seen none).step = mst code1 text text.size s text.size 9 (s + 1) s om [fr1 s om 5] 1 none seen' none := by
  refine ⟨seen.add 16, ?_⟩
  show (if s ≥ text.size then _ else match (Except.ok (text.getD s 0 == 46, seen.add 16) : Except String (Bool × Seen)) with | .error why => _ | .ok (false, seen) => _ | .ok (true, seen) => _) = _
  rw [if_neg (by lia), hc]; rfl
theorem t1_back (text : Array Nat) (s pc : Nat) (om : Bool) (seen : Seen) (h : s < text.size) : (mst code1 text text.size s text.size pc s s om [fr1 s om 5] 1 (some false) seen none).step = S1 text (s + 1) false seen := by
  show (if s < text.size then _ else _) = _
  rw [if_pos h]; rfl
theorem t1_last (text : Array Nat) (s pc : Nat) (om : Bool) (seen : Seen) (h : ¬ s < text.size) : ((mst code1 text text.size s text.size pc s s om [fr1 s om 5] 1 (some false) seen none).runFor 2).outcome = some .failed := by
  have : (mst code1 text text.size s text.size pc s s om [fr1 s om 5] 1 (some false) seen none).step = mst code1 text text.size s text.size 5 s s om [] 0 (some false) seen none := by
    show (if s < text.size then _ else _) = _
    rw [if_neg h]; rfl
  show ((mst code1 text text.size s text.size pc s s om [fr1 s om 5] 1 (some false) seen none).step.runFor 1).outcome = _
  rw [this]; rfl
theorem t1_yes (text : Array Nat) (s : Nat) (om : Bool) (seen : Seen) : ∃ m', (mst code1 text text.size s text.size 9 (s + 1) s om [fr1 s om 5] 1 none seen none).runFor 3 = m' ∧ m'.outcome = some .matched ∧ m'.start = s ∧ m'.handed = s + 1 := by
  have : (mst code1 text text.size s text.size 9 (s + 1) s om [fr1 s om 5] 1 none seen none).step = mst code1 text text.size s text.size 9 (s + 1) (s + 1) om [fr1 s om 5] 1 (some true) (seen.add 1) none := by
    show (if (om && ((false && (s + 1 != text.size)) || (false && (s + 1 == s)))) = true then _ else _) = _
    simp only [Bool.false_and, Bool.or_false, Bool.and_false, Bool.false_eq_true, if_false]; rfl
  refine ⟨_, rfl, ?_⟩
  show ((mst code1 text text.size s text.size 9 (s + 1) s om [fr1 s om 5] 1 none seen none).step.runFor 2).outcome = _ ∧ ((mst code1 text text.size s text.size 9 (s + 1) s om [fr1 s om 5] 1 none seen none).step.runFor 2).start = _ ∧ ((mst code1 text text.size s text.size 9 (s + 1) s om [fr1 s om 5] 1 none seen none).step.runFor 2).handed = _
  rw [this]
  exact ⟨rfl, rfl, rfl⟩
noncomputable def find1 (text : Array Nat) : Nat → Nat → Option Nat
  | 0, _ => none
  | k + 1, s => if bol text s && text.getD s 0 == 46 then some s else find1 text k (s + 1)
noncomputable def Found (m : M) (r : Option (Nat × Nat)) : Prop := match r with
  | some (b, e) => m.outcome = some .matched ∧ m.start = b ∧ m.handed = e
  | none => m.outcome = some .failed
theorem runFor_step {m m' : M} (h : m.step = m') (ho : m.outcome = none) (n : Nat) : m.runFor (n + 1) = m'.runFor n := by
  rw [M.runFor, ho, ← h]; rfl
theorem p1_run (text : Array Nat) : ∀ (k s : Nat) (om : Bool) (seen : Seen), s + k = text.size → ∃ n, n ≤ 3 * k + 5 ∧ Found ((S1 text s om seen).runFor n) ((find1 text k s).map fun j => (j, j + 1))
  | 0, s, om, seen, h => by
    obtain ⟨sn, e⟩ := t1_at text s om seen
    cases hb : bol text s
    · rw [hb] at e
      refine ⟨3, by lia, ?_⟩
      rw [show 3 = 2 + 1 from rfl, runFor_step e rfl]
      exact t1_last text s 5 om sn (by lia)
    · rw [hb] at e
      obtain ⟨sn', e'⟩ := t1_lit_end text s om sn (by lia)
      refine ⟨4, by lia, ?_⟩
      rw [show 4 = 2 + 1 + 1 from rfl, runFor_step e rfl, show ((bif true then _ else _) : M) = _ from rfl, cond_true, runFor_step e' rfl]
      exact t1_last text s 7 om sn' (by lia)
  | k + 1, s, om, seen, h => by
    have hs : s < text.size := by lia
    obtain ⟨sn, e⟩ := t1_at text s om seen
    cases hb : bol text s
    · rw [hb] at e
      obtain ⟨n, hn, hf⟩ := p1_run text k (s + 1) false sn (by lia)
      refine ⟨n + 1 + 1, by lia, ?_⟩
      rw [runFor_step e rfl, cond_false, runFor_step (t1_back text s 5 om sn hs) rfl, find1, hb, Bool.false_and, if_neg (by decide)]
      exact hf
    · rw [hb] at e
      cases hc : (text.getD s 0 == 46)
      · obtain ⟨sn', e'⟩ := t1_lit_no text s om sn hs hc
        obtain ⟨n, hn, hf⟩ := p1_run text k (s + 1) false sn' (by lia)
        refine ⟨n + 1 + 1 + 1, by lia, ?_⟩
        rw [runFor_step e rfl, cond_true, runFor_step e' rfl, runFor_step (t1_back text s 7 om sn' hs) rfl, find1, hc, Bool.and_false, if_neg (by decide)]
        exact hf
      · obtain ⟨sn', e'⟩ := t1_lit_yes text s om sn hs hc
        refine ⟨5, by lia, ?_⟩
        obtain ⟨m', e3, hm⟩ := t1_yes text s om sn'
        rw [show 5 = 3 + 1 + 1 from rfl, runFor_step e rfl, cond_true, runFor_step e' rfl, e3, find1, hb, hc, Bool.true_and, if_pos rfl]
        exact hm
theorem srch_no {s n : Nat} (h : s < n) : ¬ (decide (s > n) || decide (n - s < 1)) = true := by
  rw [decide_eq_false (Nat.not_lt.mpr (Nat.le_of_lt h)), decide_eq_false (Nat.not_lt.mpr (Nat.sub_pos_of_lt h))]
  decide
theorem srch_yes {s n : Nat} (h : n ≤ s) : (decide (s > n) || decide (n - s < 1)) = true := by
  rw [Nat.sub_eq_zero_of_le h]
  exact Bool.or_true _
theorem srch_end {code text : Array Nat} {s : Nat} (hc : (header code).fst = 1) (h : text.size ≤ s) : Found ((forSearch code text 0 s text.size false).runFor 1) none := by
  unfold forSearch
  show (M.runFor 1 (if (decide (s > text.size) || decide (text.size - s < (header code).fst)) = true then _ else _)).outcome = _
  rw [hc, if_pos (srch_yes h)]; rfl
theorem p1_search (text : Array Nat) (s : Nat) (h : s ≤ text.size) : ∃ n, n ≤ 3 * text.size + 5 ∧ Found ((forSearch code1 text 0 s text.size false).runFor n) ((find1 text (text.size - s) s).map fun j => (j, j + 1)) := by
  rcases Nat.lt_or_ge s text.size with hs | hs
  · have e : forSearch code1 text 0 s text.size false = S1 text s true (({} : Seen).add 14) := by
      unfold forSearch
      show (if (decide (s > text.size) || decide (text.size - s < 1)) = true then _ else _) = _
      rw [if_neg (srch_no hs)]; rfl
    obtain ⟨n, hn, hf⟩ := p1_run text (text.size - s) s true (({} : Seen).add 14) (Nat.add_sub_cancel' h)
    exact ⟨n, Nat.le_trans hn (Nat.add_le_add_right (Nat.mul_le_mul_left 3 (Nat.sub_le _ _)) 5), e ▸ hf⟩
  · rw [Nat.sub_eq_zero_of_le hs]
    exact ⟨1, Nat.le_add_left 1 _, srch_end rfl hs⟩
theorem find1_span {text : Array Nat} : ∀ {k s j : Nat}, find1 text k s = some j → s ≤ j ∧ j < s + k
  | 0, s, j, h => nomatch h
  | k + 1, s, j, h => by
    rw [find1] at h
    by_cases q : (bol text s && text.getD s 0 == 46) = true
    · rw [if_pos q] at h
      obtain rfl := Option.some.inj h
      exact ⟨Nat.le_refl _, Nat.lt_add_of_pos_right (Nat.succ_pos _)⟩
    · rw [if_neg q] at h
      have := find1_span h
      exact ⟨Nat.le_of_succ_le this.1, Nat.lt_of_lt_of_eq this.2 (Nat.succ_add_eq_add_succ s k)⟩
end Mine
end
section
namespace Mine
open PySem PySem.Sre
theorem in2 (c : Nat) (seen : Seen) : ∃ seen', inSet code2 c code2.size 5 true seen = .ok (c == 10 || c == 13, seen') := by
  have e : inSet code2 c code2.size 5 true seen = if (c == 10) = true then .ok (true, seen.add 16) else if (c == 13) = true then .ok (true, (seen.add 16).add 16) else .ok (false, ((seen.add 16).add 16).add 0) := rfl
  rw [e]
  cases h1 : (c == 10)
  · cases h2 : (c == 13)
    · exact ⟨_, rfl⟩
    · exact ⟨_, rfl⟩
  · exact ⟨_, rfl⟩
noncomputable def find2 (text : Array Nat) : Nat → Nat → Option Nat
  | 0, _ => none
  | k + 1, s => if text.getD s 0 == 10 || text.getD s 0 == 13 then some s else find2 text k (s + 1)
theorem adm2 (m : M) (hc : m.code = code2) : ∀ (k s : Nat) (seen : Seen), s + k = m.lim → ∃ seen', m.admitted (k + 1) s seen = .ok (find2 m.text k s, seen')
  | 0, s, seen, h => ⟨seen, by rw [M.admitted, if_pos (by lia)]; rfl⟩
  | k + 1, s, seen, h => by
    rw [M.admitted, if_neg (by lia), hc]
    obtain ⟨sn, e⟩ := in2 (m.text.getD s 0) seen
    rw [e, find2]
    cases hb : (m.text.getD s 0 == 10 || m.text.getD s 0 == 13)
    · obtain ⟨sn', e'⟩ := adm2 m hc k (s + 1) sn (by lia)
      exact ⟨sn', e'⟩
    · exact ⟨sn, rfl⟩
theorem find2_some {text : Array Nat} : ∀ {k s j : Nat}, find2 text k s = some j → s ≤ j ∧ j < s + k ∧ (text.getD j 0 = 10 ∨ text.getD j 0 = 13)
  | 0, s, j, h => nomatch h
  | k + 1, s, j, h => by
    rw [find2] at h
    by_cases q : (text.getD s 0 == 10 || text.getD s 0 == 13) = true
    · rw [if_pos q] at h
      obtain rfl := Option.some.inj h
      exact ⟨Nat.le_refl _, Nat.lt_add_of_pos_right (Nat.succ_pos _), ((Bool.or_eq_true _ _).mp q).imp (fun e => eq_of_beq e) (fun e => eq_of_beq e)⟩
    · rw [if_neg q] at h
      have := find2_some h
      exact ⟨Nat.le_of_succ_le this.1, Nat.lt_of_lt_of_eq this.2.1 (Nat.succ_add_eq_add_succ s k), this.2.2⟩
noncomputable def k0 : Sre.Kept := { lastmark := -1, lastindex := -1, whole := false, marks := #[] }
noncomputable def frB (pc s : Nat) (om : Bool) : Sre.Frame := { wait := .nextBranch, pc, pos := s, outermost := om, kept := k0 }
noncomputable def frL (s : Nat) (om : Bool) : Sre.Frame := { wait := .lookNot, pc := 26, pos := s, outermost := om, kept := k0 }
section
variable (text : Array Nat) (lim s0 ls pos handed : Nat) (om : Bool) (fs : List Sre.Frame) (w : Nat) (seen : Seen)
theorem lit2 (pc k : Nat) (h : pc = 12 ∧ k = 13 ∨ pc = 14 ∧ k = 10 ∨ pc = 19 ∧ k = 10 ∨ pc = 24 ∧ k = 13 ∨ pc = 29 ∧ k = 10) (hl : pos < lim) :
    (mst code2 text lim s0 ls pc pos handed om fs w none seen none).step = bif text.getD pos 0 == k then mst code2 text lim s0 ls (pc + 2) (pos + 1) handed om fs w none (seen.add 16) none else mst code2 text lim s0 ls pc pos handed om fs w (some false) (seen.add 16) none := by
  have hn : ¬ pos ≥ lim := Nat.not_le_of_gt hl
  rcases h with ⟨rfl, rfl⟩ | ⟨rfl, rfl⟩ | ⟨rfl, rfl⟩ | ⟨rfl, rfl⟩ | ⟨rfl, rfl⟩
  · show (if pos ≥ lim then _ else match (Except.ok (text.getD pos 0 == 13, seen.add 16) : Except String (Bool × Seen)) with | .error why => _ | .ok (false, seen) => _ | .ok (true, seen) => _) = _
    rw [if_neg hn]; cases (text.getD pos 0 == 13) <;> rfl
  · show (if pos ≥ lim then _ else match (Except.ok (text.getD pos 0 == 10, seen.add 16) : Except String (Bool × Seen)) with | .error why => _ | .ok (false, seen) => _ | .ok (true, seen) => _) = _
    rw [if_neg hn]; cases (text.getD pos 0 == 10) <;> rfl
  · show (if pos ≥ lim then _ else match (Except.ok (text.getD pos 0 == 10, seen.add 16) : Except String (Bool × Seen)) with | .error why => _ | .ok (false, seen) => _ | .ok (true, seen) => _) = _
    rw [if_neg hn]; cases (text.getD pos 0 == 10) <;> rfl
  · show (if pos ≥ lim then _ else match (Except.ok (text.getD pos 0 == 13, seen.add 16) : Except String (Bool × Seen)) with | .error why => _ | .ok (false, seen) => _ | .ok (true, seen) => _) = _
    rw [if_neg hn]; cases (text.getD pos 0 == 13) <;> rfl
  · show (if pos ≥ lim then _ else match (Except.ok (text.getD pos 0 == 10, seen.add 16) : Except String (Bool × Seen)) with | .error why => _ | .ok (false, seen) => _ | .ok (true, seen) => _) = _
    rw [if_neg hn]; cases (text.getD pos 0 == 10) <;> rfl
theorem lit2_end (pc : Nat) (h : pc = 14 ∨ pc = 29) (hl : pos ≥ lim) :
    (mst code2 text lim s0 ls pc pos handed om fs w none seen none).step = mst code2 text lim s0 ls pc pos handed om fs w (some false) (seen.add 16) none := by
  rcases h with rfl | rfl <;>
  · show (if pos ≥ lim then _ else _) = _
    rw [if_pos hl]; rfl
theorem branch2 : (mst code2 text lim s0 ls 10 pos handed om [fr1 s0 om 10] 1 none seen none).step = mst code2 text lim s0 ls 12 pos pos om [frB 11 pos om, fr1 s0 om 10] 2 none (seen.add 7) none := rfl
theorem next2a (pc p h : Nat) : (mst code2 text lim s0 ls pc p h om [frB 11 pos om, fr1 s0 om 10] 2 (some false) seen none).step = mst code2 text lim s0 ls 19 pos pos om [frB 18 pos om, fr1 s0 om 10] 2 none seen none := rfl
theorem next2b (pc p h : Nat) : (mst code2 text lim s0 ls pc p h om [frB 18 pos om, fr1 s0 om 10] 2 (some false) seen none).step = mst code2 text lim s0 ls 24 pos pos om [frB 23 pos om, fr1 s0 om 10] 2 none seen none := rfl
theorem jump2 (pc : Nat) (h : pc = 16 ∨ pc = 21 ∨ pc = 32) : (mst code2 text lim s0 ls pc pos handed om fs w none seen none).step = mst code2 text lim s0 ls 35 pos handed om fs w none (seen.add 15) none := by
  rcases h with rfl | rfl | rfl <;> rfl
theorem look2 : (mst code2 text lim s0 ls 26 (pos + 1) handed om [frB 23 pos om, fr1 s0 om 10] 2 none seen none).step = mst code2 text lim s0 ls 29 (pos + 1) (pos + 1) false [frL (pos + 1) om, frB 23 pos om, fr1 s0 om 10] 3 none (seen.add 5) none := rfl
theorem lookNo2 (pc p h : Nat) (o : Bool) : (mst code2 text lim s0 ls pc p h o [frL (pos + 1) om, frB 23 pos om, fr1 s0 om 10] 3 (some false) seen none).step = mst code2 text lim s0 ls 32 (pos + 1) h om [frB 23 pos om, fr1 s0 om 10] 2 none seen none := rfl
theorem yes2 (pc p : Nat) : ∃ m', (mst code2 text lim s0 ls 35 p handed om [frB pc pos om, fr1 s0 om 10] 2 none seen none).runFor 4 = m' ∧ m'.outcome = some .matched ∧ m'.start = s0 ∧ m'.handed = p := by
  have : (mst code2 text lim s0 ls 35 p handed om [frB pc pos om, fr1 s0 om 10] 2 none seen none).step = mst code2 text lim s0 ls 35 p p om [frB pc pos om, fr1 s0 om 10] 2 (some true) (seen.add 1) none := by
    show (if (om && ((false && (p != lim)) || (false && (p == s0)))) = true then _ else _) = _
    simp only [Bool.false_and, Bool.or_false, Bool.and_false, Bool.false_eq_true, if_false]; rfl
  refine ⟨_, rfl, ?_⟩
  rw [show 4 = 3 + 1 from rfl, runFor_step this rfl]
  exact ⟨rfl, rfl, rfl⟩
end
noncomputable def end2 (text : Array Nat) (s : Nat) : Nat := if text.getD s 0 = 13 ∧ s + 1 < text.size ∧ text.getD (s + 1) 0 = 10 then s + 2 else s + 1
theorem p2_at (text : Array Nat) (s : Nat) (om : Bool) (seen : Seen) (hs : s < text.size) (hc : text.getD s 0 = 10 ∨ text.getD s 0 = 13) :
    ∃ n, n ≤ 20 ∧ Found ((mst code2 text text.size s text.size 10 s s om [fr1 s om 10] 1 none seen none).runFor n) (some (s, end2 text s)) := by
  rcases hc with hc | hc
  · have n1 : (text.getD s 0 == 13) = false := by rw [hc]; rfl
    have n2 : (text.getD s 0 == 10) = true := by rw [hc]; rfl
    have e1 := lit2 text text.size s text.size s s om [frB 11 s om, fr1 s om 10] 2 (seen.add 7) 12 13 (by decide) hs
    rw [n1, cond_false] at e1
    have e2 := lit2 text text.size s text.size s s om [frB 18 s om, fr1 s om 10] 2 ((seen.add 7).add 16) 19 10 (by decide) hs
    rw [n2, cond_true] at e2
    obtain ⟨m', e3, hm⟩ := yes2 text text.size s text.size s s om (((((seen.add 7).add 16)).add 16).add 15) 18 (s + 1)
    refine ⟨9, by lia, ?_⟩
    rw [show 9 = 4 + 1 + 1 + 1 + 1 + 1 from rfl, runFor_step (branch2 ..) rfl, runFor_step e1 rfl, runFor_step (next2a ..) rfl, runFor_step e2 rfl, runFor_step (jump2 _ _ _ _ _ _ _ _ _ _ 21 (by decide)) rfl, e3]
    have : end2 text s = s + 1 := by unfold end2; rw [if_neg (by rw [hc]; lia)]
    rw [this]; exact hm
  · have n1 : (text.getD s 0 == 13) = true := by rw [hc]; rfl
    have n2 : (text.getD s 0 == 10) = false := by rw [hc]; rfl
    have e1 := lit2 text text.size s text.size s s om [frB 11 s om, fr1 s om 10] 2 (seen.add 7) 12 13 (by decide) hs
    rw [n1, cond_true] at e1
    -- what comes behind
    by_cases hn : s + 1 < text.size ∧ text.getD (s + 1) 0 = 10
    · have e2 := lit2 text text.size s text.size (s + 1) s om [frB 11 s om, fr1 s om 10] 2 ((seen.add 7).add 16) 14 10 (by decide) hn.1
      rw [show (text.getD (s + 1) 0 == 10) = true by rw [hn.2]; rfl, cond_true] at e2
      obtain ⟨m', e3, hm⟩ := yes2 text text.size s text.size s s om (((((seen.add 7).add 16)).add 16).add 15) 11 (s + 2)
      refine ⟨8, by lia, ?_⟩
      rw [show 8 = 4 + 1 + 1 + 1 + 1 from rfl, runFor_step (branch2 ..) rfl, runFor_step e1 rfl, runFor_step e2 rfl, runFor_step (jump2 _ _ _ _ _ _ _ _ _ _ 16 (by decide)) rfl, e3]
      have : end2 text s = s + 2 := by unfold end2; rw [if_pos ⟨hc, hn⟩]
      rw [this]; exact hm
    · have fail14 : (mst code2 text text.size s text.size 14 (s + 1) s om [frB 11 s om, fr1 s om 10] 2 none ((seen.add 7).add 16) none).step = mst code2 text text.size s text.size 14 (s + 1) s om [frB 11 s om, fr1 s om 10] 2 (some false) (((seen.add 7).add 16).add 16) none := by
        by_cases hl : s + 1 < text.size
        · have := lit2 text text.size s text.size (s + 1) s om [frB 11 s om, fr1 s om 10] 2 ((seen.add 7).add 16) 14 10 (by decide) hl
          rw [show (text.getD (s + 1) 0 == 10) = false by simp; exact fun q => hn ⟨hl, by simpa using q⟩, cond_false] at this
          exact this
        · exact lit2_end _ _ _ _ _ _ _ _ _ _ 14 (.inl rfl) (by lia)
      have e2 := lit2 text text.size s text.size s s om [frB 18 s om, fr1 s om 10] 2 (((seen.add 7).add 16).add 16) 19 10 (by decide) hs
      rw [n2, cond_false] at e2
      have e3 := lit2 text text.size s text.size s s om [frB 23 s om, fr1 s om 10] 2 ((((seen.add 7).add 16).add 16).add 16) 24 13 (by decide) hs
      rw [n1, cond_true] at e3
      generalize hsn : (((((seen.add 7).add 16).add 16).add 16).add 16).add 5 = sn
      have fail29 : (mst code2 text text.size s text.size 29 (s + 1) (s + 1) false [frL (s + 1) om, frB 23 s om, fr1 s om 10] 3 none sn none).step = mst code2 text text.size s text.size 29 (s + 1) (s + 1) false [frL (s + 1) om, frB 23 s om, fr1 s om 10] 3 (some false) (sn.add 16) none := by
        by_cases hl : s + 1 < text.size
        · have := lit2 text text.size s text.size (s + 1) (s + 1) false [frL (s + 1) om, frB 23 s om, fr1 s om 10] 3 sn 29 10 (by decide) hl
          rw [show (text.getD (s + 1) 0 == 10) = false by simp; exact fun q => hn ⟨hl, by simpa using q⟩, cond_false] at this
          exact this
        · exact lit2_end _ _ _ _ _ _ _ _ _ _ 29 (.inr rfl) (by lia)
      obtain ⟨m', e4, hm⟩ := yes2 text text.size s text.size s (s + 1) om ((sn.add 16).add 15) 23 (s + 1)
      refine ⟨15, by lia, ?_⟩
      rw [show 15 = 4 + 1 + 1 + 1 + 1 + 1 + 1 + 1 + 1 + 1 + 1 + 1 from rfl, runFor_step (branch2 ..) rfl, runFor_step e1 rfl, runFor_step fail14 rfl, runFor_step (next2a ..) rfl, runFor_step e2 rfl, runFor_step (next2b ..) rfl, runFor_step e3 rfl, runFor_step (look2 ..) rfl, hsn, runFor_step fail29 rfl, runFor_step (lookNo2 ..) rfl, runFor_step (jump2 _ _ _ _ _ _ _ _ _ _ 32 (by decide)) rfl, e4]
      have : end2 text s = s + 1 := by unfold end2; rw [if_neg (fun q => hn q.2)]
      rw [this]; exact hm
noncomputable def m2 (text : Array Nat) (s : Nat) : M := mst code2 text text.size s text.size 10 s s true [] 0 none (({} : Seen).add 14) none
theorem fs2 {text : Array Nat} {s : Nat} (hs : s < text.size) : forSearch code2 text 0 s text.size false = (match (m2 text s).admitted (text.size + 1 - s) s (({} : Seen).add 14) with
        | .ok (some s, seen) => mst code2 text text.size s text.size 10 s s true [fr1 s true 10] 1 none seen none
        | .ok (none, seen) => { m2 text s with seen }.say false
        | .error why => (m2 text s).stick why) := by
  unfold forSearch
  show (if (decide (s > text.size) || decide (text.size - s < 1)) = true then _ else _) = _
  rw [if_neg (srch_no hs)]
  rfl
theorem p2_none (text : Array Nat) (s : Nat) (sn : Seen) : Found (M.runFor 1 (M.say { m2 text s with seen := sn } false)) none := rfl
theorem p2_search (text : Array Nat) (s : Nat) (h : s ≤ text.size) : ∃ n, n ≤ 3 * text.size + 20 ∧ Found ((forSearch code2 text 0 s text.size false).runFor n) ((find2 text (text.size - s) s).map fun j => (j, end2 text j)) := by
  rcases Nat.lt_or_ge s text.size with hs | hs
  · obtain ⟨sn, ea⟩ := adm2 (m2 text s) rfl (text.size - s) s (({} : Seen).add 14) (Nat.add_sub_cancel' h)
    rw [fs2 hs, Nat.succ_sub h, ea]
    show ∃ n, n ≤ 3 * text.size + 20 ∧ Found (M.runFor n (match (Except.ok (find2 text (text.size - s) s, sn) : Except String (Option Nat × Seen)) with | .ok (some s, seen) => _ | .ok (none, seen) => _ | .error why => _)) _
    cases hf : find2 text (text.size - s) s with
    | none => exact ⟨1, Nat.le_add_left 1 _, p2_none text s sn⟩
    | some j =>
      obtain ⟨q1, q2, q3⟩ := find2_some hf
      obtain ⟨n, hn, hF⟩ := p2_at text j true sn (Nat.lt_of_lt_of_eq q2 (Nat.add_sub_cancel' h)) q3
      exact ⟨n, Nat.le_trans hn (Nat.le_add_left _ _), hF⟩
  · rw [Nat.sub_eq_zero_of_le hs]
    exact ⟨1, Nat.le_add_left 1 _, srch_end rfl hs⟩
theorem end2_span {text : Array Nat} {j : Nat} (h : j < text.size) : j < end2 text j ∧ end2 text j ≤ text.size := by
  unfold end2
  by_cases q : text.getD j 0 = 13 ∧ j + 1 < text.size ∧ text.getD (j + 1) 0 = 10
  · rw [if_pos q]; exact ⟨Nat.lt_succ_of_lt (Nat.lt_succ_self _), q.2.1⟩
  · rw [if_neg q]; exact ⟨Nat.lt_succ_self _, h⟩
end Mine
end
section
namespace Mine
open PySem PyProof.Rows PySem.W
section
variable {X : Wd} {G : Gl} {fm : Fm} {κ φ ψ : Part} {α β : List Addr} {ρ ρ' : Env'} {hp hp' : Hp} {s : Shared}
theorem fn_enter {a : Addr} {fd : FuncData} {body : List Stmt} {d : FnDef} (K : FnOk X a fd body d) {n : Nat} {args : List AV} {A : Around} {vs : List Value} {Rp : Result → Shared → Prop} (hn : args.length = d.np) (R : Room A (n + 1)) (H : HOk X [] κ φ α hp s) (r : RepAll X α φ vs args)
    (S : ∀ L s₁, Room (fmOf fd d a L A).A n → (fmOf fd d a L A).Wf X → FOk X (fmOf fd d a L A) κ φ α (args.map some ++ List.replicate (d.names.length - d.np) none) hp s₁ →
      Wp X (fmOf fd d a L A) (execs body (fmOf fd d a L A).env) (fun fl s' => Rp (.ok (.ret (match fl with | .ret v => v | _ => .none))) s') s₁) :
    codeAny (model X.prog X.w) A (.call (.ref a) ⟨vs, []⟩) Rp s := by
  obtain ⟨o, ho, hfd⟩ := K.obj
  have hl := r.length
  have bi := H.baseIn
  refine codeAny_call_cells (by have := R.2.1; show A.depth < 1000; lia) (bi a o ho) hfd (K.lim _ bi) (K.cd _ bi) K.body (K.bind vs (by lia)) K.clo (fun x hx => ?_) (fun s₁ x => ?_) K.co K.gen K.kind
  · have hx' : x.1 ∈ d.names := List.mem_of_mem_take (List.of_mem_zip hx).1
    rcases K.kinds x.1 hx' with q | q
    · exact .inl q
    · exact .inr ⟨q, W.cellsFrom_some _ _ _ (.inl q)⟩
  · have F := fn_start (A := A) K hn H r x
    have Wf := wf_fn (A := A) K R.1 x.apart x.above
    have Rm : Room (fmOf fd d a s.heap.objs.size A).A n := R.deeper _
    exact wpAny_mono (S _ _ Rm Wf F) (fun fl s' P => P) fun _ _ z => z.elim
structure ClsK (X : Wd) (K : Frag) (fI : Addr) : Prop where
  inK : ∀ h : Heap, (∀ a o, X.base a = some o → h.get? a = some o) → K.In h
  makes : makesIn K X.C = true
  init : findIn K (.ref X.C) "__init__" = some (some (.ref fI))
  fn : typeIn K (.ref fI) = some (.type "function")
  keep : keepIn K (.ref X.C) = true
theorem fieldOf_snoc : ∀ {names : List Str} {vs : List Value}, names.Nodup → ∀ {x : Str} {v : Value}, names[vs.length]? = some x → fieldOf names (vs ++ [v]) = fun y => if y = x then some v else fieldOf names vs y
  | [], _, _, x, v, h => by simp at h
  | n :: ns, [], hn, x, v, h => by
    simp at h; subst h
    funext y
    by_cases q : y = n
    · subst q; simp [fieldOf]
    · have : (y == n) = false := by simpa using q
      simp [fieldOf, List.lookup_cons, this, q]
  | n :: ns, w :: vs, hn, x, v, h => by
    rw [List.nodup_cons] at hn
    simp at h
    have ih := fieldOf_snoc (vs := vs) hn.2 (v := v) h
    funext y
    have ihy := congrFun ih y
    by_cases q : y = n
    · subst q
      have hne : y ≠ x := fun e => hn.1 (e ▸ List.mem_of_getElem? h)
      simp [fieldOf, hne]
    · have : (y == n) = false := by simpa using q
      simp only [fieldOf, List.cons_append, List.zip_cons_cons, List.lookup_cons, this] at ihy ⊢
      exact ihy
structure Fill (X : Wd) (fm : Fm) (κ φ : Part) (α : List Addr) (ρ : Env') (hp : Hp) (x d : Addr) (vs : List Value) (s : Shared) : Prop where
  self : φ x = some (instObj X.C d)
  ok : ∃ od, (∀ h : Heap, h.get? d = some od → h.Ns1 d (fieldOf X.fields vs)) ∧ FOk X fm (κ.put d od) φ α ρ hp s
  free : κ d = none ∧ d ∉ fm.caps
theorem Fill.store {mN : Str → Option Value} (K : ClsAt X mN) (W : fm.Wf X) {x d : Addr} {vs : List Value} (I : Fill X fm κ φ α ρ hp x d vs s) {name : Str} (hx : X.fields[vs.length]? = some name) {v : Value} {Q : Unit → Shared → Prop}
    (k : ∀ s', Fill X fm κ φ α ρ hp x d (vs ++ [v]) s' → Q () s') : Wp X fm (setAttr (.ref x) name v) Q s := by
  obtain ⟨hself, ⟨od, hod, F⟩, hκ, hcap⟩ := I
  obtain ⟨eD, hφD, hnD⟩ := F.putApart
  obtain ⟨cdt, hc⟩ := K.cls
  obtain ⟨hC, hN⟩ := hc s.heap F.H.baseIn
  have hfx := K.fields name (List.mem_of_getElem? hx)
  have hga := F.H.froz _ _ hself
  have hns := hod _ eD
  have hdx : d ≠ x := fun e => by rw [e, hself] at hφD; cases hφD
  have hxC : x ≠ X.C := by
    rintro rfl
    rw [hC] at hga; cases hga
  have I : s.heap.Inst x X.C (fieldOf X.fields vs) := ⟨_, hga, rfl, plain_cls, .inr ⟨d, rfl, hdx, hns⟩⟩
  obtain ⟨h0, g0, d0, t0, os0⟩ := s
  refine store_attr (ns := X.fields) PySem.F.store_object hC hN K.sa hfx.1 hfx.2 hxC I (fun h' tk' I' hk hsame => ?_) (fun y hy => ?_) (Nat.le_trans K.few (by rw [sizeLine_eq]; decide))
  · obtain ⟨o₁, e₁, c1, c2, c3, c4⟩ := hsame _ hga
    have : o₁ = instObj X.C d := by
      obtain ⟨b1, b2, b3, b4⟩ := o₁
      have := c4 d rfl
      simp only at c1 c2 c3 this
      subst c1; subst c2; subst c3; subst this; rfl
    subst this
    obtain ⟨o₂, e₂, _, _, I'⟩ := I'
    rw [e₁] at e₂; cases e₂
    rcases I' with ⟨hno, _⟩ | ⟨d', hd', _, hns'⟩
    · cases hno
    · cases hd'
      rw [← fieldOf_snoc K.nodup hx] at hns'
      obtain ⟨od', es, ep, e', rest⟩ := hns'
      have F' := F.lessK W hκ hcap (h' := h') (fun b ob hb hg => by
        by_cases hba : b = x
        · subst hba; rw [hga] at hg; cases hg; exact e₁
        · exact hk b ob hba (fun o₀ dx h1 h2 => by rw [hga] at h1; cases h1; cases h2; exact hb) hg) tk'
      exact k _ ⟨hself, ⟨od', fun h e => ⟨od', es, ep, e, rest⟩, F'.addK e' hκ hφD hnD⟩, hκ, hcap⟩
  · by_cases q : y ∈ X.fields
    · exact q
    · exact absurd (fieldOf_none q) hy
theorem Fill.stmt {mN : Str → Option Value} (K : ClsAt X mN) (W : fm.Wf X) {x d : Addr} {vs : List Value} (I : Fill X fm κ φ α ρ hp x d vs s) {name self : Str} (hx : X.fields[vs.length]? = some name) {e : Expr} {me : ME} {ap np pos : Pos} (S : SE X G fm e me) {av : AV} (he : evE G me ρ hp = some (av, hp'))
    {i : Nat} (hs : fm.names[i]? = some self) (hρ : ρ[i]? = some (some (.cst (.ref x)))) (hd : (self == ("__debug__" : Str)) = false) (hcomp : notComp e = true) {Q : Flow → Shared → Prop}
    (k : ∀ β ψ v s', α <+: β → φ.le ψ → Rep X β ψ v av → Fill X fm κ ψ β ρ hp' x d (vs ++ [v]) s' → Q .next s') : Wp X fm (exec (.Assign [.Attribute (.Name self np) name ap] e pos) fm.env) Q s := by
  obtain ⟨hself, ⟨od, hod, F⟩, hκ, hcap⟩ := I
  refine plainObj_wpAny_Assign_Attribute (S.andThen he F fun β ψ v s₁ hα hφ F₁ r₁ => ?_) (swaps_no hcomp _ _ _)
  refine wpAny_Name (load_at W F₁ hs hρ fun w rw => ?_) hd
  obtain rfl := rw.inv_cst
  exact Fill.store K W ⟨hφ _ _ hself, ⟨od, hod, F₁⟩, hκ, hcap⟩ hx fun s' I' => k β ψ v s' hα hφ r₁ I'
end
end Mine
end
section
namespace Mine
open PySem PyProof.Rows PySem.W
theorem weight_tc (C : Addr) (v : Value) : (Code.builtin "type.__call__" ⟨[.ref C, v], []⟩).weight ≤ 1 := by
  first
    | exact Nat.le_of_ble_eq_true rfl
    | exact Nat.le_of_ble_eq_true (by kernel_rfl)
theorem units_tc (C : Addr) (v : Value) : (Code.builtin "type.__call__" ⟨[.ref C, v], []⟩).cUnits ≤ 1 := by
  first
    | exact Nat.le_of_ble_eq_true rfl
    | exact Nat.le_of_ble_eq_true (by kernel_rfl)
theorem Room.under {A : Around} {n : Nat} (R : Room A (n + 1)) {c : Code} (h : c.weight ≤ 1) (hu : c.cUnits ≤ 1) : Room (A.under c) n := by
  obtain ⟨h1, h2, h3⟩ := R
  refine ⟨h1, ?_, ?_⟩
  · show A.depth + c.weight + n < 900; lia
  · show A.units + c.cUnits + 20 * n < 9000; lia
noncomputable def wsL : List Nat := [10, 9, 13, 32]
inductive InitEq (body : List Stmt) : Prop
  | mk (p1 p2 p3 p4 p5 p6 p7 p8 p9 p10 p11 p12 p13 p14 p15 p16 : Pos) (k1 k2 : Nat) : body = [
    .Assign [.Attribute (.Name "self" p1) "lineno" p2] (.Constant (.int 1) k1 p3) p4,
    .Assign [.Attribute (.Name "self" p5) "instream" p6] (.Name "fp" p7) p8,
    .Assign [.Attribute (.Name "self" p9) "whitespace" p10] (.Constant (.str "\n\t\r ") k2 p11) p12,
    .Assign [.Attribute (.Name "self" p13) "pushback" p14] (.List [] p15) p16] → InitEq body
structure InitBody (body : List Stmt) : Prop where
  eq : InitEq body
section
variable {X : Wd} {G : Gl} {fm : Fm} {κ φ ψ : Part} {α β : List Addr} {ρ ρ' : Env'} {hp hp' : Hp} {s : Shared}
theorem ns1_empty {h : Heap} {d : Addr} (e : h.get? d = some emptyDict) : h.Ns1 d (fun _ => none) :=
  Heap.Ns1.of_empty ⟨emptyDict, #[], _, e, rfl, fun x hx => by simp at hx, fun _ => rfl⟩
theorem fieldOf_nil (names : List Str) : fieldOf names [] = fun _ => none := by
  funext x; simp [fieldOf]
theorem cls_call (G : Gl) {K : Frag} {fI : Addr} {mN : Str → Option Value} (CK : ClsK X K fI) (KA : ClsAt X mN) (hf : X.fields = ([("lineno" : Str), "instream", "whitespace", "pushback"] : List Str)) {fd : FuncData} {body : List Stmt} {d : FnDef} (KI : FnOk X fI fd body d) (hd : d.names = ([("self" : Str), "fp"] : List Str)) (hnp : d.np = 2)
    (hb : InitBody body) {n : Nat} {A : Around} (R : Room A (n + 2)) {v : Value} {t : Nat} (H : HOk X [] κ φ α hp s) (r : Rep X α φ v (.stm t)) :
    codeAny (model X.prog X.w) A (.call (.ref X.C) ⟨[v], []⟩) (PC X κ φ α (hp ++ [.list [], .dict [.int 1, .stm t, .str wsL, .ref hp.length]]) (.inst (hp.length + 1))) s := by
  obtain ⟨h0, g0, d0, t0, os0⟩ := s
  have KIn := CK.inK h0 H.baseIn
  refine make_core (makes_of KIn CK.makes) (looks_findIn KIn CK.init) (fun self => bind_fn KIn self CK.fn) (.inl rfl) ?_
  generalize hD : h0.objs.size = dA
  generalize hX : dA + 1 = xA
  have hsz : (h0.push emptyDict).objs.size = xA := by rw [Heap.size_push, hD, hX]
  have ext : Ext h0 ((h0.push emptyDict).push (instObj X.C dA)) := fun b o e => Heap.get?_push_of_some _ (Heap.get?_push_of_some _ e)
  have H1 := H.grow ext t0
  have ed : ((h0.push emptyDict).push (instObj X.C dA)).get? dA = some emptyDict := Heap.get?_push_of_some _ (by rw [← hD]; exact Heap.get?_push_size _ rfl)
  have ex : ((h0.push emptyDict).push (instObj X.C dA)).get? xA = some (instObj X.C dA) := by rw [← hsz]; exact Heap.get?_push_size _ rfl
  have none_of : ∀ a, dA ≤ a → h0.get? a = none := fun a ha => by
    cases e : h0.get? a with
    | none => rfl
    | some o => exact absurd (Heap.lt_size e) (by rw [hD]; exact Nat.not_lt.mpr ha)
  have fD := H.fresh (none_of dA (Nat.le_refl _))
  have fX := H.fresh (none_of xA (by rw [← hX]; exact Nat.le_succ _))
  have hne : dA ≠ xA := by rw [← hX]; exact (Nat.succ_ne_self _).symm
  have H2 := H1.freeze ex fX.1 fX.2.1 fX.2.2
  have hle : φ.le (φ.put xA (instObj X.C dA)) := Part.le_put fX.2.1
  have fD' : (φ.put xA (instObj X.C dA)) dA = none := by rw [Part.put_ne _ _ hne]; exact fD.2.1
  have H3 := H2.addK ed fD.1 fD' fD.2.2
  refine codeAny_mono (fn_enter (args := [.cst (.ref xA), .stm t]) KI (by rw [hnp]; rfl) (Room.under R (weight_tc _ _) (units_tc _ _)) H3 (.cons (.cst _) (.cons (r.mono (List.prefix_refl _) hle) .nil)) (Rp := InitBack xA (PC X κ φ α (hp ++ [.list [], .dict [.int 1, .stm t, .str wsL, .ref hp.length]]) (.inst (hp.length + 1)))) fun L s₁ Rm W F => ?_) fun _ _ z => z
  obtain ⟨p1, p2, p3, p4, p5, p6, p7, p8, p9, p10, p11, p12, p13, p14, p15, p16, k1, k2, rfl⟩ := hb.eq
  generalize hfm : fmOf fd d fI L (A.under (.builtin "type.__call__" ⟨[.ref X.C, v], []⟩)) = fm at *
  have e0 : fm.names[0]? = some ("self" : Str) := by rw [← hfm]; show d.names[0]? = _; rw [hd]; rfl
  have e1 : fm.names[1]? = some ("fp" : Str) := by rw [← hfm]; show d.names[1]? = _; rw [hd]; rfl
  have hρ : (([.cst (.ref xA), .stm t] : List AV).map some ++ List.replicate (d.names.length - d.np) none) = ([some (.cst (.ref xA)), some (.stm t)] : Env') := by
    rw [hd, hnp]; rfl
  have hρ' := hρ
  have Fl : Fill X fm κ (φ.put xA (instObj X.C dA)) α [some (.cst (.ref xA)), some (.stm t)] hp xA dA [] s₁ := by
    refine ⟨Part.put_self _ _ _, ⟨emptyDict, fun h e => by rw [fieldOf_nil]; exact ns1_empty e, ?_⟩, fD.1, by rw [← hfm]; exact fun h => nomatch h⟩
    rw [← hρ]; exact F
  refine wpAny_execs_cons (Fill.stmt (G := G) (hp' := hp) (me := .int 1) (av := .int 1) (i := 0) KA W Fl (by rw [hf]; rfl) (se_int W) rfl e0 rfl (by decide) rfl fun β1 ψ1 v1 s2 q1 q2 r1 F1 => ?_)
  refine wpAny_execs_cons (Fill.stmt (G := G) (hp' := hp) (me := .var 1) (av := .stm t) (i := 0) KA W F1 (by rw [hf]; rfl) (se_var W e1 (by decide)) rfl e0 rfl (by decide) rfl fun β2 ψ2 v2 s3 q3 q4 r2 F2 => ?_)
  refine wpAny_execs_cons (Fill.stmt (G := G) (hp' := hp) (me := .str (Str.ofString "\n\t\r ").cps.toList) (av := .str wsL) (i := 0) KA W F2 (by rw [hf]; rfl) (se_str W) (congrArg (fun x => some (AV.str x, hp)) (show (Str.ofString "\n\t\r ").cps.toList = wsL by decide +kernel)) e0 rfl (by decide) rfl fun β3 ψ3 v3 s4 q5 q6 r3 F3 => ?_)
  refine wpAny_execs_cons (Fill.stmt (G := G) (hp' := hp ++ [.list []]) (me := .mut (.lDisp [])) (av := .ref hp.length) (i := 0) KA W F3 (by rw [hf]; rfl) (se_mut W (sl_disp W ses_nil)) rfl e0 rfl (by decide) rfl fun β4 ψ4 v4 s5 q7 q8 r4 F4 => ?_)
  refine wpAny_execs_nil ⟨rfl, ?_⟩
  obtain ⟨hself, ⟨od, hod, F5⟩, hκ, hcap⟩ := F4
  obtain ⟨eD, hφD, hnD⟩ := F5.putApart
  have H5 := (F5.H.noOwn).subK (Part.le_put hκ)
  have hnD' : dA ∉ X.P :: ([] ++ β4) := fun q => hnD (by
    rcases List.mem_cons.mp q with q | q
    · exact q ▸ List.mem_cons_self
    · exact List.mem_cons_of_mem _ (List.mem_append_right _ q))
  have all : RepAll X (β4 ++ [dA]) ψ4 ([v1] ++ [v2] ++ [v3] ++ [v4]) [.int 1, .stm t, .str wsL, .ref hp.length] :=
    .cons (r1.mono (q3.trans (q5.trans (q7.trans (List.prefix_append _ _)))) (Part.le_trans q4 (Part.le_trans q6 q8))) (.cons (r2.mono (q5.trans (q7.trans (List.prefix_append _ _))) (Part.le_trans q6 q8))
      (.cons (r3.mono (q7.trans (List.prefix_append _ _)) q8) (.cons (r4.mono (List.prefix_append _ _) (Part.le_refl _)) .nil)))
  have H6 := H5.newTag (x := .dict [.int 1, .stm t, .str wsL, .ref hp.length]) (.dict (hod _ eD) all) hκ hφD hnD'
  refine ⟨.ref xA, β4 ++ [dA], ψ4, rfl, (q1.trans (q3.trans (q5.trans q7))).trans (List.prefix_append _ _), Part.le_trans hle (Part.le_trans q2 (Part.le_trans q4 (Part.le_trans q6 q8))), ?_, ?_⟩
  · rw [show hp ++ [AO.list [], AO.dict [AV.int 1, AV.stm t, AV.str wsL, AV.ref hp.length]] = (hp ++ [AO.list []]) ++ [AO.dict [AV.int 1, AV.stm t, AV.str wsL, AV.ref hp.length]] by simp]
    exact H6
  · refine .inst hself rfl rfl plain_cls ?_
    have : β4.length = hp.length + 1 := by rw [H5.len]; simp
    rw [← this, List.getElem?_append_right (Nat.le_refl _)]; simp
end
end Mine
end
section
namespace Mine
open PySem PyProof.Rows
open Builtin Builtin.ObjectAttr
theorem slot_fn_sa : Slot "function" "__setattr__" "object.__setattr__" :=
  .of (owner := "object") (n := "__setattr__") (by rw [typeLookup_type, builtinLookup_eq_fast]; kernel_rfl) (by decide +kernel) (by decide +kernel) (by decide +kernel)
    (by first | exact .inl (by decide +kernel) | exact .inr (by decide +kernel)) (by rw [isSubtype_type]; kernel_rfl)
theorem entry_obj_sa : entryFor table "object.__setattr__" = some Builtin.«object.__setattr__» := entryFor_of_tree (by kernel_rfl)
theorem args_obj_sa (a b c : Value) : argsOk "object.__setattr__" ⟨[a, b, c], []⟩ := by unfold argsOk; kernel_rfl
theorem mro_fn : mroOf (.type "function") = pure [.type "function", .type "object"] := by kernel_rfl
theorem passes_fn (self : Value) : refuseLoop self "__setattr__" [.type "function", .type "object"] = pure () := by kernel_rfl
section
variable {prog : Program} {w : World} {A : Around} {E : Value → Shared → Prop} {h : Heap} {g : Array GenState} {d : Drawn} {t : Nat} {os : OsState} {x : Addr} {o : Obj} {v : Value}
theorem fn_store_entry {tk : Tok} {Q : Fin → Shared → Prop} (hx : h.get? x = some o) (hc : o.cls = .type "function") (hdn : o.dict = none) (hnc : ∀ c, o.data ≠ .cls c)
    (hq : ∀ h' tk' oD, h'.get? h.objs.size = some oD → (∀ h'' : Heap, h''.get? h.objs.size = some oD → h''.Ns h.objs.size (fun y => if y = "read" then some v else none)) → h'.get? x = some { o with dict := some h.objs.size } →
      (∀ b ob, b ≠ x → h.get? b = some ob → h'.get? b = some ob) → Q (.done (.ret .none)) ⟨h', g, d, tk', os⟩) :
    wpAny (model prog w) A (Builtin.«object.__setattr__» ⟨[.ref x, .str "read" tk, v], []⟩) Q E ⟨h, g, d, t, os⟩ := by
  have hT : (⟨h, g, d, t, os⟩ : Shared).TypeIs (.ref x) "function" := ⟨_, hx, hc⟩
  have f3 := lk_fn_read
  have f4 := mro_fn
  have f5 := passes_fn (.ref x)
  unfold Builtin.«object.__setattr__»
  repeat (any_goals (first | assumption | rw [refuse_eq] | (rw [f4]) | (rw [f5]) | wp_step))
  rw [hc, hdn]
  dsimp only
  rw [if_neg (by decide)]
  split
  · rename_i c hcd
    exact absurd hcd (hnc c)
  have hx₁ : (h.push { cls := .type "dict", data := .dict #[] }).get? x = some o := Heap.get?_push_of_some _ hx
  have hxs : x ≠ h.objs.size := Nat.ne_of_lt (Heap.lt_size hx)
  refine wpAny_bind (wpAny_alloc' ?_)
  refine wpAny_bind (wpAny_update' hx₁ ?_)
  refine wpAny_pure ?_
  have hgd : ((h.push { cls := .type "dict", data := .dict #[] }).update x fun o => { cls := o.cls, dict := some h.objs.size, data := o.data, slots := o.slots }).get? h.objs.size
      = some { cls := .type "dict", data := .dict #[] } :=
    (Heap.get?_update_ne _ _ _ _ hxs.symm).trans (Heap.get?_push_at rfl rfl)
  have hnd : ((h.push { cls := .type "dict", data := .dict #[] }).update x fun o => { cls := o.cls, dict := some h.objs.size, data := o.data, slots := o.slots }).Ns h.objs.size (fun _ => none) :=
    ⟨_, #[], _, hgd, rfl, fun e he => absurd he (by simp), fun _ => rfl⟩
  show wpAny _ _ (storeInDict h.objs.size (.str "read" tk) "read" v) _ _ _
  unfold storeInDict newKeyGuard
  refine wpAny_bind (wpAny_pure (wpAny_bind (wpAny_nsSet1 (Heap.Ns1.of_empty hnd) fun h' hn' hs => ?_)))
  obtain ⟨oD, esD, epD, hoD, hdD, hcD⟩ := hn'.count (Within.cons ("read" : Str) v Within.nil)
  refine wpAny_bind (wpAny_lookBehind hoD (by rw [hdD]; exact pastItsLine_dict (Nat.le_trans hcD (by rw [List.length_cons, List.length_nil, sizeLine_eq]; lia))) ?_)
  wp_walk
  obtain ⟨o', es, ep, e1, e2, e3, eu, e4⟩ := hn'
  refine hq h' _ o' e1 (fun h'' e => ⟨o', es, ep, e, e2, e3, e4⟩) ?_ (fun b ob hbx hb => ?_)
  · refine (hs.2 x hxs).trans (Heap.get?_update_self _ hx₁ ?_)
    have hfr := (Heap.get?_some_iff.mp hx).2
    obtain ⟨oc, od, odt, osl⟩ := o
    cases odt <;> first | rfl | exact hfr
  · exact (hs.2 b (Nat.ne_of_lt (Heap.lt_size hb))).trans ((Heap.get?_update_ne _ _ _ _ hbx).trans (Heap.get?_push_of_some _ hb))
theorem setAttr_fn {Q : Unit → Shared → Prop} (hx : h.get? x = some o) (hc : o.cls = .type "function") (hdn : o.dict = none) (hnc : ∀ c, o.data ≠ .cls c)
    (hq : ∀ h' tk' oD, h'.get? h.objs.size = some oD → (∀ h'' : Heap, h''.get? h.objs.size = some oD → h''.Ns h.objs.size (fun y => if y = "read" then some v else none)) → h'.get? x = some { o with dict := some h.objs.size } →
      (∀ b ob, b ≠ x → h.get? b = some ob → h'.get? b = some ob) → Q () ⟨h', g, d, tk', os⟩) :
    wpAny (model prog w) A (setAttr (.ref x) "read" v) Q E ⟨h, g, d, t, os⟩ := by
  have hT : (⟨h, g, d, t, os⟩ : Shared).TypeIs (.ref x) "function" := ⟨_, hx, hc⟩
  have hT1 : (⟨h, g, d, t + 1, os⟩ : Shared).TypeIs (.ref x) "function" := ⟨_, hx, hc⟩
  have f1 := slot_fn_sa.lookup
  have f4 := slot_fn_sa.bind (.ref x)
  unfold setAttr callSpecial? specialOf
  repeat (any_goals (first | assumption | wp_step))
  refine codeAny_call_builtin slot_fn_sa.plain entry_obj_sa (slot_fn_sa.check _ _ _ _ _ _ _ _ hT1 (args_obj_sa _ _ _) (fn_store_entry hx hc hdn hnc fun h' tk' oD e1 e2 e3 e4 => ?_))
  repeat (any_goals (first | assumption | wp_step))
  exact hq h' tk' oD e1 e2 e3 e4
end
end Mine
end
section
namespace Mine
open PySem PyProof.Rows PySem.W
theorem codeAmong_snoc_ne {p1 : Pos} {a b : Int} {c : Value} (l : List Value) (h : TriplesOk l) (hn : ¬ (a = (p1.line : Int) ∧ b = (p1.col : Int))) : codeAmong p1 (l ++ [rawInt a, rawInt b, c]) = codeAmong p1 l := by
  fun_induction TriplesOk l with
  | case1 =>
    simp only [List.nil_append, codeAmong, rawInt]
    rw [if_neg]
    intro q
    simp only [Bool.and_eq_true, beq_iff_eq] at q
    exact hn q
  | case2 a' t b' u x rest ih =>
    simp only [List.cons_append, codeAmong]
    split
    · rfl
    · exact ih h
  | case3 l h1 h2 => exact h.elim
noncomputable def Recd (φ : Part) (cv : Value) (q : Str) : Prop := ∃ c o vs t, cv = .ref c ∧ φ c = some o ∧ o.data = .fields vs ∧ vs[1]? = some (.str q t)
theorem Recd.mono {φ ψ : Part} {cv : Value} {q : Str} (h : φ.le ψ) : Recd φ cv q → Recd ψ cv q := fun ⟨c, o, vs, t, e1, e2, e3, e4⟩ => ⟨c, o, vs, t, e1, h _ _ e2, e3, e4⟩
noncomputable def TabInv (p1 : Pos) (q1 : Str) (φ : Part) (o : Obj) : Prop := ∃ ps, o = tabObj ps ∧ TriplesOk ps.toList ∧ ∀ cv, codeAmong p1 ps.toList = some cv → Recd φ cv q1
theorem TabInv.mono {p1 : Pos} {q1 : Str} (φ ψ : Part) (o : Obj) (h : φ.le ψ) : TabInv p1 q1 φ o → TabInv p1 q1 ψ o := fun ⟨ps, e1, e2, e3⟩ => ⟨ps, e1, e2, fun cv hc => (e3 cv hc).mono h⟩
structure MkOk (X : Wd) (c : Addr) (p1 : Pos) (q1 : Str) : Prop where
  tabP : X.TabP = TabInv p1 q1
  env : ∃ mg, ∀ h : Heap, (∀ a o, X.base a = some o → h.get? a = some o) → h.Ns mainGlobals mg ∧ CodeHd h c X.P ∧ h.BuiltinsAt mg X.P
  ne : mainGlobals ≠ X.P
section
variable {X : Wd} {G : Gl} {fm : Fm} {κ φ ψ : Part} {α β : List Addr} {ρ ρ' : Env'} {hp hp' : Hp} {s : Shared}
theorem HOk.setTab {own : List Addr} (H : HOk X own κ φ α hp s) {h' : Heap} {c' : Addr} {oc oP : Obj} (hs : ∀ b o, b ≠ X.P → s.heap.get? b = some o → h'.get? b = some o) (hc : h'.get? c' = some oc) (hn : s.heap.get? c' = none) (hP : h'.get? X.P = some oP) (hT : X.TabP (φ.put c' oc) oP) (tk : Nat) :
    HOk X own κ (φ.put c' oc) α hp { s with heap := h', toks := tk } := by
  obtain ⟨f1, f2, f3⟩ := H.fresh hn
  have hnd := H.nodup
  rw [List.nodup_cons] at hnd
  have nP : ∀ a, κ a ≠ none ∨ φ a ≠ none → a ≠ X.P := fun a ha => by
    rintro rfl
    have := H.apart X.P List.mem_cons_self
    rcases ha with ha | ha
    · exact ha this.1
    · exact ha this.2
  refine ⟨H.gens, H.drawn, H.os, Part.le_trans H.base (Part.le_put f2), fun a o k => hs a o (nP a (.inl (by rw [k]; nofun))) (H.kept a o k), fun a o k => ?_, ⟨oP, hP, hT⟩, fun a ha => ?_, H.len, fun t x k => ?_, H.nodup, fun a ha => ⟨(H.apart a ha).1, ?_⟩, fun a o k => ?_⟩
  · by_cases q : a = c'
    · subst q; rw [Part.put_self] at k; cases k; exact hc
    · rw [Part.put_ne _ _ q] at k; exact hs a o (nP a (.inr (by rw [k]; nofun))) (H.froz a o k)
  · obtain ⟨o, e⟩ := H.ownIn a ha
    exact ⟨o, hs a o (fun q => hnd.1 (q ▸ List.mem_append_left _ ha)) e⟩
  · obtain ⟨a, ha, r⟩ := H.obj t x k
    refine ⟨a, ha, r.mono (List.prefix_refl _) (Part.le_put f2) fun o z => hs a o (fun q => hnd.1 (q ▸ List.mem_append_right _ (List.mem_of_getElem? ha))) z⟩
  · have q : a ≠ c' := fun q => f3 (q ▸ ha)
    rw [Part.put_ne _ _ q]; exact (H.apart a ha).2
  · have q : a ≠ c' := by rintro rfl; rw [f1] at k; cases k
    rw [Part.put_ne _ _ q]; exact H.disj a o k
theorem FOk.setTab (F : FOk X fm κ φ α ρ hp s) (W : fm.Wf X) {h' : Heap} {c' : Addr} {oc oP : Obj} (hs : ∀ b o, b ≠ X.P → s.heap.get? b = some o → h'.get? b = some o) (hc : h'.get? c' = some oc) (hn : s.heap.get? c' = none) (hP : h'.get? X.P = some oP) (hT : X.TabP (φ.put c' oc) oP) (tk : Nat) :
    FOk X fm κ (φ.put c' oc) α ρ hp { s with heap := h', toks := tk } := by
  obtain ⟨f1, f2, f3⟩ := F.H.fresh hn
  refine ⟨F.H.setTab hs hc hn hP hT tk, F.L.keeps W (List.prefix_refl _) (Part.le_put f2) fun a o hac e => hs a o ?_ e⟩
  rintro rfl
  have hnd := F.H.nodup
  rw [List.nodup_cons] at hnd
  have ap := F.H.apart X.P List.mem_cons_self
  rcases hac with hac | hac
  · exact hnd.1 (List.mem_append_left _ hac)
  · rcases F.L.capsIn _ hac with ⟨o', q⟩ | ⟨o', q⟩
    · rw [ap.1] at q; cases q
    · rw [ap.2] at q; cases q
theorem fresh_at (F : FOk X fm κ φ α ρ hp s) {a : Addr} (h : s.heap.objs.size ≤ a) : κ a = none ∧ φ a = none ∧ a ∉ X.P :: (fm.own ++ α) := F.H.fresh (by
  cases e : s.heap.get? a with
  | none => rfl
  | some o => exact absurd (Heap.lt_size e) (Nat.not_lt.mpr h))
noncomputable def PFn (X : Wd) (fm : Fm) (κ φ : Part) (α : List Addr) (ρ : Env') (hp : Hp) (P : Part → FuncData → Prop) (v : Value) (s' : Shared) : Prop :=
  ∃ ψ f fd, v = .ref f ∧ φ.le ψ ∧ FOk X fm κ ψ α ρ hp s' ∧ s'.heap.get? f = some { cls := .type "function", data := .func fd } ∧ κ f = none ∧ ψ f = none ∧ f ∉ X.P :: (fm.own ++ α) ∧ P ψ fd
theorem make_def {c : Addr} {p1 : Pos} {q1 : Str} (K : MkOk X c p1 q1) (W : fm.Wf X) (hcode : fm.env.code = .ref c) (F : FOk X fm κ φ α ρ hp s) {name : Str} {params : Arguments} {body : List Stmt} {scope : Scope} {fl : Nat} {clos : List (Str × Addr)} (hcl : closureFor scope fm.env = pure clos) :
    Wp X fm (makeFunction name q1 params (.stmts body) scope fm.env [] [] [] p1 fl) (PFn X fm κ φ α ρ hp fun ψ fd => ∃ doc pm cv ctv, fd = fnX name q1 params body scope clos .none .none doc pm none cv ctv ∧ Recd ψ cv q1) s := by
  obtain ⟨mg, hmg⟩ := K.env
  obtain ⟨g1, g2, g3⟩ := hmg s.heap F.H.baseIn
  obtain ⟨oP, hP, hT⟩ := F.H.tab
  rw [K.tabP] at hT
  obtain ⟨ps, rfl, ht, hk⟩ := id hT
  cases hf : codeAmong p1 ps.toList with
  | some cv =>
    refine makeFunction_hit (mg := mg) hcl W.globals g1 hcode g2 hP ht hf g3 fun ctv doc h' tk hk' hsz => ?_
    have F₁ := F.grow W hk' tk
    have fr := fresh_at F (a := h'.objs.size) hsz
    refine ⟨φ, _, _, rfl, Part.le_refl _, F₁.grow W (Ext.push h' _) tk, Heap.get?_push_size _ rfl, fr.1, fr.2.1, fr.2.2, ⟨doc, _, cv, ctv, rfl, hk cv hf⟩⟩
  | none =>
    refine makeFunction_K (mg := mg) hcl W.globals g1 hcode g2 hP ht hf K.ne g3 fun c' ctv doc h' tk hx hge hlt hrec hP' => ?_
    have hn : s.heap.get? c' = none := by
      cases e : s.heap.get? c' with
      | none => rfl
      | some o => exact absurd (Heap.lt_size e) (Nat.not_lt.mpr hge)
    obtain ⟨c₂, oc, vs, t, e2, hoc, hd, hv⟩ := hrec
    cases e2
    have rc : Recd (φ.put c' oc) (.ref c') q1 := ⟨c', oc, vs, t, rfl, Part.put_self _ _ _, hd, hv⟩
    have hl : (ps ++ #[rawInt p1.line, rawInt p1.col, Value.ref c']).toList = ps.toList ++ [rawInt p1.line, rawInt p1.col, .ref c'] := by simp
    have hT' : X.TabP (φ.put c' oc) (tabObj (ps ++ #[rawInt p1.line, rawInt p1.col, .ref c'])) := by
      rw [K.tabP]
      refine ⟨_, rfl, by rw [hl]; exact TriplesOk_snoc _ _ _ _ ht, fun cv hcv => ?_⟩
      rw [hl, codeAmong_snoc _ ht hf] at hcv
      cases hcv; exact rc
    have F₁ := F.setTab W (fun b o hb e => hx b o hb e) hoc hn hP' hT' tk
    have hsz : s.heap.objs.size ≤ h'.objs.size := Nat.le_trans hge (Nat.le_of_lt hlt)
    have fr := fresh_at F (a := h'.objs.size) hsz
    have hcf : h'.objs.size ≠ c' := Nat.ne_of_gt hlt
    refine ⟨φ.put c' oc, _, _, rfl, Part.le_put (fresh_at F hge).2.1, F₁.grow W (Ext.push h' _) tk, Heap.get?_push_size _ rfl, fr.1, by rw [Part.put_ne _ _ hcf]; exact fr.2.1, fr.2.2, ⟨doc, _, .ref c', ctv, rfl, rc⟩⟩
theorem make_lam {c : Addr} {p1 p2 : Pos} {q1 : Str} (K : MkOk X c p1 q1) (hne : ¬ ((p2.line : Int) = (p1.line : Int) ∧ (p2.col : Int) = (p1.col : Int))) (W : fm.Wf X) (hcode : fm.env.code = .ref c) (F : FOk X fm κ φ α ρ hp s) {name qual : Str} {params : Arguments} {body : Expr} {scope : Scope} {fl : Nat} {clos : List (Str × Addr)} (hcl : closureFor scope fm.env = pure clos) :
    Wp X fm (makeFunction name qual params (.expr body) scope fm.env [] [] [] p2 fl) (PFn X fm κ φ α ρ hp fun _ _ => True) s := by
  obtain ⟨mg, hmg⟩ := K.env
  obtain ⟨g1, g2, g3⟩ := hmg s.heap F.H.baseIn
  obtain ⟨oP, hP, hT⟩ := F.H.tab
  rw [K.tabP] at hT
  obtain ⟨ps, rfl, ht, hk⟩ := id hT
  cases hf : codeAmong p2 ps.toList with
  | some cv =>
    refine kla_makeFunctionHit (mg := mg) hcl W.globals g1 hcode g2 hP ht hf g3 fun ctv h' tk hk' hsz => ?_
    have F₁ := F.grow W hk' tk
    have fr := fresh_at F (a := h'.objs.size) hsz
    exact ⟨φ, _, _, rfl, Part.le_refl _, F₁.grow W (Ext.push h' _) tk, Heap.get?_push_size _ rfl, fr.1, fr.2.1, fr.2.2, trivial⟩
  | none =>
    refine kla_makeFunction (mg := mg) hcl W.globals g1 hcode g2 hP ht hf K.ne g3 fun c' ctv h' tk hx hge hlt hrec hP' => ?_
    have hn : s.heap.get? c' = none := by
      cases e : s.heap.get? c' with
      | none => rfl
      | some o => exact absurd (Heap.lt_size e) (Nat.not_lt.mpr hge)
    obtain ⟨c₂, oc, vs, t, e2, hoc, hd, hv⟩ := hrec
    cases e2
    have hle : φ.le (φ.put c' oc) := Part.le_put (fresh_at F hge).2.1
    have hl : (ps ++ #[rawInt p2.line, rawInt p2.col, Value.ref c']).toList = ps.toList ++ [rawInt p2.line, rawInt p2.col, .ref c'] := by simp
    have hT' : X.TabP (φ.put c' oc) (tabObj (ps ++ #[rawInt p2.line, rawInt p2.col, .ref c'])) := by
      rw [K.tabP]
      refine ⟨_, rfl, by rw [hl]; exact TriplesOk_snoc _ _ _ _ ht, fun cv hcv => ?_⟩
      rw [hl, codeAmong_snoc_ne _ ht hne] at hcv
      exact (hk cv hcv).mono hle
    have F₁ := F.setTab W (fun b o hb e => hx b o hb e) hoc hn hP' hT' tk
    have hsz : s.heap.objs.size ≤ h'.objs.size := Nat.le_trans hge (Nat.le_of_lt hlt)
    have fr := fresh_at F (a := h'.objs.size) hsz
    have hcf : h'.objs.size ≠ c' := Nat.ne_of_gt hlt
    exact ⟨φ.put c' oc, _, _, rfl, hle, F₁.grow W (Ext.push h' _) tk, Heap.get?_push_size _ rfl, fr.1, by rw [Part.put_ne _ _ hcf]; exact fr.2.1, fr.2.2, trivial⟩
end
end Mine
end
section
namespace Mine
open PySem PyProof.Rows PySem.W
theorem closure_one {scope : Scope} {env : Env} {x y : Str} {c : Addr} (hn : scope.names = [(x, .local), (y, .free)]) (hc : env.cells.lookup y = some c) : closureFor scope env = pure [(y, c)] := by
  unfold closureFor
  rw [hn]
  have : cellOf env y = (pure c : Sem Addr) := by unfold cellOf; rw [hc]
  simp [this]
theorem closure_nil {scope : Scope} {env : Env} (hn : scope.names = []) : closureFor scope env = pure [] := by
  unfold closureFor
  rw [hn]; rfl
inductive LexEq (body rb : List Stmt) (p1 : Pos) (q1 : Str) : Prop
  | mk (params : Arguments) (scope1 : Scope) (lp : Arguments) (lb : Expr) (lscope : Scope) (p2 : Pos) (a1 : Pos) (a2 : Pos) (a3 : Pos) (a4 : Pos) (a5 : Pos) (a6 : Pos) (a7 : Pos) (a8 : Pos) (a9 : Pos) (a10 : Pos) : (body = [
      .FunctionDef "_law_read" params rb [] none [] scope1 none "_law_read" p1,
      .Assign [.Name "stream" a1] (.Lambda lp lb lscope p2) a2,
      .Assign [.Attribute (.Name "stream" a3) "read" a4] (.Name "_law_read" a5) a6,
      .Return (some (.Call (.Name "_netrclex" a7) [.Name "stream" a8] [] a9)) a10]) → (params.defaults = []) → (params.kw_defaults = []) → ((∀ env, annTrees params none env = [])) → (scope1.names = ([(("size" : Str), NameKind.local), (("left" : Str), NameKind.free)] : List (Str × NameKind))) → (scope1.isCoroutine = false) → (scope1.isGenerator = false) → (scope1.kind = .function) → ((∀ env, defaultsOf lp env = ([], []))) → (lscope.names = []) → (¬ ((p2.line : Int) = (p1.line : Int) ∧ (p2.col : Int) = (p1.col : Int))) → ((∀ clos doc pm cv ctv v, bindArgs (fnX "_law_read" q1 params rb scope1 clos .none .none doc pm none cv ctv) ⟨[v], []⟩ = pure ([(("size" : Str), v)] : List (Str × Value)))) → LexEq body rb p1 q1
structure LexBody (c : Addr) (fd : FuncData) (body rb : List Stmt) (p1 : Pos) (q1 : Str) : Prop where
  eq : LexEq body rb p1 q1
  code : fd.code = .ref c
  qual : ∀ env : Env, env.scope = fd.scope → env.qual = fd.qualname ++ ".<locals>." → qualnameIn env "_law_read" "_law_read" = q1
  names : fd.scope.names.lookup ("left" : Str) = some .cell ∧ fd.scope.names.lookup ("_law_read" : Str) = some .local ∧ fd.scope.names.lookup ("stream" : Str) = some .local ∧ fd.scope.names.lookup ("_netrclex" : Str) = some .globalImplicit
section
variable {X : Wd} {G : Gl} {fm : Fm} {κ φ ψ : Part} {α β : List Addr} {ρ ρ' : Env'} {hp hp' : Hp} {s : Shared}
structure LexFm (fm : Fm) (c : Addr) (q1 : Str) : Prop where
  code : fm.env.code = .ref c
  qual : qualnameIn fm.env "_law_read" "_law_read" = q1
  k0 : fm.env.kindOf "left" = some .cell
  k1 : fm.env.kindOf "_law_read" = some .local
  k2 : fm.env.kindOf "stream" = some .local
  k3 : fm.env.kindOf "_netrclex" = some .globalImplicit
  caps : fm.caps = []
  e0 : fm.names[0]? = some ("left" : Str)
  e1 : fm.names[1]? = some ("_law_read" : Str)
  e2 : fm.names[2]? = some ("stream" : Str)
theorem lexFm {c fa L : Addr} {fd : FuncData} {body rb : List Stmt} {d : FnDef} {p1 : Pos} {q1 : Str} {A : Around} (hd : d.names = ([("left" : Str), "_law_read", "stream"] : List Str)) (LB : LexBody c fd body rb p1 q1) : LexFm (fmOf fd d fa L A) c q1 where
  code := LB.code
  qual := LB.qual _ rfl rfl
  k0 := LB.names.1
  k1 := LB.names.2.1
  k2 := LB.names.2.2.1
  k3 := LB.names.2.2.2
  caps := rfl
  e0 := by show d.names[0]? = _; rw [hd]; rfl
  e1 := by show d.names[1]? = _; rw [hd]; rfl
  e2 := by show d.names[2]? = _; rw [hd]; rfl
theorem LexFm.cell {c : Addr} {q1 : Str} (K : LexFm fm c q1) (F : FOk X fm κ φ α ρ hp s) : ∃ cl, fm.env.cells.lookup ("left" : Str) = some cl ∧ cl ∈ fm.own := by
  obtain ⟨cl, h1, h2, _⟩ := F.L.cells "left" K.k0
  rw [K.caps] at h2
  exact ⟨cl, h1, h2.resolve_right (fun h => nomatch h)⟩
inductive RdAt (X : Wd) (fm : Fm) (κ ψ2 : Part) (α : List Addr) (ρ : Env') (hp : Hp) (f1 f2 : Addr) (s6 : Shared) : Prop
  | mk (ψ4 : Part) (D : Addr) (oD o2 : Obj) : ψ2.le ψ4 → FOk X fm κ ψ4 α ρ hp s6 → ψ4 f2 = some o2 → ψ4 D = some oD → (∀ h : Heap, h.get? D = some oD → h.Ns D (fun y => if y = "read" then some (.ref f1) else none)) → o2.cls = .type "function" → o2.dict = some D → (∀ c, o2.data ≠ .cls c) → RdAt X fm κ ψ2 α ρ hp f1 f2 s6
theorem set_read (W : fm.Wf X) (hcaps : fm.caps = []) {f1 f2 : Addr} {fd2 : FuncData} (hκ2 : κ f2 = none) (hψ2 : φ f2 = none) (hn2 : f2 ∉ X.P :: (fm.own ++ α)) (F4 : FOk X fm (κ.put f2 { cls := .type "function", data := .func fd2 }) φ α ρ hp s) {Q : Unit → Shared → Prop}
    (hQ : ∀ s6, RdAt X fm κ φ α ρ hp f1 f2 s6 → Q () s6) : Wp X fm (setAttr (.ref f2) "read" (.ref f1)) Q s := by
  obtain ⟨g2', _, _⟩ := F4.putApart
  have frD := F4.H.fresh (fresh_size s.heap)
  obtain ⟨h5, gg5, d5, t5, os5⟩ := s
  refine setAttr_fn g2' rfl rfl func_cls fun h' tk' oD q1 q2 q3 q4 => hQ _ ?_
  have F5 := F4.lessK W hκ2 (by rw [hcaps]; exact fun h => nomatch h) (h' := h') (fun b x hb e => q4 b x hb e) tk'
  have hDf : h5.objs.size ≠ f2 := Nat.ne_of_gt (Heap.lt_size g2')
  have hκD : κ h5.objs.size = none := by
    have := frD.1
    rwa [Part.put_ne _ _ hDf] at this
  have hψD : (φ.put f2 { cls := Value.type "function", dict := some h5.objs.size, data := Data.func fd2 : Obj }) h5.objs.size = none := by rw [Part.put_ne _ _ hDf]; exact frD.2.1
  exact ⟨_, h5.objs.size, oD, _, Part.le_trans (Part.le_put hψ2) (Part.le_put hψD), (F5.freeze W (a := f2) q3 hκ2 hψ2 hn2).freeze W (a := h5.objs.size) q1 hκD hψD frD.2.2, by rw [Part.put_ne _ _ hDf.symm, Part.put_self], Part.put_self _ _ _, q2, rfl, rfl, func_cls⟩
inductive CellAt (X : Wd) (κ ψ : Part) (α : List Addr) (hp : Hp) (cl : Addr) (t : Nat) (s : Shared) : Prop
  | mk (l : Addr) (oc : Obj) : oc.data = .cell (some (.ref l)) → ψ.le (ψ.put cl oc) → HOk X [] κ (ψ.put cl oc) α hp s → α[t]? = some l → CellAt X κ ψ α hp cl t s
theorem cell_at {c cl : Addr} {q1 : Str} {t : Nat} {y z : Option AV} (K : LexFm fm c q1) (hcl : fm.env.cells.lookup ("left" : Str) = some cl) (hclo : cl ∈ fm.own) (F : FOk X fm κ ψ α [some (.ref t), y, z] hp s) : CellAt X κ ψ α hp cl t s := by
  obtain ⟨m, hm, lm⟩ := F.L.ns
  obtain ⟨lv, rl, atl⟩ := lm 0 "left" (.ref t) K.e0 rfl
  have hleft : ∃ ocl, s.heap.get? cl = some ocl ∧ ocl.data = .cell (some lv) := by
    rcases atl with ⟨k, _⟩ | ⟨c', _, hl, _, oc, ho, hd⟩
    · rw [K.k0] at k; cases k
    · rw [hcl] at hl; cases hl; exact ⟨oc, ho, hd⟩
  obtain ⟨ocl, hocl, hdcl⟩ := hleft
  obtain ⟨l, rfl, hat⟩ := rl.inv_ref
  have nd := F.H.nodup
  rw [List.nodup_cons, List.nodup_append] at nd
  have apc := F.H.apart cl (List.mem_cons_of_mem _ (List.mem_append_left _ hclo))
  have hcn : cl ∉ X.P :: ([] ++ α) := fun q => by
    rcases List.mem_cons.mp q with q | q
    · exact nd.1 (q ▸ List.mem_append_left _ hclo)
    · exact nd.2.2.2 cl hclo cl q rfl
  exact ⟨l, ocl, hdcl, Part.le_put apc.2, F.H.noOwn.freeze hocl apc.1 apc.2 hcn, hat⟩
theorem stm_at {χ : Part} {rb : List Stmt} {params : Arguments} {scope1 : Scope} {q1 : Str} {cl f1 f2 l D : Addr} {o2 oD ocl : Obj} {doc pm cv ctv : Value}
    (base : ∀ a o, X.base a = some o → χ a = some o) (hlim : ∀ h : Heap, (∀ a o, X.base a = some o → h.get? a = some o) → h.NoLimit)
    (y1 : χ f2 = some o2) (y2 : χ D = some oD) (x2 : ∀ h : Heap, h.get? D = some oD → h.Ns D (fun y => if y = "read" then some (.ref f1) else none)) (x4 : o2.cls = .type "function") (x5 : o2.dict = some D) (x6 : ∀ c, o2.data ≠ .cls c)
    (z1 : χ f1 = some { cls := .type "function", data := .func (fnX "_law_read" q1 params rb scope1 [(("left" : Str), cl)] .none .none doc pm none cv ctv) }) (hc : χ cl = some ocl) (hd : ocl.data = .cell (some (.ref l)))
    (hsn : scope1.names = ([(("size" : Str), NameKind.local), (("left" : Str), NameKind.free)] : List (Str × NameKind))) (hco : scope1.isCoroutine = false) (hgen : scope1.isGenerator = false) (hkd : scope1.kind = .function)
    (hbind : ∀ clos doc pm cv ctv v, bindArgs (fnX "_law_read" q1 params rb scope1 clos .none .none doc pm none cv ctv) ⟨[v], []⟩ = pure ([(("size" : Str), v)] : List (Str × Value))) (hrec : Recd χ cv q1) : StmAt rb χ f2 l := by
  obtain ⟨c1, oo1, vs, tt, rfl, w1, w2, w3⟩ := hrec
  exact ⟨o2, D, oD, _, f1, _, _, cl, ocl, y1, x4, x5, x6, y2, x2, if_pos rfl, z1, rfl, ⟨rfl, rfl, hsn, by decide, by decide, rfl, rfl, fun v => hbind _ _ _ _ _ v, hco, hgen, hkd⟩, hc, fun h e => ⟨ocl, e, hd⟩, fun h hfr => ⟨hlim h fun a o e => hfr a o (base a o e), ⟨c1, oo1, vs, tt, rfl, hfr _ _ w1, w2, w3⟩⟩⟩
theorem rd_def {c : Addr} {p1 : Pos} {q1 : Str} (MK : MkOk X c p1 q1) (LF : LexFm fm c q1) {params : Arguments} {rb rest : List Stmt} {scope1 : Scope} {cl : Addr} (hd0 : params.defaults = []) (hk0 : params.kw_defaults = []) (han : ∀ env, annTrees params none env = []) (hcl : closureFor scope1 fm.env = pure [(("left" : Str), cl)])
    (W : fm.Wf X) (F : FOk X fm κ φ α ρ hp s) {Q : Flow → Shared → Prop}
    (k : ∀ ψ f doc pm cv ctv s', φ.le ψ → ψ f = some { cls := .type "function", data := .func (fnX "_law_read" q1 params rb scope1 [(("left" : Str), cl)] .none .none doc pm none cv ctv) } → Recd ψ cv q1 → FOk X fm κ ψ α (setLoc ρ 1 (.cst (.ref f))) hp s' → Wp X fm (execs rest fm.env) Q s') :
    Wp X fm (execs (.FunctionDef "_law_read" params rb [] none [] scope1 none "_law_read" p1 :: rest) fm.env) Q s := by
  refine wpAny_execs_cons (nestDef_K hd0 hk0 (han _) ?_)
  rw [LF.qual]
  refine wpAny_mono (make_def MK W LF.code F hcl) (fun v1 s2 P => ?_) fun _ _ z => z.elim
  obtain ⟨ψ1, f1, fd1, rfl, hφ1, F1, g1, hκ1, hψ1, hn1, doc, pm, cv, ctv, rfl, hrec⟩ := P
  exact store_at W (F1.freeze W g1 hκ1 hψ1 hn1) LF.e1 (.cst (.ref f1)) (.inl LF.k1) fun s3 F2 => k _ f1 doc pm cv ctv s3 (Part.le_trans hφ1 (Part.le_put hψ1)) (Part.put_self _ _ _) (hrec.mono (Part.le_put hψ1)) F2
theorem rd_lam {c : Addr} {p1 : Pos} {q1 : Str} (MK : MkOk X c p1 q1) (LF : LexFm fm c q1) {lp : Arguments} {lb : Expr} {lscope : Scope} {rest : List Stmt} {p2 a1 a2 : Pos} (hdf : ∀ env, defaultsOf lp env = ([], [])) (hln : lscope.names = []) (hne : ¬ ((p2.line : Int) = (p1.line : Int) ∧ (p2.col : Int) = (p1.col : Int)))
    (W : fm.Wf X) (F : FOk X fm κ φ α ρ hp s) {Q : Flow → Shared → Prop}
    (k : ∀ ψ f fd s', φ.le ψ → κ f = none → ψ f = none → f ∉ X.P :: (fm.own ++ α) → FOk X fm (κ.put f { cls := .type "function", data := .func fd }) ψ α (setLoc ρ 2 (.cst (.ref f))) hp s' → Wp X fm (execs rest fm.env) Q s') :
    Wp X fm (execs (.Assign [.Name "stream" a1] (.Lambda lp lb lscope p2) a2 :: rest) fm.env) Q s := by
  refine wpAny_execs_cons (wpAny_Assign_Name (kla_eval (hdf _) (wpAny_mono (make_lam MK hne W LF.code F (closure_nil hln)) (fun v2 s4 P => ?_) fun _ _ z => z.elim)) (swaps_no rfl _ _ _))
  obtain ⟨ψ2, f2, fd2, rfl, hφ2, F3, g2, hκ2, hψ2, hn2, _⟩ := P
  exact store_at W (F3.addK g2 hκ2 hψ2 hn2) LF.e2 (.cst (.ref f2)) (.inl LF.k2) fun s5 F4 => k ψ2 f2 fd2 s5 hφ2 hκ2 hψ2 hn2 F4
theorem rd_attr {c f1 f2 : Addr} {q1 : Str} (LF : LexFm fm c q1) {fd2 : FuncData} {rest : List Stmt} {a3 a4 a5 a6 : Pos} (W : fm.Wf X) (h1 : ρ[1]? = some (some (.cst (.ref f1)))) (h2 : ρ[2]? = some (some (.cst (.ref f2)))) (hκ2 : κ f2 = none) (hψ2 : φ f2 = none) (hn2 : f2 ∉ X.P :: (fm.own ++ α)) (F4 : FOk X fm (κ.put f2 { cls := .type "function", data := .func fd2 }) φ α ρ hp s) {Q : Flow → Shared → Prop}
    (k : ∀ s6, RdAt X fm κ φ α ρ hp f1 f2 s6 → Wp X fm (execs rest fm.env) Q s6) : Wp X fm (execs (.Assign [.Attribute (.Name "stream" a3) "read" a4] (.Name "_law_read" a5) a6 :: rest) fm.env) Q s := by
  refine wpAny_execs_cons (plainObj_wpAny_Assign_Attribute (wpAny_Name (load_at W F4 LF.e1 h1 fun w1 rw1 => ?_) (by decide)) (swaps_no rfl _ _ _))
  obtain rfl := rw1.inv_cst
  refine wpAny_Name (load_at W F4 LF.e2 h2 fun w2 rw2 => ?_) (by decide)
  obtain rfl := rw2.inv_cst
  exact set_read W LF.caps hκ2 hψ2 hn2 F4 k
theorem rd_ret {K : Frag} {fI : Addr} (CK : ClsK X K fI) {c f2 : Addr} {q1 : Str} (LF : LexFm fm c q1) (gC : GlobOk X "_netrclex" (.ref X.C)) {rest : List Stmt} {a7 a8 a9 a10 : Pos} (W : fm.Wf X) (h2 : ρ[2]? = some (some (.cst (.ref f2)))) (F7 : FOk X fm κ φ α ρ hp s) {Rp : Result → Shared → Prop}
    (call : codeAny (model X.prog X.w) fm.A (.call (.ref X.C) ⟨[.ref f2], []⟩) (fun r s' => ∃ v', r = .ok (.ret v') ∧ Rp r s') s) :
    Wp X fm (execs (.Return (some (.Call (.Name "_netrclex" a7) [.Name "stream" a8] [] a9)) a10 :: rest) fm.env) (fun fl s' => Rp (.ok (.ret (match fl with | .ret v => v | _ => .none))) s') s := by
  refine wpAny_execs_cons (wpAny_Return_some ?_)
  show Wp X fm (do callWith a9 (← eval (.Name "_netrclex" a7) fm.env) [] (backTo a9 (starEach [.Name "stream" a8] fm.env)) (backToKw a9 (keywordEach [] fm.env))) _ s
  refine wpAny_bind (load_glob W gC LF.k3 (by decide) F7 (callWith_K (CK.inK _ F7.H.baseIn) CK.keep ?_))
  rw [star1 rfl]
  refine Calls.spliced_cons (wpAny_Name (load_at W F7 LF.e2 h2 fun w3 rw3 => ?_) (by decide))
  obtain rfl := rw3.inv_cst
  refine Calls.spliced_nil ⟨CK.inK _ F7.H.baseIn, wpAny_call (codeAny_mono call fun res s' P => ?_)⟩
  obtain ⟨v', rfl, h⟩ := P
  exact h
theorem lexer_body {K : Frag} {fI : Addr} (CK : ClsK X K fI) {c : Addr} {p1 : Pos} {q1 : Str} (MK : MkOk X c p1 q1) {body rb : List Stmt} (LF : LexFm fm c q1) (LE : LexEq body rb p1 q1) (hlim : ∀ h : Heap, (∀ a o, X.base a = some o → h.get? a = some o) → h.NoLimit)
    (hS : ∀ φ a l, StmAt rb φ a l → X.StmP φ a l) (gC : GlobOk X "_netrclex" (.ref X.C)) (W : fm.Wf X) {t : Nat} (F : FOk X fm κ φ α [some (.ref t), none, none] hp s) {Rp : Result → Shared → Prop}
    (call : ∀ χ v s', φ.le χ → HOk X [] κ χ α hp s' → Rep X α χ v (.stm t) → codeAny (model X.prog X.w) fm.A (.call (.ref X.C) ⟨[v], []⟩) (fun r s' => ∃ v', r = .ok (.ret v') ∧ Rp r s') s') :
    Wp X fm (execs body fm.env) (fun fl s' => Rp (.ok (.ret (match fl with | .ret v => v | _ => .none))) s') s := by
  obtain ⟨params, scope1, lp, lb, lscope, p2, a1, a2, a3, a4, a5, a6, a7, a8, a9, a10, rfl, hd0, hk0, han, hsn, hco, hgen, hkd, hdf, hln, hne, hbind⟩ := LE
  obtain ⟨cl, hcl, hclo⟩ := LF.cell F
  refine rd_def MK LF hd0 hk0 han (closure_one hsn hcl) W F fun ψ1 f1 doc pm cv ctv s3 hφ1 g1 hrec F2 => rd_lam MK LF hdf hln hne W F2 fun ψ2 f2 fd2 s5 hφ2 hκ2 hψ2 hn2 F4 => rd_attr LF W rfl rfl hκ2 hψ2 hn2 F4 fun s6 RA => ?_
  obtain ⟨ψ4, D, oD, o2, hle3, F7, y1, y2, x2, x4, x5, x6⟩ := RA
  obtain ⟨l, ocl, hdcl, hle4, H8, hat⟩ := cell_at LF hcl hclo F7
  have up2 := Part.le_trans hφ2 (Part.le_trans hle3 hle4)
  exact rd_ret CK LF gC W rfl F7 (call _ _ _ (Part.le_trans hφ1 up2) H8 (.stm (hS _ _ _ (stm_at H8.base hlim (hle4 _ _ y1) (hle4 _ _ y2) x2 x4 x5 x6 (up2 _ _ g1) (Part.put_self _ _ _) hdcl hsn hco hgen hkd hbind (hrec.mono up2))) hat))
theorem lexer_call (G : Gl) {K : Frag} {fI : Addr} {mN : Str → Option Value} (CK : ClsK X K fI) (KA : ClsAt X mN) (hf : X.fields = ([("lineno" : Str), "instream", "whitespace", "pushback"] : List Str)) {fdI : FuncData} {bodyI : List Stmt} {dI : FnDef} (KI : FnOk X fI fdI bodyI dI) (hdI : dI.names = ([("self" : Str), "fp"] : List Str)) (hnpI : dI.np = 2) (hbI : InitBody bodyI)
    {c fa : Addr} {p1 : Pos} {q1 : Str} (MK : MkOk X c p1 q1) {fd : FuncData} {body rb : List Stmt} {d : FnDef} (KL : FnOk X fa fd body d) (hd : d.names = ([("left" : Str), "_law_read", "stream"] : List Str)) (hnp : d.np = 1) (LB : LexBody c fd body rb p1 q1)
    (hS : ∀ φ a l, StmAt rb φ a l → X.StmP φ a l) (gC : GlobOk X "_netrclex" (.ref X.C))
    {n : Nat} {A : Around} (R : Room A (n + 3)) {v : Value} {t : Nat} (H : HOk X [] κ φ α hp s) (r : Rep X α φ v (.ref t)) :
    codeAny (model X.prog X.w) A (.call (.ref fa) ⟨[v], []⟩) (PC X κ φ α (hp ++ [.list [], .dict [.int 1, .stm t, .str wsL, .ref hp.length]]) (.inst (hp.length + 1))) s := by
  refine fn_enter (args := [.ref t]) KL (by rw [hnp]; rfl) R H (.cons r .nil) fun L s₁ Rm W F => ?_
  have hρ : (([.ref t] : List AV).map some ++ List.replicate (d.names.length - d.np) none) = ([some (.ref t), none, none] : Env') := by rw [hd, hnp]; rfl
  rw [hρ] at F
  refine lexer_body CK MK (lexFm hd LB) LB.eq KL.lim hS gC W F fun χ v s' hφ H8 r8 => codeAny_mono (cls_call G CK KA hf KI hdI hnpI hbI (n := n) Rm H8 r8) fun res s' P => ?_
  obtain ⟨v', γ, χ', rfl, hγ, hχ, H9, rv⟩ := P
  exact ⟨v', rfl, v', γ, χ', rfl, hγ, Part.le_trans hφ hχ, H9, rv⟩
end
end Mine
end
section
namespace Mine
open PySem PySem.Sre PyProof.Rows
open PySem.Builtin.Re
section
variable {M : Model} {A : Around} {E : Value → Shared → Prop} {s : Shared}
theorem drive_ok (k : Nat) : ∀ {m : Sre.M} {n : Nat}, (m.runFor n).outcome.isSome = true → n ≤ 4 * k → 0 < k → ∀ {Q : Sre.M → Shared → Prop}, Q (m.runFor n) s → wpAny M A (reDrive k m) Q E s := by
  induction k with
  | zero => intro m n _ _ h0; exact absurd h0 (Nat.lt_irrefl _)
  | succ k ih =>
    intro m n h hn _ Q q
    unfold reDrive
    show wpAny M A (if (m.runFor 4).outcome.isSome = true then pure (m.runFor 4) else do rule "sre.turn"; reDrive k (m.runFor 4)) Q E s
    by_cases h4 : (m.runFor 4).outcome.isSome = true
    · rw [if_pos h4, runFor_same h4 h]; exact wpAny_pure q
    · rw [if_neg h4]
      have : 4 < n := by
        rcases Nat.lt_or_ge 4 n with z | z
        · exact z
        · exfalso
          obtain ⟨c, hc⟩ := Nat.le.dest z
          have e : m.runFor 4 = (m.runFor n).runFor c := by rw [← runFor_add, hc]
          rw [runFor_done h] at e
          rw [e] at h4; exact h4 h
      have e : m.runFor n = (m.runFor 4).runFor (n - 4) := by rw [← runFor_add, Nat.add_sub_cancel' (Nat.le_of_lt this)]
      rw [e] at h q
      exact wpAny_bind (wpAny_rule (ih h (by lia) (by lia) q))
theorem rules_ok {f : Nat → PUnit → Sem (ForInStep PUnit)} (hf : ∀ i r (Q : ForInStep PUnit → Shared → Prop), Q (.yield ⟨⟩) s → wpAny M A (f i r) Q E s) : ∀ (l : List Nat) {Q : PUnit → Shared → Prop}, Q ⟨⟩ s → wpAny M A (forIn l PUnit.unit f) Q E s
  | [], Q, q => by rw [List.forIn_nil]; exact wpAny_pure q
  | i :: l, Q, q => by
    rw [List.forIn_cons]
    refine wpAny_bind (hf i _ _ ?_)
    exact rules_ok hf l q
theorem runToEnd_at {m : Sre.M} {n : Nat} {r : Option (Nat × Nat)} (hn : n ≤ 1000000000) (hF : Found (m.runFor n) r) {Q : Option Sre.M → Shared → Prop}
    (q : Q (r.map fun _ => m.runFor n) s) : wpAny M A (reRunToEnd m) Q E s := by
  have ho : (m.runFor n).outcome.isSome = true := by
    unfold Found at hF
    cases r with
    | none => rw [hF]; rfl
    | some p => rw [hF.1]; rfl
  unfold reRunToEnd
  refine wpAny_bind (drive_ok (2 ^ 64) (n := n) ho (by have : (2 : Nat) ^ 64 = 18446744073709551616 := by decide
                                                       lia) (by decide) ?_)
  refine wpAny_bind (rules_ok (fun i r Q hq => ?_) _ ?_)
  · split
    · exact wpAny_bind (wpAny_rule (wpAny_pure hq))
    · exact wpAny_bind (wpAny_pure (wpAny_pure hq))
  · unfold Found at hF
    cases r with
    | none => rw [hF]; exact wpAny_pure q
    | some p =>
      rw [hF.1]; exact wpAny_pure q
end
structure PatFind (code : Array Nat) (find : Array Nat → Nat → Option (Nat × Nat)) : Prop where
  search : ∀ (text : Array Nat) (s : Nat), s ≤ text.size → ∃ n, n ≤ 3 * text.size + 20 ∧ Found ((forSearch code text 0 s text.size false).runFor n) (find text s)
  span : ∀ (text : Array Nat) (s b e : Nat), s ≤ text.size → find text s = some (b, e) → s ≤ b ∧ b < e ∧ e ≤ text.size
inductive PatAt (h : Heap) (p : Addr) (code : Array Nat) : Prop
  | mk (o : Obj) (vs : Array Value) (tp : Addr) (ot : Obj) (ws : Array Value) (n : Nat) : h.get? p = some o → o.cls = .type "re.Pattern" → o.dict = none → o.data = .fields vs → vs.getD 2 .none = rawInt 0 → vs.getD 6 .none = rawInt 0 → vs.getD 5 .none = .ref tp → h.get? tp = some ot → ot.data = .seq ws n → (ws.map reRawOf).map (·.toNat) = code → PatAt h p code
theorem PatAt.keeps {h h' : Heap} {p : Addr} {code : Array Nat} (k : ∀ b o, h.get? b = some o → h'.get? b = some o) (P : PatAt h p code) : PatAt h' p code := by
  obtain ⟨o, vs, tp, ot, ws, n, h1, h2, h3, h4, h5, h6, h7, h8, h9, h10⟩ := P
  exact ⟨o, vs, tp, ot, ws, n, k _ _ h1, h2, h3, h4, h5, h6, h7, k _ _ h8, h9, h10⟩
section
variable {M : Model} {A : Around} {E : Value → Shared → Prop} {s : Shared}
theorem wholeTarget_ok {p : Addr} {code : Array Nat} (P : PatAt s.heap p code) {x : Str} {t : Tok} {Q : ReTarget → Shared → Prop}
    (q : Q { pattern := .ref p, string := .str x t, code := code, text := x.cps, kind := 0, groups := 0, pos := 0, lim := x.cps.size } s) : wpAny M A (reWholeTarget (.ref p) (.str x t)) Q E s := by
  obtain ⟨o, vs, tp, ot, ws, n, h1, h2, h3, h4, h5, h6, h7, h8, h9, h10⟩ := P
  unfold reWholeTarget
  refine wpAny_bind (wpAny_fieldsOf h1 h4 ?_)
  refine wpAny_bind (wpAny_of_eq (a := (x.cps, 0)) (by first | rfl | kernel_rfl) ?_)
  rw [h6, h5, h7]
  dsimp only
  refine wpAny_bind (wpAny_of_eq (a := ()) (by first | rfl | kernel_rfl) ?_)
  unfold reRawItems
  refine wpAny_bind (wpAny_bind (wpAny_seqItems h8 h9 (wpAny_pure (wpAny_pure ?_))))
  dsimp only [Option.getD]
  rw [h10]
  exact q
end
end Mine
end
section
namespace Mine
open PySem PySem.Sre PyProof.Rows
open PySem.Builtin.Re
noncomputable def subGo (find : Array Nat → Nat → Option (Nat × Nat)) (text : Array Nat) (r : List Nat) : Nat → Nat → List (List Nat)
  | 0, _ => []
  | k + 1, d => match find text d with
    | none => if d < text.size then [(text.extract d text.size).toList] else []
    | some (b, e) => (if d < b then [(text.extract d b).toList] else []) ++ r :: subGo find text r k e
noncomputable def subL (find : Array Nat → Nat → Option (Nat × Nat)) (x r : List Nat) : List Nat := (subGo find x.toArray r (x.length + 1) 0).flatten
theorem join_nil : ∀ l : List (List Nat), Mine.join [] l = l.flatten
  | [] => rfl
  | [a] => by simp [Mine.join]
  | a :: b :: r => by
    simp only [Mine.join, join_nil (b :: r), List.flatten_cons, List.append_nil]
theorem entry_sub_loop : entryFor table "re.Pattern.sub.loop" = some Builtin.«re.Pattern.sub.loop» := entryFor_of_tree (by kernel_rfl)
theorem quiet_sub_loop (a : Args) : (Code.builtin "re.Pattern.sub.loop" a).quiet = true := Code.quiet_builtin a (by decide +kernel)
noncomputable def loopArgs (p : Addr) (x : Str) (t : Tok) (r : Str) (tr : Tok) (n d : Nat) (l : Addr) : Args :=
  ⟨[.ref p, .str x t, .str r tr, rawInt 0, rawInt 0, rawInt n, rawInt d, rawInt d, .bool false, .ref l, .bool false], []⟩
theorem foldl_zero (l : List Str) : ∀ acc : Nat, l.foldl (· + ·.length + 0) acc = acc + (l.map (·.length)).sum := by
  induction l with
  | nil => intro acc; simp
  | cons y l ih => intro acc; rw [List.foldl_cons, ih]; simp; lia
section
variable {prog : Program} {w : World} {A : Around} {R : Result → Shared → Prop}
theorem strValues_snoc (ps : List (Str × Tok)) (y : Str) (u : Tok) : (strValues ps).toArray.push (.str y u) = (strValues (ps ++ [(y, u)])).toArray := by
  simp [strValues]
theorem push_ok {A : Around} {E : Value → Shared → Prop} {s : Shared} {l : Addr} {n : Nat} {ps : List (Str × Tok)} {y : Str} {u : Tok} (hg : s.heap.get? l = some { cls := .type "list", dict := none, data := .seq (strValues ps).toArray n, slots := #[] }) (hz : ps.length ≤ 1000000) {Q : Unit → Shared → Prop}
    (q : ∀ h' n', h'.get? l = some { cls := .type "list", dict := none, data := .seq (strValues (ps ++ [(y, u)])).toArray n', slots := #[] } → (∀ b o, b ≠ l → s.heap.get? b = some o → h'.get? b = some o) → Q () { s with heap := h' }) :
    wpAny (model prog w) A (updateSeq l (·.push (.str y u))) Q E s := by
  have hl : (strValues ps).toArray.size = ps.length := by simp [strValues]
  refine wpAny_updateSeq hg rfl ?_ (by rw [hl, szLine]; unfold szMax; lia) (by rw [Array.size_push, hl, szLine]; unfold szMax; lia)
  obtain ⟨m, e⟩ := mapSeq_list (strValues ps) n (·.push (.str y u))
  refine q _ m ?_ fun b o hb e => (Heap.get?_update_other _ _ (Ne.symm hb)).trans e
  rw [Heap.get?_update_self _ hg (by rw [e]; rfl), e, strValues_snoc]
noncomputable def Keep (l : Addr) (h h' : Heap) : Prop := ∀ b o, b ≠ l → h.get? b = some o → h'.get? b = some o
theorem Keep.trans {l : Addr} {h h1 h2 : Heap} (a : Keep l h h1) (b : Keep l h1 h2) : Keep l h h2 := fun c o q e => b c o q (a c o q e)
structure SubC where
  code : Array Nat
  find : Array Nat → Nat → Option (Nat × Nat)
  p : Addr
  l : Addr
  x : Str
  r : Str
  t : Tok
  tr : Tok
  W : List Nat
structure SubOk (C : SubC) (s : Shared) (R : Result → Shared → Prop) : Prop where
  F : PatFind C.code C.find
  hx : C.x.cps.size ≤ 20000
  hr : C.r.cps.size ≤ 10
  hP : ∀ h', Keep C.l s.heap h' → PatAt h' C.p C.code
  hR : ∀ h' tk y t', Keep C.l s.heap h' → y.cps.toList = C.W → R (.ok (.ret (.str y t'))) { s with heap := h', toks := tk }
structure SubJ (C : SubC) (s : Shared) (m z : Nat) (todo : List (List Nat)) (ps : List (Str × Tok)) (c : Nat) (h : Heap) : Prop where
  keep : Keep C.l s.heap h
  g : h.get? C.l = some { cls := .type "list", dict := none, data := .seq (strValues ps).toArray c, slots := #[] }
  len : ps.length ≤ m
  sum : (ps.map (·.1.length)).sum ≤ z
  w : (ps.map (·.1.cps.toList) ++ todo).flatten = C.W
theorem ext_len (x : Str) (a b : Nat) : (⟨x.cps.extract a b⟩ : Str).length ≤ b - a := by
  show (x.cps.extract a b).size ≤ _
  rw [Array.size_extract]
  exact Nat.sub_le_sub_right (Nat.min_le_left _ _) _
theorem ext_fits {x : Str} (hx : x.cps.size ≤ 20000) (a b : Nat) : (⟨x.cps.extract a b⟩ : Str).length ≤ sizeLine := by
  show (x.cps.extract a b).size ≤ _
  rw [Array.size_extract, szLine]
  exact Nat.le_trans (Nat.sub_le _ _) (Nat.le_trans (Nat.min_le_right _ _) (Nat.le_trans hx (by unfold szMax; decide)))
theorem SubJ.snoc {C : SubC} {s : Shared} {m z q : Nat} {todo : List (List Nat)} {ps : List (Str × Tok)} {c : Nat} {h : Heap} {y : Str} (J : SubJ C s m z (y.cps.toList :: todo) ps c h) (hy : y.length ≤ q) {h2 : Heap} {c2 : Nat} {u : Tok}
    (g2 : h2.get? C.l = some { cls := .type "list", dict := none, data := .seq (strValues (ps ++ [(y, u)])).toArray c2, slots := #[] }) (k2 : Keep C.l h h2) : SubJ C s (m + 1) (z + q) todo (ps ++ [(y, u)]) c2 h2 where
  keep := J.keep.trans k2
  g := g2
  len := by rw [List.length_append]; exact Nat.add_le_add_right J.len 1
  sum := by rw [List.map_append, List.sum_append, List.map_singleton, List.sum_singleton]; exact Nat.add_le_add J.sum hy
  w := by rw [List.map_append, List.append_assoc]; exact J.w
theorem SubJ.to {C : SubC} {s : Shared} {m z m' z' : Nat} {todo todo' : List (List Nat)} {ps : List (Str × Tok)} {c : Nat} {h : Heap} (J : SubJ C s m z todo ps c h) (e : todo = todo') (hm : m ≤ m') (hz : z ≤ z') : SubJ C s m' z' todo' ps c h :=
  ⟨J.keep, J.g, Nat.le_trans J.len hm, Nat.le_trans J.sum hz, e ▸ J.w⟩
section
variable {find : Array Nat → Nat → Option (Nat × Nat)} {text : Array Nat} {r : List Nat} {k d b e : Nat}
theorem subGo_go (hf : find text d = some (b, e)) (h : d < b) : subGo find text r (k + 1) d = (text.extract d b).toList :: r :: subGo find text r k e := by
  rw [subGo, hf]; exact congrArg (· ++ _) (if_pos h)
theorem subGo_go' (hf : find text d = some (b, e)) (h : ¬ d < b) : subGo find text r (k + 1) d = r :: subGo find text r k e := by
  rw [subGo, hf]; exact congrArg (· ++ _) (if_neg h)
theorem subGo_end (hf : find text d = none) (h : d < text.size) : subGo find text r (k + 1) d = [(text.extract d text.size).toList] := by
  rw [subGo, hf]; exact if_pos h
theorem subGo_end' (hf : find text d = none) (h : ¬ d < text.size) : subGo find text r (k + 1) d = [] := by
  rw [subGo, hf]; exact if_neg h
end
theorem sub_num {d b e : Nat} (h1 : d ≤ b) (h2 : b < e) : 2 * d + 1 + 1 ≤ 2 * e ∧ d * 11 + (b - d) + 10 ≤ e * 11 := by lia
theorem sub_num2 {d n : Nat} (h1 : d ≤ n) (h2 : n ≤ 20000) : d * 11 + (n - d) ≤ 1000000 := by lia
theorem sub_go {C : SubC} {s : Shared} (K : SubOk C s R) {k d n b e c tk : Nat} {ps : List (Str × Tok)} {h : Heap} {A' : Around} {E : Value → Shared → Prop} (s1 : d ≤ b) (s2 : b < e) (s3 : e ≤ C.x.cps.size)
    (ih : ∀ c ps h tk, SubJ C s (2 * e) (e * 11) (subGo C.find C.x.cps C.r.cps.toList k e) ps c h → codeAny (model prog w) A (.builtin "re.Pattern.sub.loop" (loopArgs C.p C.x C.t C.r C.tr (n + 1) e C.l)) R { s with heap := h, toks := tk })
    (J : SubJ C s (2 * d + 1) (d * 11 + (b - d)) (C.r.cps.toList :: subGo C.find C.x.cps C.r.cps.toList k e) ps c h) :
    wpAny (model prog w) A' (do
      updateSeq C.l (·.push (Value.str C.r C.tr))
      again (.builtin "re.Pattern.sub.loop" ⟨[.ref C.p, .str C.x C.t, .str C.r C.tr, .int 0 0, .int 0 0, .int ((n : Int) + 1) 0, .int (e : Int) 0, .int (e : Int) 0, .bool (e == b), .ref C.l, .bool false], []⟩))
      (fun fin s' => match fin with | .done f => R (.ok f) s' | .again c' => c'.quiet = true ∧ codeAny (model prog w) A c' R s') E { s with heap := h, toks := tk } := by
  have hn := sub_num s1 s2
  have hl : ps.length ≤ 1000000 := Nat.le_trans J.len (Nat.le_trans (Nat.le_of_succ_le hn.1) (Nat.le_trans (Nat.mul_le_mul_left 2 (Nat.le_trans s3 K.hx)) (by decide)))
  refine wpAny_bind (push_ok J.g hl fun h2 c2 g2 k2 => wpAny_pure ⟨quiet_sub_loop _, ?_⟩)
  rw [show (e == b) = false from beq_false_of_ne (Nat.ne_of_gt s2)]
  have J2 := J.snoc K.hr g2 k2
  exact ih c2 _ h2 tk ⟨J2.keep, J2.g, Nat.le_trans J2.len hn.1, Nat.le_trans J2.sum hn.2, J2.w⟩
theorem joinOk0 (x : Str) {ps : List (Str × Tok)} (h : (ps.map (·.1.length)).sum ≤ 1000000) : JoinOk (⟨x.cps.extract 0 0⟩ : Str) (ps.map (·.1)) = true := by
  unfold JoinOk Builtin.Str.tooLong
  rw [Bool.not_eq_true']
  refine decide_eq_false ?_
  have hl0 : (⟨x.cps.extract 0 0⟩ : Str).length = 0 := Nat.le_zero.mp (ext_len x 0 0)
  rw [hl0, List.foldl_toArray' (h := rfl), foldl_zero, List.map_map, Nat.zero_add, szLine]
  exact Nat.not_lt.mpr (Nat.le_trans h (by unfold szMax; decide))
theorem join_flat (x : Str) (ps : List (Str × Tok)) : (Txt.join (⟨x.cps.extract 0 0⟩ : Str) (ps.map (·.1))).cps.toList = (ps.map (·.1.cps.toList)).flatten := by
  unfold Txt.join
  rw [StrLaws.glued_eq_join, join_list]
  have : (⟨x.cps.extract 0 0⟩ : Str).cps.toList = [] := by show (x.cps.extract 0 0).toList = []; simp
  rw [this, join_nil, List.map_map]; rfl
theorem sub_fin {C : SubC} {s : Shared} (K : SubOk C s R) {n m c tk : Nat} {ps : List (Str × Tok)} {h : Heap} {A' : Around} {E : Value → Shared → Prop} (J : SubJ C s m 1000000 [] ps c h) :
    wpAny (model prog w) A' (do
      let joiner ← reSlice C.x.cps 0 0 0
      let a ← seqItems? (.ref C.l)
      if (a.getD #[]).isEmpty = true then do
        let text ← pure joiner
        if false = true then ret (← holding [text] do newTuple [text, ← mkInt n]) else ret text
      else do
        let text ← call (.builtin (if (0 == 0) = true then "str.join" else "bytes.join")) [joiner, .ref C.l]
        if false = true then ret (← holding [text] do newTuple [text, ← mkInt n]) else ret text)
      (fun fin s' => match fin with | .done f => R (.ok f) s' | .again c' => c'.quiet = true ∧ codeAny (model prog w) A c' R s') E { s with heap := h, toks := tk } := by
  have hw := J.w
  rw [List.append_nil] at hw
  refine wpAny_bind (wpI (by decide) (wpAny_mkStr (wpAny_bind (wpAny_seqItems J.g rfl ?_)) (ext_fits K.hx 0 0)))
  cases ps with
  | nil =>
    exact wpI rfl (wpAny_bind (wpAny_pure (wpN (by decide) (wpAny_pure (K.hR h _ _ _ J.keep (by rw [← hw]; show (C.x.cps.extract 0 0).toList = _; simp))))))
  | cons q ps =>
    refine wpN (by simp [strValues]) ?_
    rw [if_pos (by decide)]
    have hok := joinOk0 C.x J.sum
    unfold JoinOk at hok
    rw [Bool.not_eq_true'] at hok
    exact wpAny_bind (call_meets PySem.F.slot_str_join (typeIs_str _ _ _) PySem.F.entry_str_join (PySem.F.args_str_join_2 _ _) (meets_str_join_list _ _ C.l (q :: ps) hok) ⟨⟨_, J.g, rfl, c, rfl⟩, post_join (q :: ps) ⟨joinFit_length hok, fun t' k' =>
      wpN (by decide) (wpAny_pure (K.hR h _ _ _ J.keep ((join_flat C.x (q :: ps)).trans hw)))⟩⟩)
theorem search_at {C : Array Nat} {find : Array Nat → Nat → Option (Nat × Nat)} (F : PatFind C find) {text : Array Nat} {d : Nat} (hd : d ≤ text.size) (hx : text.size ≤ 20000) : ∃ m' : Sre.M, (∀ be, find text d = some be → be = (m'.start, m'.handed)) ∧
    ∀ {M : Model} {A : Around} {E : Value → Shared → Prop} {s : Shared} {Q : Option Sre.M → Shared → Prop}, Q ((find text d).map fun _ => m') s → wpAny M A (reRunToEnd (forSearch C text 0 d text.size false)) Q E s := by
  obtain ⟨m, hm, hF⟩ := F.search text d hd
  refine ⟨_, fun be e => ?_, fun q => runToEnd_at (n := m) (Nat.le_trans hm (Nat.le_trans (Nat.add_le_add_right (Nat.mul_le_mul_left 3 hx) 20) (by decide))) hF q⟩
  rw [e] at hF
  exact Prod.ext hF.2.1.symm hF.2.2.symm
section
variable {C : SubC} {s : Shared} {k d n c tk : Nat} {ps : List (Str × Tok)} {h : Heap}
theorem sub_some (K : SubOk C s R) (hl : ps.length ≤ 1000000) {m' : Sre.M} (hs : ∀ {M : Model} {A : Around} {E : Value → Shared → Prop} {s : Shared} {Q : Option Sre.M → Shared → Prop}, Q (some m') s → wpAny M A (reRunToEnd (forSearch C.code C.x.cps 0 d C.x.cps.size false)) Q E s)
    (hf : C.find C.x.cps d = some (m'.start, m'.handed)) (s1 : d ≤ m'.start) (s2 : m'.start < m'.handed) (s3 : m'.handed ≤ C.x.cps.size)
    (ih : ∀ c ps h tk, SubJ C s (2 * m'.handed) (m'.handed * 11) (subGo C.find C.x.cps C.r.cps.toList k m'.handed) ps c h → codeAny (model prog w) A (.builtin "re.Pattern.sub.loop" (loopArgs C.p C.x C.t C.r C.tr (n + 1) m'.handed C.l)) R { s with heap := h, toks := tk })
    (J : SubJ C s (2 * d) (d * 11) (subGo C.find C.x.cps C.r.cps.toList (k + 1) d) ps c h) : codeAny (model prog w) A (.builtin "re.Pattern.sub.loop" (loopArgs C.p C.x C.t C.r C.tr n d C.l)) R { s with heap := h, toks := tk } := by
  by_cases hdb : d < m'.start
  · refine codeAny_builtin entry_sub_loop (wpAny_bind (wholeTarget_ok (K.hP _ J.keep) (wpI rfl (wpAny_bind (wpAny_of_eq (a := ()) (by first | rfl | kernel_rfl) (wpAny_bind (wpN (by simp) (hs ?_))))))))
    refine wpI hdb (wpAny_bind (wpI rfl (wpAny_mkStr (wpAny_bind (push_ok (s := { s with heap := h, toks := tk + 1 }) J.g hl fun h2 c2 hg2 hk2 => wpI rfl (wpAny_bind (wpAny_pure (wpI rfl ?_))))) (ext_fits K.hx d m'.start))))
    exact sub_go K s1 s2 s3 ih ((J.to (subGo_go hf hdb) (Nat.le_refl _) (Nat.le_refl _)).snoc (y := ⟨C.x.cps.extract d m'.start⟩) (ext_len _ _ _) hg2 hk2)
  · refine codeAny_builtin entry_sub_loop (wpAny_bind (wholeTarget_ok (K.hP _ J.keep) (wpI rfl (wpAny_bind (wpAny_of_eq (a := ()) (by first | rfl | kernel_rfl) (wpAny_bind (wpN (by simp) (hs ?_))))))))
    exact wpN hdb (wpI rfl (wpAny_bind (wpAny_pure (wpI rfl (sub_go K s1 s2 s3 ih (J.to (subGo_go' hf hdb) (Nat.le_succ _) (Nat.le_add_right _ _)))))))
theorem sub_none (K : SubOk C s R) (hd : d ≤ C.x.cps.size) (hl : ps.length ≤ 1000000) (hs : ∀ {M : Model} {A : Around} {E : Value → Shared → Prop} {s : Shared} {Q : Option Sre.M → Shared → Prop}, Q none s → wpAny M A (reRunToEnd (forSearch C.code C.x.cps 0 d C.x.cps.size false)) Q E s) (hf : C.find C.x.cps d = none)
    (J : SubJ C s (2 * d) (d * 11) (subGo C.find C.x.cps C.r.cps.toList (k + 1) d) ps c h) : codeAny (model prog w) A (.builtin "re.Pattern.sub.loop" (loopArgs C.p C.x C.t C.r C.tr n d C.l)) R { s with heap := h, toks := tk } := by
  by_cases hdb : d < C.x.cps.size
  · refine codeAny_builtin entry_sub_loop (wpAny_bind (wholeTarget_ok (K.hP _ J.keep) (wpI rfl (wpAny_bind (wpAny_of_eq (a := ()) (by first | rfl | kernel_rfl) (wpAny_bind (wpN (by simp) (hs ?_))))))))
    refine wpI hdb (wpAny_bind (wpI rfl (wpAny_mkStr (wpAny_bind (push_ok (s := { s with heap := h, toks := tk + 1 }) J.g hl fun h2 c2 hg2 hk2 => ?_)) (ext_fits K.hx d C.x.cps.size))))
    exact sub_fin K (((J.to (subGo_end hf hdb) (Nat.le_refl _) (Nat.le_refl _)).snoc (y := ⟨C.x.cps.extract d C.x.cps.size⟩) (ext_len _ _ _) hg2 hk2).to rfl (Nat.le_refl _) (sub_num2 hd K.hx))
  · refine codeAny_builtin entry_sub_loop (wpAny_bind (wholeTarget_ok (K.hP _ J.keep) (wpI rfl (wpAny_bind (wpAny_of_eq (a := ()) (by first | rfl | kernel_rfl) (wpAny_bind (wpN (by simp) (hs ?_))))))))
    exact wpN hdb (sub_fin K (J.to (subGo_end' hf hdb) (Nat.le_refl _) (Nat.le_trans (Nat.le_add_right _ _) (sub_num2 hd K.hx))))
end
theorem sub_loop {C : SubC} {s : Shared} (K : SubOk C s R) (k : Nat) : ∀ (d n c : Nat) (ps : List (Str × Tok)) (h : Heap) (tk : Nat), C.x.cps.size - d < k → d ≤ C.x.cps.size →
      SubJ C s (2 * d) (d * 11) (subGo C.find C.x.cps C.r.cps.toList k d) ps c h → codeAny (model prog w) A (.builtin "re.Pattern.sub.loop" (loopArgs C.p C.x C.t C.r C.tr n d C.l)) R { s with heap := h, toks := tk } := by
  induction k with
  | zero => intro d n c ps h tk q; exact absurd q (Nat.not_lt_zero _)
  | succ k ih =>
    intro d n c ps h tk hk hd J
    have hl : ps.length ≤ 1000000 := Nat.le_trans J.len (Nat.le_trans (Nat.mul_le_mul_left 2 (Nat.le_trans hd K.hx)) (by decide))
    obtain ⟨m', hm, hs⟩ := search_at K.F hd K.hx
    cases hf : C.find C.x.cps d with
    | some be =>
      obtain rfl := hm be hf
      rw [hf] at hs
      obtain ⟨s1, s2, s3⟩ := K.F.span C.x.cps d _ _ hd hf
      exact sub_some K hl hs hf s1 s2 s3 (fun c ps h tk => ih m'.handed (n + 1) c ps h tk (by lia) s3) J
    | none =>
      rw [hf] at hs
      exact sub_none K hd hl hs hf J
end
end Mine
end
section
namespace Mine
open PySem PySem.Sre PyProof.Rows
open PySem.Builtin.Re
theorem plainAttrs_pat : PlainAttrs "re.Pattern" :=
  ⟨⟨"object.__getattribute__", by rw [typeLookup_type, builtinLookup_eq_fast]; kernel_rfl, by decide +kernel⟩, by rw [typeLookup_type, builtinLookup_eq_fast]; kernel_rfl⟩
theorem slot_pat_sub : Slot "re.Pattern" "sub" "re.Pattern.sub" :=
  .of (owner := "re.Pattern") (n := "sub") (by rw [typeLookup_type, builtinLookup_eq_fast]; kernel_rfl) (by decide +kernel) (by decide +kernel) (by decide +kernel)
    (by first | exact .inl (by decide +kernel) | exact .inr (by decide +kernel)) (by rw [isSubtype_type]; kernel_rfl)
theorem type_pat_sub : typeOf (.builtin "re.Pattern.sub") = pure (.type "method_descriptor") := by show builtinType _ = _; rw [builtinType_eq_fast]; kernel_rfl
theorem entry_pat_sub : entryFor table "re.Pattern.sub" = some Builtin.«re.Pattern.sub» := entryFor_of_tree (by kernel_rfl)
theorem args_pat_sub (a b c : Value) : argsOk "re.Pattern.sub" ⟨[a, b, c], []⟩ := by unfold argsOk; kernel_rfl
theorem lk_str_call : typeLookup (.type "str") "__call__" = pure none := by rw [typeLookup_type, builtinLookup_eq_fast]; kernel_rfl
theorem named_sub (id f : String) (a b : Value) : reNamed id f ["repl", "string", "count"] 2 [a, b] [] = pure [some a, some b, none] := by
  rfl
section
variable {prog : Program} {w : World} {A : Around} {R : Result → Shared → Prop} {s : Shared}
theorem pat_sub {code : Array Nat} {find : Array Nat → Nat → Option (Nat × Nat)} (F : PatFind code find) {p : Addr} {x r : Str} {t tr : Tok} (hx : x.cps.size ≤ 20000) (hr : r.cps.size ≤ 10) (hlit : r.cps.contains 92 = false)
    (hP : PatAt s.heap p code) {Q : Value → Shared → Prop} {E : Value → Shared → Prop}
    (hQ : ∀ h' tk y t', (∀ b o, s.heap.get? b = some o → h'.get? b = some o) → y.cps.toList = subL find x.cps.toList r.cps.toList → Q (.str y t') { s with heap := h', toks := tk }) :
    wpAny (model prog w) A (call (.builtin "re.Pattern.sub") [.ref p, .str r tr, .str x t]) Q E s := by
  obtain ⟨o, vs, tp, ot, ws, n, h1, h2, h3⟩ := id hP
  have hT : s.TypeIs (.ref p) "re.Pattern" := ⟨o, h1, h2⟩
  refine wpAny_call (codeAny_call_builtin slot_pat_sub.plain entry_pat_sub (slot_pat_sub.check _ _ _ _ _ _ _ _ hT (args_pat_sub _ _ _) ?_))
  unfold Builtin.«re.Pattern.sub» reSubstitute
  dsimp only
  rw [named_sub]
  refine wpAny_bind (wpAny_pure ?_)
  dsimp only
  refine wpAny_bind (wpAny_pure ?_)
  refine wpAny_bind (wpAny_specialOf (typeIs_str s r tr) lk_str_call ?_)
  dsimp only [Option.isSome]
  refine wpAny_bind (wpAny_of_eq (a := some r) (by first | rfl | kernel_rfl) ?_)
  dsimp only
  refine wpAny_bind (wpAny_pure ?_)
  refine wpN (by decide) ?_
  refine wpI (by rw [hlit]; rfl) ?_
  refine wpAny_bind (wpAny_pure ?_)
  dsimp only
  refine wpAny_bind (wpAny_holding (wholeTarget_ok hP ?_))
  refine wpN (by decide) ?_
  refine wpAny_bind (wpAny_newObj_type ?_ (by size_fits))
  have fresh : s.heap.get? s.heap.objs.size = none := get_size_none _
  refine wpAny_pure ⟨quiet_sub_loop _, ?_⟩
  have old : ∀ {h' : Heap}, Keep s.heap.objs.size (s.heap.push { cls := .type "list", data := .seq #[] }) h' → ∀ b o, s.heap.get? b = some o → h'.get? b = some o := fun k b o e => k b o (Nat.ne_of_lt (Heap.lt_size e)) (Heap.get?_push_of_some _ e)
  exact sub_loop (s := { s with heap := s.heap.push { cls := .type "list", data := .seq #[] } }) (C := ⟨code, find, p, s.heap.objs.size, x, r, t, tr, subL find x.cps.toList r.cps.toList⟩) ⟨F, hx, hr, fun h' k => hP.keeps (old k), fun h' tk y t' k hy => hQ h' tk y t' (old k) hy⟩ (x.cps.size + 1) 0 0 0 [] _ _ (Nat.lt_succ_self _) (Nat.zero_le _) ⟨fun _ _ _ e => e, Heap.get?_push_size _ rfl, Nat.zero_le _, Nat.zero_le _, rfl⟩
end
theorem patFind1 : PatFind code1 (fun text s => (find1 text (text.size - s) s).map fun j => (j, j + 1)) where
  search := fun text s hs => let ⟨n, hn, h⟩ := p1_search text s hs; ⟨n, Nat.le_trans hn (Nat.add_le_add_left (by decide) _), h⟩
  span := fun text s b e hs h => by
    obtain ⟨j, hj, e1⟩ := Option.map_eq_some_iff.mp h
    obtain ⟨rfl, rfl⟩ := Prod.mk.inj e1
    have := find1_span hj
    exact ⟨this.1, Nat.lt_succ_self _, Nat.lt_of_lt_of_eq this.2 (Nat.add_sub_cancel' hs)⟩
theorem patFind2 : PatFind code2 (fun text s => (find2 text (text.size - s) s).map fun j => (j, end2 text j)) where
  search := fun text s hs => p2_search text s hs
  span := fun text s b e hs h => by
    obtain ⟨j, hj, e1⟩ := Option.map_eq_some_iff.mp h
    obtain ⟨rfl, rfl⟩ := Prod.mk.inj e1
    have := find2_some hj
    exact ⟨this.1, end2_span (Nat.lt_of_lt_of_eq this.2.1 (Nat.add_sub_cancel' hs))⟩
structure ReOk (X : Wd) (G : Gl) : Prop where
  re : ∀ p r x y, G.re p r x = some y → ∃ pa code find, p = .ref pa ∧ PatFind code find ∧ (∀ h : Heap, (∀ a o, X.base a = some o → h.get? a = some o) → PatAt h pa code) ∧ x.length ≤ 20000 ∧ r.length ≤ 10 ∧ r.contains 92 = false ∧ y = subL find x r
section
variable {X : Wd} {G : Gl} {fm : Fm} {κ φ ψ : Part} {α β : List Addr} {ρ : Env'} {hp hp' : Hp} {s : Shared}
theorem se_sub (W : fm.Wf X) (K : ReOk X G) {o e e' : Expr} {mo me me' : ME} {apos pos : Pos} (So : SE X G fm o mo) (Se : SE X G fm e me) (Se' : SE X G fm e' me') (ho : plainBase o = true) (he : notStar e = true) (he' : notStar e' = true) (hline : (apos.endLine == pos.line) = true) :
    SE X G fm (.Call (.Attribute o "sub" apos) [e, e'] [] pos) (.meth .sub mo [me, me']) := by
  intro ρ hp av hp' h κ φ α s F
  obtain ⟨x, hp₁, y, hp₂, z, hp₃, e1, hr, e2, e3, h1⟩ := meth2_parts h
  obtain ⟨a, h2, e0⟩ := mapp_inv h1
  obtain ⟨rfl, rfl⟩ := Prod.mk.inj e0
  obtain ⟨p, rfl, h3⟩ := onCst_inv h2
  obtain ⟨r, rfl, h4⟩ := onStr_inv h3
  obtain ⟨x, rfl, h5⟩ := onStr_inv h4
  obtain ⟨w, q, h6⟩ := bind_inv h5
  obtain ⟨hz, rfl⟩ := ite_inv h6
  refine call_meth2 ho he he' hline (So.andThen e1 F fun β ψ v s₁ hα hφ F₁ r₁ => ?_)
  obtain ⟨pa, code, find, rfl, PF, hP, hx, hr', hc, rfl⟩ := K.re _ _ _ _ q
  obtain rfl := r₁.inv_cst
  have hP1 := hP _ F₁.H.baseIn
  obtain ⟨ob, vs, tp, ot, ws, n, g1, g2, g3, _⟩ := id hP1
  refine ⟨"re.Pattern", "re.Pattern.sub", plainAttrs_pat, slot_pat_sub, type_pat_sub, ⟨ob, g1, g2⟩, fun a e => by cases e; exact ⟨ob, g1, g3⟩, ?_⟩
  refine Calls.callWith_builtin rfl (Calls.evalArgs_plain (Calls.spliced_cons (Se.andThen e2 F₁ fun γ χ w₁ s₂ hβ hψ F₂ r₂ => Calls.spliced_cons (Se'.andThen e3 F₂ fun γ' χ' w₂ s₃ hγ hχ F₃ r₃ => Calls.spliced_nil ?_))))
  obtain ⟨i, u, rfl, rfl⟩ := r₂.inv_str
  obtain ⟨j, u', rfl, rfl⟩ := r₃.inv_str
  refine pat_sub PF (by simpa using hx) (by simpa using hr') (by simpa using hc) (hP _ F₃.H.baseIn) fun h' tk y t' k hy => ?_
  refine PV.lift ((hα.trans hβ).trans hγ) (Part.le_trans (Part.le_trans hφ hψ) hχ) (PV.of (F₃.grow W k tk) ?_)
  rw [← hy]; exact .str _ _
end
end Mine
end
section
namespace Mine
open PySem PyProof.Rows
noncomputable def Part.or (κ p : Part) : Part := fun a => match p a with | some o => some o | none => κ a
theorem Part.or_some {κ p : Part} {a : Addr} {o : Obj} (h : p a = some o) : κ.or p a = some o := by unfold Part.or; rw [h]
theorem Part.or_none {κ p : Part} {a : Addr} (h : p a = none) : κ.or p a = κ a := by unfold Part.or; rw [h]
theorem Part.or_put {κ p : Part} {D : Addr} {d : Obj} (h : p D = none) : (κ.put D d).or p = (κ.or p).put D d := by
  funext a
  by_cases q : a = D
  · subst q; rw [Part.put_self, Part.or_none h, Part.put_self]
  · rw [Part.put_ne _ _ q]
    cases e : p a with
    | some o => rw [Part.or_some e, Part.or_some e]
    | none => rw [Part.or_none e, Part.or_none e, Part.put_ne _ _ q]
theorem Part.le_or {κ p : Part} (h : ∀ a, p a ≠ none → κ a = none) : κ.le (κ.or p) := fun a o e => by
  cases q : p a with
  | some x => rw [h a (by rw [q]; nofun)] at e; cases e
  | none => rw [Part.or_none q]; exact e
noncomputable def restr (h : Heap) (l : List Addr) : Part := fun a => if a ∈ l then h.get? a else none
theorem restr_in {h : Heap} {l : List Addr} {a : Addr} (ha : a ∈ l) : restr h l a = h.get? a := if_pos ha
theorem restr_out {h : Heap} {l : List Addr} {a : Addr} (ha : a ∉ l) : restr h l a = none := if_neg ha
theorem restr_mem {h : Heap} {l : List Addr} {a : Addr} (e : restr h l a ≠ none) : a ∈ l := by
  by_cases q : a ∈ l
  · exact q
  · rw [restr_out q] at e; exact absurd rfl e
section
variable {X : Wd} {G : Gl} {fm : Fm} {κ φ ψ p : Part} {α β : List Addr} {ρ ρ' : Env'} {hp hp' : Hp} {s : Shared}
theorem FOk.lessKs (W : fm.Wf X) (F : FOk X fm (κ.or p) φ α ρ hp s) (hκ : ∀ a, p a ≠ none → κ a = none) (hc : ∀ a, p a ≠ none → a ∉ fm.caps) {h' : Heap} (e : ∀ b x, p b = none → s.heap.get? b = some x → h'.get? b = some x) (tk : Nat) :
    FOk X fm κ φ α ρ hp { s with heap := h', toks := tk } := by
  have H := F.H
  have kp : ∀ a, p a ≠ none → κ.or p a ≠ none := fun a h => by
    cases q : p a with
    | some o => rw [Part.or_some q]; nofun
    | none => exact absurd q h
  have inP : ∀ a ∈ X.P :: (fm.own ++ α), p a = none := fun a ha => by
    cases q : p a with
    | none => rfl
    | some o => exact absurd (H.apart a ha).1 (kp a (by rw [q]; nofun))
  have frz : ∀ a o, φ a = some o → p a = none := fun a o h => by
    cases q : p a with
    | none => rfl
    | some o' => have := H.disj a o' (Part.or_some q); rw [h] at this; cases this
  have lep := Part.le_or hκ
  refine ⟨⟨H.gens, H.drawn, H.os, H.base, fun a x k => e a x ?_ (H.kept a x (lep a x k)), fun a x k => e a x (frz a x k) (H.froz a x k), ?_, fun a ha => ?_, H.len, fun t x k => ?_, H.nodup, fun a ha => ⟨?_, (H.apart a ha).2⟩, fun a x k => H.disj a x (lep a x k)⟩, ?_⟩
  · cases q : p a with
    | none => rfl
    | some o => rw [hκ a (by rw [q]; nofun)] at k; cases k
  · obtain ⟨x, k, pt⟩ := H.tab
    exact ⟨x, e _ _ (inP _ List.mem_cons_self) k, pt⟩
  · obtain ⟨x, k⟩ := H.ownIn a ha
    exact ⟨x, e _ _ (inP _ (List.mem_cons_of_mem _ (List.mem_append_left _ ha))) k⟩
  · obtain ⟨a, ha, r⟩ := H.obj t x k
    exact ⟨a, ha, r.mono (List.prefix_refl _) (Part.le_refl _) fun y q => e _ _ (inP _ (List.mem_cons_of_mem _ (List.mem_append_right _ (List.mem_of_getElem? ha)))) q⟩
  · have := (H.apart a ha).1; rwa [Part.or_none (inP a ha)] at this
  · have ck : ∀ c ∈ fm.caps, p c = none := fun c h => by
      cases q : p c with
      | none => rfl
      | some o => exact absurd h (hc c (by rw [q]; nofun))
    have L := F.L.keeps (h' := h') W (List.prefix_refl _) (Part.le_refl φ) fun c x hcc q => e c x (by
      rcases hcc with hcc | hcc
      · exact inP _ (List.mem_cons_of_mem _ (List.mem_append_left _ hcc))
      · exact ck c hcc) q
    exact ⟨L.ns, L.cells, L.len, fun c h => (L.capsIn c h).imp (fun ⟨x, k⟩ => ⟨x, by rwa [Part.or_none (ck c h)] at k⟩) id⟩
theorem FOk.addKs (F : FOk X fm κ φ α ρ hp s) (h : ∀ a o, p a = some o → s.heap.get? a = some o ∧ κ a = none ∧ φ a = none ∧ a ∉ X.P :: (fm.own ++ α)) : FOk X fm (κ.or p) φ α ρ hp s := by
  have H := F.H
  have hκ : ∀ a, p a ≠ none → κ a = none := fun a q => by
    cases e : p a with
    | none => exact absurd e q
    | some o => exact (h a o e).2.1
  have inP : ∀ a ∈ X.P :: (fm.own ++ α), p a = none := fun a ha => by
    cases q : p a with
    | none => rfl
    | some o => exact absurd ha (h a o q).2.2.2
  refine ⟨⟨H.gens, H.drawn, H.os, H.base, fun a x k => ?_, H.froz, H.tab, H.ownIn, H.len, H.obj, H.nodup, fun a ha => ⟨?_, (H.apart a ha).2⟩, fun a x k => ?_⟩, ⟨F.L.ns, F.L.cells, F.L.len, fun c hc => (F.L.capsIn c hc).imp (fun ⟨x, k⟩ => ⟨x, Part.le_or hκ c x k⟩) id⟩⟩
  · cases q : p a with
    | some o => rw [Part.or_some q] at k; cases k; exact (h a _ q).1
    | none => rw [Part.or_none q] at k; exact H.kept a x k
  · rw [Part.or_none (inP a ha)]; exact (H.apart a ha).1
  · cases q : p a with
    | some o => exact (h a _ q).2.2.1
    | none => rw [Part.or_none q] at k; exact H.disj a x k
theorem FOk.orApart (F : FOk X fm (κ.or p) φ α ρ hp s) {a : Addr} {o : Obj} (h : p a = some o) : s.heap.get? a = some o ∧ φ a = none ∧ a ∉ X.P :: (fm.own ++ α) :=
  ⟨F.H.kept a o (Part.or_some h), F.H.disj a o (Part.or_some h), fun q => by have := (F.H.apart a q).1; rw [Part.or_some h] at this; cases this⟩
structure ZipSt (z TI TO i1 i2 l1 l2 : Addr) (i : Nat) (f0 : Value) (h : Heap) : Prop where
  zip : IsZip h z TI TO f0
  ti : IsPair h TI (.ref i1) (.ref i2)
  to : ∃ a b, IsPair h TO a b
  it1 : h.IsListIter i1 l1 i
  it2 : h.IsListIter i2 l2 i
theorem ZipSt.at {z TI TO i1 i2 l1 l2 : Addr} {i : Nat} {f0 : Value} {h h' : Heap} (x : ZipSt z TI TO i1 i2 l1 l2 i f0 h) (k : ∀ a ∈ [z, TI, TO, i1, i2], ∀ o, h.get? a = some o → h'.get? a = some o) : ZipSt z TI TO i1 i2 l1 l2 i f0 h' :=
  ⟨k z (by simp) _ x.zip, k TI (by simp) _ x.ti, let ⟨a, b, e⟩ := x.to; ⟨a, b, k TO (by simp) _ e⟩, x.it1.at fun o e => k i1 (by simp) o e, x.it2.at fun o e => k i2 (by simp) o e⟩
theorem ZipSt.there {z TI TO i1 i2 l1 l2 : Addr} {i : Nat} {f0 : Value} {h : Heap} (x : ZipSt z TI TO i1 i2 l1 l2 i f0 h) : ∀ a ∈ [z, TI, TO, i1, i2], ∃ o, h.get? a = some o := by
  intro a ha
  simp at ha
  rcases ha with rfl | rfl | rfl | rfl | rfl
  · exact ⟨_, x.zip⟩
  · exact ⟨_, x.ti⟩
  · obtain ⟨a, b, e⟩ := x.to; exact ⟨_, e⟩
  · obtain ⟨o, e, _⟩ := x.it1; exact ⟨o, e⟩
  · obtain ⟨o, e, _⟩ := x.it2; exact ⟨o, e⟩
inductive CompZ (X : Wd) (fm' : Fm) (κ φ : Part) (α : List Addr) (z TI TO i1 i2 l1 l2 D : Addr) (pr : List Addr) (as bs : List AV) (L : List AV → Hp → Option (List AV × Hp)) (xs : List AV) (hp' : Hp) (k : Nat) (s' : Shared) : Prop
  | mk (i : Nat) (h₀ : Heap) (hp₁ : Hp) (β : List Addr) (ψ : Part) (ys : List Value) (done rest : List AV) (c : Nat) (q1 q2 : Option AV) : k = (as.zip bs).length - i → i ≤ (as.zip bs).length → ZipSt z TI TO i1 i2 l1 l2 i .none h₀ →
      L (((as.zip bs).drop i).map fun p => .tup [p.1, p.2]) hp₁ = some (rest, hp') → xs = done ++ rest → α <+: β → φ.le ψ → RepAll X β ψ ys done → ys.length ≤ i →
      FOk X fm' ((κ.put D (lObj ys c)).or (restr h₀ pr)) ψ β [q1, q2] hp₁ s' → CompZ X fm' κ φ α z TI TO i1 i2 l1 l2 D pr as bs L xs hp' k s'
theorem compZ_turn {fm' : Fm} (W : fm'.Wf X) {elt : Expr} {mE : ME} {D : Addr} {pr : List Addr} {h₂ : Heap} (Se : SE X G fm' elt mE) (hD : D ∉ pr) (hκD : κ D = none) (hcD : D ∉ fm'.caps) {a b : AV} {vs xs done rest : List AV} {ys : List Value} {c : Nat} {i : Nat}
    (hl : compLoop (fun _ hp => some (true, hp)) (fun ρ hp => evE G mE ρ hp) (some 2) [] (.tup [a, b] :: vs) hp = some (rest, hp')) (hy : ys.length ≤ i) (hz : i ≤ sizeLine) (F : FOk X fm' ((κ.put D (lObj ys c)).or (restr h₂ pr)) φ α [some a, some b] hp s) (rr : RepAll X α φ ys done)
    {Q : Shared → Prop} {E : Value → Shared → Prop} (hQ : ∀ v y hp₂ rest' γ χ n' s', compLoop (fun _ hp => some (true, hp)) (fun ρ hp => evE G mE ρ hp) (some 2) [] vs hp₂ = some (rest', hp') → rest = y :: rest' → α <+: γ → φ.le χ → RepAll X γ χ (ys ++ [v]) (done ++ [y]) → (ys ++ [v]).length ≤ i + 1 →
      FOk X fm' ((κ.put D (lObj (ys ++ [v]) n')).or (restr h₂ pr)) χ γ [some a, some b] hp₂ s' → Q s') :
    wpAny (model X.prog X.w) fm'.A (eval elt fm'.env) (fun x s₄ => wpAny (model X.prog X.w) fm'.A (call (.builtin "list.append") [.ref D, x]) (fun _ s₅ => Q s₅) E s₄) E s := by
  obtain ⟨ρ₀, e0, h0⟩ := bind_inv (o := bindC (some 2) (.tup [a, b]) []) hl
  obtain rfl : [some a, some b] = ρ₀ := some_inv e0
  obtain ⟨y, hp₂, e2, h2⟩ := bnd_inv (o := evE G mE [some a, some b] hp) h0
  obtain ⟨rest', hp₃, e3, h3⟩ := bnd_inv h2
  obtain ⟨rfl, rfl⟩ := pair_inv h3
  refine wpAny_mono (Se _ _ _ _ e2 _ _ _ _ F) (fun v s₆ P => ?_) fun _ _ z => z.elim
  obtain ⟨γ, χ, hγ, hχ, F₈, rv⟩ := P
  rw [Part.or_put (restr_out hD)] at F₈
  have hκD' : (κ.or (restr h₂ pr)) D = none := by rw [Part.or_none (restr_out hD)]; exact hκD
  refine (F₈.push W hκD' hcD (Nat.le_trans hy hz) fun n' s' F₉ => ?_).any
  refine hQ v y hp₂ rest' γ χ n' s' e3 rfl hγ hχ ((rr.mono hγ hχ).append (.cons rv .nil)) (by rw [List.length_append]; exact Nat.succ_le_succ hy) ?_
  rw [Part.or_put (restr_out hD)]; exact F₉
theorem zip_less {k n i : Nat} (h : k = n - i) (hi : i < n) : n - (i + 1) < k := by lia
theorem comp_loopZ {fm' : Fm} (W : fm'.Wf X) {elt iter : Expr} {tes : List Expr} {tn : List Str} {tk : Nat} {tp : Pos} {scope : Scope} {pos : Pos} {mE : ME} {D z TI TO i1 i2 l1 l2 : Addr} (Ap : ZipApart z TI TO i1 i2 l1 l2)
    (T : Tgs fm' tes tn [0, 1]) (Se : SE X G fm' elt mE) {β' : List Addr} {ψ' : Part} {o1 o2 : Obj} {us ws : List Value} {as bs : List AV} (hl1 : ψ' l1 = some o1) (hl2 : ψ' l2 = some o2) (ho1 : ListObj o1 us) (ho2 : ListObj o2 ws) (r1 : RepAll X β' ψ' us as) (r2 : RepAll X β' ψ' ws bs)
    (hD : D ∉ [z, TI, TO, i1, i2]) (hκp : ∀ a ∈ [z, TI, TO, i1, i2], κ a = none) (hκD : κ D = none) (hcp : ∀ a ∈ [z, TI, TO, i1, i2], a ∉ fm'.caps) (hcD : D ∉ fm'.caps) (hsz : as.length ≤ sizeLine)
    {xs : List AV} {q1 q2 : Option AV} (h : compLoop (fun _ hp => some (true, hp)) (fun ρ hp => evE G mE ρ hp) (some 2) [] ((as.zip bs).map fun p => .tup [p.1, p.2]) hp = some (xs, hp')) {c0 : Nat} (hst : ZipSt z TI TO i1 i2 l1 l2 0 .none s.heap)
    (hα : β' <+: α) (hφ : ψ'.le φ) (F : FOk X fm' ((κ.put D { cls := .type "list", dict := none, data := .seq #[] c0, slots := #[] }).or (restr s.heap [z, TI, TO, i1, i2])) φ α [q1, q2] hp s) {R : Result → Shared → Prop}
    (hR : ∀ β ψ ys n q1 q2 s', α <+: β → φ.le ψ → RepAll X β ψ ys xs → FOk X fm' (κ.put D { cls := .type "list", dict := none, data := .seq ys.toArray n, slots := #[] }) ψ β [q1, q2] hp' s' → R (.ok .next) s') :
    codeAny (model X.prog X.w) fm'.A (.compLoop (.ListComp elt [⟨.Tuple tes tk tp, iter, [], 0⟩] scope pos) 0 (.ref z) (.ref D) fm'.env) R s := by
  generalize hpr : [z, TI, TO, i1, i2] = pr at *
  have hI0 : ∀ {i f0} {hh : Heap}, ZipSt z TI TO i1 i2 l1 l2 i f0 hh → ∀ a ∈ pr, ∃ o, hh.get? a = some o := fun x => by rw [← hpr]; exact x.there
  have hat : ∀ {i f0} {hh h2 : Heap}, ZipSt z TI TO i1 i2 l1 l2 i f0 hh → (∀ a ∈ pr, ∀ o, hh.get? a = some o → h2.get? a = some o) → ZipSt z TI TO i1 i2 l1 l2 i f0 h2 := fun x k => x.at (by rw [hpr]; exact k)
  have inpr : z ∈ pr ∧ TO ∈ pr ∧ i1 ∈ pr ∧ i2 ∈ pr := by rw [← hpr]; simp
  refine LCp.codeAny_compLoop_pair (CompZ X fm' κ φ α z TI TO i1 i2 l1 l2 D pr as bs (compLoop (fun _ hp => some (true, hp)) (fun ρ hp => evE G mE ρ hp) (some 2) []) xs hp') ?_ _
    ⟨0, s.heap, hp, α, φ, [], [], xs, c0, q1, q2, rfl, Nat.zero_le _, hst, h, rfl, List.prefix_refl _, Part.le_refl _, .nil, Nat.le_refl _, F⟩
  intro k s₁ J
  obtain ⟨i, h₀, hp₁, β, ψ, ys, done, rest, c, q1, q2, hki, hin, hst, hl, exs, hβ, hψ, rr, hy, F₁⟩ := J
  have rne : ∀ {hh : Heap}, (∀ a ∈ pr, ∃ o, hh.get? a = some o) → ∀ a ∈ pr, restr hh pr a ≠ none := fun hx a ha => by rw [restr_in ha]; obtain ⟨o, e⟩ := hx a ha; rw [e]; nofun
  have rn : ∀ {hh : Heap}, (∀ a ∈ pr, ∃ o, hh.get? a = some o) → ∀ b, restr hh pr b = none → b ∉ pr := fun hx b hb q => rne hx b q hb
  have hI := hI0 hst
  have same : ∀ a ∈ pr, ∀ o, h₀.get? a = some o → s₁.heap.get? a = some o := fun a ha o e => (F₁.orApart (by rw [restr_in ha]; exact e)).1
  have hst₁ := hat hst same
  have kD : ∀ (d : Obj) (a : Addr), a ∈ pr → (κ.put D d) a = none := fun d a ha => by
    have : a ≠ D := fun q => hD (by rw [← q]; exact ha)
    rw [Part.put_ne _ _ this]; exact hκp a ha
  have kR : ∀ (d : Obj) (hh : Heap) (a : Addr), restr hh pr a ≠ none → (κ.put D d) a = none := fun d hh a ha => kD d a (restr_mem ha)
  have cR : ∀ (hh : Heap) (a : Addr), restr hh pr a ≠ none → a ∉ fm'.caps := fun hh a ha => hcp a (restr_mem ha)
  have apP : ∀ a ∈ pr, ψ a = none ∧ a ∉ X.P :: (fm'.own ++ β) := fun a ha => by
    obtain ⟨o, e⟩ := hI a ha
    exact (F₁.orApart (by rw [restr_in ha]; exact e)).2
  have L1 : s₁.heap.IsList l1 us.toArray := by
    obtain ⟨m, rfl⟩ := ho1
    exact ⟨_, F₁.H.froz _ _ (hψ _ _ (hφ _ _ hl1)), rfl, m, rfl⟩
  have L2 : s₁.heap.IsList l2 ws.toArray := by
    obtain ⟨m, rfl⟩ := ho2
    exact ⟨_, F₁.H.froz _ _ (hψ _ _ (hφ _ _ hl2)), rfl, m, rfl⟩
  have len1 := r1.length
  have len2 := r2.length
  have hzl : (as.zip bs).length = min as.length bs.length := List.length_zip
  obtain ⟨ta, tb, hTO⟩ := hst₁.to
  rcases Nat.lt_or_ge i (as.zip bs).length with hi | hi
  · -- one more
    have hia : i < as.length := by lia
    have hib : i < bs.length := by lia
    obtain ⟨u, hu, ru⟩ := r1.get (List.getElem?_eq_getElem hia)
    obtain ⟨w, hw, rw'⟩ := r2.get (List.getElem?_eq_getElem hib)
    have hz : (as.zip bs)[i]? = some (as[i], bs[i]) := by rw [List.getElem?_zip_eq_some]; exact ⟨List.getElem?_eq_getElem hia, List.getElem?_eq_getElem hib⟩
    rw [drop_cons hz, List.map_cons] at hl
    refine wpAny_pyNext_zip_item Ap hst₁.zip hst₁.ti hTO hst₁.it1 hst₁.it2 L1 L2 (x := u) (y := w) (by simpa using hu) (by simpa using hw) fun h' z1 z2 z3 z4 z5 z6 hk => ?_
    generalize hTd : s₁.heap.objs.size = Tn at *
    have F₂ := F₁.lessKs W (kR _ _) (cR _) (h' := h') (fun b x hb e => by
      have := rn hI b hb
      exact hk b x (fun q => this (q ▸ inpr.1)) (fun q => this (q ▸ inpr.2.1)) (fun q => this (q ▸ inpr.2.2.1)) (fun q => this (q ▸ inpr.2.2.2)) e) s₁.toks
    have hnT : s₁.heap.get? Tn = none := by rw [← hTd]; exact get_size_none _
    have frT := F₁.H.fresh hnT
    have hTp : Tn ∉ pr := fun q => by
      obtain ⟨o, e⟩ := hI0 hst₁ Tn q
      rw [hnT] at e; cases e
    have hTκ : ∀ d : Obj, (κ.put D d) Tn = none → True := fun _ _ => trivial
    have hκT : (κ.put D { cls := .type "list", dict := none, data := .seq ys.toArray c, slots := #[] }) Tn = none := by
      have := frT.1; rwa [Part.or_none (restr_out hTp)] at this
    have F₃ := F₂.freeze W z5 hκT frT.2.1 frT.2.2
    have hleT : ψ.le (ψ.put Tn { cls := .type "tuple", data := .seq #[u, w] }) := Part.le_put frT.2.1
    have hst' : ZipSt z TI TO i1 i2 l1 l2 (i + 1) (rawInt Tn) h' := ⟨z1, hk _ _ Ap.TIz Ap.TITO Ap.TIi1 Ap.TIi2 hst₁.ti, ⟨_, _, z2⟩, z3, z4⟩
    have apT : ∀ a ∈ pr, (ψ.put Tn { cls := .type "tuple", data := .seq #[u, w] }) a = none ∧ a ∉ X.P :: (fm'.own ++ β) := fun a ha => by
      have : a ≠ Tn := fun q => hTp (q ▸ ha)
      rw [Part.put_ne _ _ this]; exact apP a ha
    have F₄ := F₃.addKs (p := restr h' pr) fun a o e => by
      have ha := restr_mem (h := h') (l := pr) (a := a) (by rw [e]; nofun)
      rw [restr_in ha] at e
      exact ⟨e, kD _ a ha, apT a ha⟩
    refine wpAny_letOwnedTupleGo_zip hst'.zip fun h2 zz hs2 => ?_
    have F₅ := F₄.lessKs W (kR _ _) (cR _) (h' := h2) (fun b x hb e => hs2.extBut b x (fun q => rn (hI0 hst') b hb (q ▸ inpr.1)) e) s₁.toks
    have hst2 : ZipSt z TI TO i1 i2 l1 l2 (i + 1) .none h2 := by
      obtain ⟨a, b, e⟩ := hst'.to
      exact ⟨zz, hs2.extBut _ _ Ap.TIz hst'.ti, ⟨a, b, hs2.extBut _ _ Ap.TOz e⟩, hst'.it1.extBut hs2.extBut Ap.i1z, hst'.it2.extBut hs2.extBut Ap.i2z⟩
    have F₆ := F₅.addKs (p := restr h2 pr) fun a o e => by
      have ha := restr_mem (h := h2) (l := pr) (a := a) (by rw [e]; nofun)
      rw [restr_in ha] at e
      exact ⟨e, kD _ a ha, apT a ha⟩
    -- the target
    obtain ⟨t1, t2, t3, t4, t5⟩ := T.each W
    have hTup : h2.IsTuple Tn #[u, w] := ⟨_, F₆.H.froz _ _ (Part.put_self _ _ _), rfl, _, rfl⟩
    refine wpAny_assign_Tuple W.handled hTup (by rw [t2]; rfl) t3 fun h3 he => ?_
    have rpair : RepAll X β (ψ.put Tn { cls := .type "tuple", data := .seq #[u, w] }) [u, w] [as[i], bs[i]] :=
      .cons (ru.mono (hα.trans hβ) (Part.le_trans hφ (Part.le_trans hψ hleT))) (.cons (rw'.mono (hα.trans hβ) (Part.le_trans hφ (Part.le_trans hψ hleT))) .nil)
    refine (stores_ok (ρ' := [some as[i], some bs[i]]) t1 rpair rfl (F₆.grow W (Ext.but he) s₁.toks) fun s5 F₇ => ?_).any
    refine compZ_turn (a := as[i]) (b := bs[i]) (vs := ((as.zip bs).drop (i + 1)).map fun p => .tup [p.1, p.2]) (xs := xs) W Se hD hκD hcD hl hy (Nat.le_trans (Nat.le_of_lt hia) hsz) F₇ (rr.mono (List.prefix_refl _) hleT) fun v y hp₂ rest' γ χ n' s' e3 er hγ hχ rr' hy' F₉ => ?_
    exact ⟨(as.zip bs).length - (i + 1), zip_less hki hi, i + 1, h2, hp₂, γ, χ, ys ++ [v], done ++ [y], rest', n', _, _, rfl, hi, hst2, e3, by rw [exs, er, List.append_assoc]; rfl, hβ.trans hγ, Part.le_trans hψ (Part.le_trans hleT hχ), rr', hy', F₉⟩
  · -- the end
    have : ((as.zip bs).drop i) = [] := List.drop_eq_nil_of_le hi
    rw [this] at hl
    obtain ⟨rfl, rfl⟩ := pair_inv hl
    rw [List.append_nil] at exs
    subst exs
    refine wpAny_pyNext_zip_end W.handled Ap hst₁.zip hst₁.ti hTO hst₁.it1 hst₁.it2 L1 L2 ?_ fun h' hk => ?_
    · rcases Nat.lt_or_ge i as.length with q | q
      · right
        simp; lia
      · left
        simp; lia
    · have F₂ := F₁.lessKs W (kR _ _) (cR _) (h' := h') (fun b x hb e => by
        have := rn hI b hb
        exact hk b x (fun q => this (q ▸ inpr.1)) (fun q => this (q ▸ inpr.2.1)) (fun q => this (q ▸ inpr.2.2.1)) (fun q => this (q ▸ inpr.2.2.2)) e) s₁.toks
      exact hR _ _ _ _ _ _ _ hβ hψ rr F₂
end
end Mine
end
section
namespace Mine
open PySem PyProof.Rows
structure CompOk2 (fm : Fm) (scope : Scope) (x y : Str) : Prop where
  kind : scope.kind = .function
  noCell : ∀ z ∈ scope.names, z.2 = .local
  tx : scope.names.lookup x = some .local
  ty : scope.names.lookup y = some .local
  locals : ∀ z ∈ scope.names, z.2 = .local → scope.names.lookup z.1 = some .local
  ne : x ≠ y
noncomputable def cfm2 (fm : Fm) (scope : Scope) (C : Addr) (x y : Str) : Fm :=
  { A := fm.A, env := compEnvC scope [] C fm.env, names := [x, y], own := [C] }
section
variable {X : Wd} {G : Gl} {fm : Fm} {κ φ ψ : Part} {α β : List Addr} {ρ ρ' : Env'} {hp hp' : Hp} {s : Shared}
theorem CompOk2.kindOf {scope : Scope} {x y : Str} (K : CompOk2 fm scope x y) {C : Addr} (n : Str) : (cfm2 fm scope C x y).env.kindOf n = scope.names.lookup n := by
  show (relabel scope fm.env).names.lookup n = _
  unfold relabel
  simp only
  rw [lookup_relabel]
  cases q : scope.names.lookup n with
  | none => rfl
  | some k =>
    have := K.noCell _ (mem_of_lookup' q)
    simp only at this
    subst this
    rw [Option.map_some, if_neg (by simp)]
theorem wf_cfm2 (W : fm.Wf X) {scope : Scope} {x y : Str} (K : CompOk2 fm scope x y) {C : Addr} : (cfm2 fm scope C x y).Wf X where
  kind := K.kind
  nodup := by show [x, y].Nodup; simp [K.ne]
  cellsInj := fun a b c h1 h2 => by cases h1
  cellsLoc := fun a c h => by cases h
  locIn := List.mem_cons_self
  handled := W.handled
  globals := W.globals
  builtins := W.builtins
theorem cfm2_start (W : fm.Wf X) {scope : Scope} {x y : Str} (K : CompOk2 fm scope x y) {C : Addr} (F : FOk X fm κ φ α ρ hp s) (hκ : κ C = none) (hφ : φ C = none) (hn : C ∉ X.P :: (fm.own ++ α)) (hns : s.heap.Ns C fun _ => none) :
    FOk X (cfm2 fm scope C x y) (keepK κ fm.own s.heap) φ α [none, none] hp s := by
  obtain ⟨o, _, _, eC, _⟩ := id hns
  refine ⟨F.H.enter.addOwn eC ?_ hφ ?_, ⟨⟨_, hns, fun i y' av hi hr => ?_⟩, fun z hz => ?_, rfl, fun c hc => by cases hc⟩⟩
  · unfold keepK; rw [if_neg fun q => hn (List.mem_cons_of_mem _ (List.mem_append_left _ q))]; exact hκ
  · intro q
    rcases List.mem_cons.mp q with q | q
    · exact hn (q ▸ List.mem_cons_self)
    · exact hn (List.mem_cons_of_mem _ (List.mem_append_right _ q))
  · match i with
    | 0 => simp at hr
    | 1 => simp at hr
    | i + 2 => simp at hr
  · rw [K.kindOf] at hz
    have := K.noCell _ (mem_of_lookup' hz)
    cases this
inductive PZip (X : Wd) (fm : Fm) (κ φ : Part) (α : List Addr) (ρ : Env') (hp' : Hp) (as bs : List AV) (it : Value) (s₂ : Shared) : Prop
  | mk (z TI TO i1 i2 l1 l2 : Addr) (o1 o2 : Obj) (us ws : List Value) (β : List Addr) (ψ : Part) : it = .ref z → α <+: β → φ.le ψ → FOk X fm κ ψ β ρ hp' s₂ → ZipApart z TI TO i1 i2 l1 l2 → ZipSt z TI TO i1 i2 l1 l2 0 .none s₂.heap →
    (∀ a ∈ [z, TI, TO, i1, i2], κ a = none ∧ ψ a = none ∧ a ∉ X.P :: (fm.own ++ β)) → ψ l1 = some o1 → ψ l2 = some o2 → ListObj o1 us → ListObj o2 ws → RepAll X β ψ us as → RepAll X β ψ ws bs → PZip X fm κ φ α ρ hp' as bs it s₂
noncomputable def SZip (X : Wd) (G : Gl) (fm : Fm) (e : Expr) (a b : ME) : Prop :=
  ∀ ρ hp as hp₁ bs hp', evE G a ρ hp = some (.lst as, hp₁) → evE G b ρ hp₁ = some (.lst bs, hp') → ∀ κ φ α s, FOk X fm κ φ α ρ hp s →
    Wp X fm (eval e fm.env) (fun xv s₁ => Wp X fm (pyIter xv) (PZip X fm κ φ α ρ hp' as bs) s₁) s
theorem szip (W : fm.Wf X) (g : GlobOk X "zip" (.type "zip")) (hk : fm.env.kindOf "zip" = some .globalImplicit) {np pos : Pos} {ea eb : Expr} {a b : ME} (ha : notStar ea = true) (hb : notStar eb = true) (Sa : SE X G fm ea a) (Sb : SE X G fm eb b) :
    SZip X G fm (.Call (.Name "zip" np) [ea, eb] [] pos) a b := by
  intro ρ hp as hp₁ bs hp' e1 e2 κ φ α s F
  refine wpAny_Call_NameR (load_glob W g hk (by decide) F ?_)
  rw [star1 ha, star1 hb]
  refine PySem.callWith_type rfl (Calls.evalArgs_plain (Calls.spliced_cons (Sa.andThen e1 F fun β ψ v s₁ hα hφ F₁ r₁ => Calls.spliced_cons (Sb.andThen e2 F₁ fun γ χ w s₂ hβ hψ F₂ r₂ => Calls.spliced_nil ?_))))
  obtain ⟨l1, n1, us, rfl, hl1, rr1⟩ := (r₁.mono hβ hψ).inv_lst
  obtain ⟨l2, n2, ws, rfl, hl2, rr2⟩ := r₂.inv_lst
  have I1 : s₂.heap.IsList l1 us.toArray := ⟨_, F₂.H.froz _ _ hl1, rfl, n1, rfl⟩
  have I2 : s₂.heap.IsList l2 ws.toArray := ⟨_, F₂.H.froz _ _ hl2, rfl, n2, rfl⟩
  have b1 := Heap.lt_size (F₂.H.froz _ _ hl1)
  have b2 := Heap.lt_size (F₂.H.froz _ _ hl2)
  refine call_zip_2 I1 I2 fun h' g1 g2 g3 g4 g5 g6 g7 => ?_
  generalize hS : s₂.heap.objs.size = S at *
  refine wpAny_pyIter_zip g1 ⟨S + 4, S + 2, S + 3, S, S + 1, l1, l2, _, _, us, ws, γ, χ, rfl, hα.trans hβ, Part.le_trans hφ hψ, F₂.grow W g7 s₂.toks, ?_, ⟨g1, g2, ⟨_, _, g3⟩, g4, g5⟩, fun a ha => ?_, hl1, hl2, ⟨n1, rfl⟩, ⟨n2, rfl⟩, rr1, rr2⟩
  · constructor
    · exact (show (S : Nat) + 2 ≠ S + 4 by lia)
    · exact (show (S : Nat) + 3 ≠ S + 4 by lia)
    · exact (show (S : Nat) ≠ S + 4 by lia)
    · exact (show (S : Nat) + 1 ≠ S + 4 by lia)
    · exact (show (S : Nat) + 2 ≠ S + 3 by lia)
    · exact (show (S : Nat) + 2 ≠ S by lia)
    · exact (show (S : Nat) + 2 ≠ S + 1 by lia)
    · exact (show (S : Nat) + 3 ≠ S by lia)
    · exact (show (S : Nat) + 3 ≠ S + 1 by lia)
    · exact (show (S : Nat) ≠ S + 1 by lia)
    · exact Nat.ne_of_lt (Nat.lt_of_lt_of_le b1 (show S ≤ S + 4 by exact Nat.le_add_right _ _))
    · exact Nat.ne_of_lt (Nat.lt_of_lt_of_le b1 (show S ≤ S + 3 by exact Nat.le_add_right _ _))
    · exact Nat.ne_of_lt b1
    · exact Nat.ne_of_lt (Nat.lt_of_lt_of_le b1 (show S ≤ S + 1 by exact Nat.le_add_right _ _))
    · exact Nat.ne_of_lt (Nat.lt_of_lt_of_le b2 (show S ≤ S + 4 by exact Nat.le_add_right _ _))
    · exact Nat.ne_of_lt (Nat.lt_of_lt_of_le b2 (show S ≤ S + 3 by exact Nat.le_add_right _ _))
    · exact Nat.ne_of_lt b2
    · exact Nat.ne_of_lt (Nat.lt_of_lt_of_le b2 (show S ≤ S + 1 by exact Nat.le_add_right _ _))
  · refine fresh_at F₂ (a := a) ?_
    rw [hS]
    simp at ha
    rcases ha with rfl | rfl | rfl | rfl | rfl
    · exact Nat.le_add_right _ _
    · exact Nat.le_add_right _ _
    · exact Nat.le_add_right _ _
    · exact Nat.le_refl _
    · exact Nat.le_add_right _ _
theorem comp_coreZ (W : fm.Wf X) {elt iter : Expr} {x y : Str} {px py tp : Pos} {tk : Nat} {scope : Scope} {pos : Pos} {mE : ME} (K : CompOk2 fm scope x y)
    (Se : ∀ C, (cfm2 fm scope C x y).Wf X → SE X G (cfm2 fm scope C x y) elt mE) {as bs xs : List AV} (hsz : as.length ≤ sizeLine)
    (h : compLoop (fun _ hp => some (true, hp)) (fun ρ hp => evE G mE ρ hp) (some 2) [] ((as.zip bs).map fun p => .tup [p.1, p.2]) hp = some (xs, hp'))
    {it : Value} (P : PZip X fm κ φ α ρ hp as bs it s) {R : Value → Addr → Result → Shared → Prop}
    (hR : ∀ v C s', PLC X fm κ φ α ρ hp' xs v C s' → R v C (.ok .next) s') :
    Wp X fm (newList []) (fun acc s₃ => Wp X fm (newFunctionEnv scope fm.env.globals [] [] fm.env.qual none .none (some fm.env)) (fun cenv s₄ =>
      codeAny (model X.prog X.w) fm.A (.compStart (.ListComp elt [⟨.Tuple [.Name x px, .Name y py] tk tp, iter, [], 0⟩] scope pos) 0 it acc { cenv with scope := relabel scope fm.env }) (R acc cenv.locals) s₄) s₃) s := by
  obtain ⟨z, TI, TO, i1, i2, l1, l2, o1, o2, us, ws, β, ψ, rfl, hβ, hψ, F, Ap, Zs, hpr, hl1, hl2, hL1, hL2, r1, r2⟩ := P
  refine wpAny_newObj_type (wpAny_newFunctionEnv (fun w hw => by rw [K.noCell w hw]; nofun) (by intro y hy; simp at hy) (fun h₁ hns₁ hsb₁ => ?_) K.kind)
  dsimp only at hns₁ hsb₁ ⊢
  generalize hH2 : s.heap.push { cls := .type "list", dict := none, data := .seq ([] : List Value).toArray } = H2 at hns₁ hsb₁ ⊢
  have hC : H2.objs.size = s.heap.objs.size + 1 := by rw [← hH2, Heap.size_push]
  have hDC : s.heap.objs.size ≠ H2.objs.size := by rw [hC]; exact Nat.ne_of_lt (Nat.lt_succ_self _)
  have below : ∀ b, b < s.heap.objs.size → b ≠ H2.objs.size ∧ b ≠ s.heap.objs.size := fun b hb => ⟨by rw [hC]; exact Nat.ne_of_lt (Nat.lt_succ_of_lt hb), Nat.ne_of_lt hb⟩
  have old : Ext s.heap h₁ := fun b o e => hsb₁.extBut b o (below b (Heap.lt_size e)).1 (Heap.get?_push_of_some _ (hH2 ▸ Heap.get?_push_of_some _ e))
  have hacc : h₁.get? s.heap.objs.size = some { cls := .type "list", dict := none, data := .seq ([] : List Value).toArray, slots := #[] } := hsb₁.extBut _ _ hDC (Heap.get?_push_of_some _ (hH2 ▸ Heap.get?_push_size _ rfl))
  have fresh : ∀ a, s.heap.objs.size ≤ a → s.heap.get? a = none := fun a ha => by
    cases e : s.heap.get? a with
    | none => rfl
    | some o' => exact absurd (Heap.lt_size e) (Nat.not_lt.mpr ha)
  have fD := F.H.fresh (fresh _ (Nat.le_refl _))
  have fC := F.H.fresh (fresh H2.objs.size (by rw [hC]; exact Nat.le_succ _))
  generalize hDd : s.heap.objs.size = D at *
  generalize hCc : H2.objs.size = C at *
  have there := Zs.there
  have hnD : D ∉ [z, TI, TO, i1, i2] := fun q => by
    obtain ⟨o, e⟩ := there D q
    rw [fresh D (Nat.le_refl _)] at e; cases e
  have hnC : C ∉ [z, TI, TO, i1, i2] := fun q => by
    obtain ⟨o, e⟩ := there C q
    rw [fresh C (by rw [hC]; exact Nat.le_succ _)] at e; cases e
  have F₁ := F.grow W old (s.toks + ([] : List (Str × Value)).length)
  have WC : (cfm2 fm scope C x y).Wf X := wf_cfm2 W K
  have F₂ := cfm2_start W K F₁ fC.1 fC.2.1 fC.2.2 (by simpa using hns₁)
  have notOwn : ∀ a, a ∉ X.P :: (fm.own ++ β) → κ a = none → keepK κ fm.own h₁ a = none := fun a h k => by
    unfold keepK; rw [if_neg fun q => h (List.mem_cons_of_mem _ (List.mem_append_left _ q))]; exact k
  have notC : ∀ a, a ≠ C → a ∉ X.P :: (fm.own ++ β) → a ∉ X.P :: ([C] ++ β) := fun a ha h q => by
    rcases List.mem_cons.mp q with q | q
    · exact h (q ▸ List.mem_cons_self)
    · rcases List.mem_append.mp q with q | q
      · exact ha (by simpa using q)
      · exact h (List.mem_cons_of_mem _ (List.mem_append_right _ q))
  have kD := notOwn D fD.2.2 fD.1
  have F₃ := F₂.addK (I := D) hacc kD fD.2.1 (notC D hDC fD.2.2)
  have kp : ∀ a ∈ [z, TI, TO, i1, i2], keepK κ fm.own h₁ a = none := fun a ha => notOwn a (hpr a ha).2.2 (hpr a ha).1
  have Zs₁ := Zs.at (h' := h₁) fun a _ o e => old a o e
  have F₄ := F₃.addKs (p := restr h₁ [z, TI, TO, i1, i2]) fun a o e => by
    have ha := restr_mem (h := h₁) (l := [z, TI, TO, i1, i2]) (a := a) (by rw [e]; nofun)
    rw [restr_in ha] at e
    refine ⟨e, ?_, (hpr a ha).2.1, notC a (fun q => hnC (q ▸ ha)) (hpr a ha).2.2⟩
    rw [Part.put_ne _ _ (show a ≠ D from fun q => hnD (q ▸ ha))]; exact kp a ha
  have Tg : Tgs (cfm2 fm scope C x y) [.Name x px, .Name y py] [x, y] [0, 1] :=
    .cons rfl (.inl (by rw [K.kindOf]; exact K.tx)) (.cons rfl (.inl (by rw [K.kindOf]; exact K.ty)) .nil)
  have loop : ∀ s₃ : Shared, s₃ = { s with heap := h₁, toks := s.toks + ([] : List (Str × Value)).length } →
      codeAny (model X.prog X.w) fm.A (.compLoop (.ListComp elt [⟨.Tuple [.Name x px, .Name y py] tk tp, iter, [], 0⟩] scope pos) 0 (.ref z) (.ref D) (cfm2 fm scope C x y).env) (R (.ref D) C) s₃ := by
    rintro s₃ rfl
    refine comp_loopZ (fm' := cfm2 fm scope C x y) WC Ap Tg (Se C WC) hl1 hl2 hL1 hL2 r1 r2 hnD kp kD (fun a ha q => by cases q) (fun q => by cases q) hsz h Zs₁ (List.prefix_refl _) (Part.le_refl _) F₄ fun γ χ zs n q1 q2 s' hγ hχ rr F' => hR _ _ _ ?_
    obtain ⟨m, hm, _⟩ := F'.L.ns
    obtain ⟨c, es, ep, ec, rest⟩ := hm
    obtain ⟨eD, hχD, hnD⟩ := F'.putApart
    have hCa := F'.H.apart C (List.mem_cons_of_mem _ (List.mem_append_left _ List.mem_cons_self))
    have hnd := F'.H.nodup
    rw [List.nodup_cons, List.nodup_append] at hnd
    have hCn : C ∉ X.P :: (fm.own ++ γ) := fun z => by
      rcases List.mem_cons.mp z with z | z
      · exact hnd.1 (z ▸ List.mem_append_left _ List.mem_cons_self)
      · rcases List.mem_append.mp z with z | z
        · exact fC.2.2 (List.mem_cons_of_mem _ (List.mem_append_left _ z))
        · exact hnd.2.2.2 C List.mem_cons_self C z rfl
    have hDn : D ∉ X.P :: (fm.own ++ γ) := fun z => by
      rcases List.mem_cons.mp z with z | z
      · exact hnD (z ▸ List.mem_cons_self)
      · rcases List.mem_append.mp z with z | z
        · exact fD.2.2 (List.mem_cons_of_mem _ (List.mem_append_left _ z))
        · exact hnD (List.mem_cons_of_mem _ (List.mem_append_right _ z))
    have H' := (F'.H.noOwn).subK (Part.le_put kD)
    have FB := F₁.back W H' hγ hχ
    exact ⟨c, m, fC.1, F.notCap fC.1 fC.2.1, fun h e => ⟨c, es, ep, e, rest⟩, ⟨γ, χ, D, _, zs, hβ.trans hγ, Part.le_trans hψ hχ, FB.addK ec fC.1 hCa.2 hCn, rfl, eD, ⟨n, rfl⟩, rr, by rw [Part.put_ne _ _ hDC]; exact fD.1, hχD, hDn⟩⟩
  exact codeAny_compStart_list (loop _ rfl) (wpAny_pyIter_zip Zs₁.zip (loop _ rfl))
theorem closure_none {scope : Scope} {env : Env} (h : ∀ z ∈ scope.names, z.2 = .local) : closureFor scope env = pure [] := by
  unfold closureFor
  have : ∀ (ns : List (Str × NameKind)), (∀ z ∈ ns, z.2 = .local) → (forIn ns ([] : List (Str × Addr)) fun (x : Str × NameKind) (r : List (Str × Addr)) => match x with
      | (name, kind) => if kind == .free then do let a ← cellOf env name; pure (ForInStep.yield ((name, a) :: r)) else pure (ForInStep.yield r)) = (pure [] : Sem _) := by
    intro ns
    induction ns with
    | nil => intro _; rfl
    | cons p ns ih =>
      intro hp
      obtain ⟨n, k⟩ := p
      have hk : k = .local := hp _ List.mem_cons_self
      subst hk
      rw [List.forIn_cons]
      simp only [show (NameKind.local == NameKind.free) = false from rfl, Bool.false_eq_true, if_false, pure_bind]
      exact ih fun z hz => hp z (List.mem_cons_of_mem _ hz)
  have e := this scope.names h
  simp only [bind_pure]
  exact e
theorem ss_compAssignZ (W : fm.Wf X) {elt iter : Expr} {x y nm : Str} {px py tp pn : Pos} {tk : Nat} {scope : Scope} {pos spos : Pos} {mE a b : ME} {i : Nat} (hx : fm.names[i]? = some nm) (hst : Stores fm nm) (K : CompOk2 fm scope x y) (hf : ∀ x, foldedSetIterable iter fm.env x = pure x) (S : SZip X G fm iter a b)
    (Se : ∀ C, (cfm2 fm scope C x y).Wf X → SE X G (cfm2 fm scope C x y) elt mE)
    (hsw : swapsWith (.ListComp elt [⟨.Tuple [.Name x px, .Name y py] tk tp, iter, [], 0⟩] scope pos) (some (.Name nm pn)) spos.line fm.env = pure true) :
    SS X G fm (.Assign [.Name nm pn] (.ListComp elt [⟨.Tuple [.Name x px, .Name y py] tk tp, iter, [], 0⟩] scope pos) spos) (.assign i (.frz (.lCompZ mE a b))) := by
  intro ρ hp f ρ' hp' h κ φ α s F
  obtain ⟨v, hp₄, e0, h0⟩ := bnd_inv h
  obtain ⟨rfl, rfl, rfl⟩ := tri_inv h0
  obtain ⟨xs, hp₃, q0, h3⟩ := bnd_inv e0
  obtain ⟨rfl, rfl⟩ := pair_inv h3
  obtain ⟨av, hp₁, e1, h4⟩ := bnd_inv q0
  obtain ⟨as, rfl, h5⟩ := onLst_inv h4
  obtain ⟨bv, hp₂, e2, h6⟩ := bnd_inv h5
  obtain ⟨bs, rfl, h7⟩ := onLst_inv h6
  obtain ⟨hl, q⟩ := if_inv h7
  rw [exec_Assign_Name_used _ _ _ _ hsw]
  refine wpAny_bind (wpAny_standAt (wpAny_bind ?_))
  show wpAny _ fm.A (do let _ ← comprehension (.ListComp elt [⟨.Tuple [.Name x px, .Name y py] tk tp, iter, [], 0⟩] scope pos) scope fm.env _ (newList []) false (eval iter fm.env) (some (assign (.Name nm pn) fm.env))) _ _ s
  refine wpAny_bind (wpAny_mono (wpAny_comprehension_free (use := some (assign (.Name nm pn) fm.env)) (Q := fun _ s' => PS X fm κ φ α (setLoc ρ i (.lst xs)) hp₃ Fl.next .next s') rfl hf (closure_none K.noCell) K.kind K.locals
    (wpAny_mono (S _ _ _ _ _ _ e1 e2 _ _ _ _ F) (fun xv s₁ P => wpAny_mono P (fun it s₂ P => ?_) fun _ _ z => z) fun _ _ z => z)) (fun _ s' hq => wpAny_pure (wpAny_pure hq)) fun _ _ z => z)
  refine comp_coreZ W K Se (Nat.le_of_lt hl) q P (R := fun acc C => compPost (model X.prog X.w) fm.A noE (some (assign (.Name nm pn) fm.env)) (fun _ s' => PS X fm κ φ α (setLoc ρ i (.lst xs)) hp₃ Fl.next .next s') acc C) fun v C s' P => ?_
  obtain ⟨c, m, hκ, hc, hm, P⟩ := P
  obtain ⟨γ, χ, g1, g2, F', rv⟩ := P.frz W
  refine wpAny_assign_Name (store_at W F' hx rv hst fun s'' F'' => ⟨m, hm _ F''.putApart.1, fun h' hs => ?_⟩)
  exact PS.lift g1 g2 (PS.next (F''.lessK W hκ hc (fun b x hb e => hs.extBut b x hb e) s''.toks))
end
end Mine
end
section
set_option genInjectivity false
set_option genSizeOf false
set_option genSizeOfSpec false
namespace Mine
open PySem PyProof.Rows
noncomputable abbrev IsZip3 (h : Heap) (z TI TO : Addr) (f0 : Value) (f1 : Bool) : Prop :=
  h.get? z = some { cls := .type "zip", dict := none, data := .fields #[f0, .bool f1, .bool false, .ref TI, .ref TO], slots := #[] }
noncomputable abbrev IsTri (h : Heap) (T : Addr) (a b c : Value) : Prop := h.get? T = some { cls := .type "tuple", data := .seq #[a, b, c] }
structure ZD where
  b : Nat
  l : Nat → Addr
  xs : Nat → List Value
theorem three {p : Nat → Prop} (a : p 0) (b : p 1) (c : p 2) (j : Nat) (h : j < 3) : p j := by
  rcases j with _ | _ | _ | j
  · exact a
  · exact b
  · exact c
  · exact absurd h (by lia)
structure ZS (d : ZD) (k n : Nat) (h : Heap) : Prop where
  t : IsTri h (d.b + 3) (.ref d.b) (.ref (d.b + 1)) (.ref (d.b + 2))
  it : ∀ j, j < 3 → h.IsListIter (d.b + j) (d.l j) (if j < n then k + 1 else k)
  L : ∀ j, j < 3 → h.IsList (d.l j) (d.xs j).toArray
  lt : ∀ j, j < 3 → d.l j < d.b
inductive ZF (d : ZD) (k : Nat) (h : Heap) : Prop
  | free : k = 0 → IsZip3 h (d.b + 5) (d.b + 3) (d.b + 4) .none false → ZF d k h
  | busy (T0 : Nat) (o : Obj) (f1 : Bool) : IsZip3 h (d.b + 5) (d.b + 3) (d.b + 4) (rawInt T0) f1 → h.get? T0 = some o → d.b + 6 < T0 → ZF d k h
noncomputable def ZO (d : ZD) (a : Nat) : Prop := a < d.b ∨ d.b + 6 ≤ a
theorem ZO.far {d : ZD} {a : Nat} (h : ZO d a) : a < d.b ∨ d.b + 3 ≤ a := h.imp_right fun q => Nat.le_trans (Nat.add_le_add_left (by decide) _) q
theorem ZO.ne {d : ZD} {a : Nat} (h : ZO d a) {j : Nat} (hj : j < 6) : a ≠ d.b + j := by
  rintro rfl
  rcases h with q | q
  · exact absurd q (Nat.not_lt.mpr (Nat.le_add_right _ _))
  · exact absurd (Nat.le_of_add_le_add_left q) (Nat.not_le.mpr hj)
structure ZN (d : ZD) (k : Nat) (v : Nat → Value) (h h' : Heap) (T : Nat) : Prop where
  s : ZS d (k + 1) 0 h'
  f : ZF d (k + 1) h'
  o : ∃ w : Nat → Value, IsTri h' (d.b + 4) (w 0) (w 1) (w 2)
  tri : IsTri h' T (v 0) (v 1) (v 2)
  new : d.b + 6 < T
  keep : ∀ a o, ZO d a → h.get? a = some o → h'.get? a = some o
theorem ZS.but {d : ZD} {k n : Nat} {h h' : Heap} (Z : ZS d k n h) {a : Addr} (ha : d.b + 4 ≤ a) (e : Heap.ExtBut a h h') : ZS d k n h' where
  t := e _ _ (Nat.ne_of_lt (Nat.lt_of_lt_of_le (Nat.add_lt_add_left (by decide) _) ha)) Z.t
  it := fun j hj => (Z.it j hj).extBut e (Nat.ne_of_lt (Nat.lt_of_lt_of_le (Nat.add_lt_add_left (Nat.lt_succ_of_lt hj) _) ha))
  L := fun j hj => (Z.L j hj).extBut e (Nat.ne_of_lt (Nat.lt_of_lt_of_le (Z.lt j hj) (Nat.le_trans (Nat.le_add_right _ _) ha)))
  lt := Z.lt
theorem ZS.grow {d : ZD} {k n : Nat} {h h' : Heap} (Z : ZS d k n h) (e : ∀ a o, h.get? a = some o → h'.get? a = some o) : ZS d k n h' :=
  Z.but (a := d.b + 4) (Nat.le_refl _) fun a o _ x => e a o x
theorem ZS.turn {d : ZD} {k : Nat} {h : Heap} (Z : ZS d k 3 h) : ZS d (k + 1) 0 h :=
  ⟨Z.t, fun j hj => by have := Z.it j hj; rw [if_pos hj] at this; rw [if_neg (Nat.not_lt_zero _)]; exact this, Z.L, Z.lt⟩
section
variable {prog : Program} {w : World} {A : Around} {E : Value → Shared → Prop} {s : Shared} {d : ZD} {k : Nat}
theorem wpAny_loadIfAlive {M : Model} {a : Addr} {Q : Option Obj → Shared → Prop} (h : Q (s.heap.get? a) s) : wpAny M A (loadIfAlive a) Q E s := fun Γ p _ => by
  unfold loadIfAlive
  rw [Sem.wp_loadIfAlive]
  exact h
theorem ZS.next {j : Nat} {x : Value} {Q : Value → Shared → Prop} (hj : j < 3) (Z : ZS d k j s.heap) (hx : (d.xs j)[k]? = some x) (hQ : ∀ h', ZS d k (j + 1) h' → Heap.ExtBut (d.b + j) s.heap h' → Q x { s with heap := h' }) :
    wpAny (model prog w) A (Builtin.SmallTypes.nextOf (.ref (d.b + j))) Q E s := by
  have e := Z.it j hj
  rw [if_neg (Nat.lt_irrefl _)] at e
  refine wpAny_nextOf_list_item e (Z.L j hj) (by rw [List.getElem?_toArray]; exact hx) fun h' e' hs => hQ h' ⟨hs.extBut _ _ (Nat.ne_of_gt (Nat.add_lt_add_left hj _)) Z.t, fun i hi => ?_, fun i hi => (Z.L i hi).extBut hs.extBut (Nat.ne_of_lt (Nat.lt_of_lt_of_le (Z.lt i hi) (Nat.le_add_right _ _))), Z.lt⟩ hs.extBut
  by_cases q : i = j
  · subst q
    rw [if_pos (Nat.lt_succ_self _)]; exact e'
  · rw [show (if i < j + 1 then k + 1 else k) = if i < j then k + 1 else k from ite_congr (propext ⟨fun p => (Nat.lt_succ_iff_lt_or_eq.mp p).resolve_right q, Nat.lt_succ_of_lt⟩) (fun _ => rfl) (fun _ => rfl)]
    exact (Z.it i hi).extBut hs.extBut (fun p => q (Nat.add_left_cancel p))
theorem ZS.stop {j : Nat} {Q : Value → Shared → Prop} (hh : A.handled = none) (hj : j < 3) (Z : ZS d k j s.heap) (hx : (d.xs j)[k]? = none) (hE : ∀ h' e, Heap.ExtBut (d.b + j) s.heap h' → (∃ o, h'.get? e = some o ∧ o.cls = .type "StopIteration") → E (.ref e) { s with heap := h' }) :
    wpAny (model prog w) A (Builtin.SmallTypes.nextOf (.ref (d.b + j))) Q E s := by
  have e := Z.it j hj
  rw [if_neg (Nat.lt_irrefl _)] at e
  exact wpAny_nextOf_list_end hh e (Z.L j hj) (by rw [List.getElem?_toArray]; exact hx) hE
theorem wpAny_forcons {M : Model} {α β : Type} {x : α} {xs : List α} {r : β} {f : α → β → Sem (ForInStep β)} {J : β → Shared → Prop} {Q : β → Shared → Prop}
    (h : wpAny M A (f x r) (fun y s' => ∃ r', y = .yield r' ∧ J r' s') E s) (k : ∀ r' s', J r' s' → wpAny M A (forIn xs r' f) Q E s') : wpAny M A (forIn (x :: xs) r f) Q E s := by
  rw [List.forIn_cons]
  refine wpAny_bind (wpAny_mono h (fun y s1 p => ?_) fun _ _ e => e)
  obtain ⟨r1, rfl, J1⟩ := p
  exact k r1 s1 J1
theorem wpAny_for3 {M : Model} {α β : Type} {x0 x1 x2 : α} {r0 : β} {f : α → β → Sem (ForInStep β)} {J : Nat → β → Shared → Prop} {Q : β → Shared → Prop} (J0 : J 0 r0 s)
    (step : ∀ j x, j < 3 → [x0, x1, x2][j]? = some x → ∀ r s, J j r s → wpAny M A (f x r) (fun y s' => ∃ r', y = .yield r' ∧ J (j + 1) r' s') E s) (hQ : ∀ r s, J 3 r s → Q r s) :
    wpAny M A (forIn [x0, x1, x2] r0 f) Q E s :=
  wpAny_forcons (step 0 x0 (by decide) rfl r0 s J0) fun r1 s1 J1 => wpAny_forcons (step 1 x1 (by decide) rfl r1 s1 J1) fun r2 s2 J2 => wpAny_forcons (step 2 x2 (by decide) rfl r2 s2 J2) fun r3 s3 J3 => wpAny_pure (hQ r3 s3 J3)
theorem zip_taken {z TI TO T0 : Addr} {f1 : Bool} {o0 : Obj} {Q : Bool → Shared → Prop} (hz : IsZip3 s.heap z TI TO (rawInt T0) f1) (hT0 : s.heap.get? T0 = some o0)
    (hQ : ∀ h', IsZip3 h' z TI TO (rawInt T0) true → Heap.ExtBut z s.heap h' → Q false { s with heap := h' }) :
    wpAny (model prog w) A (Builtin.SmallTypes.ownedTupleIsFree (.ref z)) Q E s := by
  unfold Builtin.SmallTypes.ownedTupleIsFree
  refine wpAny_bind (wpAny_field hz rfl (x := rawInt T0) rfl ?_)
  show wpAny _ _ (loadIfAlive _ >>= _) _ _ _
  refine wpAny_bind (wpAny_loadIfAlive ?_)
  rw [show ((T0 : Int)).toNat = T0 from Int.toNat_natCast T0, hT0]
  refine wpN Bool.false_ne_true ?_
  refine wpAny_bind (wpAny_field hz rfl (x := .bool f1) rfl ?_)
  cases f1 with
  | true =>
    refine wpN (by decide) ?_
    exact wpAny_pure (hQ s.heap hz fun _ _ _ e => e)
  | false =>
    refine wpI (by decide) ?_
    exact wpAny_bind (wpAny_setField_rec hz (by simp) fun h₁ hz₁ hs₁ => wpAny_pure (hQ h₁ hz₁ hs₁.extBut))
theorem three_eq {α : Type} {p : α → Nat → Prop} {a b c : α} (h0 : p a 0) (h1 : p b 1) (h2 : p c 2) (j : Nat) (x : α) (hj : j < 3) (h : [a, b, c][j]? = some x) : p x j :=
  three (p := fun j => [a, b, c][j]? = some x → p x j) (fun h => Option.some.inj h ▸ h0) (fun h => Option.some.inj h ▸ h1) (fun h => Option.some.inj h ▸ h2) j hj h
structure ZJ (d : ZD) (k j : Nat) (v : Nat → Value) (T0 : Nat) (o0 : Obj) (h h' : Heap) : Prop where
  s : ZS d k j h'
  z : IsZip3 h' (d.b + 5) (d.b + 3) (d.b + 4) (rawInt T0) true
  a : h'.get? T0 = some o0
  k : ∀ a o, (a < d.b ∨ d.b + 3 ≤ a) → a ≠ d.b + 5 → h.get? a = some o → h'.get? a = some o
theorem out_it {d : ZD} {a j : Nat} (hj : j < 3) (h : a < d.b ∨ d.b + 3 ≤ a) : a ≠ d.b + j := by
  rintro rfl
  rcases h with q | q
  · exact absurd q (Nat.not_lt.mpr (Nat.le_add_right _ _))
  · exact absurd (Nat.le_of_add_le_add_left q) (Nat.not_le.mpr hj)
theorem ZJ.step {v : Nat → Value} {j T0 : Nat} {o0 : Obj} {h h1 h2 : Heap} (J : ZJ d k j v T0 o0 h h1) (hj : j < 3) (hT : d.b + 6 < T0) (Z : ZS d k (j + 1) h2) (e : Heap.ExtBut (d.b + j) h1 h2) : ZJ d k (j + 1) v T0 o0 h h2 :=
  ⟨Z, e _ _ (Nat.ne_of_gt (Nat.add_lt_add_left (Nat.lt_of_lt_of_le hj (by decide)) _)) J.z, e _ _ (Nat.ne_of_gt (Nat.lt_trans (Nat.add_lt_add_left (Nat.lt_of_lt_of_le hj (by decide)) _) hT)) J.a, fun a o q p x => e _ _ (out_it hj q) (J.k a o q p x)⟩
theorem zip3_busy {o0 : Obj} {T0 : Nat} {f1 c : Bool} {v : Nat → Value} {Q : Value → Shared → Prop} (hh : c = false → A.handled = none)
    (Z : ZS d k 0 s.heap) (hz : IsZip3 s.heap (d.b + 5) (d.b + 3) (d.b + 4) (rawInt T0) f1) (hT0 : s.heap.get? T0 = some o0) (hT : d.b + 6 < T0) (hO : ∃ w : Nat → Value, IsTri s.heap (d.b + 4) (w 0) (w 1) (w 2))
    (hx : ∀ j, j < 3 → c = true ∨ j = 0 → (d.xs j)[k]? = some (v j)) (he : c = false → (d.xs 1)[k]? = none)
    (hQ : ∀ h' T, c = true → ZN d k v s.heap h' T → Q (.ref T) { s with heap := h' })
    (hE : ∀ h' e, c = false → (∀ a o, ZO d a → s.heap.get? a = some o → h'.get? a = some o) → (∃ o, h'.get? e = some o ∧ o.cls = .type "StopIteration") → E (.ref e) { s with heap := h' }) :
    wpAny (model prog w) A (Builtin.«zip.__next__» ⟨[.ref (d.b + 5)], []⟩) (fun fin s' => ∃ v, fin = .done (.ret v) ∧ Q v s') E s := by
  show wpAny _ _ (field (.ref (d.b + 5)) 2 >>= _) _ _ _
  refine wpAny_bind (wpAny_field hz rfl (x := .bool false) rfl ?_)
  show wpAny _ _ (field (.ref (d.b + 5)) 3 >>= _) _ _ _
  refine wpAny_bind (wpAny_field hz rfl (x := .ref (d.b + 3)) rfl (wpAny_bind (wpAny_seqItems Z.t rfl ?_)))
  show wpAny _ _ (Builtin.SmallTypes.ownedTupleIsFree (.ref (d.b + 5)) >>= _) _ _ _
  refine wpAny_bind (zip_taken hz hT0 fun h₁ hz₁ hs₁ => wpN (by decide) (wpAny_bind ?_))
  rw [← Array.forIn_toList]
  refine wpAny_for3 (J := fun j r s' => (c = true ∨ j ≤ 1) ∧ r = ⟨none, ((List.range j).map v).toArray⟩ ∧ ∃ h', s' = { s with heap := h' } ∧ ZJ d k j v T0 o0 s.heap h')
    ⟨.inr (Nat.zero_le _), rfl, h₁, rfl, Z.but (Nat.le_succ _) hs₁, hz₁, hs₁ _ _ (Nat.ne_of_gt (Nat.lt_trans (Nat.lt_succ_self _) hT)) hT0, fun a o _ p e => hs₁ a o p e⟩ (fun j x hj hjx r s' hJ => ?_) (fun r s' hJ => ?_)
  · obtain ⟨hc, rfl, h', rfl, J⟩ := hJ
    obtain rfl : x = .ref (d.b + j) := three_eq (p := fun (x : Value) j => x = .ref (d.b + j)) rfl rfl rfl j x hj hjx
    refine wpAny_bind (wpAny_holding ?_)
    show wpAny _ _ (Builtin.SmallTypes.nextOf (.ref (d.b + j)) >>= _) _ _ _
    by_cases q : c = true ∨ j = 0
    · refine wpAny_bind (J.s.next hj (hx j hj q) fun h2 Z2 e2 => wpAny_pure (wpAny_pure ?_))
      refine ⟨_, rfl, ?_, ?_, h2, rfl, J.step hj hT Z2 e2⟩
      · rcases q with q | q
        · exact .inl q
        · exact .inr (by rw [q]; exact Nat.le_refl _)
      · exact congrArg (fun a => (none, a)) (by rw [List.range_succ, List.map_append]; exact List.push_toArray _ _)
    · obtain ⟨q1, q2⟩ := not_or.mp q
      have hj1 : j = 1 := by
        rcases hc with hc | hc
        · exact absurd hc q1
        · lia
      subst hj1
      rw [Bool.not_eq_true] at q1
      exact wpAny_bind (J.s.stop (hh q1) hj (he q1) fun h2 e hs ho => hE h2 e q1 (fun a o ha x => hs _ _ (ZO.ne ha (by decide)) (J.k a o (ZO.far ha) (ZO.ne ha (by decide)) x)) ho)
  · obtain ⟨hc, rfl, h', rfl, J⟩ := hJ
    have hc : c = true := hc.resolve_right (by decide)
    have T6 : d.b + 6 < h'.objs.size := Nat.lt_trans hT (Heap.lt_size J.a)
    have up : ∀ o a, (a < d.b ∨ d.b + 3 ≤ a) → a ≠ d.b + 5 → s.heap.get? a = some o → (h'.push { cls := .type "tuple", data := .seq #[v 0, v 1, v 2] }).get? a = some o := fun o a p q e => Heap.get?_push_of_some _ (J.k a o p q e)
    refine wpAny_bind (wpAny_newTuple (wpAny_pure ⟨_, rfl, hQ _ h'.objs.size hc ⟨J.s.turn.grow fun a o e => Heap.get?_push_of_some _ e, .busy T0 o0 true (Heap.get?_push_of_some _ J.z) (Heap.get?_push_of_some _ J.a) hT, ?_, Heap.get?_push_size _ rfl, T6, fun a o ha e => up o a (ZO.far ha) (ZO.ne ha (by decide)) e⟩⟩) (by show (3 : Nat) ≤ sizeLine; rw [sizeLine_eq]; decide))
    obtain ⟨w, hw⟩ := hO
    exact ⟨w, up _ _ (.inr (Nat.le_succ _)) (Nat.ne_of_lt (Nat.lt_succ_self _)) hw⟩
structure ZG (d : ZD) (k j : Nat) (v : Nat → Value) (h h' : Heap) : Prop where
  s : ZS d k j h'
  z : IsZip3 h' (d.b + 5) (d.b + 3) (d.b + 4) .ellipsis false
  o : ∃ w : Nat → Value, IsTri h' (d.b + 4) (w 0) (w 1) (w 2) ∧ ∀ i, i < j → w i = v i
  k : ∀ a o, (a < d.b ∨ d.b + 3 ≤ a) → a ≠ d.b + 4 → a ≠ d.b + 5 → h.get? a = some o → h'.get? a = some o
theorem ZG.tup {v : Nat → Value} {j : Nat} {h h1 h2 : Heap} (J : ZG d k j v h h1) (hj : j < 3) (e : Heap.ExtBut (d.b + j) h1 h2) : ∃ u : Nat → Value, IsTri h2 (d.b + 4) (u 0) (u 1) (u 2) ∧ ∀ i, i < j → u i = v i :=
  J.o.imp fun _ p => ⟨e _ _ (Nat.ne_of_gt (Nat.add_lt_add_left (Nat.lt_succ_of_lt hj) _)) p.1, p.2⟩
theorem ZG.step {v u : Nat → Value} {j : Nat} {Q : Unit → Shared → Prop} {h : Heap} (J : ZG d k j v h s.heap) (hj : j < 3) {h2 : Heap} (Z : ZS d k (j + 1) h2) (e : Heap.ExtBut (d.b + j) s.heap h2)
    (hu2 : IsTri h2 (d.b + 4) (u 0) (u 1) (u 2)) (hw : ∀ i, i < j → u i = v i) (hQ : ∀ h3, ZG d k (j + 1) v h h3 → Q () { s with heap := h3 }) : wpAny (model prog w) A (updateSeq (d.b + 4) (·.setIfInBounds j (v j))) Q E { s with heap := h2 } := by
  have l4 : d.b + j < d.b + 4 := Nat.add_lt_add_left (Nat.lt_succ_of_lt hj) _
  refine wpAny_updateSeq hu2 rfl (hQ _ ⟨Z.but (Nat.le_refl _) (Heap.SameBut.update ..).extBut, (Heap.SameBut.update ..).extBut _ _ (Nat.ne_of_gt (Nat.lt_succ_self _)) (e _ _ (Nat.ne_of_gt (Nat.lt_succ_of_lt l4)) J.z), ⟨fun i => if i = j then v j else u i, (Heap.get?_update_self (Obj.mapSeq (·.setIfInBounds j (v j))) hu2 rfl).trans ?_, fun i hi => ?_⟩, fun a o p q r x => (Heap.SameBut.update ..).extBut _ _ q (e _ _ (out_it hj p) (J.k a o p q r x))⟩) (by show (3 : Nat) ≤ sizeLine; rw [sizeLine_eq]; decide) (by show Array.size _ ≤ _; rw [Array.size_setIfInBounds]; show (3 : Nat) ≤ sizeLine + 1; rw [sizeLine_eq]; decide)
  · exact three (p := fun j => some (Obj.mapSeq (·.setIfInBounds j (v j)) { cls := .type "tuple", data := .seq #[u 0, u 1, u 2] }) = some { cls := .type "tuple", data := .seq #[if 0 = j then v j else u 0, if 1 = j then v j else u 1, if 2 = j then v j else u 2] }) rfl rfl rfl j hj
  · by_cases q : i = j
    · exact (if_pos q).trans (congrArg v q.symm)
    · exact (if_neg q).trans (hw i ((Nat.lt_succ_iff_lt_or_eq.mp hi).resolve_right q))
theorem hand_out {v : Nat → Value} {Q : Unit → Shared → Prop} {h : Heap} (J : ZG d 0 3 v h s.heap) (h6 : d.b + 6 < s.heap.objs.size) (hu : IsTri s.heap (d.b + 4) (v 0) (v 1) (v 2)) (hQ : ∀ h2, ZN d 0 v h h2 s.heap.objs.size → Q () { s with heap := h2 }) :
    wpAny (model prog w) A (Builtin.SmallTypes.ownedTupleHandOut (.ref (d.b + 5)) (.ref s.heap.objs.size)) Q E { s with heap := s.heap.push { cls := .type "tuple", data := .seq #[v 0, v 1, v 2] } } := by
  unfold Builtin.SmallTypes.ownedTupleHandOut
  refine wpAny_bind (wpAny_setField_rec (Heap.get?_push_of_some _ J.z) (Nat.zero_lt_succ 4) fun h₁ hz₁ hs₁ => wpAny_setField_rec hz₁ (Nat.succ_lt_succ (Nat.zero_lt_succ 3)) fun h₂ hz₂ hs₂ => hQ h₂ ?_)
  have up : ∀ (a : Nat) o, a ≠ d.b + 5 → s.heap.get? a = some o → h₂.get? a = some o := fun a o q e => hs₂.extBut _ _ q (hs₁.extBut _ _ q (Heap.get?_push_of_some _ e))
  have hT : h₂.get? s.heap.objs.size = some { cls := .type "tuple", data := .seq #[v 0, v 1, v 2] } := hs₂.extBut _ _ (Nat.ne_of_gt (Nat.lt_trans (Nat.lt_succ_self _) h6)) (hs₁.extBut _ _ (Nat.ne_of_gt (Nat.lt_trans (Nat.lt_succ_self _) h6)) (Heap.get?_push_size _ rfl))
  exact ⟨J.s.turn.but (a := d.b + 5) (Nat.le_succ _) fun a o q e => up a o q e, .busy s.heap.objs.size _ false hz₂ hT h6, ⟨v, up _ _ (Nat.ne_of_lt (Nat.lt_succ_self _)) hu⟩, hT, h6, fun a o ha e => up a o (ZO.ne ha (by decide)) (J.k a o (ZO.far ha) (ZO.ne ha (by decide)) (ZO.ne ha (by decide)) e)⟩
theorem zip3_free {v : Nat → Value} {Q : Value → Shared → Prop}
    (Z : ZS d 0 0 s.heap) (hz : IsZip3 s.heap (d.b + 5) (d.b + 3) (d.b + 4) .none false) (hO : ∃ w : Nat → Value, IsTri s.heap (d.b + 4) (w 0) (w 1) (w 2)) (oS : Obj) (hS : s.heap.get? (d.b + 6) = some oS)
    (hx : ∀ j, j < 3 → (d.xs j)[0]? = some (v j)) (hQ : ∀ h' T, ZN d 0 v s.heap h' T → Q (.ref T) { s with heap := h' }) :
    wpAny (model prog w) A (Builtin.«zip.__next__» ⟨[.ref (d.b + 5)], []⟩) (fun fin s' => ∃ v, fin = .done (.ret v) ∧ Q v s') E s := by
  show wpAny _ _ (field (.ref (d.b + 5)) 2 >>= _) _ _ _
  refine wpAny_bind (wpAny_field hz rfl (x := .bool false) rfl ?_)
  show wpAny _ _ (field (.ref (d.b + 5)) 3 >>= _) _ _ _
  refine wpAny_bind (wpAny_field hz rfl (x := .ref (d.b + 3)) rfl (wpAny_bind (wpAny_seqItems Z.t rfl ?_)))
  show wpAny _ _ (Builtin.SmallTypes.ownedTupleIsFree (.ref (d.b + 5)) >>= _) _ _ _
  refine wpAny_bind ?_
  unfold Builtin.SmallTypes.ownedTupleIsFree
  refine wpAny_bind (wpAny_field hz rfl (x := .none) rfl (wpAny_pure (wpI rfl (wpAny_bind (wpAny_rule (wpAny_bind (wpAny_field hz rfl (x := .ref (d.b + 4)) rfl (wpAny_bind (wpAny_setField_rec hz (Nat.zero_lt_succ 4) fun h₁ hz₁ hs₁ => wpAny_bind (wpAny_for3 (J := fun j r s' => r = ⟨none, ()⟩ ∧ ∃ h', s' = { s with heap := h' } ∧ ZG d 0 j v s.heap h') ⟨rfl, h₁, rfl, Z.but (Nat.le_succ _) hs₁.extBut, hz₁, ?_, fun a o _ _ p e => hs₁.extBut a o p e⟩ (fun j x hj hjx r s' hJ => ?_) (fun r s' hJ => ?_)))))))))))
  · obtain ⟨u, hu⟩ := hO
    exact ⟨u, hs₁.extBut _ _ (Nat.ne_of_lt (Nat.lt_succ_self _)) hu, fun i hi => absurd hi (Nat.not_lt_zero _)⟩
  · obtain ⟨rfl, h', rfl, J⟩ := hJ
    obtain rfl : x = (.ref (d.b + j), j) := three_eq (p := fun (x : Value × Nat) j => x = (.ref (d.b + j), j)) rfl rfl rfl j x hj hjx
    refine wpAny_bind (wpAny_onRaise ?_)
    show wpAny _ _ (Builtin.SmallTypes.nextOf (.ref (d.b + j)) >>= _) _ _ _
    refine wpAny_bind (J.s.next hj (hx j hj) fun h2 Z2 e2 => wpAny_pure ?_)
    obtain ⟨u, hu, hw⟩ := J.tup hj e2
    exact wpAny_bind (wpAny_seqItems hu rfl (wpAny_bind (J.step hj Z2 e2 hu hw fun h3 J3 => wpAny_bind (wpAny_letGo (wpAny_pure ⟨_, rfl, rfl, h3, rfl, J3⟩)))))
  · obtain ⟨rfl, h', rfl, J⟩ := hJ
    obtain ⟨u, hu, hw⟩ := J.o
    rw [hw 0 (by decide), hw 1 (by decide), hw 2 (by decide)] at hu
    refine wpAny_bind (wpAny_seqItems hu rfl (wpAny_bind (wpAny_newTuple (wpAny_bind (hand_out J (Heap.lt_size (J.k _ oS (.inr (Nat.add_le_add_left (by decide) _)) (Nat.ne_of_gt (Nat.add_lt_add_left (by decide) _)) (Nat.ne_of_gt (Nat.lt_succ_self _)) hS)) hu fun h2 N => wpAny_pure ⟨_, rfl, hQ h2 _ N⟩)) (by show (3 : Nat) ≤ sizeLine; rw [sizeLine_eq]; decide))))
end
end Mine
end
section
namespace Mine
open PySem PyProof.Rows
theorem lk_zip_len : typeLookup (.type "zip") "__len__" = pure none := by rw [typeLookup_type, builtinLookup_eq_fast]; kernel_rfl
theorem lk_zip_hint : typeLookup (.type "zip") "__length_hint__" = pure none := by rw [typeLookup_type, builtinLookup_eq_fast]; kernel_rfl
theorem typeCall_zip_3 (a b c : Value) : checkTypeCall "zip" ⟨[a, b, c], []⟩ = pure () := by kernel_rfl
theorem newCall_zip_3 (a b c : Value) : checkBuiltinCall "zip.__new__" ⟨[.type "zip", a, b, c], []⟩ = pure () := by kernel_rfl
theorem args_object_init_4 (a b c d : Value) : argsOk "object.__init__" ⟨[a, b, c, d], []⟩ := by
  unfold argsOk; rw [signature?_of (id := "object.__init__") (n := ['_', '_', 't', 'i', 'n', 'i', '_', '_']) (o := ['t', 'c', 'e', 'j', 'b', 'o']) (by kernel_rfl) F.owner_object]; kernel_rfl
section
variable {prog : Program} {w : World} {A : Around} {E : Value → Shared → Prop} {s : Shared}
theorem pyIter_zip3 {z TI TO : Addr} {f0 : Value} {f1 : Bool} {Q : Value → Shared → Prop} (hz : IsZip3 s.heap z TI TO f0 f1) (h : Q (.ref z) s) : wpAny (model prog w) A (pyIter (.ref z)) Q E s := by
  have hT : s.TypeIs (.ref z) "zip" := ⟨_, hz, rfl⟩
  refine wpAny_pyIter_slot hT F.slot_zip_iter (wpAny_call_entry F.slot_zip_iter hT F.entry_zip_iter ?_ (F.args_zip_iter_1 _))
  show wpAny _ _ (ret (.ref z)) _ _ s
  exact wpAny_pure ⟨_, rfl, "zip", _, hT, F.slot_zip_next.lookup, h⟩
variable {d : ZD} {k : Nat}
theorem pyNext_item {v : Nat → Value} {oS : Obj} {Q : Option Value → Shared → Prop} (Z : ZS d k 0 s.heap) (f : ZF d k s.heap) (hO : ∃ w : Nat → Value, IsTri s.heap (d.b + 4) (w 0) (w 1) (w 2)) (hS : s.heap.get? (d.b + 6) = some oS)
    (hx : ∀ j, j < 3 → (d.xs j)[k]? = some (v j)) (hQ : ∀ h' T, ZN d k v s.heap h' T → Q (some (.ref T)) { s with heap := h' }) : wpAny (model prog w) A (pyNext (.ref (d.b + 5))) Q E s := by
  unfold pyNext
  cases f with
  | free q hz =>
    subst q
    have hT : s.TypeIs (.ref (d.b + 5)) "zip" := ⟨_, hz, rfl⟩
    exact wpAny_bind (wpAny_attempt (wpAny_callSpecial?_slot (name := Str.ofString "__next__") hT F.slot_zip_next (wpAny_call_entry F.slot_zip_next hT F.entry_zip_next (zip3_free Z hz hO _ hS hx fun h' T N => wpAny_pure (hQ h' T N)) (F.args_zip_next_1 _))))
  | busy T0 o f1 hz hT0 h6 =>
    have hT : s.TypeIs (.ref (d.b + 5)) "zip" := ⟨_, hz, rfl⟩
    exact wpAny_bind (wpAny_attempt (wpAny_callSpecial?_slot (name := Str.ofString "__next__") hT F.slot_zip_next (wpAny_call_entry F.slot_zip_next hT F.entry_zip_next (zip3_busy (c := true) (fun q => nomatch q) Z hz hT0 h6 hO (fun j hj _ => hx j hj) (fun q => nomatch q) (fun h' T _ N => wpAny_pure (hQ h' T N)) (fun h' e q => nomatch q)) (F.args_zip_next_1 _))))
theorem pyNext_end {v : Value} {Q : Option Value → Shared → Prop} (hh : A.handled = none) (hk : 0 < k) (Z : ZS d k 0 s.heap) (f : ZF d k s.heap) (hO : ∃ w : Nat → Value, IsTri s.heap (d.b + 4) (w 0) (w 1) (w 2))
    (hx : (d.xs 0)[k]? = some v) (he : (d.xs 1)[k]? = none) (hQ : ∀ h', (∀ a o, ZO d a → s.heap.get? a = some o → h'.get? a = some o) → Q none { s with heap := h' }) : wpAny (model prog w) A (pyNext (.ref (d.b + 5))) Q E s := by
  unfold pyNext
  cases f with
  | free q hz => exact absurd q (Nat.ne_of_gt hk)
  | busy T0 o f1 hz hT0 h6 =>
    have hT : s.TypeIs (.ref (d.b + 5)) "zip" := ⟨_, hz, rfl⟩
    refine wpAny_bind (wpAny_attempt (wpAny_callSpecial?_slot (name := Str.ofString "__next__") hT F.slot_zip_next (wpAny_call_entry F.slot_zip_next hT F.entry_zip_next
      (zip3_busy (c := false) (v := fun _ => v) (fun _ => hh) Z hz hT0 h6 hO (fun j hj q => ?_) (fun _ => he) (fun h' T q => nomatch q) (fun h' e _ hk ho => ?_)) (F.args_zip_next_1 _))))
    · obtain rfl : j = 0 := q.resolve_left (by decide)
      exact hx
    · obtain ⟨o, ho, hc⟩ := ho
      exact wpAny_bind (wpAny_isInstance (T := "StopIteration") (b := true) ⟨o, ho, hc⟩ isSubtype_stop (wpAny_pure (hQ _ hk)))
end
inductive TriIs (d : ZD) (h : Heap) (j : Nat) (v : Value) : Prop
  | mk (T : Nat) (x : Nat → Value) : v = .ref T → (∀ i, i < 3 → (d.xs i)[j]? = some (x i)) → IsTri h T (x 0) (x 1) (x 2) → d.b + 6 < T → TriIs d h j v
theorem TriIs.keep {d : ZD} {h h' : Heap} {j : Nat} {v : Value} (t : TriIs d h j v) (e : ∀ (a : Nat) o, d.b + 6 < a → h.get? a = some o → h'.get? a = some o) : TriIs d h' j v := by
  obtain ⟨T, x, rfl, hx, ht, hT⟩ := t
  exact ⟨T, x, rfl, hx, e _ _ hT ht, hT⟩
structure ZE (d : ZD) (h₀ h : Heap) (k : Nat) (acc : Array Value) (c : Nat) : Prop where
  S : h.get? (d.b + 6) = some { cls := .type "list", dict := none, data := .seq acc c, slots := #[] }
  n : acc.size = k
  tri : ∀ (j : Nat) (v : Value), acc[j]? = some v → TriIs d h j v
  keep : ∀ (a : Nat) o, a < d.b → h₀.get? a = some o → h.get? a = some o
structure ZL (d : ZD) (h₀ h : Heap) (k : Nat) (acc : Array Value) (c : Nat) : Prop where
  s : ZS d k 0 h
  f : ZF d k h
  o : ∃ w : Nat → Value, IsTri h (d.b + 4) (w 0) (w 1) (w 2)
  e : ZE d h₀ h k acc c
theorem ZE.up {d : ZD} {h₀ h h' : Heap} {k c : Nat} {acc : Array Value} (E : ZE d h₀ h k acc c) (e : ∀ a o, ZO d a → h.get? a = some o → h'.get? a = some o) : ZE d h₀ h' k acc c :=
  ⟨e _ _ (.inr (Nat.le_refl _)) E.S, E.n, fun j v x => (E.tri j v x).keep fun a o p x => e a o (.inr (Nat.le_of_lt p)) x, fun a o p x => e a o (.inl p) (E.keep a o p x)⟩
structure ZLen (d : ZD) (n : Nat) : Prop where
  a : n < (d.xs 0).length
  b : (d.xs 1).length = n
  c : (d.xs 2).length = n
  m : n ≤ 16777216
  p : 0 < n
theorem get_getD {α : Type} {l : List α} {k : Nat} {d : α} (h : k < l.length) : l[k]? = some (l.getD k d) := by
  rw [List.getD_eq_getElem?_getD, List.getElem?_eq_getElem h]; rfl
theorem ZLen.get {d : ZD} {n k : Nat} (z : ZLen d n) (h : k < n) : ∃ v : Nat → Value, ∀ j, j < 3 → (d.xs j)[k]? = some (v j) :=
  ⟨fun j => (d.xs j).getD k .none, three (p := fun j => (d.xs j)[k]? = some ((d.xs j).getD k .none)) (get_getD (Nat.lt_trans h z.a)) (get_getD (z.b.symm ▸ h)) (get_getD (z.c.symm ▸ h))⟩
theorem ZF.up {d : ZD} {k : Nat} {h h' : Heap} (f : ZF d k h) (e : ∀ (a : Nat) o, a ≠ d.b + 6 → h.get? a = some o → h'.get? a = some o) : ZF d k h' := by
  cases f with
  | free q hz => exact .free q (e _ _ (Nat.ne_of_lt (Nat.lt_succ_self _)) hz)
  | busy T0 o f1 hz hT0 h6 => exact .busy T0 o f1 (e _ _ (Nat.ne_of_lt (Nat.lt_succ_self _)) hz) (e _ _ (Nat.ne_of_gt h6) hT0) h6
theorem ZL.step {d : ZD} {h₀ h h' : Heap} {k c T : Nat} {acc : Array Value} {v : Nat → Value} (L : ZL d h₀ h k acc c) (hv : ∀ j, j < 3 → (d.xs j)[k]? = some (v j)) (N : ZN d k v h h' T) :
    ∃ c', ZL d h₀ (h'.update (d.b + 6) (Obj.mapSeq (·.push (.ref T)))) (k + 1) (acc.push (.ref T)) c' := by
  have hS := N.keep _ _ (.inr (Nat.le_refl _)) L.e.S
  have u : ∀ (a : Nat) o, a ≠ d.b + 6 → h'.get? a = some o → (h'.update (d.b + 6) (Obj.mapSeq (·.push (.ref T)))).get? a = some o := fun a o q e => (Heap.get?_update_other _ _ (Ne.symm q)).trans e
  refine ⟨_, N.s.but (Nat.add_le_add_left (by decide) _) u, N.f.up u, N.o.imp fun _ p => u _ _ (Nat.ne_of_lt (Nat.add_lt_add_left (by decide) _)) p, Heap.get?_update_self _ hS rfl, (Array.size_push _).trans (congrArg (· + 1) L.e.n), fun j x e => ?_,
    fun a o p e => u a o (Nat.ne_of_lt (Nat.lt_of_lt_of_le p (Nat.le_add_right _ _))) (N.keep a o (.inl p) (L.e.keep a o p e))⟩
  by_cases q : j = acc.size
  · rw [q, Array.getElem?_push_size] at e
    exact ⟨T, v, (Option.some.inj e).symm, by rw [q, L.e.n]; exact hv, u _ _ (Nat.ne_of_gt N.new) N.tri, N.new⟩
  · rw [Array.getElem?_push, if_neg q] at e
    exact (L.e.tri j x e).keep fun a o p x => u a o (Nat.ne_of_gt p) (N.keep a o (.inr (Nat.le_of_lt p)) x)
section
variable {prog : Program} {w : World} {A : Around} {R : Result → Shared → Prop} {s : Shared} {d : ZD} {n : Nat}
theorem zlist_loop (hh : A.handled = none) {h₀ : Heap} (z : ZLen d n) (hR : ∀ h' acc' c', ZE d h₀ h' n acc' c' → R (.ok (.ret .none)) { s with heap := h' }) (m : Nat) :
    ∀ (k : Nat) (h : Heap) (acc : Array Value) (c : Nat), k + m = n → ZL d h₀ h k acc c → codeAny (model prog w) A (.builtin "list.extend.loop" ⟨[.ref (d.b + 6), .ref (d.b + 5), .none], []⟩) R { s with heap := h } := by
  induction m with
  | zero =>
    intro k h acc c hk L
    obtain rfl : k = n := hk
    refine codeAny_builtin F.entry_extend_loop ?_
    rw [Around.under_plainId F.plain_extend_loop _]
    show wpAny _ A.in1 (pyNext (.ref (d.b + 5)) >>= _) _ _ _
    refine wpAny_bind (pyNext_end hh z.p L.s L.f L.o (get_getD (d := .none) z.a) (List.getElem?_eq_none (Nat.le_of_eq z.b)) fun h' e => wpAny_pure (hR h' acc c (L.e.up e)))
  | succ m ih =>
    intro k h acc c hk L
    obtain ⟨v, hv⟩ := z.get (k := k) (by lia)
    refine codeAny_builtin F.entry_extend_loop ?_
    rw [Around.under_plainId F.plain_extend_loop _]
    show wpAny _ A.in1 (pyNext (.ref (d.b + 5)) >>= _) _ _ _
    refine wpAny_bind (pyNext_item L.s L.f L.o L.e.S hv fun h' T N => ?_)
    obtain ⟨c', L'⟩ := L.step hv N
    show wpAny _ A.in1 (updateSeq (d.b + 6) (·.push (.ref T)) >>= _) _ _ _
    have hz : acc.size < 16777216 := by rw [L.e.n]; exact Nat.lt_of_lt_of_le (by lia) z.m
    exact wpAny_bind (wpAny_updateSeq (N.keep _ _ (.inr (Nat.le_refl _)) L.e.S) rfl (wpAny_pure ⟨plainId_quiet F.plain_extend_loop _, ih (k + 1) _ _ c' (by lia) L'⟩) (by rw [szLine]; exact Nat.le_of_lt hz) (by show (acc.push (.ref T)).size ≤ sizeLine + 1; rw [Array.size_push, szLine]; exact Nat.le_succ_of_le hz))
end
end Mine
end
section
namespace Mine
open PySem PyProof.Rows
structure ZB (d : ZD) (h : Heap) : Prop where
  s : ZS d 0 0 h
  f : IsZip3 h (d.b + 5) (d.b + 3) (d.b + 4) .none false
  o : IsTri h (d.b + 4) .none .none .none
theorem ZB.up {d : ZD} {h h' : Heap} (Z : ZB d h) (e : ∀ (a : Nat) o, a ≠ d.b + 6 → h.get? a = some o → h'.get? a = some o) : ZB d h' :=
  ⟨Z.s.but (Nat.add_le_add_left (by decide) _) e, e _ _ (Nat.ne_of_lt (Nat.lt_succ_self _)) Z.f, e _ _ (Nat.ne_of_lt (Nat.add_lt_add_left (by decide) _)) Z.o⟩
theorem ZB.zl {d : ZD} {h₀ h : Heap} {c : Nat} (Z : ZB d h) (hS : h.get? (d.b + 6) = some { cls := .type "list", dict := none, data := .seq #[] c, slots := #[] }) (keep : ∀ (a : Nat) o, a < d.b → h₀.get? a = some o → h.get? a = some o) : ZL d h₀ h 0 #[] c :=
  ⟨Z.s, .free rfl Z.f, ⟨fun _ => .none, Z.o⟩, hS, rfl, (fun _ _ e => nomatch e), keep⟩
section
variable {prog : Program} {w : World} {A : Around} {R : Result → Shared → Prop} {s : Shared} {d : ZD} {n : Nat}
theorem list_init_zip3 (hh : A.handled = none) {h₀ : Heap} (z : ZLen d n) (Z : ZB d s.heap) (hS0 : s.heap.get? (d.b + 6) = some { cls := .type "list", data := .seq #[] }) (keep : ∀ (a : Nat) o, a < d.b → h₀.get? a = some o → s.heap.get? a = some o)
    (hR : ∀ h' acc' c', ZE d h₀ h' n acc' c' → R (.ok (.ret .none)) { s with heap := h' }) :
    wpAny (model prog w) A.in1 (Builtin.«list.__init__» ⟨[.ref (d.b + 6), .ref (d.b + 5)], []⟩)
      (fun fin s' => match fin with | .done f => R (.ok f) s' | .again c' => c'.quiet = true ∧ codeAny (model prog w) A c' R s') (fun e s' => R (.error e) s') s := by
  show wpAny _ A.in1 (do let old ← Builtin.List.listItems (.ref (d.b + 6)); Builtin.List.listUpdate (.ref (d.b + 6)) (fun _ => #[]); letGo old.toList.reverse; Builtin.List.listExtendWith (.ref (d.b + 6)) (.ref (d.b + 5)) .none) _ _ s
  refine wpAny_bind ?_
  unfold Builtin.List.listItems
  refine wpAny_bind (wpAny_seqItems hS0 rfl (wpAny_pure ?_))
  show wpAny _ A.in1 (updateSeq (d.b + 6) (fun _ => #[]) >>= fun _ => letGo (#[] : Array Value).toList.reverse >>= fun _ => Builtin.List.listExtendWith (.ref (d.b + 6)) (.ref (d.b + 5)) .none) _ _ s
  refine wpAny_bind (wpAny_updateSeq hS0 rfl (wpAny_bind (wpAny_letGo ?_)))
  have hS₂ := Heap.get?_update_self (Obj.mapSeq (fun _ => (#[] : Array Value))) hS0 rfl
  have up : ∀ (a : Nat) o, a ≠ d.b + 6 → s.heap.get? a = some o → (s.heap.update (d.b + 6) (Obj.mapSeq (fun _ => (#[] : Array Value)))).get? a = some o := fun b o hb e => (Heap.get?_update_other _ _ (Ne.symm hb)).trans e
  have hT : Shared.TypeIs { s with heap := s.heap.update (d.b + 6) (Obj.mapSeq (fun _ => (#[] : Array Value))) } (.ref (d.b + 5)) "zip" := ⟨_, (Z.up up).f, rfl⟩
  unfold Builtin.List.listExtendWith
  refine wpAny_bind (wpAny_typeOf hT ?_)
  have q1 : Builtin.List.listSameRef (.ref (d.b + 6)) (.ref (d.b + 5)) = false := decide_eq_false (Nat.ne_of_gt (Nat.lt_succ_self _))
  have q2 : (Value.type "zip" == Value.type "list") = false := by decide
  have q3 : (Value.type "zip" == Value.type "tuple") = false := by decide
  simp only [q1, q2, q3, Bool.or_false, Bool.false_eq_true, if_false]
  refine wpAny_bind (pyIter_zip3 (Z.up up).f (wpAny_bind (wpAny_holding ?_)))
  unfold Builtin.List.listLengthHint
  refine wpAny_bind (wpAny_specialOf hT lk_zip_len ?_)
  show wpAny _ _ (specialOf (Value.ref (d.b + 5)) (Str.ofString "__length_hint__") >>= _) _ _ _
  refine wpAny_bind (wpAny_specialOf hT lk_zip_hint (wpAny_pure ?_))
  show wpAny _ _ (rule "list.extend.makes-room" >>= fun _ => Builtin.List.listTouch (.ref (d.b + 6)) >>= fun _ =>
    again (.builtin "list.extend.loop" ⟨[.ref (d.b + 6), .ref (d.b + 5), .none], []⟩)) _ _ _
  refine wpAny_bind (wpAny_rule (wpAny_bind ?_))
  show wpAny _ _ (updateSeq (d.b + 6) (·.push .none) >>= fun _ => updateSeq (d.b + 6) (·.pop)) _ _ _
  refine wpAny_bind (wpAny_updateSeq hS₂ rfl ?_)
  have hS₃ := Heap.get?_update_self (Obj.mapSeq (·.push Value.none)) hS₂ rfl
  refine wpAny_updateSeq (hz := by seq_fits) hS₃ rfl (wpAny_pure ⟨plainId_quiet F.plain_extend_loop _, ?_⟩)
  have hS₄ := Heap.get?_update_self (Obj.mapSeq (·.pop)) hS₃ rfl
  have up2 : ∀ (a : Nat) o, a ≠ d.b + 6 → s.heap.get? a = some o → (((s.heap.update (d.b + 6) (Obj.mapSeq (fun _ => (#[] : Array Value)))).update (d.b + 6) (Obj.mapSeq (·.push Value.none))).update (d.b + 6) (Obj.mapSeq (·.pop))).get? a = some o := fun b o hb e =>
    (Heap.get?_update_other _ _ (Ne.symm hb)).trans ((Heap.get?_update_other _ _ (Ne.symm hb)).trans (up b o hb e))
  exact zlist_loop hh z hR n 0 _ _ _ (Nat.zero_add _) ((Z.up up2).zl hS₄ fun a o p e => up2 a o (Nat.ne_of_lt (Nat.lt_of_lt_of_le p (Nat.le_add_right _ _))) (keep a o p e))
end
section
variable {prog : Program} {w : World} {A : Around} {E : Value → Shared → Prop} {s : Shared} {d : ZD} {n : Nat}
theorem call_list_zip3 {Q : Value → Shared → Prop} (hh : A.handled = none) {h₀ : Heap} (z : ZLen d n) (Z : ZB d s.heap) (hb : s.heap.objs.size = d.b + 6) (keep : ∀ (a : Nat) o, a < d.b → h₀.get? a = some o → s.heap.get? a = some o)
    (hQ : ∀ h' acc' c', ZE d h₀ h' n acc' c' → Q (.ref (d.b + 6)) { s with heap := h' }) : wpAny (model prog w) A (call (.type "list") [.ref (d.b + 5)]) Q E s := by
  refine callType_codes (Q₁ := fun obj s₁ => obj = .ref s.heap.objs.size ∧ s₁ = { s with heap := s.heap.push { cls := .type "list", data := .seq #[] } }) F.called_list (F.typeCall_list_1 _) F.entry_list_init
    (code_list_new _ ⟨rfl, rfl⟩) fun obj s₁ h₁ => ?_
  obtain ⟨rfl, rfl⟩ := h₁
  have hS0 : (s.heap.push { cls := .type "list", data := .seq #[] }).get? s.heap.objs.size = some { cls := .type "list", data := .seq #[] } := Heap.get?_push_size _ rfl
  rw [hb] at hS0 ⊢
  exact ⟨⟨_, hS0, rfl⟩, F.args_list_init_2 _ _, list_init_zip3 (A := A.in1) hh z (Z.up fun a o _ e => Heap.get?_push_of_some _ e) hS0 (fun a o p e => Heap.get?_push_of_some _ (keep a o p e)) fun h' acc' c' k => ⟨rfl, hQ h' acc' c' k⟩⟩
end
end Mine
end
section
namespace Mine
open PySem PyProof.Rows
noncomputable abbrev zH1 (h : Heap) (l1 : Addr) : Heap := h.push { cls := .type "list_iterator", data := .fields #[.ref l1, .int 0 0] }
noncomputable abbrev zH2 (h : Heap) (l1 l2 : Addr) : Heap := (zH1 h l1).push { cls := .type "list_iterator", data := .fields #[.ref l2, .int 0 0] }
noncomputable abbrev zH3 (h : Heap) (l1 l2 l3 : Addr) : Heap := (zH2 h l1 l2).push { cls := .type "list_iterator", data := .fields #[.ref l3, .int 0 0] }
noncomputable abbrev zH4 (h : Heap) (l1 l2 l3 : Addr) : Heap := (zH3 h l1 l2 l3).push { cls := .type "tuple", data := .seq #[.ref h.objs.size, .ref (zH1 h l1).objs.size, .ref (zH2 h l1 l2).objs.size] }
noncomputable abbrev zH5 (h : Heap) (l1 l2 l3 : Addr) : Heap := (zH4 h l1 l2 l3).push { cls := .type "tuple", data := .seq #[.none, .none, .none] }
noncomputable abbrev zH6 (h : Heap) (l1 l2 l3 : Addr) : Heap := (zH5 h l1 l2 l3).push { cls := .type "zip", data := .fields #[.none, .bool false, .bool false, .ref (zH3 h l1 l2 l3).objs.size, .ref (zH4 h l1 l2 l3).objs.size] }
set_option maxHeartbeats 8000000 in
theorem meets_zip_new3 (l1 l2 l3 : Addr) (xs ys zs : Array Value) :
    Meets (Builtin.«zip.__new__» ⟨[.type "zip", .ref l1, .ref l2, .ref l3], []⟩) (fun _ R s => s.heap.IsList l1 xs ∧ s.heap.IsList l2 ys ∧ s.heap.IsList l3 zs ∧
      R (.ok (.ret (.ref (zH5 s.heap l1 l2 l3).objs.size))) { s with heap := zH6 s.heap l1 l2 l3 }) :=
  .of_wp fun prog w A R s h => by
    obtain ⟨hp, g, d, tk, os⟩ := s; obtain ⟨hl1, hl2, hl3, h⟩ := h
    have hsub := sub_zip
    have hL1 : Heap.IsList (Shared.heap ⟨hp, g, d, tk, os⟩) l1 xs := hl1
    have hL2 : Heap.IsList (Shared.heap ⟨hp.push { cls := .type "list_iterator", data := .fields #[.ref l1, .int 0 0] }, g, d, tk, os⟩) l2 ys := Heap.IsList.push hl2 _
    have hL3 : Heap.IsList (Shared.heap ⟨(hp.push { cls := .type "list_iterator", data := .fields #[.ref l1, .int 0 0] }).push { cls := .type "list_iterator", data := .fields #[.ref l2, .int 0 0] }, g, d, tk, os⟩) l3 zs := Heap.IsList.push (Heap.IsList.push hl3 _) _
    wp_walk using wpAny_pyIter_list hL1, wpAny_pyIter_list hL2, wpAny_pyIter_list hL3
    exact ⟨_, rfl, h⟩
section
variable {prog : Program} {w : World} {A : Around} {E : Value → Shared → Prop} {s : Shared}
theorem call_zip_3 {l1 l2 l3 : Addr} {xs ys zs : List Value} {Q : Value → Shared → Prop} (hl1 : s.heap.IsList l1 xs.toArray) (hl2 : s.heap.IsList l2 ys.toArray) (hl3 : s.heap.IsList l3 zs.toArray)
    (h : ∀ h' d, d.b = s.heap.objs.size → h'.objs.size = d.b + 6 → d.xs 0 = xs → d.xs 1 = ys → d.xs 2 = zs → ZB d h' → (∀ c o, s.heap.get? c = some o → h'.get? c = some o) → Q (.ref (d.b + 5)) { s with heap := h' }) :
    wpAny (model prog w) A (call (.type "zip") [.ref l1, .ref l2, .ref l3]) Q E s := by
  refine callType_new F.called_zip (by decide) (typeCall_zip_3 _ _ _) (newCall_zip_3 _ _ _) (fun obj => args_object_init_4 obj _ _ _) F.entry_zip_new
    (meets_zip_new3 l1 l2 l3 xs.toArray ys.toArray zs.toArray) ⟨hl1, hl2, hl3, ?_⟩
  have z1 : (zH1 s.heap l1).objs.size = s.heap.objs.size + 1 := Heap.size_push ..
  have z2 : (zH2 s.heap l1 l2).objs.size = s.heap.objs.size + 2 := by rw [Heap.size_push, z1]
  have z3 : (zH3 s.heap l1 l2 l3).objs.size = s.heap.objs.size + 3 := by rw [Heap.size_push, z2]
  have z4 : (zH4 s.heap l1 l2 l3).objs.size = s.heap.objs.size + 4 := by rw [Heap.size_push, z3]
  have z5 : (zH5 s.heap l1 l2 l3).objs.size = s.heap.objs.size + 5 := by rw [Heap.size_push, z4]
  have z6 : (zH6 s.heap l1 l2 l3).objs.size = s.heap.objs.size + 6 := by rw [Heap.size_push, z5]
  have u5 : ∀ c o, (zH5 s.heap l1 l2 l3).get? c = some o → (zH6 s.heap l1 l2 l3).get? c = some o := fun c o e => Heap.get?_push_of_some _ e
  have u4 : ∀ c o, (zH4 s.heap l1 l2 l3).get? c = some o → (zH6 s.heap l1 l2 l3).get? c = some o := fun c o e => u5 c o (Heap.get?_push_of_some _ e)
  have u3 : ∀ c o, (zH3 s.heap l1 l2 l3).get? c = some o → (zH6 s.heap l1 l2 l3).get? c = some o := fun c o e => u4 c o (Heap.get?_push_of_some _ e)
  have u2 : ∀ c o, (zH2 s.heap l1 l2).get? c = some o → (zH6 s.heap l1 l2 l3).get? c = some o := fun c o e => u3 c o (Heap.get?_push_of_some _ e)
  have u1 : ∀ c o, (zH1 s.heap l1).get? c = some o → (zH6 s.heap l1 l2 l3).get? c = some o := fun c o e => u2 c o (Heap.get?_push_of_some _ e)
  have up : ∀ c o, s.heap.get? c = some o → (zH6 s.heap l1 l2 l3).get? c = some o := fun c o e => u1 c o (Heap.get?_push_of_some _ e)
  have g6 : (zH6 s.heap l1 l2 l3).get? (zH5 s.heap l1 l2 l3).objs.size = some _ := Heap.get?_push_size _ rfl
  have g5 := u5 _ _ (Heap.get?_push_size (zH4 s.heap l1 l2 l3) (o := { cls := .type "tuple", data := .seq #[.none, .none, .none] }) rfl)
  have g4 := u4 _ _ (Heap.get?_push_size (zH3 s.heap l1 l2 l3) (o := { cls := .type "tuple", data := .seq #[.ref s.heap.objs.size, .ref (zH1 s.heap l1).objs.size, .ref (zH2 s.heap l1 l2).objs.size] }) rfl)
  have g3 := u3 _ _ (Heap.get?_push_size (zH2 s.heap l1 l2) (o := { cls := .type "list_iterator", data := .fields #[.ref l3, .int 0 0] }) rfl)
  have g2 := u2 _ _ (Heap.get?_push_size (zH1 s.heap l1) (o := { cls := .type "list_iterator", data := .fields #[.ref l2, .int 0 0] }) rfl)
  have g1 := u1 _ _ (Heap.get?_push_size s.heap (o := { cls := .type "list_iterator", data := .fields #[.ref l1, .int 0 0] }) rfl)
  show _ ∧ _
  rw [z3, z4, z5] at g6
  rw [z4] at g5
  rw [z1, z2, z3] at g4
  rw [z2] at g3
  rw [z1] at g2
  rw [z5]
  have lt : ∀ {l : Addr} {xs : Array Value}, s.heap.IsList l xs → l < s.heap.objs.size := fun q => let ⟨_, e, _⟩ := q; Heap.lt_size e
  exact ⟨⟨_, g6, rfl⟩, h _ ⟨s.heap.objs.size, fun j => [l1, l2, l3].getD j 0, fun j => [xs, ys, zs].getD j []⟩ rfl z6 rfl rfl rfl ⟨⟨g4, three ⟨_, g1, rfl, rfl⟩ ⟨_, g2, rfl, rfl⟩ ⟨_, g3, rfl, rfl⟩, three (hl1.at fun o e => up _ o e) (hl2.at fun o e => up _ o e) (hl3.at fun o e => up _ o e), three (lt hl1) (lt hl2) (lt hl3)⟩, g6, g5⟩ up⟩
end
theorem zip3L_len {as bs cs : List AV} (h1 : bs.length < as.length) (h2 : cs.length = bs.length) : (zip3L as bs cs).length = bs.length := by
  unfold zip3L
  rw [List.length_zipWith, List.length_zip, h2, Nat.min_self, Nat.min_eq_right (Nat.le_of_lt h1)]
theorem zip3L_get {as bs cs : List AV} {i : Nat} {a b c : AV} (h1 : as[i]? = some a) (h2 : bs[i]? = some b) (h3 : cs[i]? = some c) : (zip3L as bs cs)[i]? = some (.tup [a, b, c]) := by
  unfold zip3L List.zip
  rw [List.getElem?_zipWith, List.getElem?_zipWith, h1, h2, h3]
theorem refs_of {p : Addr → Prop} : ∀ {vs : List Value}, (∀ v ∈ vs, ∃ a, v = .ref a ∧ p a) → ∃ l : List Addr, vs = l.map Value.ref ∧ ∀ a ∈ l, p a
  | [], _ => ⟨[], rfl, fun _ h => nomatch h⟩
  | v :: vs, h =>
    let ⟨l, e, k⟩ := refs_of fun u hu => h u (List.mem_cons_of_mem _ hu)
    let ⟨a, ea, ka⟩ := h v List.mem_cons_self
    ⟨a :: l, by rw [ea, e]; rfl, fun b hb => (List.mem_cons.mp hb).elim (fun q => q ▸ ka) (k b)⟩
section
variable {X : Wd} {G : Gl} {fm : Fm} {κ φ ψ : Part} {α β : List Addr} {ρ ρ' : Env'} {hp hp' : Hp} {s : Shared}
theorem RepAll.fwd {us : List Value} {as : List AV} (r : RepAll X α φ us as) {j : Nat} {q : Value} (e : us[j]? = some q) : ∃ a, as[j]? = some a ∧ Rep X α φ q a := by
  have hj : j < as.length := by rw [← r.length]; exact (List.getElem?_eq_some_iff.mp e).1
  obtain ⟨q', e', r'⟩ := r.get (List.getElem?_eq_getElem hj)
  obtain rfl := Option.some.inj (e.symm.trans e')
  exact ⟨_, List.getElem?_eq_getElem hj, r'⟩
inductive FrozL (X : Wd) (fm : Fm) (κ ψ : Part) (α : List Addr) (ρ : Env') (hp : Hp) (s : Shared) (l : List Addr) : Prop
  | mk (χ : Part) : ψ.le χ → FOk X fm κ χ α ρ hp s → (∀ a ∈ l, χ a = s.heap.get? a) → (∀ a, a ∉ l → χ a = ψ a) → FrozL X fm κ ψ α ρ hp s l
theorem freeze_many (W : fm.Wf X) (F₀ : FOk X fm κ φ α ρ hp s) {s' : Shared} (F : FOk X fm κ ψ α ρ hp s') : ∀ l : List Addr, (∀ a ∈ l, s.heap.get? a = none ∧ ∃ o, s'.heap.get? a = some o) → FrozL X fm κ ψ α ρ hp s' l
  | [], _ => ⟨ψ, Part.le_refl _, F, (fun _ h => nomatch h), fun _ _ => rfl⟩
  | p :: l, hl => by
    obtain ⟨χ, h1, F1, h2, h3⟩ := freeze_many W F₀ F l fun q hq => hl q (List.mem_cons_of_mem _ hq)
    obtain ⟨e1, o, e2⟩ := hl p List.mem_cons_self
    obtain ⟨f1, _, f3⟩ := F₀.H.fresh e1
    cases q : χ p with
    | some o' => exact ⟨χ, h1, F1, (fun r hr => (List.mem_cons.mp hr).elim (fun x => by rw [x, q, F1.H.froz _ _ q]) (h2 r)), fun a ha => h3 a fun x => ha (List.mem_cons_of_mem _ x)⟩
    | none =>
      refine ⟨χ.put p o, Part.le_trans h1 (Part.le_put q), F1.freeze W e2 f1 q f3, fun r hr => ?_, fun a ha => ?_⟩
      · by_cases x : r = p
        · rw [x, Part.put_self, e2]
        · rw [Part.put_ne _ _ x]; exact h2 r ((List.mem_cons.mp hr).resolve_left x)
      · rw [Part.put_ne _ _ fun x => ha (by rw [x]; exact List.mem_cons_self)]
        exact h3 a fun x => ha (List.mem_cons_of_mem _ x)
theorem get_ge_none {h : Heap} {a : Nat} (q : h.objs.size ≤ a) : h.get? a = none := by
  cases e : h.get? a with
  | none => rfl
  | some o => exact absurd (Heap.lt_size e) (Nat.not_lt.mpr q)
theorem zip_fin (W : fm.Wf X) (F : FOk X fm κ φ α ρ hp s) {d : ZD} {n c : Nat} {h2 : Heap} {acc : Array Value} {as bs cs : List AV} (hb : d.b = s.heap.objs.size) (E : ZE d s.heap h2 n acc c) (hn : (zip3L as bs cs).length = n)
    (r0 : RepAll X α φ (d.xs 0) as) (r1 : RepAll X α φ (d.xs 1) bs) (r2 : RepAll X α φ (d.xs 2) cs) : PL X fm κ φ α ρ hp (zip3L as bs cs) (.ref (d.b + 6)) { s with heap := h2 } := by
  have hge : ∀ {a : Nat}, d.b + 6 ≤ a → s.heap.get? a = none := fun q => get_ge_none (Nat.le_trans (hb ▸ Nat.le_add_right _ _) q)
  obtain ⟨l, hl, hk⟩ := refs_of (p := fun a => d.b + 6 < a ∧ ∃ o, h2.get? a = some o) (vs := acc.toList) fun v hv => by
    obtain ⟨j, hj⟩ := List.mem_iff_getElem?.mp hv
    obtain ⟨T, x, e, _, ht, hT⟩ := E.tri j v (by rw [← Array.getElem?_toList]; exact hj)
    exact ⟨T, e, hT, _, ht⟩
  obtain ⟨χ, hle, F', hfz, hoff⟩ := freeze_many W F (F.grow W (fun a o e => E.keep a o (hb ▸ Heap.lt_size e) e) s.toks) l fun a ha => ⟨hge (Nat.le_of_lt (hk a ha).1), (hk a ha).2⟩
  obtain ⟨f1, f2, f3⟩ := F.H.fresh (hge (Nat.le_refl _))
  refine ⟨α, χ, _, _, acc.toList, List.prefix_refl _, hle, F', rfl, E.S, ⟨c, rfl⟩, repAll_of_get _ (by rw [Array.length_toList, E.n, hn]) fun j v hv => ?_, f1, (hoff _ fun q => Nat.lt_irrefl _ (hk _ q).1).trans f2, f3⟩
  obtain ⟨T, x, rfl, hx, ht, hT⟩ := E.tri j v (by rw [← Array.getElem?_toList]; exact hv)
  have hm : T ∈ l := by
    have := List.mem_of_getElem? hv
    rw [hl] at this
    obtain ⟨T', h, e⟩ := List.mem_map.mp this
    cases e; exact h
  obtain ⟨a, ha, ra⟩ := r0.fwd (hx 0 (by decide))
  obtain ⟨b, hb', rb⟩ := r1.fwd (hx 1 (by decide))
  obtain ⟨e, he, re⟩ := r2.fwd (hx 2 (by decide))
  exact ⟨_, zip3L_get ha hb' he, .tup ((hfz T hm).trans ht) ⟨0, rfl⟩ (.cons (ra.mono (List.prefix_refl _) hle) (.cons (rb.mono (List.prefix_refl _) hle) (.cons (re.mono (List.prefix_refl _) hle) .nil)))⟩
inductive Zip3P (G : Gl) (m1 m2 m3 : ME) (ρ : Env') (hp : Hp) (xs : List AV) (hp' : Hp) : Prop
  | mk (x y z : AV) (hpx hpy : Hp) (as bs cs : List AV) : evE G m1 ρ hp = some (x, hpx) → evE G m2 ρ hpx = some (y, hpy) → evE G m3 ρ hpy = some (z, hp') → items hp' x = some as → items hp' y = some bs → items hp' z = some cs → bs.length < as.length ∧ cs.length = bs.length ∧ bs.length ≤ szMax ∧ 0 < bs.length → xs = zip3L as bs cs → Zip3P G m1 m2 m3 ρ hp xs hp'
theorem zip3_parts {m1 m2 m3 : ME} {xs : List AV} (h : evL G (.lList (.sZip [m1, m2, m3])) ρ hp = some (xs, hp')) : Zip3P G m1 m2 m3 ρ hp xs hp' := by
  obtain ⟨sr, hp₀, e0, h0⟩ := bnd_inv h
  obtain ⟨ls, hp₁, e1, h1⟩ := bnd_inv e0
  obtain ⟨rfl, rfl⟩ := pair_inv h1
  obtain ⟨x, hpx, ex, h2⟩ := bnd_inv e1
  obtain ⟨l2, hp₂, e2, h3⟩ := bnd_inv h2
  obtain ⟨rfl, rfl⟩ := pair_inv h3
  obtain ⟨y, hpy, ey, h4⟩ := bnd_inv e2
  obtain ⟨l3, hp₃, e3, h5⟩ := bnd_inv h4
  obtain ⟨rfl, rfl⟩ := pair_inv h5
  obtain ⟨z, ez, rfl⟩ := evEs1' e3
  obtain ⟨as, ea, h6⟩ := bind_inv (o := items _ x) h0
  obtain ⟨bs, eb, h7⟩ := bind_inv h6
  obtain ⟨cs, ec, h8⟩ := bind_inv h7
  obtain ⟨hl, h9⟩ := ite_inv h8
  obtain ⟨rfl, rfl⟩ := Prod.mk.inj h9
  exact ⟨x, y, z, hpx, hpy, as, bs, cs, ex, ey, ez, ea, eb, ec, hl, rfl⟩
theorem ItemsAt.list {h : Heap} {v : Value} {xs : List AV} (I : ItemsAt X α φ h v xs) : ∃ l vs, v = .ref l ∧ h.IsList l (List.toArray vs) ∧ RepAll X α φ vs xs :=
  let ⟨l, c, us, e, o, r⟩ := I; ⟨l, us, e, ⟨_, o, rfl, c, rfl⟩, r⟩
theorem sls_zip3 (W : fm.Wf X) (g : GlobOk X "zip" (.type "zip")) (hk : fm.env.kindOf "zip" = some .globalImplicit) {np pos : Pos} {e1 e2 e3 : Expr} {m1 m2 m3 : ME} (n1 : notStar e1 = true) (n2 : notStar e2 = true) (n3 : notStar e3 = true) (S1 : SE X G fm e1 m1) (S2 : SE X G fm e2 m2) (S3 : SE X G fm e3 m3) :
    SLs X G fm (.Call (.Name "zip" np) [e1, e2, e3] [] pos) (.sZip [m1, m2, m3]) := by
  intro ρ hp xs hp' h κ φ α s F
  obtain ⟨x, y, z, hpx, hpy, as, bs, cs, ex, ey, ez, ea, eb, ec, hl, rfl⟩ := zip3_parts h
  refine wpAny_Call_NameR (load_glob W g hk (by decide) F ?_)
  rw [star1 n1, star1 n2, star1 n3]
  refine PySem.callWith_type rfl (Calls.evalArgs_plain (Calls.spliced_cons (S1.andThen ex F fun β ψ v s₁ hα hφ F₁ r₁ => Calls.spliced_cons (S2.andThen ey F₁ fun γ χ w s₂ hβ hψ F₂ r₂ => Calls.spliced_cons (S3.andThen ez F₂ fun δ ω u s₃ hγ hχ F₃ r₃ => Calls.spliced_nil ?_)))))
  obtain ⟨l1, us, rfl, I1, rr1⟩ := (items_ok F₃.H ea (r₁.mono (hβ.trans hγ) (Part.le_trans hψ hχ))).list
  obtain ⟨l2, ws, rfl, I2, rr2⟩ := (items_ok F₃.H eb (r₂.mono hγ hχ)).list
  obtain ⟨l3, vs, rfl, I3, rr3⟩ := (items_ok F₃.H ec r₃).list
  refine call_zip_3 I1 I2 I3 fun h' d hb hsz x0 x1 x2 Z up => ?_
  subst x0; subst x1; subst x2
  exact call_list_zip3 (n := bs.length) W.handled ⟨by rw [rr1.length]; exact hl.1, rr2.length, rr3.length.trans hl.2.1, hl.2.2.1, hl.2.2.2⟩ Z hsz (fun a o _ e => up a o e) fun h2 acc' c' k =>
    PL.lift ((hα.trans hβ).trans hγ) (Part.le_trans (Part.le_trans hφ hψ) hχ) (zip_fin W F₃ hb k (zip3L_len hl.1 hl.2.1) rr1 rr2 rr3)
end
end Mine
end
section
namespace Mine
open PySem PyProof.Rows
section
variable {X : Wd} {G : Gl} {fm : Fm} {κ φ ψ : Part} {α β : List Addr} {ρ ρ' : Env'} {hp hp' : Hp} {s : Shared}
theorem se_str' (W : fm.Wf X) {x : Str} {l : List Nat} {k : Nat} {pos : Pos} (h : x.cps.toList = l) : SE X G fm (.Constant (.str x) k pos) (.str l) := by subst h; exact se_str W
theorem se_gint (W : fm.Wf X) {x : Str} {i : Int} (g : ∃ t, GlobOk X x (.int i t)) (hk : fm.env.kindOf x = some .globalImplicit) (hd : (x == ("__debug__" : Str)) = false) {pos : Pos} : SE X G fm (.Name x pos) (.int i) := by
  intro ρ hp av hp' h κ φ α s F
  obtain ⟨t, g⟩ := g
  obtain ⟨rfl, rfl⟩ := pair_inv h
  exact load_glob W g hk hd F (PV.of F (.int _ _))
theorem se_gstr (W : fm.Wf X) {x : Str} {l : List Nat} (g : ∃ (y : Str) (t : Tok), y.cps.toList = l ∧ GlobOk X x (.str y t)) (hk : fm.env.kindOf x = some .globalImplicit) (hd : (x == ("__debug__" : Str)) = false) {pos : Pos} : SE X G fm (.Name x pos) (.str l) := by
  intro ρ hp av hp' h κ φ α s F
  obtain ⟨y, t, rfl, g⟩ := g
  obtain ⟨rfl, rfl⟩ := pair_inv h
  exact load_glob W g hk hd F (PV.of F (.str _ _))
theorem se_neg (W : fm.Wf X) {i : Int} {k : Nat} {p pos : Pos} : SE X G fm (.UnaryOp .USub (.Constant (.int i) k p) pos) (.int (-i)) := by
  intro ρ hp av hp' h κ φ α s F
  obtain ⟨rfl, rfl⟩ := pair_inv h
  exact wpAny_UnaryOp (wpAny_Constant_int (neg_int (PV.of (F.tok _) (.int _ _))))
theorem ss_assign' (W : fm.Wf X) {x : Str} {i : Nat} {e : Expr} {me : ME} {p pos : Pos} (hx : fm.names[i]? = some x) (hs : Stores fm x) (he : swapsWith e (some (.Name x p)) pos.line fm.env = pure false) (S : SE X G fm e me) : SS X G fm (.Assign [.Name x p] e pos) (.assign i me) := by
  intro ρ hp f ρ' hp' h κ φ α s F
  obtain ⟨v, hp₁, q, h1⟩ := bnd_inv h
  obtain ⟨rfl, rfl, rfl⟩ := tri_inv h1
  refine wpAny_Assign_Name (S.andThen q F fun β ψ v s₁ hα hφ F₁ r₁ => store_at W F₁ hx r₁ hs fun s₂ F₂ => ?_) he
  exact PS.lift hα hφ (PS.next F₂)
theorem stores_fm {a : Addr} {fd : FuncData} {body : List Stmt} {d : FnDef} (K : FnOk X a fd body d) {L : Addr} {A : Around} {x : Str} {i : Nat} (h : (fmOf fd d a L A).names[i]? = some x) : Stores (fmOf fd d a L A) x := by
  have hx : x ∈ d.names := List.mem_of_getElem? h
  rcases K.kinds x hx with q | q
  · exact .inl q
  · refine .inr ⟨q, fun c hc => List.mem_cons_of_mem _ (List.mem_map.mpr ⟨(x, c), mem_of_lookup hc, rfl⟩)⟩
end
noncomputable def compOkB (fs : List (Str × NameKind)) (fnames : List Str) (scope : Scope) (x : Str) (ys : List Str) (caps : List Nat) : Bool :=
  decide (scope.kind = .function) && scope.names.all (fun y => y.2 != .cell) && decide (scope.names.lookup x = some .local) && scope.names.all (fun y => y.2 != .local || decide (scope.names.lookup y.1 = some .local)) &&
    scope.names.all (fun y => y.2 != .free || (decide (fs.lookup y.1 = some .cell) && ys.contains y.1)) && ((ys.zip caps).all fun p => decide (scope.names.lookup p.1 = some .free) && decide (fnames[p.2]? = some p.1)) && decide (caps.length = ys.length) && decide (x :: ys).Nodup
theorem compOk_of {fm : Fm} {scope : Scope} {x : Str} {ys : List Str} {caps : List Nat} (h : compOkB fm.env.scope.names fm.names scope x ys caps = true) : CompOk fm scope x ys caps := by
  unfold compOkB at h
  simp only [Bool.and_eq_true, decide_eq_true_eq, List.all_eq_true] at h
  obtain ⟨⟨⟨⟨⟨⟨⟨h1, h2⟩, h3⟩, h4⟩, h5⟩, h6⟩, h7⟩, h8⟩ := h
  refine ⟨h1, fun y hy => by have := h2 y hy; simpa using this, h3, fun y hy hl => ?_, fun y hy hl => ?_, fun i y hy => ?_, h7, h8⟩
  · have := h4 y hy
    rw [hl] at this
    simpa using this
  · have := h5 y hy
    rw [hl] at this
    simp at this
    exact this
  · have hi : i < ys.length := (List.getElem?_eq_some_iff.mp hy).1
    have hc : caps[i]? = some caps[i] := List.getElem?_eq_getElem (by lia)
    have hz : (y, caps[i]) ∈ ys.zip caps := List.mem_of_getElem? (i := i) (by rw [List.getElem?_zip_eq_some]; exact ⟨hy, hc⟩)
    have := h6 _ hz
    exact ⟨this.1, caps[i], hc, this.2⟩
theorem compOk_fn {fd : FuncData} {d : FnDef} {a L : Addr} {A : Around} {scope : Scope} {x : Str} {ys : List Str} {caps : List Nat} (h : compOkB fd.scope.names d.names scope x ys caps = true) : CompOk (fmOf fd d a L A) scope x ys caps := compOk_of h
noncomputable def compOk2B (scope : Scope) (x y : Str) : Bool :=
  decide (scope.kind = .function) && scope.names.all (fun z => decide (z.2 = .local)) && decide (scope.names.lookup x = some .local) && decide (scope.names.lookup y = some .local) && scope.names.all (fun z => decide (scope.names.lookup z.1 = some .local)) && decide (x ≠ y)
theorem compOk2_of {fm : Fm} {scope : Scope} {x y : Str} (h : compOk2B scope x y = true) : CompOk2 fm scope x y := by
  unfold compOk2B at h
  simp only [Bool.and_eq_true, decide_eq_true_eq, List.all_eq_true] at h
  obtain ⟨⟨⟨⟨⟨h1, h2⟩, h3⟩, h4⟩, h5⟩, h6⟩ := h
  exact ⟨h1, h2, h3, h4, fun z hz _ => h5 z hz, h6⟩
end Mine
end
section
namespace Mine
open PySem PyProof.Rows PySem.W
theorem stmAt_mono {rb : List Stmt} (φ ψ : Part) (a l : Addr) (h : φ.le ψ) (S : StmAt rb φ a l) : StmAt rb ψ a l := by
  obtain ⟨o, D, oD, md, cf, f, fd, c, oc, h1, h2, h3, h4, h5, h6, h7, h8, h9, h10, h11, h12, h13⟩ := S
  exact ⟨o, D, oD, md, cf, f, fd, c, oc, h _ _ h1, h2, h3, h4, h _ _ h5, h6, h7, h _ _ h8, h9, h10, h _ _ h11, h12, fun hh hf => h13 hh fun x y e => hf x y (h x y e)⟩
noncomputable def mkWd (prog : Program) (w : World) (s : Shared) (P C rc : Addr) (fields : List Str) (rb : List Stmt) (p1 : Pos) (q1 : Str) : Wd where
  prog := prog
  w := w
  gens := s.gens
  drawn := s.drawn
  os := s.os
  base := fun a => if a = P then none else s.heap.get? a
  P := P
  TabP := TabInv p1 q1
  tab_mono := TabInv.mono
  C := C
  rc := rc
  fields := fields
  StmP := StmAt rb
  stm_mono := stmAt_mono
noncomputable def mainDict (K : Frag) : Array DictEntry := match K.lookup mainGlobals with
  | some ⟨_, _, .dict es _, _⟩ => es
  | _ => #[]
structure Src (X : Wd) (K : Frag) (mg mb : Str → Option Value) : Prop where
  k : ∀ a o, K.lookup a = some o → X.base a = some o
  g : ∀ h : Heap, (∀ a o, X.base a = some o → h.get? a = some o) → h.Ns mainGlobals mg ∧ h.Ns builtinsNs mb
  main : ∀ x, nsFind (mainDict K) x = mg x
  bui : ∀ x : Str, x ≠ "__name__" → mb x = bootBuiltins x
  lim : ∀ h : Heap, (∀ a o, X.base a = some o → h.get? a = some o) → h.NoLimit
section
variable {X : Wd} {K : Frag} {mg mb : Str → Option Value} {G : Gl}
theorem Src.inK (S : Src X K mg mb) {h : Heap} (hb : ∀ a o, X.base a = some o → h.get? a = some o) : K.In h := fun a o e => hb a o (S.k a o e)
theorem glob_main (S : Src X K mg mb) {x : Str} {v : Value} (h : nsFind (mainDict K) x = some v) : GlobOk X x v := fun hh hb =>
  ⟨mg, mb, (S.g hh hb).1, (S.g hh hb).2, .inl (by rw [← S.main]; exact h)⟩
theorem glob_bui (S : Src X K mg mb) {x : Str} {v : Value} (h : nsFind (mainDict K) x = none) (hn : x ≠ "__name__") (hb : bootBuiltins x = some v) : GlobOk X x v := fun hh hb' =>
  ⟨mg, mb, (S.g hh hb').1, (S.g hh hb').2, .inr ⟨by rw [← S.main]; exact h, by rw [S.bui x hn]; exact hb⟩⟩
noncomputable def fdAt (K : Frag) (a : Addr) : FuncData := match K.lookup a with
  | some ⟨_, _, .func fd, _⟩ => fd
  | _ => default
noncomputable def isFnAt (K : Frag) (a : Addr) : Bool := match K.lookup a with
  | some ⟨c, _, .func _, _⟩ => c == .type "function"
  | _ => false
theorem fdAt_ok (S : Src X K mg mb) {a : Addr} (h : isFnAt K a = true) : ∃ o, X.base a = some o ∧ o.data = .func (fdAt K a) ∧ o.cls = .type "function" := by
  unfold isFnAt at h
  unfold fdAt
  split at h
  · rename_i c d fd sl hk
    exact ⟨_, S.k _ _ hk, rfl, eq_of_beq h⟩
  · cases h
noncomputable def fnOkB (K : Frag) (fd : FuncData) (d : FnDef) : Bool :=
  decide (d.np ≤ d.names.length) && decide d.names.Nodup && d.names.all (fun x => decide (fd.scope.names.lookup x = some .local) || decide (fd.scope.names.lookup x = some .cell)) && decide ((cellsFrom 0 fd.scope.names []).map (·.1)).Nodup && codeIn K fd.code fd.qualname
theorem fnOk_of (S : Src X K mg mb) {a : Addr} {fd : FuncData} {body : List Stmt} {d : FnDef} (hf : isFnAt K a = true) (hfd : fdAt K a = fd) (hb : fd.body = .stmts body) (hc : fd.closure = []) (hg : fd.globals = mainGlobals) (hbu : fd.builtins = builtinsNs)
    (bind : ∀ vals : List Value, vals.length = d.np → bindArgs fd ⟨vals, []⟩ = pure ((d.names.take d.np).zip vals)) (h : fnOkB K fd d = true) (co : fd.scope.isCoroutine = false) (gen : fd.scope.isGenerator = false) (kind : fd.scope.kind = .function) : FnOk X a fd body d := by
  unfold fnOkB at h
  simp only [Bool.and_eq_true, decide_eq_true_eq, List.all_eq_true, Bool.or_eq_true] at h
  obtain ⟨⟨⟨⟨h1, h2⟩, h3⟩, h4⟩, h5⟩ := h
  obtain ⟨o, e1, e2, _⟩ := fdAt_ok S hf
  rw [hfd] at e2
  exact ⟨⟨o, e1, e2⟩, hb, hc, hg, hbu, bind, h1, h2, h3, h4, co, gen, kind, S.lim, fun hh hb' => codeRec_of (S.inK hb') h5⟩
theorem fnAt_of (S : Src X K mg mb) {a : Addr} (h : isFnAt K a = true) : FnAt X (.ref a) := by
  obtain ⟨o, e1, e2, _⟩ := fdAt_ok S h
  exact ⟨a, o, _, rfl, e1, e2⟩
noncomputable def entTab : List DictEntry → Option (List (List Nat × Int))
  | [] => some []
  | e :: r => match e.key, e.val, entTab r with
    | .str x _, .int i _, some t => some ((x.cps.toList, i) :: t)
    | _, _, _ => none
theorem entTab_find : ∀ {l : List DictEntry} {tab : List (List Nat × Int)}, entTab l = some tab → ∀ k : Str,
    (tabGet tab k.cps.toList = none → (l.find? fun e => Value.isStrOf k e.key).map (·.val) = none) ∧ ∀ i, tabGet tab k.cps.toList = some i → ∃ t, (l.find? fun e => Value.isStrOf k e.key).map (·.val) = some (.int i t)
  | [], tab, h, k => by
    simp [entTab] at h; subst h
    simp [tabGet]
  | e :: r, tab, h, k => by
    simp only [entTab] at h
    split at h
    · rename_i x tx i ti t ek ev et
      cases h
      have ih := entTab_find et k
      rw [List.find?_cons, ek]
      by_cases q : x = k
      · subst q
        have h1 : Value.isStrOf x (.str x tx) = true := by simp [Value.isStrOf]
        rw [h1]
        simp only [tabGet, List.find?_cons, beq_self_eq_true, Option.map_some, ev]
        exact ⟨nofun, fun j e => by cases e; exact ⟨_, rfl⟩⟩
      · have h1 : Value.isStrOf k (.str x tx) = false := by simp [Value.isStrOf, q]
        have h2 : (x.cps.toList == k.cps.toList) = false := by
          simp only [beq_eq_false_iff_ne, ne_eq]
          intro e
          refine q ?_
          obtain ⟨a⟩ := x; obtain ⟨b⟩ := k
          simp at e; subst e; rfl
        rw [h1]
        simp only [tabGet, List.find?_cons, h2] at ih ⊢
        exact ih
    · cases h
theorem dictOk_of (S : Src X K mg mb) {da : Addr} {es : Array DictEntry} {ep : Nat} (hG : G.dict = .ref da) (hs : (da == sysModules) = false) (hk : K.lookup da = some { cls := .type "dict", data := .dict es ep }) (ht : entTab es.toList = some G.tab)
    (hh : ∀ e ∈ es, ∃ k, Value.isStrOf k e.key = true ∧ e.hash = hashStr X.w k) : DictOk X G where
  dict := by
    refine ⟨da, hG, hs, fun h hb => ⟨fun k => findBy Value.isStrOf es k, ⟨_, es, ep, S.inK hb _ _ hk, ⟨rfl, rfl, rfl⟩, rfl, hh, fun _ => rfl⟩, fun k => ?_⟩⟩
    have := entTab_find ht k
    have e : ∀ k' : Str, findBy Value.isStrOf es k' = (es.toList.find? fun e => Value.isStrOf k' e.key).map (·.val) := fun k' => by
      obtain ⟨l⟩ := es
      simp [findBy, List.find?_toArray]
    simp only [e]
    exact this
theorem keyHash_str (P : Params) (x : Str) : ∀ w : World, w.params = P → PyData.keyHash P x = hashStr w x := by
  intro w hw
  subst hw
  rfl
theorem clsAt_of (S : Src X K mg mb) {nm q : Str} {N : Addr} {bs : List Value} {sn : List Str} {sub : List Value} {ab : Bool} {col : Option Bool} {dd : Option Addr} {k0 k1 k2 k3 k5 : Option Value} {newId : String} {es : Array DictEntry} {ep : Nat}
    (hC : K.lookup X.C = some (excClassObj nm q X.C N bs [.type "object"] true sn sub ab col dd k0 k1 k2 k3 k5 newId)) (hN : K.lookup N = some { cls := .type "dict", data := .dict es ep }) (hes : StrKeys es)
    (ga : nsFind es "__getattribute__" = none) (gh : nsFind es "__getattr__" = none) (sa : nsFind es "__setattr__" = none) (fields : ∀ f ∈ X.fields, nsFind es f = none ∧ typeLookup (.type "object") f = pure none) (nodup : X.fields.Nodup) (few : X.fields.length ≤ 100) : ClsAt X (nsFind es) where
  cls := ⟨⟨nm, q, N, bs, sn, sub, ab, col, dd, k0, k1, k2, k3, k5, newId⟩, fun h hb => ⟨S.inK hb _ _ hC, _, es, ep, S.inK hb _ _ hN, rfl, hes, fun _ => rfl⟩⟩
  ga := ga
  gh := gh
  sa := sa
  fields := fields
  nodup := nodup
  few := few
theorem methAt_of (S : Src X K mg mb) {es : Array DictEntry} {name : Str} {a : Addr} (hf : isFnAt K a = true) (hn : nsFind es name = some (.ref a)) (look : ∃ y, typeLookup (.type "object") name = pure y) (nf : name ∉ X.fields) : MethAt X (nsFind es) name (.ref a) := by
  obtain ⟨o, e1, e2, e3⟩ := fdAt_ok S hf
  exact ⟨⟨a, o, _, rfl, e1, e2, e3⟩, hn, look, nf⟩
theorem strKeys_of {es : Array DictEntry} (h : es.all (fun e => match e.key with | .str _ _ => true | _ => false) = true) : StrKeys es := by
  intro e he
  rw [Array.all_eq_true'] at h
  have := h e he
  split at this
  · rename_i x t hk; exact ⟨x, t, hk⟩
  · cases this
theorem patAt_of (S : Src X K mg mb) {p tp : Addr} {vs ws : Array Value} {code : Array Nat} {n : Nat} (hp : K.lookup p = some { cls := .type "re.Pattern", data := .fields vs }) (h2 : vs.getD 2 .none = rawInt 0) (h6 : vs.getD 6 .none = rawInt 0) (h5 : vs.getD 5 .none = .ref tp)
    (ht : K.lookup tp = some { cls := .type "tuple", data := .seq ws n }) (hc : (ws.map PySem.Builtin.Re.reRawOf).map (·.toNat) = code) : ∀ h : Heap, (∀ a o, X.base a = some o → h.get? a = some o) → PatAt h p code := fun h hb =>
  ⟨_, vs, tp, _, ws, n, S.inK hb _ _ hp, rfl, rfl, rfl, h2, h6, h5, S.inK hb _ _ ht, rfl, hc⟩
end
end Mine
end
section
namespace Mine
open PySem PyProof.Rows PySem.W
noncomputable def dictEs (K : Frag) (a : Addr) : Array DictEntry := match K.lookup a with
  | some ⟨_, _, .dict es _, _⟩ => es
  | _ => #[]
noncomputable def dictEp (K : Frag) (a : Addr) : Nat := match K.lookup a with
  | some ⟨_, _, .dict _ ep, _⟩ => ep
  | _ => 0
noncomputable def isDictAt (K : Frag) (a : Addr) : Bool := match K.lookup a with
  | some ⟨c, d, .dict _ _, sl⟩ => c == .type "dict" && d.isNone && sl.isEmpty
  | _ => false
theorem dictAt_ok {K : Frag} {a : Addr} (h : isDictAt K a = true) : K.lookup a = some { cls := .type "dict", data := .dict (dictEs K a) (dictEp K a) } := by
  unfold isDictAt at h
  unfold dictEs dictEp
  split at h
  · rename_i c d es ep sl hk
    simp only [Bool.and_eq_true, Option.isNone_iff_eq_none] at h
    obtain ⟨⟨h1, h2⟩, h3⟩ := h
    rw [hk]
    have := eq_of_beq h1
    subst this; subst h2
    have : sl = #[] := by simpa using h3
    subst this
    rfl
  · cases h
theorem src_of {prog : Program} {w : World} {s : Shared} {mg mb : Str → Option Value} {p : Program} {loose : List Str} {mean : ExcName → Option Value} {P C rc : Addr} {fields : List Str} {rb : List Stmt} {p1 : Pos} {q1 : Str} {K : Frag}
    (KX : K.In s.heap) (T : Top p loose mean mg mb s.heap) (hn : K.lookup P = none) (hm : isDictAt K mainGlobals = true) (n1 : mainGlobals ≠ P) (n2 : builtinsNs ≠ P) (n3 : cStatics ≠ P) : Src (mkWd prog w s P C rc fields rb p1 q1) K mg mb where
  k := fun a o e => by
    have ha : a ≠ P := fun q => by rw [q, hn] at e; cases e
    show (if a = P then none else s.heap.get? a) = some o
    rw [if_neg ha]; exact KX a o e
  g := fun h hb => by
    have up : ∀ a o, a ≠ P → s.heap.get? a = some o → h.get? a = some o := fun a o ha e => hb a o (by show (if a = P then none else s.heap.get? a) = some o; rw [if_neg ha]; exact e)
    obtain ⟨o1, es1, ep1, e1, r1⟩ := T.g
    obtain ⟨o2, es2, ep2, e2, r2⟩ := T.b
    exact ⟨⟨o1, es1, ep1, up _ _ n1 e1, r1⟩, ⟨o2, es2, ep2, up _ _ n2 e2, r2⟩⟩
  main := fun x => by
    obtain ⟨o1, es1, ep1, e1, d1, _, f1⟩ := T.g
    have := KX _ _ (dictAt_ok hm)
    rw [e1] at this; cases this
    cases d1
    exact f1 x
  bui := T.builtins
  lim := fun h hb => by
    have up : ∀ a o, a ≠ P → s.heap.get? a = some o → h.get? a = some o := fun a o ha e => hb a o (by show (if a = P then none else s.heap.get? a) = some o; rw [if_neg ha]; exact e)
    obtain ⟨mc, ⟨o, es, ep, e, r⟩, q⟩ := T.nolimit
    exact ⟨mc, ⟨o, es, ep, up _ _ n3 e, r⟩, q⟩
theorem baseUp {prog : Program} {w : World} {s : Shared} {P C rc : Addr} {fields : List Str} {rb : List Stmt} {p1 : Pos} {q1 : Str} {h : Heap} (hb : ∀ a o, (mkWd prog w s P C rc fields rb p1 q1).base a = some o → h.get? a = some o) : ∀ a o, a ≠ P → s.heap.get? a = some o → h.get? a = some o :=
  fun a o ha e => hb a o (by show (if a = P then none else s.heap.get? a) = some o; rw [if_neg ha]; exact e)
theorem mkOk_of {prog : Program} {w : World} {s : Shared} {mg mb : Str → Option Value} {p : Program} {loose : List Str} {mean : ExcName → Option Value} {P C rc c bm : Addr} {fields : List Str} {rb : List Stmt} {p1 : Pos} {q1 : Str} {K : Frag}
    (S : Src (mkWd prog w s P C rc fields rb p1 q1) K mg mb) (T : Top p loose mean mg mb s.heap) (n1 : mainGlobals ≠ P) (hc : codeHdIn K c P = true) (hb : nsFind (mainDict K) "__builtins__" = some (.ref bm)) (b1 : bm ≠ mainGlobals) (b2 : bm ≠ P) : MkOk (mkWd prog w s P C rc fields rb p1 q1) c p1 q1 where
  tabP := rfl
  env := ⟨mg, fun h hb' => ⟨(S.g h hb').1, codeHd_of_K (S.inK hb') hc, by
    obtain ⟨bm', ob, q1, q2, q3, q4, q5, q6⟩ := T.bmain
    have e := S.main "__builtins__"
    rw [hb] at e
    rw [q1] at e
    cases e
    exact ⟨bm, ob, q1, q2, b1, b2, baseUp hb' _ _ b2 q3, q4, q5, q6⟩⟩⟩
  ne := n1
end Mine
end
section
set_option maxRecDepth 1000000
set_option maxHeartbeats 80000000
namespace Mine
open PySem PySem.W PyProof.Rows
noncomputable abbrev h1R := PySem.Challenge.rw_rs0106_01.row
noncomputable abbrev h1P : Program := h1R.prog
noncomputable def kE (P : Params) (k : Str) (t : Nat) (v : Value) : DictEntry := { hash := PyData.keyHash P k, key := .str k t, val := v }
noncomputable def kF (name q : Str) (d : Option (Arguments × List Stmt × Scope)) (m : Str) (mt : Nat) (code : Addr) : Obj := match d with
  | some (ps, b, sc) => { cls := .type "function", data := .func { name := name, qualname := q, params := ps, body := .stmts b, scope := sc, globals := 3, closure := [], defaults := .none, kwdefaults := .none, pyModule := .str m mt, code := .ref code } }
  | none => default
noncomputable def kC (p : Program) (c : Str) : List Stmt := match p.main.body.filter (fun st => match st with | .ClassDef n .. => n == c | _ => false) with
  | [.ClassDef _ _ _ b _ _ _ _ _ _ _] => b
  | _ => []
noncomputable def h1K (P : Params) : Frag := [
  (3, { cls := .type "dict", data := .dict #[kE P "__name__" 165 (.str "law_rs0106_01" 631), kE P "__doc__" 166 (.none), kE P "__package__" 167 (.none), kE P "__loader__" 168 (.builtin "__main__.__loader__#opaque"), kE P "__spec__" 169 (.none), kE P "__annotations__" 170 (.ref 6), kE P "__builtins__" 171 (.ref 4), kE P "__file__" 173 (.str "/claim/cut.py" 172), kE P "__cached__" 174 (.none), kE P "_sre" 275 (.ref 12), kE P "_netrclex" 341 (.ref 69), kE P "_twin_re_1" 359 (.ref 78), kE P "_twin_re_2" 401 (.ref 83), kE P "CRLF" 403 (.str "\x0d\n" 402), kE P "quotedata" 410 (.ref 90), kE P "ENDMARKER" 414 (.int 0 413), kE P "LPAR" 416 (.int 7 415), kE P "RPAR" 418 (.int 8 417), kE P "LSQB" 420 (.int 9 419), kE P "RSQB" 422 (.int 10 421), kE P "COLON" 424 (.int 11 423), kE P "COMMA" 426 (.int 12 425), kE P "SEMI" 428 (.int 13 427), kE P "PLUS" 430 (.int 14 429), kE P "MINUS" 432 (.int 15 431), kE P "STAR" 434 (.int 16 433), kE P "SLASH" 436 (.int 17 435), kE P "VBAR" 438 (.int 18 437), kE P "AMPER" 440 (.int 19 439), kE P "LESS" 442 (.int 20 441), kE P "GREATER" 444 (.int 21 443), kE P "EQUAL" 446 (.int 22 445), kE P "DOT" 448 (.int 23 447), kE P "PERCENT" 450 (.int 24 449), kE P "LBRACE" 452 (.int 25 451), kE P "RBRACE" 454 (.int 26 453), kE P "EQEQUAL" 456 (.int 27 455), kE P "NOTEQUAL" 458 (.int 28 457), kE P "LESSEQUAL" 460 (.int 29 459), kE P "GREATEREQUAL" 462 (.int 30 461), kE P "TILDE" 464 (.int 31 463), kE P "CIRCUMFLEX" 466 (.int 32 465), kE P "LEFTSHIFT" 468 (.int 33 467), kE P "RIGHTSHIFT" 470 (.int 34 469), kE P "DOUBLESTAR" 472 (.int 35 471), kE P "PLUSEQUAL" 474 (.int 36 473), kE P "MINEQUAL" 476 (.int 37 475), kE P "STAREQUAL" 478 (.int 38 477), kE P "SLASHEQUAL" 480 (.int 39 479), kE P "PERCENTEQUAL" 482 (.int 40 481), kE P "AMPEREQUAL" 484 (.int 41 483), kE P "VBAREQUAL" 486 (.int 42 485), kE P "CIRCUMFLEXEQUAL" 488 (.int 43 487), kE P "LEFTSHIFTEQUAL" 490 (.int 44 489), kE P "RIGHTSHIFTEQUAL" 492 (.int 45 491), kE P "DOUBLESTAREQUAL" 494 (.int 46 493), kE P "DOUBLESLASH" 496 (.int 47 495), kE P "DOUBLESLASHEQUAL" 498 (.int 48 497), kE P "AT" 500 (.int 49 499), kE P "ATEQUAL" 502 (.int 50 501), kE P "RARROW" 504 (.int 51 503), kE P "ELLIPSIS" 506 (.int 52 505), kE P "COLONEQUAL" 508 (.int 53 507), kE P "EXCLAMATION" 510 (.int 54 509), kE P "NT_OFFSET" 512 (.int 256 511), kE P "EXACT_TOKEN_TYPES" 609 (.ref 91), kE P "ISTERMINAL" 616 (.ref 100), kE P "ISNONTERMINAL" 623 (.ref 107), kE P "ISEOF" 630 (.ref 114), kE P "_law_lexer" 642 (.ref 121), kE P "_law_written" 651 (.ref 128), kE P "_law_cut" 660 (.ref 135), kE P "_law_run" 684 (.ref 142), kE P "_law_due" 690 (.ref 147), kE P "law" 696 (.ref 152)] 75 }),
  (44, { cls := .type "code", data := .fields #[.str "__init__" 296, .str "_netrclex.__init__" 297, .str "/claim/cut.py" 298, .int 5 0, .int 2 0, .int 0 0, .int 0 0, .int 3 0, .ref 39, .bool true, .int 276 0, .ref 40, .none, .ref 41, .ref 42, .ref 43, .int 301 0, .int 5 0, .str "/claim/cut.py" 302] }),
  (45, kF "__init__" "_netrclex.__init__" (theDefIn (kC h1P "_netrclex") "__init__") "cpy313.netrc" 282 44),
  (51, { cls := .type "code", data := .fields #[.str "_read_char" 304, .str "_netrclex._read_char" 305, .str "/claim/cut.py" 306, .int 11 0, .int 1 0, .int 0 0, .int 0 0, .int 3 0, .ref 46, .bool true, .int 276 0, .ref 47, .none, .ref 48, .ref 49, .ref 50, .int 309 0, .int 11 0, .str "/claim/cut.py" 310] }),
  (52, kF "_read_char" "_netrclex._read_char" (theDefIn (kC h1P "_netrclex") "_read_char") "cpy313.netrc" 282 51),
  (58, { cls := .type "code", data := .fields #[.str "get_token" 312, .str "_netrclex.get_token" 313, .str "/claim/cut.py" 314, .int 17 0, .int 1 0, .int 0 0, .int 0 0, .int 3 0, .ref 53, .bool true, .int 276 0, .ref 54, .none, .ref 55, .ref 56, .ref 57, .int 319 0, .int 17 0, .str "/claim/cut.py" 320] }),
  (59, kF "get_token" "_netrclex.get_token" (theDefIn (kC h1P "_netrclex") "get_token") "cpy313.netrc" 282 58),
  (65, { cls := .type "code", data := .fields #[.str "push_token" 322, .str "_netrclex.push_token" 323, .str "/claim/cut.py" 324, .int 44 0, .int 2 0, .int 0 0, .int 0 0, .int 3 0, .ref 60, .bool true, .int 276 0, .ref 61, .none, .ref 62, .ref 63, .ref 64, .int 327 0, .int 44 0, .str "/claim/cut.py" 328] }),
  (66, kF "push_token" "_netrclex.push_token" (theDefIn (kC h1P "_netrclex") "push_token") "cpy313.netrc" 282 65),
  (68, { cls := .type "dict", data := .dict #[kE P "__module__" 291 (.str "cpy313.netrc" 282), kE P "__firstlineno__" 295 (.int 3 294), kE P "__init__" 303 (.ref 45), kE P "_read_char" 311 (.ref 52), kE P "get_token" 321 (.ref 59), kE P "push_token" 329 (.ref 66), kE P "__static_attributes__" 334 (.ref 67), kE P "__dict__" 336 (.ref 70), kE P "__weakref__" 338 (.ref 71), kE P "__doc__" 339 (.none)] 4 }),
  (69, { cls := .type "type", data := .cls { name := "_netrclex", bases := [.type "object"], mro := [.ref 69, .type "object"], ns := 68, qualname := "_netrclex" }, slots := #[none, none, some (.str "_netrclex" 284), some (.str "_netrclex" 292), some (.builtin "object.__new__"), some (.bool true)] }),
  (77, { cls := .type "tuple", data := .seq #[.int 14 0, .int 4 0, .int 0 0, .int 1 0, .int 1 0, .int 6 0, .int 1 0, .int 16 0, .int 46 0, .int 1 0] }),
  (78, { cls := .type "re.Pattern", data := .fields #[.str "(?m)^\\." 345, .int 40 358, .int 0 0, .none, .none, .ref 77, .int 0 0] }),
  (82, { cls := .type "tuple", data := .seq #[.int 14 0, .int 9 0, .int 4 0, .int 1 0, .int 2 0, .int 16 0, .int 10 0, .int 16 0, .int 13 0, .int 0 0, .int 7 0, .int 7 0, .int 16 0, .int 13 0, .int 16 0, .int 10 0, .int 15 0, .int 18 0, .int 5 0, .int 16 0, .int 10 0, .int 15 0, .int 13 0, .int 11 0, .int 16 0, .int 13 0, .int 5 0, .int 5 0, .int 0 0, .int 16 0, .int 10 0, .int 1 0, .int 15 0, .int 2 0, .int 0 0, .int 1 0] }),
  (83, { cls := .type "re.Pattern", data := .fields #[.str "(?:\\r\\n|\\n|\\r(?!\\n))" 361, .int 32 400, .int 0 0, .none, .none, .ref 82, .int 0 0] }),
  (89, { cls := .type "code", data := .fields #[.str "quotedata" 404, .str "quotedata" 405, .str "/claim/cut.py" 406, .int 50 0, .int 1 0, .int 0 0, .int 0 0, .int 3 0, .ref 84, .bool true, .int 276 0, .ref 85, .none, .ref 86, .ref 87, .ref 88, .int 408 0, .int 50 0, .str "/claim/cut.py" 409] }),
  (90, kF "quotedata" "quotedata" (h1P.theDef "quotedata") "cpy313.smtplib" 342 89),
  (91, { cls := .type "dict", data := .dict #[kE P "!" 513 (.int 54 509), kE P "!=" 515 (.int 28 457), kE P "%" 517 (.int 24 449), kE P "%=" 519 (.int 40 481), kE P "&" 521 (.int 19 439), kE P "&=" 523 (.int 41 483), kE P "(" 525 (.int 7 415), kE P ")" 527 (.int 8 417), kE P "*" 529 (.int 16 433), kE P "**" 531 (.int 35 471), kE P "**=" 533 (.int 46 493), kE P "*=" 535 (.int 38 477), kE P "+" 537 (.int 14 429), kE P "+=" 539 (.int 36 473), kE P "," 541 (.int 12 425), kE P "-" 543 (.int 15 431), kE P "-=" 545 (.int 37 475), kE P "->" 547 (.int 51 503), kE P "." 549 (.int 23 447), kE P "..." 551 (.int 52 505), kE P "/" 553 (.int 17 435), kE P "//" 555 (.int 47 495), kE P "//=" 557 (.int 48 497), kE P "/=" 559 (.int 39 479), kE P ":" 561 (.int 11 423), kE P ":=" 563 (.int 53 507), kE P ";" 565 (.int 13 427), kE P "<" 567 (.int 20 441), kE P "<<" 569 (.int 33 467), kE P "<<=" 571 (.int 44 489), kE P "<=" 573 (.int 29 459), kE P "=" 575 (.int 22 445), kE P "==" 577 (.int 27 455), kE P ">" 579 (.int 21 443), kE P ">=" 581 (.int 30 461), kE P ">>" 582 (.int 34 469), kE P ">>=" 583 (.int 45 491), kE P "@" 584 (.int 49 499), kE P "@=" 585 (.int 50 501), kE P "[" 586 (.int 9 419), kE P "]" 587 (.int 10 421), kE P "^" 588 (.int 32 465), kE P "^=" 589 (.int 43 487), kE P "{" 590 (.int 25 451), kE P "|" 591 (.int 18 437), kE P "|=" 592 (.int 42 485), kE P "}" 593 (.int 26 453), kE P "~" 594 (.int 31 463)] 48 }),
  (99, { cls := .type "code", data := .fields #[.str "ISTERMINAL" 610, .str "ISTERMINAL" 611, .str "/claim/cut.py" 612, .int 104 0, .int 1 0, .int 0 0, .int 0 0, .int 3 0, .ref 94, .bool true, .int 276 0, .ref 95, .none, .ref 96, .ref 97, .ref 98, .int 614 0, .int 104 0, .str "/claim/cut.py" 615] }),
  (100, kF "ISTERMINAL" "ISTERMINAL" (h1P.theDef "ISTERMINAL") "cpy313.token" 411 99),
  (106, { cls := .type "code", data := .fields #[.str "ISNONTERMINAL" 617, .str "ISNONTERMINAL" 618, .str "/claim/cut.py" 619, .int 106 0, .int 1 0, .int 0 0, .int 0 0, .int 3 0, .ref 101, .bool true, .int 276 0, .ref 102, .none, .ref 103, .ref 104, .ref 105, .int 621 0, .int 106 0, .str "/claim/cut.py" 622] }),
  (107, kF "ISNONTERMINAL" "ISNONTERMINAL" (h1P.theDef "ISNONTERMINAL") "cpy313.token" 411 106),
  (113, { cls := .type "code", data := .fields #[.str "ISEOF" 624, .str "ISEOF" 625, .str "/claim/cut.py" 626, .int 108 0, .int 1 0, .int 0 0, .int 0 0, .int 3 0, .ref 108, .bool true, .int 276 0, .ref 109, .none, .ref 110, .ref 111, .ref 112, .int 628 0, .int 108 0, .str "/claim/cut.py" 629] }),
  (114, kF "ISEOF" "ISEOF" (h1P.theDef "ISEOF") "cpy313.token" 411 113),
  (120, { cls := .type "code", data := .fields #[.str "_law_lexer" 633, .str "_law_lexer" 634, .str "/claim/cut.py" 635, .int 111 0, .int 1 0, .int 0 0, .int 0 0, .int 3 0, .ref 115, .bool true, .int 276 0, .ref 116, .none, .ref 117, .ref 118, .ref 119, .int 640 0, .int 111 0, .str "/claim/cut.py" 641] }),
  (121, kF "_law_lexer" "_law_lexer" (h1P.theDef "_law_lexer") "law_rs0106_01" 631 120),
  (127, { cls := .type "code", data := .fields #[.str "_law_written" 643, .str "_law_written" 644, .str "/claim/cut.py" 645, .int 118 0, .int 3 0, .int 0 0, .int 0 0, .int 3 0, .ref 122, .bool true, .int 276 0, .ref 123, .none, .ref 124, .ref 125, .ref 126, .int 649 0, .int 118 0, .str "/claim/cut.py" 650] }),
  (128, kF "_law_written" "_law_written" (h1P.theDef "_law_written") "law_rs0106_01" 631 127),
  (134, { cls := .type "code", data := .fields #[.str "_law_cut" 652, .str "_law_cut" 653, .str "/claim/cut.py" 654, .int 124 0, .int 1 0, .int 0 0, .int 0 0, .int 3 0, .ref 129, .bool true, .int 276 0, .ref 130, .none, .ref 131, .ref 132, .ref 133, .int 658 0, .int 124 0, .str "/claim/cut.py" 659] }),
  (135, kF "_law_cut" "_law_cut" (h1P.theDef "_law_cut") "law_rs0106_01" 631 134),
  (141, { cls := .type "code", data := .fields #[.str "_law_run" 661, .str "_law_run" 662, .str "/claim/cut.py" 663, .int 133 0, .int 6 0, .int 0 0, .int 0 0, .int 3 0, .ref 136, .bool true, .int 276 0, .ref 137, .none, .ref 138, .ref 139, .ref 140, .int 682 0, .int 133 0, .str "/claim/cut.py" 683] }),
  (142, kF "_law_run" "_law_run" (h1P.theDef "_law_run") "law_rs0106_01" 631 141),
  (146, { cls := .type "code", data := .fields #[.str "_law_due" 685, .str "_law_due" 686, .str "/claim/cut.py" 687, .int 153 0, .int 3 0, .int 0 0, .int 0 0, .int 3 0, .ref 143, .bool true, .int 276 0, .ref 144, .none, .none, .none, .ref 145, .int 688 0, .int 153 0, .str "/claim/cut.py" 689] }),
  (147, kF "_law_due" "_law_due" (h1P.theDef "_law_due") "law_rs0106_01" 631 146),
  (151, { cls := .type "code", data := .fields #[.str "law" 691, .str "law" 692, .str "/claim/cut.py" 693, .int 166 0, .int 1 0, .int 0 0, .int 0 0, .int 3 0, .ref 148, .bool true, .int 276 0, .ref 149, .none, .none, .none, .ref 150, .int 694 0, .int 166 0, .str "/claim/cut.py" 695] }),
  (152, kF "law" "law" (h1P.theDef "law") "law_rs0106_01" 631 151)]
noncomputable abbrev h1Q : Program := view h1P ((List.range 70).filter fun i => !([1, 3, 8, 63] : List Nat).contains i)
noncomputable abbrev h1Loose : List Str := ["_twin_re_1", "_twin_re_2", "EXACT_TOKEN_TYPES"]
noncomputable abbrev h1As : List Addr := [3, 44, 45, 51, 52, 58, 59, 65, 66, 68, 69, 77, 78, 82, 83, 89, 90, 91, 99, 100, 106, 107, 113, 114, 120, 121, 127, 128, 134, 135, 141, 142, 146, 147, 151, 152]
theorem h1E (P : Params) : h1As = (h1K P).map (·.1) := by kernel_rfl
noncomputable abbrev h1H : Hook := kmHook h1K h1As h1E [116]
noncomputable abbrev h1Xt : Shared → Bool := fun s => xlAt h1Q [] s && recOk (RowW.records h1R.toRowW) s
theorem h1Said : PySem.Challenge.rw_rs0106_01.wellSaid = true := by
  unfold OpenLaw.wellSaid
  decide +kernel
noncomputable def h1Dr : DefRec := ((defOf h1P h1R.name).map (·.1)).getD ⟨"", default, [], default, default⟩
theorem h1Def : defOf h1Q h1R.name = some (h1Dr, []) := by kernel_rfl
theorem h1The : h1R.prog.theDef h1R.name = some (h1Dr.params, h1Dr.body, h1Dr.scope) := by kernel_rfl
theorem h1Ok : (chainsOk h1Q && opensWell h1R.prog && (frees h1R.toRowW && h1R.within.isEmpty)) = true := by kernel_rfl
theorem h1Pro : h1R.toRowW.promised := ⟨[WData.list []], by decide +kernel, by decide +kernel⟩
noncomputable def h1EndP (b : Bool) : Prop := ∀ w : World, (openEnds treeTable h1P (w.withFollow "special-get-raises" b) 5000).map (fun s => (openSeen h1Q h1Loose (importedModules h1P.main.body) h1Xt true s, h1H.obs s)) = some (openGood h1Q h1Loose, h1H.val (w.withFollow "special-get-raises" b))
theorem h1Ends0 : h1EndP false := by
  unfold h1EndP openEnds fencedOpening topFrom
  rw [PySem.W.Fast.te14082659384304107361, PySem.W.Fast.te14364793385576792824, PySem.W.Fast.te10274390034422433532, PySem.W.Fast.te1435165496053646825, PySem.W.Fast.te14289696077712309145]
  intro w
  kernel_rfl
theorem h1Ends1 : h1EndP true := by
  unfold h1EndP openEnds fencedOpening topFrom
  rw [PySem.W.Fast.te14082659384304107361, PySem.W.Fast.te14364793385576792824, PySem.W.Fast.te10274390034422433532, PySem.W.Fast.te1435165496053646825, PySem.W.Fast.te14289696077712309145]
  intro w
  kernel_rfl
theorem h1Left : LeftO h1P h1Q h1Loose h1Xt h1H.obs h1H.val 5000 := byRow2 "special-get-raises" h1Ends0 h1Ends1
theorem h1Head (walk : WalkO h1Q h1Loose (XL h1Q []) h1H.says h1R.toRowW h1Dr [] fun f vs => PySem.call f vs) : PySem.Challenge.rw_rs0106_01.Holds := by
  refine holds_law h1Said fun said => ?_
  exact holds_open (q := h1Q) (loose := h1Loose) (Xt := h1Xt) (XP := XL h1Q []) (Yf := h1H.obs) (Ya := h1H.val) (YP := h1H.says) (N := 5000) h1Left h1H.of h1H.keeps (fun s e => xl_of s (Bool.and_eq_true_iff.mp e).1) XL.keeps h1Def h1The (by kernel_rfl) (fun s e => recFacts_of (Bool.and_eq_true_iff.mp e).2) (by rfl) said h1Ok ⟨rfl, rfl, rfl, rfl, rfl, by decide +kernel⟩ h1Pro walk
end Mine
end
section
namespace Mine
open PySem PyProof.Rows PySem.W
noncomputable def bodyOf (fd : FuncData) : List Stmt := match fd.body with
  | .stmts b => b
  | _ => []
noncomputable def l1P0 : Params := { strHash := fun _ => 0, shareClass := fun _ => 0, mergeTok := fun t => t, idOf := fun _ => 0, idOfShared := fun _ _ => 0, followText := fun _ => false, idOfImm := fun _ => 0 }
noncomputable def l1fd___init__ : FuncData := fdAt (h1K l1P0) 45
noncomputable def l1b___init__ : List Stmt := bodyOf l1fd___init__
noncomputable def l1fd__read_char : FuncData := fdAt (h1K l1P0) 52
noncomputable def l1b__read_char : List Stmt := bodyOf l1fd__read_char
noncomputable def l1fd_get_token : FuncData := fdAt (h1K l1P0) 59
noncomputable def l1b_get_token : List Stmt := bodyOf l1fd_get_token
noncomputable def l1fd_push_token : FuncData := fdAt (h1K l1P0) 66
noncomputable def l1b_push_token : List Stmt := bodyOf l1fd_push_token
noncomputable def l1fd_quotedata : FuncData := fdAt (h1K l1P0) 90
noncomputable def l1b_quotedata : List Stmt := bodyOf l1fd_quotedata
noncomputable def l1fd_ISTERMINAL : FuncData := fdAt (h1K l1P0) 100
noncomputable def l1b_ISTERMINAL : List Stmt := bodyOf l1fd_ISTERMINAL
noncomputable def l1fd_ISNONTERMINAL : FuncData := fdAt (h1K l1P0) 107
noncomputable def l1b_ISNONTERMINAL : List Stmt := bodyOf l1fd_ISNONTERMINAL
noncomputable def l1fd_ISEOF : FuncData := fdAt (h1K l1P0) 114
noncomputable def l1b_ISEOF : List Stmt := bodyOf l1fd_ISEOF
noncomputable def l1fd__law_lexer : FuncData := fdAt (h1K l1P0) 121
noncomputable def l1b__law_lexer : List Stmt := bodyOf l1fd__law_lexer
noncomputable def l1fd__law_written : FuncData := fdAt (h1K l1P0) 128
noncomputable def l1b__law_written : List Stmt := bodyOf l1fd__law_written
noncomputable def l1fd__law_cut : FuncData := fdAt (h1K l1P0) 135
noncomputable def l1b__law_cut : List Stmt := bodyOf l1fd__law_cut
noncomputable def l1fd__law_run : FuncData := fdAt (h1K l1P0) 142
noncomputable def l1b__law_run : List Stmt := bodyOf l1fd__law_run
noncomputable def l1fd__law_due : FuncData := fdAt (h1K l1P0) 147
noncomputable def l1b__law_due : List Stmt := bodyOf l1fd__law_due
noncomputable def l1fd_law : FuncData := fdAt (h1K l1P0) 152
noncomputable def l1b_law : List Stmt := bodyOf l1fd_law
noncomputable def l1ms__read_char : List MS := [.assign 1 (.meth .read (.attr (.var 0) 1) [.int 1]), .ite (.cmp .Eq (.var 1) (.str [10])) [.augAttr (.var 0) 0 .Add (.int 1)] [], .ret (.var 1)]
noncomputable def l1d__read_char : FnDef := { names := [("self" : Str), ("ch" : Str)], np := 1, body := l1ms__read_char, trunc := true }
noncomputable def l1ms_get_token : List MS := [.ite (.attr (.var 0) 3) [.ret (.meth .pop (.attr (.var 0) 3) [.int 0])] [], .assign 1 (.str []), .assign 2 (.citer (.var 0)), .forC 3 2 [.ite (.cmp .In (.var 3) (.attr (.var 0) 2)) [.cont] [], .ite (.cmp .Eq (.var 3) (.str [34])) [.forC 3 2 [.ite (.cmp .Eq (.var 3) (.str [34])) [.ret (.var 1)] [.ite (.cmp .Eq (.var 3) (.str [92])) [.assign 3 (.meth (.user (.ref 52)) (.var 0) [])] []], .augVar 1 .Add (.var 3)]] [.ite (.cmp .Eq (.var 3) (.str [92])) [.assign 3 (.meth (.user (.ref 52)) (.var 0) [])] [], .augVar 1 .Add (.var 3), .forC 3 2 [.ite (.cmp .In (.var 3) (.attr (.var 0) 2)) [.ret (.var 1)] [.ite (.cmp .Eq (.var 3) (.str [92])) [.assign 3 (.meth (.user (.ref 52)) (.var 0) [])] []], .augVar 1 .Add (.var 3)]]], .ret (.var 1)]
noncomputable def l1d_get_token : FnDef := { names := [("self" : Str), ("token" : Str), ("fiter" : Str), ("ch" : Str)], np := 1, body := l1ms_get_token, trunc := true }
noncomputable def l1ms_push_token : List MS := [.expr (.meth .append (.attr (.var 0) 3) [.var 1])]
noncomputable def l1d_push_token : FnDef := { names := [("self" : Str), ("token" : Str)], np := 2, body := l1ms_push_token, trunc := true }
noncomputable def l1ms_quotedata : List MS := [.ret (.meth .sub (.glob (.ref 78)) [.str [46, 46], .meth .sub (.glob (.ref 83)) [.str [13, 10], .var 0]])]
noncomputable def l1d_quotedata : FnDef := { names := [("data" : Str)], np := 1, body := l1ms_quotedata, trunc := true }
noncomputable def l1ms_ISTERMINAL : List MS := [.ret (.cmp .Lt (.var 0) (.int 256))]
noncomputable def l1d_ISTERMINAL : FnDef := { names := [("x" : Str)], np := 1, body := l1ms_ISTERMINAL, trunc := true }
noncomputable def l1ms_ISNONTERMINAL : List MS := [.ret (.cmp .GtE (.var 0) (.int 256))]
noncomputable def l1d_ISNONTERMINAL : FnDef := { names := [("x" : Str)], np := 1, body := l1ms_ISNONTERMINAL, trunc := true }
noncomputable def l1ms_ISEOF : List MS := [.ret (.cmp .Eq (.var 0) (.int 0))]
noncomputable def l1d_ISEOF : FnDef := { names := [("x" : Str)], np := 1, body := l1ms_ISEOF, trunc := true }
noncomputable def l1ms__law_written : List MS := [.ite (.cmp .Eq (.var 2) (.int 1)) [.ret (.bin .Add (.bin .Add (.bin .Add (.bin .Add (.str [34, 92]) (.bin .Mult (.str [46]) (.var 0))) (.ite (.cmp .In (.var 1) (.str [34, 92])) (.str [92]) (.str []))) (.var 1)) (.str [34]))] [], .ite (.cmp .Eq (.var 2) (.int 2)) [.ret (.bin .Add (.bin .Add (.bin .Mult (.str [92, 46]) (.var 0)) (.str [92])) (.var 1))] [], .ret (.bin .Add (.bin .Add (.bin .Mult (.str [46]) (.var 0)) (.ite (.cmp .In (.var 1) (.str [32, 9, 92])) (.str [92]) (.str []))) (.var 1))]
noncomputable def l1d__law_written : FnDef := { names := [("dots" : Str), ("sign" : Str), ("manner" : Str)], np := 3, body := l1ms__law_written, trunc := true }
noncomputable def l1ms__law_cut : List MS := [.assign 1 (.mut (.lDisp [])), .while (.cmp .NotEq (.var 0) (.str [])) [.assign 2 (.slice (.var 0) none (some (.int 3))), .while (.and (.cmp .Gt (.len (.var 2)) (.int 1)) (.cmp .NotIn (.var 2) (.glob (.ref 91)))) [.assign 2 (.slice (.var 2) none (some (.int (-1))))], .expr (.meth .append (.var 1) [.meth .get (.glob (.ref 91)) [.var 2, .bin .Add (.int 256) (.meth .find (.str [32, 9, 34, 92, 35, 97, 11]) [.var 2])]]), .assign 0 (.slice (.var 0) (some (.len (.var 2))) none)], .ret (.frz (.lAdd (.var 1) (.frz (.lDisp [.int 0]))))]
noncomputable def l1d__law_cut : FnDef := { names := [("row" : Str), ("symbols" : Str), ("piece" : Str)], np := 1, body := l1ms__law_cut, trunc := true }
noncomputable def l1ms__law_run : List MS := [.unpack [6, 7, 8, 9] (.tuple [.call (.ref 121) [.var 0], .call (.ref 121) [.mut (.lDisp [.str [97]])], .mut (.lDisp []), .mut (.lDisp [])]), .for none 10 (.sRange (.int 0) (.var 1)) [.expr (.meth (.user (.ref 66)) (.var 7) [.meth (.user (.ref 59)) (.var 6) []])], .for none 11 (.sRange (.int 1) (.len (.var 2))) [.unpack [12, 13] (.tuple [.call (.ref 135) [.meth (.user (.ref 59)) (.var 7) []], .idx (.var 5) (.bin .Mod (.var 11) (.int 3))]), .assign 14 (.bin .Add (.bin .Mult (.str [46]) (.bin .Add (.bin .Mult (.int 3) (.meth .count (.var 12) [.int 52])) (.meth .count (.var 12) [.int 23]))) (.idx (.var 2) (.var 11))), .assign 15 (.ite (.cmp .Is (.call (.ref 100) [.bin .Add (.int 255) (.meth .count (.var 12) [.int 52])]) (.bool true)) (.frz (.lDisp [.var 14])) (.frz (.lDisp []))), .ite (.cmp .Is (.call (.ref 107) [.bin .Add (.int 255) (.meth .count (.var 12) [.int 52])]) (.bool true)) [.assign 15 (.frz (.lAdd (.var 15) (.frz (.lDisp [.var 14, .bin .Add (.var 3) (.idx (.var 2) (.var 11))]))))] [], .assign 16 (.call (.ref 90) [.bin .Add (.meth .join (.ite (.var 4) (.var 13) (.idx (.str [32, 9]) (.bin .Mod (.var 11) (.int 2)))) [.var 15]) (.var 13)]), .expr (.meth .extend (.var 0) [.frz (.lList (.sVal (.var 16)))]), .for none 17 (.sVal (.var 15)) [.expr (.meth (.user (.ref 66)) (.var 7) [.meth (.user (.ref 59)) (.var 6) []])], .expr (.meth .append (.var 8) [.tuple [.var 12, .var 16, .attr (.var 6) 0]])], .assign 12 (.call (.ref 135) [.meth (.user (.ref 59)) (.var 7) []]), .while (.and (.cmp .IsNot (.call (.ref 114) [.idx (.var 12) (.int 0)]) (.bool true)) (.cmp .Lt (.len (.var 9)) (.int 40))) [.expr (.meth .append (.var 9) [.var 12]), .assign 12 (.call (.ref 135) [.meth (.user (.ref 59)) (.var 7) []])], .ret (.tuple [.var 8, .var 9, .meth (.user (.ref 59)) (.var 6) [], .attr (.var 6) 0])]
noncomputable def l1d__law_run : FnDef := { names := [("left" : Str), ("size" : Str), ("names" : Str), ("calf" : Str), ("apart" : Str), ("ends" : Str), ("reader" : Str), ("line" : Str), ("seen" : Str), ("rest" : Str), ("place" : Str), ("n" : Str), ("symbols" : Str), ("end" : Str), ("own" : Str), ("words" : Str), ("sent" : Str), ("word" : Str)], np := 6, body := l1ms__law_run, trunc := true }
noncomputable def l1ms__law_due : List MS := [.unpack [3, 4, 5] (.tuple [.len (.var 0), .bin .Sub (.int 4) (.var 2), .int 1]), .unpack [6, 7] (.tuple [.mut (.lAdd (.frz (.lDisp [.int 0])) (.var 0)), .mut (.lMul (.frz (.lDisp [.int 0])) (.bin .Add (.var 3) (.int 1)))]), .assign 8 (.bin .Sub (.bin .Mult (.var 4) (.var 3)) (.sum (.frz (.lComp (.bin .Sub (.int 3) (.var 0)) (some (.cmp .Lt (.var 0) (.int 3))) none (.sVal (.var 0)) [])))), .while (.cmp .LtE (.var 5) (.var 1)) [.expr (.meth .append (.var 6) [.ite (.cmp .Gt (.var 5) (.idx (.var 7) (.int (-1)))) (.bin .Add (.idx (.var 6) (.var 5)) (.int 1)) (.var 2)]), .expr (.meth .append (.var 7) [.var 5]), .assign 9 (.frz (.lDisp [.var 5, .idx (.var 7) (.var 5), .idx (.var 7) (.idx (.var 7) (.var 5))])), .ite (.cmp .Lt (.idx (.var 9) (.int 1)) (.var 3)) [.assign 5 (.bin .Sub (.bin .Sub (.len (.var 6)) (.var 3)) (.len (.frz (.lComp (.var 0) (some (.cmp .Gt (.var 0) (.int 2))) none (.sVal (.slice (.var 6) (some (.int 1)) (some (.bin .Add (.var 5) (.int 1))))) []))))] [.assign 5 (.bin .Sub (.bin .Sub (.len (.var 6)) (.var 8)) (.idx (.var 9) (.bin .Sub (.var 4) (.int 1))))]], .ret (.tuple [.var 6, .var 7])]
noncomputable def l1d__law_due : FnDef := { names := [("herd" : Str), ("count" : Str), ("young" : Str), ("size" : Str), ("steps" : Str), ("mother" : Str), ("dots" : Str), ("mothers" : Str), ("still" : Str), ("ways" : Str)], np := 3, body := l1ms__law_due, trunc := true }
noncomputable def l1ms_law : List MS := [.assign 1 (.ite (.cmp .NotEq (.var 0) (.frz (.lDisp []))) (.frz (.lComp (.bin .Mod (.var 0) (.bin .Pow (.int 10) (.int 6))) none none (.sVal (.slice (.var 0) none (some (.int 3)))) [])) (.frz (.lDisp [.int 56, .int 0]))), .unpack [2, 3] (.tuple [.len (.var 1), .sum (.var 1)]), .unpack [4, 5, 6] (.tuple [.bin .Mult (.str [46]) (.bin .Add (.int 1) (.bin .Mod (.var 3) (.int 2))), .cmp .Eq (.bin .Mod (.bin .FloorDiv (.var 3) (.int 2)) (.int 2)) (.int 1), .bin .Add (.bin .Mult (.int 3) (.var 2)) (.int 4)]), .assign 7 (.slice (.slice (.frz (.lDisp [.str [10], .str [13], .str [13, 10], .str [10], .str [13]])) (some (.bin .Mod (.bin .FloorDiv (.var 3) (.int 184)) (.int 3))) none) none (some (.int 3))), .assign 8 (.meth .split (.str [40, 32, 41, 32, 91, 32, 93, 32, 58, 32, 44, 32, 59, 32, 43, 32, 45, 32, 42, 32, 47, 32, 124, 32, 38, 32, 60, 32, 62, 32, 61, 32, 37, 32, 123, 32, 125, 32, 61, 61, 32, 33, 61, 32, 60, 61, 32, 62, 61, 32, 126, 32, 94, 32, 60, 60, 32, 62, 62, 32, 42, 42, 32, 43, 61, 32, 45, 61, 32, 42, 61, 32, 47, 61, 32, 37, 61, 32, 38, 61, 32, 124, 61, 32, 94, 61, 32, 60, 60, 61, 32, 62, 62, 61, 32, 42, 42, 61, 32, 47, 47, 32, 47, 47, 61, 32, 64, 32, 64, 61, 32, 45, 62, 32, 58, 61, 32, 33]) [.str [32]]), .assign 9 (.frz (.lAdd (.frz (.lAdd (.frz (.lList (.sRange (.int 7) (.int 23)))) (.frz (.lList (.sRange (.int 24) (.int 52)))))) (.frz (.lDisp [.int 53, .int 54])))), .assign 10 (.frz (.lComp (.bin .Mod (.bin .Add (.bin .FloorDiv (.var 1) (.int 4)) (.var 0)) (.int 46)) none none (.sRange (.int 0) (.bin .Add (.var 6) (.int 1))) [3])), .assign 11 (.frz (.lComp (.idx (.var 1) (.var 0)) none none (.sVal (.var 10)) [8])), .assign 12 (.frz (.lComp (.call (.ref 128) [.bin .Add (.int 1) (.bin .Mod (.var 0) (.int 6)), .idx (.str [32, 9, 34, 92, 35, 97, 11]) (.bin .Mod (.bin .FloorDiv (.var 0) (.int 6)) (.int 7)), .bin .Mod (.bin .FloorDiv (.var 0) (.int 42)) (.int 3)]) none none (.sVal (.var 1)) [])), .assign 13 (.call (.ref 90) [.meth .join (.str []) [.frz (.lComp (.bin .Add (.idx (.var 1) (.var 0)) (.bin .Mult (.int 2) (.idx (.var 2) (.var 0)))) none none (.sRange (.int 0) (.var 2)) [12, 7])]]), .ite (.cmp .NotEq (.var 13) (.meth .join (.str []) [.frz (.lComp (.bin .Add (.bin .Add (.ite (.cmp .Eq (.idx (.var 0) (.int 0)) (.str [46])) (.str [46]) (.str [])) (.var 0)) (.str [13, 10, 13, 10])) none none (.sVal (.var 12)) [])])) [.ret (.bool false)] [], .assign 14 (.bin .Add (.len (.var 4)) (.ite (.var 5) (.int 1) (.int 0))), .assign 15 (.frz (.lComp (.bin .Add (.bin .Add (.int 1) (.bin .Mod (.var 0) (.int 6))) (.ite (.cmp .Eq (.bin .Mod (.bin .FloorDiv (.var 0) (.int 42)) (.int 3)) (.int 0)) (.int 1) (.int 0))) none none (.sVal (.var 1)) [])), .unpack [16, 17] (.call (.ref 147) [.var 15, .var 6, .var 14]), .assign 18 (.frz (.lAdd (.frz (.lComp (.bin .Add (.int 256) (.bin .Mod (.bin .FloorDiv (.var 0) (.int 6)) (.int 7))) none none (.sVal (.var 1)) [])) (.frz (.lComp (.idx (.var 1) (.idx (.var 2) (.var 0))) none none (.sVal (.slice (.var 17) (some (.bin .Add (.var 2) (.int 1))) none)) [9, 10])))), .assign 19 (.frz (.lCompZ (.frz (.lAdd (.frz (.lAdd (.frz (.lMul (.frz (.lDisp [.int 52])) (.bin .FloorDiv (.var 0) (.int 3)))) (.frz (.lMul (.frz (.lDisp [.int 23])) (.bin .Mod (.var 0) (.int 3)))))) (.frz (.lDisp [.var 1, .int 0])))) (.slice (.var 16) (some (.int 1)) none) (.var 18))), .unpack [20, 21] (.tuple [.mut (.lDisp []), .mut (.lDisp [])]), .for none 22 (.sRange (.int 1) (.bin .Add (.var 6) (.int 1))) [.assign 23 (.ite (.cmp .Gt (.idx (.var 16) (.var 22)) (.int 2)) (.bin .Add (.bin .Add (.ite (.var 5) (.str [13, 10]) (.idx (.str [32, 9]) (.bin .Mod (.var 22) (.int 2)))) (.bin .Mult (.str [46]) (.var 14))) (.idx (.var 11) (.var 22))) (.str [])), .expr (.meth .append (.var 20) [.bin .Add (.bin .Add (.bin .Add (.bin .Mult (.str [46]) (.bin .Add (.idx (.var 16) (.var 22)) (.int 1))) (.idx (.var 11) (.var 22))) (.var 23)) (.str [13, 10])]), .expr (.meth .append (.var 21) [.bin .Add (.bin .Mult (.int 2) (.var 2)) (.meth .count (.meth .join (.str []) [.var 20]) [.str [10]])])], .assign 24 (.call (.ref 142) [.mut (.lList (.sVal (.var 13))), .var 2, .var 11, .var 4, .var 5, .var 7]), .ret (.cmp .Eq (.var 24) (.tuple [.frz (.lList (.sZip [.var 19, .var 20, .var 21])), .frz (.lAdd (.slice (.var 19) (some (.var 6)) none) (.frz (.lDisp [.frz (.lDisp [.int 261, .int 0])]))), .str [], .bin .Add (.idx (.var 21) (.int (-1))) (.int 1)]))]
noncomputable def l1d_law : FnDef := { names := [("script" : Str), ("numbers" : Str), ("size" : Str), ("total" : Str), ("calf" : Str), ("apart" : Str), ("count" : Str), ("ends" : Str), ("signs" : Str), ("free" : Str), ("turn" : Str), ("names" : Str), ("written" : Str), ("page" : Str), ("young" : Str), ("herd" : Str), ("dots" : Str), ("mothers" : Str), ("kinds" : Str), ("due" : Str), ("mails" : Str), ("lines" : Str), ("n" : Str), ("more" : Str), ("told" : Str)], np := 1, body := l1ms_law, trunc := true }
end Mine
end
section
set_option maxHeartbeats 2000000
namespace Mine
open PySem PyProof.Rows PySem.W
noncomputable def l1p1 : Pos := ⟨113, 4, 114, 62⟩
noncomputable def l1q1 : Str := "_law_lexer.<locals>._law_read"
noncomputable def l1rb : List Stmt := match l1b__law_lexer with
  | .FunctionDef _ _ rb _ _ _ _ _ _ _ :: _ => rb
  | _ => []
structure l1Env (X : Wd) (G : Gl) (mN : Str → Option Value) : Prop where
  g_len : GlobOk X "len" (.builtin "len")
  g_sum : GlobOk X "sum" (.builtin "sum")
  g_iter : GlobOk X "iter" (.builtin "iter")
  g_range : GlobOk X "range" (.type "range")
  g_list : GlobOk X "list" (.type "list")
  g_zip : GlobOk X "zip" (.type "zip")
  g__twin_re_1 : GlobOk X "_twin_re_1" (.ref 78)
  g__twin_re_2 : GlobOk X "_twin_re_2" (.ref 83)
  g_quotedata : GlobOk X "quotedata" (.ref 90)
  g_EXACT_TOKEN_TYPES : GlobOk X "EXACT_TOKEN_TYPES" (.ref 91)
  g_ISTERMINAL : GlobOk X "ISTERMINAL" (.ref 100)
  g_ISNONTERMINAL : GlobOk X "ISNONTERMINAL" (.ref 107)
  g_ISEOF : GlobOk X "ISEOF" (.ref 114)
  g__law_lexer : GlobOk X "_law_lexer" (.ref 121)
  g__law_written : GlobOk X "_law_written" (.ref 128)
  g__law_cut : GlobOk X "_law_cut" (.ref 135)
  g__law_run : GlobOk X "_law_run" (.ref 142)
  g__law_due : GlobOk X "_law_due" (.ref 147)
  g_law : GlobOk X "law" (.ref 152)
  f_quotedata : FnAt X (.ref 90)
  f_ISTERMINAL : FnAt X (.ref 100)
  f_ISNONTERMINAL : FnAt X (.ref 107)
  f_ISEOF : FnAt X (.ref 114)
  f__law_lexer : FnAt X (.ref 121)
  f__law_written : FnAt X (.ref 128)
  f__law_cut : FnAt X (.ref 135)
  f__law_run : FnAt X (.ref 142)
  f__law_due : FnAt X (.ref 147)
  c_CRLF : ∃ (y : Str) (t : Tok), y.cps.toList = [13, 10] ∧ GlobOk X "CRLF" (.str y t)
  c_NT_OFFSET : ∃ t, GlobOk X "NT_OFFSET" (.int 256 t)
  c_ENDMARKER : ∃ t, GlobOk X "ENDMARKER" (.int 0 t)
  m__read_char : MethAt X mN "_read_char" (.ref 52)
  m_get_token : MethAt X mN "get_token" (.ref 59)
  m_push_token : MethAt X mN "push_token" (.ref 66)
  m_rc : MethAt X mN "_read_char" (.ref X.rc)
  dict : DictOk X G
  re : ReOk X G
  cls : ClsAt X mN
  fields : X.fields = ([("lineno" : Str), "instream", "whitespace", "pushback"] : List Str)
  rc : G.rc = .ref X.rc
  rcfn : ∃ o fd, X.base X.rc = some o ∧ o.data = .func fd
  xrc : X.rc = 52
  stm : ∀ φ a l, X.StmP φ a l → StmAt l1rb φ a l
theorem l1walk_rb {X : Wd} {G : Gl} {mN : Str → Option Value} (E : l1Env X G mN) {n : Nat} : ∀ (fd : FuncData) (c a L : Addr) (A : Around), CloOk fd l1rb "size" "left" c → Room (cloFm fd "size" "left" c a L A).A n → (cloFm fd "size" "left" c a L A).Wf X → SSs X G (cloFm fd "size" "left" c a L A) l1rb readMS := by
  intro fd c a L A K R W
  have v0 : ∀ pos, SE X G (cloFm fd "size" "left" c a L A) (.Name "size" pos) (.var 0) := fun pos => se_var W rfl (by decide +kernel)
  have v1 : ∀ pos, SE X G (cloFm fd "size" "left" c a L A) (.Name "left" pos) (.var 1) := fun pos => se_var W rfl (by decide +kernel)
  exact (sss_cons (ss_ret W (se_ite W (sc_and W (sc_cmp W R E.dict rfl (v0 _) (se_int W)) (sc_cmp W R E.dict rfl (v1 _) (se_frz W (sl_disp W ses_nil)))) (se_pop W (v1 _) (se_int W) rfl rfl rfl) (se_str' W (by decide +kernel)))) sss_nil)
theorem l1nd__read_char : ∀ x ∈ l1d__read_char.names, (x == ("__debug__" : Str)) = false := by decide +kernel
theorem l1walk__read_char {X : Wd} {G : Gl} {mN : Str → Option Value} (E : l1Env X G mN) {n : Nat} {L : Addr} {A : Around} (K : FnOk X 52 l1fd__read_char l1b__read_char l1d__read_char) (W : (fmOf l1fd__read_char l1d__read_char 52 L A).Wf X) (R1 : Room (fmOf l1fd__read_char l1d__read_char 52 L A).A (n + 1)) (C : CS X G n) : SSs X G (fmOf l1fd__read_char l1d__read_char 52 L A) l1b__read_char l1ms__read_char := by
  have R : Room (fmOf l1fd__read_char l1d__read_char 52 L A).A n := R1.mono (Nat.le_succ _)
  have hv : ∀ (i : Nat) (x : Str) (pos : Pos), (fmOf l1fd__read_char l1d__read_char 52 L A).names[i]? = some x → SE X G (fmOf l1fd__read_char l1d__read_char 52 L A) (.Name x pos) (.var i) := fun i x pos h => se_var W h (l1nd__read_char x (List.mem_of_getElem? h))
  exact (sss_cons (ss_assign W rfl (stores_fm (i := 1) K rfl) rfl (se_read W R1 E.stm (l1walk_rb E) (se_attr E.cls W (by rw [E.fields]; rfl) (hv 0 _ _ rfl)) (se_int W) rfl rfl rfl)) (sss_cons (ss_ite W (sc_cmp W R E.dict rfl (hv 1 _ _ rfl) (se_str' W (by decide +kernel))) (sss_cons (ss_augAttr E.cls W (by rw [E.fields]; rfl) (hv 0 _ _ rfl) (se_int W)) sss_nil) sss_nil) (sss_cons (ss_ret W (hv 1 _ _ rfl)) sss_nil)))
theorem l1nd_get_token : ∀ x ∈ l1d_get_token.names, (x == ("__debug__" : Str)) = false := by decide +kernel
theorem l1walk_get_token {X : Wd} {G : Gl} {mN : Str → Option Value} (E : l1Env X G mN) {n : Nat} {L : Addr} {A : Around} (K : FnOk X 59 l1fd_get_token l1b_get_token l1d_get_token) (W : (fmOf l1fd_get_token l1d_get_token 59 L A).Wf X) (R1 : Room (fmOf l1fd_get_token l1d_get_token 59 L A).A (n + 1)) (C : CS X G n) : SSs X G (fmOf l1fd_get_token l1d_get_token 59 L A) l1b_get_token l1ms_get_token := by
  have R : Room (fmOf l1fd_get_token l1d_get_token 59 L A).A n := R1.mono (Nat.le_succ _)
  have hv : ∀ (i : Nat) (x : Str) (pos : Pos), (fmOf l1fd_get_token l1d_get_token 59 L A).names[i]? = some x → SE X G (fmOf l1fd_get_token l1d_get_token 59 L A) (.Name x pos) (.var i) := fun i x pos h => se_var W h (l1nd_get_token x (List.mem_of_getElem? h))
  have hk_iter : (fmOf l1fd_get_token l1d_get_token 59 L A).env.kindOf "iter" = some .globalImplicit := by kernel_rfl
  exact (sss_cons (ss_ite W (sc_attr W rfl (se_attr E.cls W (by rw [E.fields]; rfl) (hv 0 _ _ rfl))) (sss_cons (ss_ret W (se_pop W (se_attr E.cls W (by rw [E.fields]; rfl) (hv 0 _ _ rfl)) (se_int W) rfl rfl rfl)) sss_nil) sss_nil) (sss_cons (ss_assign W rfl (stores_fm (i := 1) K rfl) rfl (se_str' W (by decide +kernel))) (sss_cons (ss_assign W rfl (stores_fm (i := 2) K rfl) rfl (se_citer E.cls W E.g_iter hk_iter E.m_rc (hv 0 _ _ rfl))) (sss_cons (ss_forC W C R1 E.rc E.rcfn rfl (stores_fm (i := 3) K rfl) rfl (by decide +kernel) (sss_cons (ss_ite W (sc_cmp W R E.dict rfl (hv 3 _ _ rfl) (se_attr E.cls W (by rw [E.fields]; rfl) (hv 0 _ _ rfl))) (sss_cons (ss_cont W) sss_nil) sss_nil) (sss_cons (ss_ite W (sc_cmp W R E.dict rfl (hv 3 _ _ rfl) (se_str' W (by decide +kernel))) (sss_cons (ss_forC W C R1 E.rc E.rcfn rfl (stores_fm (i := 3) K rfl) rfl (by decide +kernel) (sss_cons (ss_ite W (sc_cmp W R E.dict rfl (hv 3 _ _ rfl) (se_str' W (by decide +kernel))) (sss_cons (ss_ret W (hv 1 _ _ rfl)) sss_nil) (sss_cons (ss_ite W (sc_cmp W R E.dict rfl (hv 3 _ _ rfl) (se_str' W (by decide +kernel))) (sss_cons (ss_assign W rfl (stores_fm (i := 3) K rfl) rfl (se_user E.cls W C R E.m__read_char (hv 0 _ _ rfl) rfl rfl (by decide) rfl ses_nil)) sss_nil) sss_nil) sss_nil)) (sss_cons (ss_augVar W rfl (stores_fm (i := 1) K rfl) (hv 3 _ _ rfl)) sss_nil))) sss_nil) (sss_cons (ss_ite W (sc_cmp W R E.dict rfl (hv 3 _ _ rfl) (se_str' W (by decide +kernel))) (sss_cons (ss_assign W rfl (stores_fm (i := 3) K rfl) rfl (se_user E.cls W C R E.m__read_char (hv 0 _ _ rfl) rfl rfl (by decide) rfl ses_nil)) sss_nil) sss_nil) (sss_cons (ss_augVar W rfl (stores_fm (i := 1) K rfl) (hv 3 _ _ rfl)) (sss_cons (ss_forC W C R1 E.rc E.rcfn rfl (stores_fm (i := 3) K rfl) rfl (by decide +kernel) (sss_cons (ss_ite W (sc_cmp W R E.dict rfl (hv 3 _ _ rfl) (se_attr E.cls W (by rw [E.fields]; rfl) (hv 0 _ _ rfl))) (sss_cons (ss_ret W (hv 1 _ _ rfl)) sss_nil) (sss_cons (ss_ite W (sc_cmp W R E.dict rfl (hv 3 _ _ rfl) (se_str' W (by decide +kernel))) (sss_cons (ss_assign W rfl (stores_fm (i := 3) K rfl) rfl (se_user E.cls W C R E.m__read_char (hv 0 _ _ rfl) rfl rfl (by decide) rfl ses_nil)) sss_nil) sss_nil) sss_nil)) (sss_cons (ss_augVar W rfl (stores_fm (i := 1) K rfl) (hv 3 _ _ rfl)) sss_nil))) sss_nil)))) sss_nil))) (sss_cons (ss_ret W (hv 1 _ _ rfl)) sss_nil)))))
theorem l1nd_push_token : ∀ x ∈ l1d_push_token.names, (x == ("__debug__" : Str)) = false := by decide +kernel
theorem l1walk_push_token {X : Wd} {G : Gl} {mN : Str → Option Value} (E : l1Env X G mN) {n : Nat} {L : Addr} {A : Around} (K : FnOk X 66 l1fd_push_token l1b_push_token l1d_push_token) (W : (fmOf l1fd_push_token l1d_push_token 66 L A).Wf X) (R1 : Room (fmOf l1fd_push_token l1d_push_token 66 L A).A (n + 1)) (C : CS X G n) : SSs X G (fmOf l1fd_push_token l1d_push_token 66 L A) l1b_push_token l1ms_push_token := by
  have R : Room (fmOf l1fd_push_token l1d_push_token 66 L A).A n := R1.mono (Nat.le_succ _)
  have hv : ∀ (i : Nat) (x : Str) (pos : Pos), (fmOf l1fd_push_token l1d_push_token 66 L A).names[i]? = some x → SE X G (fmOf l1fd_push_token l1d_push_token 66 L A) (.Name x pos) (.var i) := fun i x pos h => se_var W h (l1nd_push_token x (List.mem_of_getElem? h))
  exact (sss_cons (ss_expr W rfl rfl (se_append W (se_attr E.cls W (by rw [E.fields]; rfl) (hv 0 _ _ rfl)) (hv 1 _ _ rfl) rfl rfl rfl)) sss_nil)
theorem l1nd_quotedata : ∀ x ∈ l1d_quotedata.names, (x == ("__debug__" : Str)) = false := by decide +kernel
theorem l1walk_quotedata {X : Wd} {G : Gl} {mN : Str → Option Value} (E : l1Env X G mN) {n : Nat} {L : Addr} {A : Around} (K : FnOk X 90 l1fd_quotedata l1b_quotedata l1d_quotedata) (W : (fmOf l1fd_quotedata l1d_quotedata 90 L A).Wf X) (R1 : Room (fmOf l1fd_quotedata l1d_quotedata 90 L A).A (n + 1)) (C : CS X G n) : SSs X G (fmOf l1fd_quotedata l1d_quotedata 90 L A) l1b_quotedata l1ms_quotedata := by
  have R : Room (fmOf l1fd_quotedata l1d_quotedata 90 L A).A n := R1.mono (Nat.le_succ _)
  have hv : ∀ (i : Nat) (x : Str) (pos : Pos), (fmOf l1fd_quotedata l1d_quotedata 90 L A).names[i]? = some x → SE X G (fmOf l1fd_quotedata l1d_quotedata 90 L A) (.Name x pos) (.var i) := fun i x pos h => se_var W h (l1nd_quotedata x (List.mem_of_getElem? h))
  have hk_CRLF : (fmOf l1fd_quotedata l1d_quotedata 90 L A).env.kindOf "CRLF" = some .globalImplicit := by kernel_rfl
  have hk__twin_re_1 : (fmOf l1fd_quotedata l1d_quotedata 90 L A).env.kindOf "_twin_re_1" = some .globalImplicit := by kernel_rfl
  have hk__twin_re_2 : (fmOf l1fd_quotedata l1d_quotedata 90 L A).env.kindOf "_twin_re_2" = some .globalImplicit := by kernel_rfl
  exact (sss_cons (ss_ret W (se_sub W E.re (se_glob W E.g__twin_re_1 hk__twin_re_1 (by decide +kernel)) (se_str' W (by decide +kernel)) (se_sub W E.re (se_glob W E.g__twin_re_2 hk__twin_re_2 (by decide +kernel)) (se_gstr W E.c_CRLF hk_CRLF (by decide +kernel)) (hv 0 _ _ rfl) rfl rfl rfl rfl) rfl rfl rfl rfl)) sss_nil)
theorem l1nd_ISTERMINAL : ∀ x ∈ l1d_ISTERMINAL.names, (x == ("__debug__" : Str)) = false := by decide +kernel
theorem l1walk_ISTERMINAL {X : Wd} {G : Gl} {mN : Str → Option Value} (E : l1Env X G mN) {n : Nat} {L : Addr} {A : Around} (K : FnOk X 100 l1fd_ISTERMINAL l1b_ISTERMINAL l1d_ISTERMINAL) (W : (fmOf l1fd_ISTERMINAL l1d_ISTERMINAL 100 L A).Wf X) (R1 : Room (fmOf l1fd_ISTERMINAL l1d_ISTERMINAL 100 L A).A (n + 1)) (C : CS X G n) : SSs X G (fmOf l1fd_ISTERMINAL l1d_ISTERMINAL 100 L A) l1b_ISTERMINAL l1ms_ISTERMINAL := by
  have R : Room (fmOf l1fd_ISTERMINAL l1d_ISTERMINAL 100 L A).A n := R1.mono (Nat.le_succ _)
  have hv : ∀ (i : Nat) (x : Str) (pos : Pos), (fmOf l1fd_ISTERMINAL l1d_ISTERMINAL 100 L A).names[i]? = some x → SE X G (fmOf l1fd_ISTERMINAL l1d_ISTERMINAL 100 L A) (.Name x pos) (.var i) := fun i x pos h => se_var W h (l1nd_ISTERMINAL x (List.mem_of_getElem? h))
  have hk_NT_OFFSET : (fmOf l1fd_ISTERMINAL l1d_ISTERMINAL 100 L A).env.kindOf "NT_OFFSET" = some .globalImplicit := by kernel_rfl
  exact (sss_cons (ss_ret W (se_cmp W R E.dict rfl (hv 0 _ _ rfl) (se_gint W E.c_NT_OFFSET hk_NT_OFFSET (by decide +kernel)))) sss_nil)
theorem l1nd_ISNONTERMINAL : ∀ x ∈ l1d_ISNONTERMINAL.names, (x == ("__debug__" : Str)) = false := by decide +kernel
theorem l1walk_ISNONTERMINAL {X : Wd} {G : Gl} {mN : Str → Option Value} (E : l1Env X G mN) {n : Nat} {L : Addr} {A : Around} (K : FnOk X 107 l1fd_ISNONTERMINAL l1b_ISNONTERMINAL l1d_ISNONTERMINAL) (W : (fmOf l1fd_ISNONTERMINAL l1d_ISNONTERMINAL 107 L A).Wf X) (R1 : Room (fmOf l1fd_ISNONTERMINAL l1d_ISNONTERMINAL 107 L A).A (n + 1)) (C : CS X G n) : SSs X G (fmOf l1fd_ISNONTERMINAL l1d_ISNONTERMINAL 107 L A) l1b_ISNONTERMINAL l1ms_ISNONTERMINAL := by
  have R : Room (fmOf l1fd_ISNONTERMINAL l1d_ISNONTERMINAL 107 L A).A n := R1.mono (Nat.le_succ _)
  have hv : ∀ (i : Nat) (x : Str) (pos : Pos), (fmOf l1fd_ISNONTERMINAL l1d_ISNONTERMINAL 107 L A).names[i]? = some x → SE X G (fmOf l1fd_ISNONTERMINAL l1d_ISNONTERMINAL 107 L A) (.Name x pos) (.var i) := fun i x pos h => se_var W h (l1nd_ISNONTERMINAL x (List.mem_of_getElem? h))
  have hk_NT_OFFSET : (fmOf l1fd_ISNONTERMINAL l1d_ISNONTERMINAL 107 L A).env.kindOf "NT_OFFSET" = some .globalImplicit := by kernel_rfl
  exact (sss_cons (ss_ret W (se_cmp W R E.dict rfl (hv 0 _ _ rfl) (se_gint W E.c_NT_OFFSET hk_NT_OFFSET (by decide +kernel)))) sss_nil)
theorem l1nd_ISEOF : ∀ x ∈ l1d_ISEOF.names, (x == ("__debug__" : Str)) = false := by decide +kernel
theorem l1walk_ISEOF {X : Wd} {G : Gl} {mN : Str → Option Value} (E : l1Env X G mN) {n : Nat} {L : Addr} {A : Around} (K : FnOk X 114 l1fd_ISEOF l1b_ISEOF l1d_ISEOF) (W : (fmOf l1fd_ISEOF l1d_ISEOF 114 L A).Wf X) (R1 : Room (fmOf l1fd_ISEOF l1d_ISEOF 114 L A).A (n + 1)) (C : CS X G n) : SSs X G (fmOf l1fd_ISEOF l1d_ISEOF 114 L A) l1b_ISEOF l1ms_ISEOF := by
  have R : Room (fmOf l1fd_ISEOF l1d_ISEOF 114 L A).A n := R1.mono (Nat.le_succ _)
  have hv : ∀ (i : Nat) (x : Str) (pos : Pos), (fmOf l1fd_ISEOF l1d_ISEOF 114 L A).names[i]? = some x → SE X G (fmOf l1fd_ISEOF l1d_ISEOF 114 L A) (.Name x pos) (.var i) := fun i x pos h => se_var W h (l1nd_ISEOF x (List.mem_of_getElem? h))
  have hk_ENDMARKER : (fmOf l1fd_ISEOF l1d_ISEOF 114 L A).env.kindOf "ENDMARKER" = some .globalImplicit := by kernel_rfl
  exact (sss_cons (ss_ret W (se_cmp W R E.dict rfl (hv 0 _ _ rfl) (se_gint W E.c_ENDMARKER hk_ENDMARKER (by decide +kernel)))) sss_nil)
theorem l1nd__law_written : ∀ x ∈ l1d__law_written.names, (x == ("__debug__" : Str)) = false := by decide +kernel
theorem l1walk__law_written {X : Wd} {G : Gl} {mN : Str → Option Value} (E : l1Env X G mN) {n : Nat} {L : Addr} {A : Around} (K : FnOk X 128 l1fd__law_written l1b__law_written l1d__law_written) (W : (fmOf l1fd__law_written l1d__law_written 128 L A).Wf X) (R1 : Room (fmOf l1fd__law_written l1d__law_written 128 L A).A (n + 1)) (C : CS X G n) : SSs X G (fmOf l1fd__law_written l1d__law_written 128 L A) l1b__law_written l1ms__law_written := by
  have R : Room (fmOf l1fd__law_written l1d__law_written 128 L A).A n := R1.mono (Nat.le_succ _)
  have hv : ∀ (i : Nat) (x : Str) (pos : Pos), (fmOf l1fd__law_written l1d__law_written 128 L A).names[i]? = some x → SE X G (fmOf l1fd__law_written l1d__law_written 128 L A) (.Name x pos) (.var i) := fun i x pos h => se_var W h (l1nd__law_written x (List.mem_of_getElem? h))
  exact (sss_cons (ss_ite W (sc_cmp W R E.dict rfl (hv 2 _ _ rfl) (se_int W)) (sss_cons (ss_ret W (se_bin W (se_bin W (se_bin W (se_bin W (se_str' W (by decide +kernel)) (se_bin W (se_str' W (by decide +kernel)) (hv 0 _ _ rfl))) (se_ite W (sc_cmp W R E.dict rfl (hv 1 _ _ rfl) (se_str' W (by decide +kernel))) (se_str' W (by decide +kernel)) (se_str' W (by decide +kernel)))) (hv 1 _ _ rfl)) (se_str' W (by decide +kernel)))) sss_nil) sss_nil) (sss_cons (ss_ite W (sc_cmp W R E.dict rfl (hv 2 _ _ rfl) (se_int W)) (sss_cons (ss_ret W (se_bin W (se_bin W (se_bin W (se_str' W (by decide +kernel)) (hv 0 _ _ rfl)) (se_str' W (by decide +kernel))) (hv 1 _ _ rfl))) sss_nil) sss_nil) (sss_cons (ss_ret W (se_bin W (se_bin W (se_bin W (se_str' W (by decide +kernel)) (hv 0 _ _ rfl)) (se_ite W (sc_cmp W R E.dict rfl (hv 1 _ _ rfl) (se_str' W (by decide +kernel))) (se_str' W (by decide +kernel)) (se_str' W (by decide +kernel)))) (hv 1 _ _ rfl))) sss_nil)))
theorem l1nd__law_cut : ∀ x ∈ l1d__law_cut.names, (x == ("__debug__" : Str)) = false := by decide +kernel
theorem l1walk__law_cut {X : Wd} {G : Gl} {mN : Str → Option Value} (E : l1Env X G mN) {n : Nat} {L : Addr} {A : Around} (K : FnOk X 135 l1fd__law_cut l1b__law_cut l1d__law_cut) (W : (fmOf l1fd__law_cut l1d__law_cut 135 L A).Wf X) (R1 : Room (fmOf l1fd__law_cut l1d__law_cut 135 L A).A (n + 1)) (C : CS X G n) : SSs X G (fmOf l1fd__law_cut l1d__law_cut 135 L A) l1b__law_cut l1ms__law_cut := by
  have R : Room (fmOf l1fd__law_cut l1d__law_cut 135 L A).A n := R1.mono (Nat.le_succ _)
  have hv : ∀ (i : Nat) (x : Str) (pos : Pos), (fmOf l1fd__law_cut l1d__law_cut 135 L A).names[i]? = some x → SE X G (fmOf l1fd__law_cut l1d__law_cut 135 L A) (.Name x pos) (.var i) := fun i x pos h => se_var W h (l1nd__law_cut x (List.mem_of_getElem? h))
  have hk_EXACT_TOKEN_TYPES : (fmOf l1fd__law_cut l1d__law_cut 135 L A).env.kindOf "EXACT_TOKEN_TYPES" = some .globalImplicit := by kernel_rfl
  have hk_len : (fmOf l1fd__law_cut l1d__law_cut 135 L A).env.kindOf "len" = some .globalImplicit := by kernel_rfl
  exact (sss_cons (ss_assign W rfl (stores_fm (i := 1) K rfl) rfl (se_mut W (sl_disp W ses_nil))) (sss_cons (ss_while W (sc_cmp W R E.dict rfl (hv 0 _ _ rfl) (se_str' W (by decide +kernel))) (sss_cons (ss_assign W rfl (stores_fm (i := 2) K rfl) rfl (se_slice W (hv 0 _ _ rfl) so_none (so_some (se_int W)))) (sss_cons (ss_while W (sc_and W (sc_cmp W R E.dict rfl (se_len W E.g_len hk_len rfl (hv 2 _ _ rfl)) (se_int W)) (sc_cmp W R E.dict rfl (hv 2 _ _ rfl) (se_glob W E.g_EXACT_TOKEN_TYPES hk_EXACT_TOKEN_TYPES (by decide +kernel)))) (sss_cons (ss_assign W rfl (stores_fm (i := 2) K rfl) rfl (se_slice W (hv 2 _ _ rfl) so_none (so_some (se_neg W)))) sss_nil)) (sss_cons (ss_expr W rfl rfl (se_append W (hv 1 _ _ rfl) (se_get W E.dict (se_glob W E.g_EXACT_TOKEN_TYPES hk_EXACT_TOKEN_TYPES (by decide +kernel)) (hv 2 _ _ rfl) (se_bin W (se_int W) (se_find W (se_str' W (by decide +kernel)) (hv 2 _ _ rfl) rfl rfl rfl)) rfl rfl rfl rfl) rfl rfl rfl)) (sss_cons (ss_assign W rfl (stores_fm (i := 0) K rfl) rfl (se_slice W (hv 0 _ _ rfl) (so_some (se_len W E.g_len hk_len rfl (hv 2 _ _ rfl))) so_none)) sss_nil))))) (sss_cons (ss_ret W (se_frz W (sl_add W (hv 1 _ _ rfl) (se_frz W (sl_disp W (ses_cons rfl (se_int W) ses_nil)))))) sss_nil)))
theorem l1nd__law_run : ∀ x ∈ l1d__law_run.names, (x == ("__debug__" : Str)) = false := by decide +kernel
theorem l1walk__law_run {X : Wd} {G : Gl} {mN : Str → Option Value} (E : l1Env X G mN) {n : Nat} {L : Addr} {A : Around} (K : FnOk X 142 l1fd__law_run l1b__law_run l1d__law_run) (W : (fmOf l1fd__law_run l1d__law_run 142 L A).Wf X) (R1 : Room (fmOf l1fd__law_run l1d__law_run 142 L A).A (n + 1)) (C : CS X G n) : SSs X G (fmOf l1fd__law_run l1d__law_run 142 L A) l1b__law_run l1ms__law_run := by
  have R : Room (fmOf l1fd__law_run l1d__law_run 142 L A).A n := R1.mono (Nat.le_succ _)
  have hv : ∀ (i : Nat) (x : Str) (pos : Pos), (fmOf l1fd__law_run l1d__law_run 142 L A).names[i]? = some x → SE X G (fmOf l1fd__law_run l1d__law_run 142 L A) (.Name x pos) (.var i) := fun i x pos h => se_var W h (l1nd__law_run x (List.mem_of_getElem? h))
  have hk_ISEOF : (fmOf l1fd__law_run l1d__law_run 142 L A).env.kindOf "ISEOF" = some .globalImplicit := by kernel_rfl
  have hk_ISNONTERMINAL : (fmOf l1fd__law_run l1d__law_run 142 L A).env.kindOf "ISNONTERMINAL" = some .globalImplicit := by kernel_rfl
  have hk_ISTERMINAL : (fmOf l1fd__law_run l1d__law_run 142 L A).env.kindOf "ISTERMINAL" = some .globalImplicit := by kernel_rfl
  have hk__law_cut : (fmOf l1fd__law_run l1d__law_run 142 L A).env.kindOf "_law_cut" = some .globalImplicit := by kernel_rfl
  have hk__law_lexer : (fmOf l1fd__law_run l1d__law_run 142 L A).env.kindOf "_law_lexer" = some .globalImplicit := by kernel_rfl
  have hk_len : (fmOf l1fd__law_run l1d__law_run 142 L A).env.kindOf "len" = some .globalImplicit := by kernel_rfl
  have hk_list : (fmOf l1fd__law_run l1d__law_run 142 L A).env.kindOf "list" = some .globalImplicit := by kernel_rfl
  have hk_quotedata : (fmOf l1fd__law_run l1d__law_run 142 L A).env.kindOf "quotedata" = some .globalImplicit := by kernel_rfl
  have hk_range : (fmOf l1fd__law_run l1d__law_run 142 L A).env.kindOf "range" = some .globalImplicit := by kernel_rfl
  exact (sss_cons (ss_unpack (xs := [("reader" : Str), ("line" : Str), ("seen" : Str), ("rest" : Str)]) W (.cons (i := 6) rfl (stores_fm (i := 6) K rfl) (.cons (i := 7) rfl (stores_fm (i := 7) K rfl) (.cons (i := 8) rfl (stores_fm (i := 8) K rfl) (.cons (i := 9) rfl (stores_fm (i := 9) K rfl) .nil)))) (by decide) rfl (by first | exact .inl rfl | exact .inr rfl) (se_tuple W (ses_cons rfl (se_call W C R E.g__law_lexer E.f__law_lexer hk__law_lexer (by decide +kernel) rfl nofun (ses_cons rfl (hv 0 _ _ rfl) ses_nil)) (ses_cons rfl (se_call W C R E.g__law_lexer E.f__law_lexer hk__law_lexer (by decide +kernel) rfl nofun (ses_cons rfl (se_mut W (sl_disp W (ses_cons rfl (se_str' W (by decide +kernel)) ses_nil))) ses_nil)) (ses_cons rfl (se_mut W (sl_disp W ses_nil)) (ses_cons rfl (se_mut W (sl_disp W ses_nil)) ses_nil)))))) (sss_cons (ss_for W (fun _ => rfl) (stg_name W rfl (stores_fm (i := 10) K rfl)) (ssrc_range1 W E.g_range hk_range rfl (hv 1 _ _ rfl)) (sss_cons (ss_expr W rfl rfl (se_user E.cls W C R E.m_push_token (hv 7 _ _ rfl) rfl rfl (by decide) rfl (ses_cons rfl (se_user E.cls W C R E.m_get_token (hv 6 _ _ rfl) rfl rfl (by decide) rfl ses_nil) ses_nil))) sss_nil)) (sss_cons (ss_for W (fun _ => rfl) (stg_name W rfl (stores_fm (i := 11) K rfl)) (ssrc_range2 W E.g_range hk_range rfl rfl (se_int W) (se_len W E.g_len hk_len rfl (hv 2 _ _ rfl))) (sss_cons (ss_unpack (xs := [("symbols" : Str), ("end" : Str)]) W (.cons (i := 12) rfl (stores_fm (i := 12) K rfl) (.cons (i := 13) rfl (stores_fm (i := 13) K rfl) .nil)) (by decide) rfl (by first | exact .inl rfl | exact .inr rfl) (se_tuple W (ses_cons rfl (se_call W C R E.g__law_cut E.f__law_cut hk__law_cut (by decide +kernel) rfl nofun (ses_cons rfl (se_user E.cls W C R E.m_get_token (hv 7 _ _ rfl) rfl rfl (by decide) rfl ses_nil) ses_nil)) (ses_cons rfl (se_idx W rfl (hv 5 _ _ rfl) (se_bin W (hv 11 _ _ rfl) (se_int W))) ses_nil)))) (sss_cons (ss_assign W rfl (stores_fm (i := 14) K rfl) rfl (se_bin W (se_bin W (se_str' W (by decide +kernel)) (se_bin W (se_bin W (se_int W) (se_count W (hv 12 _ _ rfl) (se_int W) rfl rfl rfl)) (se_count W (hv 12 _ _ rfl) (se_int W) rfl rfl rfl))) (se_idx W rfl (hv 2 _ _ rfl) (hv 11 _ _ rfl)))) (sss_cons (ss_assign W rfl (stores_fm (i := 15) K rfl) rfl (se_ite W (sc_cmp W R E.dict rfl (se_call W C R E.g_ISTERMINAL E.f_ISTERMINAL hk_ISTERMINAL (by decide +kernel) rfl nofun (ses_cons rfl (se_bin W (se_int W) (se_count W (hv 12 _ _ rfl) (se_int W) rfl rfl rfl)) ses_nil)) (se_bool W)) (se_frz W (sl_disp W (ses_cons rfl (hv 14 _ _ rfl) ses_nil))) (se_frz W (sl_disp W ses_nil)))) (sss_cons (ss_ite W (sc_cmp W R E.dict rfl (se_call W C R E.g_ISNONTERMINAL E.f_ISNONTERMINAL hk_ISNONTERMINAL (by decide +kernel) rfl nofun (ses_cons rfl (se_bin W (se_int W) (se_count W (hv 12 _ _ rfl) (se_int W) rfl rfl rfl)) ses_nil)) (se_bool W)) (sss_cons (ss_assign W rfl (stores_fm (i := 15) K rfl) rfl (se_frz W (sl_add W (hv 15 _ _ rfl) (se_frz W (sl_disp W (ses_cons rfl (hv 14 _ _ rfl) (ses_cons rfl (se_bin W (hv 3 _ _ rfl) (se_idx W rfl (hv 2 _ _ rfl) (hv 11 _ _ rfl))) ses_nil))))))) sss_nil) sss_nil) (sss_cons (ss_assign W rfl (stores_fm (i := 16) K rfl) rfl (se_call W C R E.g_quotedata E.f_quotedata hk_quotedata (by decide +kernel) rfl nofun (ses_cons rfl (se_bin W (se_join W (se_ite W (sc_var W rfl (hv 4 _ _ rfl)) (hv 13 _ _ rfl) (se_idx W rfl (se_str' W (by decide +kernel)) (se_bin W (hv 11 _ _ rfl) (se_int W)))) (hv 15 _ _ rfl) rfl rfl rfl) (hv 13 _ _ rfl)) ses_nil))) (sss_cons (ss_expr W rfl rfl (se_extend W (hv 0 _ _ rfl) (se_frz W (sl_list W E.g_list hk_list rfl (sls_val W (hv 16 _ _ rfl)))) rfl rfl rfl)) (sss_cons (ss_for W (fun _ => rfl) (stg_name W rfl (stores_fm (i := 17) K rfl)) (ssrc_val W (hv 15 _ _ rfl)) (sss_cons (ss_expr W rfl rfl (se_user E.cls W C R E.m_push_token (hv 7 _ _ rfl) rfl rfl (by decide) rfl (ses_cons rfl (se_user E.cls W C R E.m_get_token (hv 6 _ _ rfl) rfl rfl (by decide) rfl ses_nil) ses_nil))) sss_nil)) (sss_cons (ss_expr W rfl rfl (se_append W (hv 8 _ _ rfl) (se_tuple W (ses_cons rfl (hv 12 _ _ rfl) (ses_cons rfl (hv 16 _ _ rfl) (ses_cons rfl (se_attr E.cls W (by rw [E.fields]; rfl) (hv 6 _ _ rfl)) ses_nil)))) rfl rfl rfl)) sss_nil))))))))) (sss_cons (ss_assign W rfl (stores_fm (i := 12) K rfl) rfl (se_call W C R E.g__law_cut E.f__law_cut hk__law_cut (by decide +kernel) rfl nofun (ses_cons rfl (se_user E.cls W C R E.m_get_token (hv 7 _ _ rfl) rfl rfl (by decide) rfl ses_nil) ses_nil))) (sss_cons (ss_while W (sc_and W (sc_cmp W R E.dict rfl (se_call W C R E.g_ISEOF E.f_ISEOF hk_ISEOF (by decide +kernel) rfl nofun (ses_cons rfl (se_idx W rfl (hv 12 _ _ rfl) (se_int W)) ses_nil)) (se_bool W)) (sc_cmp W R E.dict rfl (se_len W E.g_len hk_len rfl (hv 9 _ _ rfl)) (se_int W))) (sss_cons (ss_expr W rfl rfl (se_append W (hv 9 _ _ rfl) (hv 12 _ _ rfl) rfl rfl rfl)) (sss_cons (ss_assign W rfl (stores_fm (i := 12) K rfl) rfl (se_call W C R E.g__law_cut E.f__law_cut hk__law_cut (by decide +kernel) rfl nofun (ses_cons rfl (se_user E.cls W C R E.m_get_token (hv 7 _ _ rfl) rfl rfl (by decide) rfl ses_nil) ses_nil))) sss_nil))) (sss_cons (ss_ret W (se_tuple W (ses_cons rfl (hv 8 _ _ rfl) (ses_cons rfl (hv 9 _ _ rfl) (ses_cons rfl (se_user E.cls W C R E.m_get_token (hv 6 _ _ rfl) rfl rfl (by decide) rfl ses_nil) (ses_cons rfl (se_attr E.cls W (by rw [E.fields]; rfl) (hv 6 _ _ rfl)) ses_nil)))))) sss_nil))))))
theorem l1nd__law_due : ∀ x ∈ l1d__law_due.names, (x == ("__debug__" : Str)) = false := by decide +kernel
theorem l1walk__law_due {X : Wd} {G : Gl} {mN : Str → Option Value} (E : l1Env X G mN) {n : Nat} {L : Addr} {A : Around} (K : FnOk X 147 l1fd__law_due l1b__law_due l1d__law_due) (W : (fmOf l1fd__law_due l1d__law_due 147 L A).Wf X) (R1 : Room (fmOf l1fd__law_due l1d__law_due 147 L A).A (n + 1)) (C : CS X G n) : SSs X G (fmOf l1fd__law_due l1d__law_due 147 L A) l1b__law_due l1ms__law_due := by
  have R : Room (fmOf l1fd__law_due l1d__law_due 147 L A).A n := R1.mono (Nat.le_succ _)
  have hv : ∀ (i : Nat) (x : Str) (pos : Pos), (fmOf l1fd__law_due l1d__law_due 147 L A).names[i]? = some x → SE X G (fmOf l1fd__law_due l1d__law_due 147 L A) (.Name x pos) (.var i) := fun i x pos h => se_var W h (l1nd__law_due x (List.mem_of_getElem? h))
  have hk_len : (fmOf l1fd__law_due l1d__law_due 147 L A).env.kindOf "len" = some .globalImplicit := by kernel_rfl
  have hk_sum : (fmOf l1fd__law_due l1d__law_due 147 L A).env.kindOf "sum" = some .globalImplicit := by kernel_rfl
  exact (sss_cons (ss_unpack (xs := [("size" : Str), ("steps" : Str), ("mother" : Str)]) W (.cons (i := 3) rfl (stores_fm (i := 3) K rfl) (.cons (i := 4) rfl (stores_fm (i := 4) K rfl) (.cons (i := 5) rfl (stores_fm (i := 5) K rfl) .nil))) (by decide) rfl (by first | exact .inl rfl | exact .inr rfl) (se_tuple W (ses_cons rfl (se_len W E.g_len hk_len rfl (hv 0 _ _ rfl)) (ses_cons rfl (se_bin W (se_int W) (hv 2 _ _ rfl)) (ses_cons rfl (se_int W) ses_nil))))) (sss_cons (ss_unpack (xs := [("dots" : Str), ("mothers" : Str)]) W (.cons (i := 6) rfl (stores_fm (i := 6) K rfl) (.cons (i := 7) rfl (stores_fm (i := 7) K rfl) .nil)) (by decide) rfl (by first | exact .inl rfl | exact .inr rfl) (se_tuple W (ses_cons rfl (se_mut W (sl_add W (se_frz W (sl_disp W (ses_cons rfl (se_int W) ses_nil))) (hv 0 _ _ rfl))) (ses_cons rfl (se_mut W (sl_mul W (se_frz W (sl_disp W (ses_cons rfl (se_int W) ses_nil))) (se_bin W (hv 3 _ _ rfl) (se_int W)))) ses_nil)))) (sss_cons (ss_assign W rfl (stores_fm (i := 8) K rfl) rfl (se_bin W (se_bin W (hv 4 _ _ rfl) (hv 3 _ _ rfl)) (se_sum W E.g_sum hk_sum rfl (se_frz W (sl_comp (ys := []) W (compOk_fn (by decide +kernel)) (fun _ => rfl) (ssrc_val W (hv 0 _ _ rfl)) (fun _ _ W' => (se_bin W' (se_int W') (se_var W' rfl (by decide +kernel)))) (fun _ _ W' => .inr ⟨_, _, rfl, rfl, (sc_cmp W' R E.dict rfl (se_var W' rfl (by decide +kernel)) (se_int W'))⟩)))))) (sss_cons (ss_while W (sc_cmp W R E.dict rfl (hv 5 _ _ rfl) (hv 1 _ _ rfl)) (sss_cons (ss_expr W rfl rfl (se_append W (hv 6 _ _ rfl) (se_ite W (sc_cmp W R E.dict rfl (hv 5 _ _ rfl) (se_idx W rfl (hv 7 _ _ rfl) (se_neg W))) (se_bin W (se_idx W rfl (hv 6 _ _ rfl) (hv 5 _ _ rfl)) (se_int W)) (hv 2 _ _ rfl)) rfl rfl rfl)) (sss_cons (ss_expr W rfl rfl (se_append W (hv 7 _ _ rfl) (hv 5 _ _ rfl) rfl rfl rfl)) (sss_cons (ss_assign W rfl (stores_fm (i := 9) K rfl) rfl (se_frz W (sl_disp W (ses_cons rfl (hv 5 _ _ rfl) (ses_cons rfl (se_idx W rfl (hv 7 _ _ rfl) (hv 5 _ _ rfl)) (ses_cons rfl (se_idx W rfl (hv 7 _ _ rfl) (se_idx W rfl (hv 7 _ _ rfl) (hv 5 _ _ rfl))) ses_nil)))))) (sss_cons (ss_ite W (sc_cmp W R E.dict rfl (se_idx W rfl (hv 9 _ _ rfl) (se_int W)) (hv 3 _ _ rfl)) (sss_cons (ss_assign W rfl (stores_fm (i := 5) K rfl) rfl (se_bin W (se_bin W (se_len W E.g_len hk_len rfl (hv 6 _ _ rfl)) (hv 3 _ _ rfl)) (se_len W E.g_len hk_len rfl (se_frz W (sl_comp (ys := []) W (compOk_fn (by decide +kernel)) (fun _ => rfl) (ssrc_val W (se_slice W (hv 6 _ _ rfl) (so_some (se_int W)) (so_some (se_bin W (hv 5 _ _ rfl) (se_int W))))) (fun _ _ W' => (se_var W' rfl (by decide +kernel))) (fun _ _ W' => .inr ⟨_, _, rfl, rfl, (sc_cmp W' R E.dict rfl (se_var W' rfl (by decide +kernel)) (se_int W'))⟩)))))) sss_nil) (sss_cons (ss_assign W rfl (stores_fm (i := 5) K rfl) rfl (se_bin W (se_bin W (se_len W E.g_len hk_len rfl (hv 6 _ _ rfl)) (hv 8 _ _ rfl)) (se_idx W rfl (hv 9 _ _ rfl) (se_bin W (hv 4 _ _ rfl) (se_int W))))) sss_nil)) sss_nil))))) (sss_cons (ss_ret W (se_tuple W (ses_cons rfl (hv 6 _ _ rfl) (ses_cons rfl (hv 7 _ _ rfl) ses_nil)))) sss_nil)))))
theorem l1nd_law : ∀ x ∈ l1d_law.names, (x == ("__debug__" : Str)) = false := by decide +kernel
theorem l1walk_law {X : Wd} {G : Gl} {mN : Str → Option Value} (E : l1Env X G mN) {n : Nat} {L : Addr} {A : Around} (K : FnOk X 152 l1fd_law l1b_law l1d_law) (W : (fmOf l1fd_law l1d_law 152 L A).Wf X) (R1 : Room (fmOf l1fd_law l1d_law 152 L A).A (n + 1)) (C : CS X G n) : SSs X G (fmOf l1fd_law l1d_law 152 L A) l1b_law l1ms_law := by
  have R : Room (fmOf l1fd_law l1d_law 152 L A).A n := R1.mono (Nat.le_succ _)
  have hv : ∀ (i : Nat) (x : Str) (pos : Pos), (fmOf l1fd_law l1d_law 152 L A).names[i]? = some x → SE X G (fmOf l1fd_law l1d_law 152 L A) (.Name x pos) (.var i) := fun i x pos h => se_var W h (l1nd_law x (List.mem_of_getElem? h))
  have hk__law_due : (fmOf l1fd_law l1d_law 152 L A).env.kindOf "_law_due" = some .globalImplicit := by kernel_rfl
  have hk__law_run : (fmOf l1fd_law l1d_law 152 L A).env.kindOf "_law_run" = some .globalImplicit := by kernel_rfl
  have hk_len : (fmOf l1fd_law l1d_law 152 L A).env.kindOf "len" = some .globalImplicit := by kernel_rfl
  have hk_list : (fmOf l1fd_law l1d_law 152 L A).env.kindOf "list" = some .globalImplicit := by kernel_rfl
  have hk_quotedata : (fmOf l1fd_law l1d_law 152 L A).env.kindOf "quotedata" = some .globalImplicit := by kernel_rfl
  have hk_range : (fmOf l1fd_law l1d_law 152 L A).env.kindOf "range" = some .globalImplicit := by kernel_rfl
  have hk_sum : (fmOf l1fd_law l1d_law 152 L A).env.kindOf "sum" = some .globalImplicit := by kernel_rfl
  have hk_zip : (fmOf l1fd_law l1d_law 152 L A).env.kindOf "zip" = some .globalImplicit := by kernel_rfl
  exact (sss_cons (ss_assign W rfl (stores_fm (i := 1) K rfl) rfl (se_ite W (sc_cmp W R E.dict rfl (hv 0 _ _ rfl) (se_frz W (sl_disp W ses_nil))) (se_frz W (sl_comp (ys := []) W (compOk_fn (by decide +kernel)) (fun _ => rfl) (ssrc_val W (se_slice W (hv 0 _ _ rfl) so_none (so_some (se_int W)))) (fun _ _ W' => (se_bin W' (se_var W' rfl (by decide +kernel)) (se_bin W' (se_int W') (se_int W')))) (fun _ _ _ => .inl ⟨rfl, rfl⟩))) (se_frz W (sl_disp W (ses_cons rfl (se_int W) (ses_cons rfl (se_int W) ses_nil)))))) (sss_cons (ss_unpack (xs := [("size" : Str), ("total" : Str)]) W (.cons (i := 2) rfl (stores_fm (i := 2) K rfl) (.cons (i := 3) rfl (stores_fm (i := 3) K rfl) .nil)) (by decide) rfl (by first | exact .inl rfl | exact .inr rfl) (se_tuple W (ses_cons rfl (se_len W E.g_len hk_len rfl (hv 1 _ _ rfl)) (ses_cons rfl (se_sum W E.g_sum hk_sum rfl (hv 1 _ _ rfl)) ses_nil)))) (sss_cons (ss_unpack (xs := [("calf" : Str), ("apart" : Str), ("count" : Str)]) W (.cons (i := 4) rfl (stores_fm (i := 4) K rfl) (.cons (i := 5) rfl (stores_fm (i := 5) K rfl) (.cons (i := 6) rfl (stores_fm (i := 6) K rfl) .nil))) (by decide) rfl (by first | exact .inl rfl | exact .inr rfl) (se_tuple W (ses_cons rfl (se_bin W (se_str' W (by decide +kernel)) (se_bin W (se_int W) (se_bin W (hv 3 _ _ rfl) (se_int W)))) (ses_cons rfl (se_cmp W R E.dict rfl (se_bin W (se_bin W (hv 3 _ _ rfl) (se_int W)) (se_int W)) (se_int W)) (ses_cons rfl (se_bin W (se_bin W (se_int W) (hv 2 _ _ rfl)) (se_int W)) ses_nil))))) (sss_cons (ss_assign W rfl (stores_fm (i := 7) K rfl) rfl (se_slice W (se_slice W (se_frz W (sl_disp W (ses_cons rfl (se_str' W (by decide +kernel)) (ses_cons rfl (se_str' W (by decide +kernel)) (ses_cons rfl (se_str' W (by decide +kernel)) (ses_cons rfl (se_str' W (by decide +kernel)) (ses_cons rfl (se_str' W (by decide +kernel)) ses_nil))))))) (so_some (se_bin W (se_bin W (hv 3 _ _ rfl) (se_int W)) (se_int W))) so_none) so_none (so_some (se_int W)))) (sss_cons (ss_assign W rfl (stores_fm (i := 8) K rfl) rfl (se_split W (se_str' W (by decide +kernel)) (se_str' W (by decide +kernel)) rfl rfl rfl)) (sss_cons (ss_assign W rfl (stores_fm (i := 9) K rfl) rfl (se_frz W (sl_add W (se_frz W (sl_add W (se_frz W (sl_list W E.g_list hk_list rfl (sls_range2 W E.g_range hk_range rfl rfl (se_int W) (se_int W)))) (se_frz W (sl_list W E.g_list hk_list rfl (sls_range2 W E.g_range hk_range rfl rfl (se_int W) (se_int W)))))) (se_frz W (sl_disp W (ses_cons rfl (se_int W) (ses_cons rfl (se_int W) ses_nil))))))) (sss_cons (ss_assign' W rfl (stores_fm (i := 10) K rfl) rfl (se_frz W (sl_comp (ys := [("total" : Str)]) W (compOk_fn (by decide +kernel)) (fun _ => rfl) (ssrc_range1 W E.g_range hk_range rfl (se_bin W (hv 6 _ _ rfl) (se_int W))) (fun _ _ W' => (se_bin W' (se_bin W' (se_bin W' (se_var W' rfl (by decide +kernel)) (se_int W')) (se_var W' rfl (by decide +kernel))) (se_int W'))) (fun _ _ _ => .inl ⟨rfl, rfl⟩)))) (sss_cons (ss_compAssign (ys := [("signs" : Str)]) W rfl (stores_fm (i := 11) K rfl) (compOk_fn (by decide +kernel)) (fun _ => rfl) (ssrc_val W (hv 10 _ _ rfl)) (fun _ _ W' => (se_idx W' rfl (se_var W' rfl (by decide +kernel)) (se_var W' rfl (by decide +kernel)))) (fun _ _ _ => .inl ⟨rfl, rfl⟩) rfl) (sss_cons (ss_assign' W rfl (stores_fm (i := 12) K rfl) rfl (se_frz W (sl_comp (ys := []) W (compOk_fn (by decide +kernel)) (fun _ => rfl) (ssrc_val W (hv 1 _ _ rfl)) (fun _ _ W' => (se_call W' C R E.g__law_written E.f__law_written (by kernel_rfl) (by decide +kernel) rfl nofun (ses_cons rfl (se_bin W' (se_int W') (se_bin W' (se_var W' rfl (by decide +kernel)) (se_int W'))) (ses_cons rfl (se_idx W' rfl (se_str' W' (by decide +kernel)) (se_bin W' (se_bin W' (se_var W' rfl (by decide +kernel)) (se_int W')) (se_int W'))) (ses_cons rfl (se_bin W' (se_bin W' (se_var W' rfl (by decide +kernel)) (se_int W')) (se_int W')) ses_nil))))) (fun _ _ _ => .inl ⟨rfl, rfl⟩)))) (sss_cons (ss_assign W rfl (stores_fm (i := 13) K rfl) rfl (se_call W C R E.g_quotedata E.f_quotedata hk_quotedata (by decide +kernel) rfl nofun (ses_cons rfl (se_join W (se_str' W (by decide +kernel)) (se_frz W (sl_comp (ys := [("written" : Str), ("ends" : Str)]) W (compOk_fn (by decide +kernel)) (fun _ => rfl) (ssrc_range1 W E.g_range hk_range rfl (hv 2 _ _ rfl)) (fun _ _ W' => (se_bin W' (se_idx W' rfl (se_var W' rfl (by decide +kernel)) (se_var W' rfl (by decide +kernel))) (se_bin W' (se_int W') (se_idx W' rfl (se_var W' rfl (by decide +kernel)) (se_var W' rfl (by decide +kernel)))))) (fun _ _ _ => .inl ⟨rfl, rfl⟩))) rfl rfl rfl) ses_nil))) (sss_cons (ss_ite W (sc_cmp W R E.dict rfl (hv 13 _ _ rfl) (se_join W (se_str' W (by decide +kernel)) (se_frz W (sl_comp (ys := []) W (compOk_fn (by decide +kernel)) (fun _ => rfl) (ssrc_val W (hv 12 _ _ rfl)) (fun _ _ W' => (se_bin W' (se_bin W' (se_ite W' (sc_cmp W' R E.dict rfl (se_idx W' rfl (se_var W' rfl (by decide +kernel)) (se_int W')) (se_str' W' (by decide +kernel))) (se_str' W' (by decide +kernel)) (se_str' W' (by decide +kernel))) (se_var W' rfl (by decide +kernel))) (se_str' W' (by decide +kernel)))) (fun _ _ _ => .inl ⟨rfl, rfl⟩))) rfl rfl rfl)) (sss_cons (ss_ret W (se_bool W)) sss_nil) sss_nil) (sss_cons (ss_assign W rfl (stores_fm (i := 14) K rfl) rfl (se_bin W (se_len W E.g_len hk_len rfl (hv 4 _ _ rfl)) (se_ite W (sc_var W rfl (hv 5 _ _ rfl)) (se_int W) (se_int W)))) (sss_cons (ss_compAssign (ys := []) W rfl (stores_fm (i := 15) K rfl) (compOk_fn (by decide +kernel)) (fun _ => rfl) (ssrc_val W (hv 1 _ _ rfl)) (fun _ _ W' => (se_bin W' (se_bin W' (se_int W') (se_bin W' (se_var W' rfl (by decide +kernel)) (se_int W'))) (se_ite W' (sc_cmp W' R E.dict rfl (se_bin W' (se_bin W' (se_var W' rfl (by decide +kernel)) (se_int W')) (se_int W')) (se_int W')) (se_int W') (se_int W')))) (fun _ _ _ => .inl ⟨rfl, rfl⟩) rfl) (sss_cons (ss_unpack (xs := [("dots" : Str), ("mothers" : Str)]) W (.cons (i := 16) rfl (stores_fm (i := 16) K rfl) (.cons (i := 17) rfl (stores_fm (i := 17) K rfl) .nil)) (by decide) rfl (by first | exact .inl rfl | exact .inr rfl) (se_call W C R E.g__law_due E.f__law_due hk__law_due (by decide +kernel) rfl nofun (ses_cons rfl (hv 15 _ _ rfl) (ses_cons rfl (hv 6 _ _ rfl) (ses_cons rfl (hv 14 _ _ rfl) ses_nil))))) (sss_cons (ss_assign W rfl (stores_fm (i := 18) K rfl) rfl (se_frz W (sl_add W (se_frz W (sl_comp (ys := []) W (compOk_fn (by decide +kernel)) (fun _ => rfl) (ssrc_val W (hv 1 _ _ rfl)) (fun _ _ W' => (se_bin W' (se_int W') (se_bin W' (se_bin W' (se_var W' rfl (by decide +kernel)) (se_int W')) (se_int W')))) (fun _ _ _ => .inl ⟨rfl, rfl⟩))) (se_frz W (sl_comp (ys := [("free" : Str), ("turn" : Str)]) W (compOk_fn (by decide +kernel)) (fun _ => rfl) (ssrc_val W (se_slice W (hv 17 _ _ rfl) (so_some (se_bin W (hv 2 _ _ rfl) (se_int W))) so_none)) (fun _ _ W' => (se_idx W' rfl (se_var W' rfl (by decide +kernel)) (se_idx W' rfl (se_var W' rfl (by decide +kernel)) (se_var W' rfl (by decide +kernel))))) (fun _ _ _ => .inl ⟨rfl, rfl⟩)))))) (sss_cons (ss_compAssignZ W rfl (stores_fm (i := 19) K rfl) (compOk2_of (by decide +kernel)) (fun _ => rfl) (szip W E.g_zip hk_zip rfl rfl (se_slice W (hv 16 _ _ rfl) (so_some (se_int W)) so_none) (hv 18 _ _ rfl)) (fun _ W' => (se_frz W' (sl_add W' (se_frz W' (sl_add W' (se_frz W' (sl_mul W' (se_frz W' (sl_disp W' (ses_cons rfl (se_int W') ses_nil))) (se_bin W' (se_var W' rfl (by decide +kernel)) (se_int W')))) (se_frz W' (sl_mul W' (se_frz W' (sl_disp W' (ses_cons rfl (se_int W') ses_nil))) (se_bin W' (se_var W' rfl (by decide +kernel)) (se_int W')))))) (se_frz W' (sl_disp W' (ses_cons rfl (se_var W' rfl (by decide +kernel)) (ses_cons rfl (se_int W') ses_nil))))))) rfl) (sss_cons (ss_unpack (xs := [("mails" : Str), ("lines" : Str)]) W (.cons (i := 20) rfl (stores_fm (i := 20) K rfl) (.cons (i := 21) rfl (stores_fm (i := 21) K rfl) .nil)) (by decide) rfl (by first | exact .inl rfl | exact .inr rfl) (se_tuple W (ses_cons rfl (se_mut W (sl_disp W ses_nil)) (ses_cons rfl (se_mut W (sl_disp W ses_nil)) ses_nil)))) (sss_cons (ss_for W (fun _ => rfl) (stg_name W rfl (stores_fm (i := 22) K rfl)) (ssrc_range2 W E.g_range hk_range rfl rfl (se_int W) (se_bin W (hv 6 _ _ rfl) (se_int W))) (sss_cons (ss_assign W rfl (stores_fm (i := 23) K rfl) rfl (se_ite W (sc_cmp W R E.dict rfl (se_idx W rfl (hv 16 _ _ rfl) (hv 22 _ _ rfl)) (se_int W)) (se_bin W (se_bin W (se_ite W (sc_var W rfl (hv 5 _ _ rfl)) (se_str' W (by decide +kernel)) (se_idx W rfl (se_str' W (by decide +kernel)) (se_bin W (hv 22 _ _ rfl) (se_int W)))) (se_bin W (se_str' W (by decide +kernel)) (hv 14 _ _ rfl))) (se_idx W rfl (hv 11 _ _ rfl) (hv 22 _ _ rfl))) (se_str' W (by decide +kernel)))) (sss_cons (ss_expr W rfl rfl (se_append W (hv 20 _ _ rfl) (se_bin W (se_bin W (se_bin W (se_bin W (se_str' W (by decide +kernel)) (se_bin W (se_idx W rfl (hv 16 _ _ rfl) (hv 22 _ _ rfl)) (se_int W))) (se_idx W rfl (hv 11 _ _ rfl) (hv 22 _ _ rfl))) (hv 23 _ _ rfl)) (se_str' W (by decide +kernel))) rfl rfl rfl)) (sss_cons (ss_expr W rfl rfl (se_append W (hv 21 _ _ rfl) (se_bin W (se_bin W (se_int W) (hv 2 _ _ rfl)) (se_count W (se_join W (se_str' W (by decide +kernel)) (hv 20 _ _ rfl) rfl rfl rfl) (se_str' W (by decide +kernel)) rfl rfl rfl)) rfl rfl rfl)) sss_nil)))) (sss_cons (ss_assign W rfl (stores_fm (i := 24) K rfl) rfl (se_call W C R E.g__law_run E.f__law_run hk__law_run (by decide +kernel) rfl nofun (ses_cons rfl (se_mut W (sl_list W E.g_list hk_list rfl (sls_val W (hv 13 _ _ rfl)))) (ses_cons rfl (hv 2 _ _ rfl) (ses_cons rfl (hv 11 _ _ rfl) (ses_cons rfl (hv 4 _ _ rfl) (ses_cons rfl (hv 5 _ _ rfl) (ses_cons rfl (hv 7 _ _ rfl) ses_nil)))))))) (sss_cons (ss_ret W (se_cmp W R E.dict rfl (hv 24 _ _ rfl) (se_tuple W (ses_cons rfl (se_frz W (sl_list W E.g_list hk_list rfl (sls_zip3 W E.g_zip hk_zip rfl rfl rfl (hv 19 _ _ rfl) (hv 20 _ _ rfl) (hv 21 _ _ rfl)))) (ses_cons rfl (se_frz W (sl_add W (se_slice W (hv 19 _ _ rfl) (so_some (hv 6 _ _ rfl)) so_none) (se_frz W (sl_disp W (ses_cons rfl (se_frz W (sl_disp W (ses_cons rfl (se_int W) (ses_cons rfl (se_int W) ses_nil)))) ses_nil))))) (ses_cons rfl (se_str' W (by decide +kernel)) (ses_cons rfl (se_bin W (se_idx W rfl (hv 21 _ _ rfl) (se_neg W)) (se_int W)) ses_nil))))))) sss_nil))))))))))))))))))))
end Mine
end
section
set_option maxHeartbeats 4000000
namespace Mine
open PySem PyProof.Rows PySem.W
noncomputable def l1tab : List (List Nat × Int) := [([33], 54), ([33, 61], 28), ([37], 24), ([37, 61], 40), ([38], 19), ([38, 61], 41), ([40], 7), ([41], 8), ([42], 16), ([42, 42], 35), ([42, 42, 61], 46), ([42, 61], 38), ([43], 14), ([43, 61], 36), ([44], 12), ([45], 15), ([45, 61], 37), ([45, 62], 51), ([46], 23), ([46, 46, 46], 52), ([47], 17), ([47, 47], 47), ([47, 47, 61], 48), ([47, 61], 39), ([58], 11), ([58, 61], 53), ([59], 13), ([60], 20), ([60, 60], 33), ([60, 60, 61], 44), ([60, 61], 29), ([61], 22), ([61, 61], 27), ([62], 21), ([62, 61], 30), ([62, 62], 34), ([62, 62, 61], 45), ([64], 49), ([64, 61], 50), ([91], 9), ([93], 10), ([94], 32), ([94, 61], 43), ([123], 25), ([124], 18), ([124, 61], 42), ([125], 26), ([126], 31)]
noncomputable def l1re (p : Value) (r x : List Nat) : Option (List Nat) :=
  if x.length ≤ 20000 ∧ r.length ≤ 10 ∧ r.contains 92 = false then
    if p = .ref 78 then some (subL (fun text s => (find1 text (text.size - s) s).map fun j => (j, j + 1)) x r)
    else if p = .ref 83 then some (subL (fun text s => (find2 text (text.size - s) s).map fun j => (j, end2 text j)) x r)
    else none
  else none
noncomputable def l1G (call : Value → List AV → Hp → Option (AV × Hp)) : Gl := { dict := .ref 91, tab := l1tab, re := l1re, read := .none, rc := .ref 52, call := call, N := 1000000 }
noncomputable def lexA (args : List AV) (hp : Hp) : Option (AV × Hp) := one args fun v => onTag v fun t => some (.inst (hp.length + 1), hp ++ [.list [], .dict [.int 1, .stm t, .str wsL, .ref hp.length]])
noncomputable def onRef {τ : Type} (v : Value) (f : Addr → Option τ) : Option τ := match v with
  | .ref a => f a
  | _ => none
theorem onRef_inv {τ : Type} {v : Value} {f : Addr → Option τ} {r : τ} (h : onRef v f = some r) : ∃ a, v = .ref a ∧ f a = some r := by
  cases v with
  | ref a => exact ⟨a, rfl, h⟩
  | _ => cases h
theorem one_inv {τ : Type} {args : List AV} {f : AV → Option τ} {r : τ} (h : one args f = some r) : ∃ v, args = [v] ∧ f v = some r := by
  match args, h with
  | [v], h => exact ⟨v, rfl, h⟩
noncomputable def l1fn (a : Addr) : Option FnDef :=
  if a = 52 then some l1d__read_char
  else if a = 59 then some l1d_get_token
  else if a = 66 then some l1d_push_token
  else if a = 90 then some l1d_quotedata
  else if a = 100 then some l1d_ISTERMINAL
  else if a = 107 then some l1d_ISNONTERMINAL
  else if a = 114 then some l1d_ISEOF
  else if a = 128 then some l1d__law_written
  else if a = 135 then some l1d__law_cut
  else if a = 142 then some l1d__law_run
  else if a = 147 then some l1d__law_due
  else if a = 152 then some l1d_law
  else none
noncomputable def l1call : Nat → Value → List AV → Hp → Option (AV × Hp)
  | 0, _, _, _ => none
  | k + 1, f, args, hp => onRef f fun a => if a = 121 then lexA args hp else (l1fn a).bind fun d => runFn (l1G (l1call k)) d args hp
noncomputable def l1dLex : FnDef := { names := [("left" : Str), "_law_read", "stream"], np := 1, body := [], trunc := false }
noncomputable def l1dInit : FnDef := { names := [("self" : Str), "fp"], np := 2, body := [], trunc := false }
structure l1Fns (X : Wd) (K : Frag) (mN : Str → Option Value) : Prop where
  k__read_char : FnOk X 52 l1fd__read_char l1b__read_char l1d__read_char
  k_get_token : FnOk X 59 l1fd_get_token l1b_get_token l1d_get_token
  k_push_token : FnOk X 66 l1fd_push_token l1b_push_token l1d_push_token
  k_quotedata : FnOk X 90 l1fd_quotedata l1b_quotedata l1d_quotedata
  k_ISTERMINAL : FnOk X 100 l1fd_ISTERMINAL l1b_ISTERMINAL l1d_ISTERMINAL
  k_ISNONTERMINAL : FnOk X 107 l1fd_ISNONTERMINAL l1b_ISNONTERMINAL l1d_ISNONTERMINAL
  k_ISEOF : FnOk X 114 l1fd_ISEOF l1b_ISEOF l1d_ISEOF
  k__law_written : FnOk X 128 l1fd__law_written l1b__law_written l1d__law_written
  k__law_cut : FnOk X 135 l1fd__law_cut l1b__law_cut l1d__law_cut
  k__law_run : FnOk X 142 l1fd__law_run l1b__law_run l1d__law_run
  k__law_due : FnOk X 147 l1fd__law_due l1b__law_due l1d__law_due
  k_law : FnOk X 152 l1fd_law l1b_law l1d_law
  k_lex : FnOk X 121 l1fd__law_lexer l1b__law_lexer l1dLex
  k_init : FnOk X 45 l1fd___init__ l1b___init__ l1dInit
  ck : ClsK X K 45
  c : X.C = 69
  gC : GlobOk X "_netrclex" (.ref X.C)
  init : InitBody l1b___init__
  mko : MkOk X 120 l1p1 l1q1
  lex : LexBody 120 l1fd__law_lexer l1b__law_lexer l1rb l1p1 l1q1
  st : ∀ φ a l, StmAt l1rb φ a l → X.StmP φ a l
  env : ∀ call, l1Env X (l1G call) mN
theorem l1cs {X : Wd} {K : Frag} {mN : Str → Option Value} (Fs : l1Fns X K mN) : ∀ k : Nat, CS X (l1G (l1call k)) (5 * k + 5) := by
  intro k
  induction k with
  | zero =>
    intro f args hp av hp' h
    cases h
  | succ k ih =>
    intro f args hp av hp' h A κ φ α s vs R H r
    have E := Fs.env (l1call k)
    obtain ⟨a, rfl, h1⟩ := onRef_inv h
    by_cases ha : a = 121
    · subst ha
      obtain ⟨v, rfl, h2⟩ := one_inv (if_t rfl h1)
      obtain ⟨t, rfl, h3⟩ := onTag_inv h2
      obtain ⟨rfl, rfl⟩ := pair_inv h3
      obtain ⟨w, ws, rfl, rv, rr⟩ := r.inv_cons
      obtain rfl := rr.inv_nil
      have R3 : Room A (5 * k + 7 + 3) := R
      exact lexer_call (l1G (l1call k)) Fs.ck E.cls E.fields Fs.k_init rfl rfl Fs.init Fs.mko Fs.k_lex rfl rfl Fs.lex Fs.st Fs.gC R3 H rv
    · have R2 : Room A (5 * k + 9 + 1) := R
      have sub : ∀ {A' : Around}, Room A' (5 * k + 9) → Room A' (5 * k + 5 + 1) := fun q => q.mono (Nat.add_le_add_left (show 6 ≤ 9 by decide) (5 * k))
      obtain ⟨d, hd, h'⟩ := bind_inv (if_f ha h1)
      unfold l1fn at hd
      by_cases ha : a = 52
      · subst ha; obtain rfl := some_inv (if_t rfl hd); exact fn_sound Fs.k__read_char (fun L A Rm W => l1walk__read_char E Fs.k__read_char W (sub Rm) ih) h' R2 H r
      replace hd := if_f ha hd
      by_cases ha : a = 59
      · subst ha; obtain rfl := some_inv (if_t rfl hd); exact fn_sound Fs.k_get_token (fun L A Rm W => l1walk_get_token E Fs.k_get_token W (sub Rm) ih) h' R2 H r
      replace hd := if_f ha hd
      by_cases ha : a = 66
      · subst ha; obtain rfl := some_inv (if_t rfl hd); exact fn_sound Fs.k_push_token (fun L A Rm W => l1walk_push_token E Fs.k_push_token W (sub Rm) ih) h' R2 H r
      replace hd := if_f ha hd
      by_cases ha : a = 90
      · subst ha; obtain rfl := some_inv (if_t rfl hd); exact fn_sound Fs.k_quotedata (fun L A Rm W => l1walk_quotedata E Fs.k_quotedata W (sub Rm) ih) h' R2 H r
      replace hd := if_f ha hd
      by_cases ha : a = 100
      · subst ha; obtain rfl := some_inv (if_t rfl hd); exact fn_sound Fs.k_ISTERMINAL (fun L A Rm W => l1walk_ISTERMINAL E Fs.k_ISTERMINAL W (sub Rm) ih) h' R2 H r
      replace hd := if_f ha hd
      by_cases ha : a = 107
      · subst ha; obtain rfl := some_inv (if_t rfl hd); exact fn_sound Fs.k_ISNONTERMINAL (fun L A Rm W => l1walk_ISNONTERMINAL E Fs.k_ISNONTERMINAL W (sub Rm) ih) h' R2 H r
      replace hd := if_f ha hd
      by_cases ha : a = 114
      · subst ha; obtain rfl := some_inv (if_t rfl hd); exact fn_sound Fs.k_ISEOF (fun L A Rm W => l1walk_ISEOF E Fs.k_ISEOF W (sub Rm) ih) h' R2 H r
      replace hd := if_f ha hd
      by_cases ha : a = 128
      · subst ha; obtain rfl := some_inv (if_t rfl hd); exact fn_sound Fs.k__law_written (fun L A Rm W => l1walk__law_written E Fs.k__law_written W (sub Rm) ih) h' R2 H r
      replace hd := if_f ha hd
      by_cases ha : a = 135
      · subst ha; obtain rfl := some_inv (if_t rfl hd); exact fn_sound Fs.k__law_cut (fun L A Rm W => l1walk__law_cut E Fs.k__law_cut W (sub Rm) ih) h' R2 H r
      replace hd := if_f ha hd
      by_cases ha : a = 142
      · subst ha; obtain rfl := some_inv (if_t rfl hd); exact fn_sound Fs.k__law_run (fun L A Rm W => l1walk__law_run E Fs.k__law_run W (sub Rm) ih) h' R2 H r
      replace hd := if_f ha hd
      by_cases ha : a = 147
      · subst ha; obtain rfl := some_inv (if_t rfl hd); exact fn_sound Fs.k__law_due (fun L A Rm W => l1walk__law_due E Fs.k__law_due W (sub Rm) ih) h' R2 H r
      replace hd := if_f ha hd
      by_cases ha : a = 152
      · subst ha; obtain rfl := some_inv (if_t rfl hd); exact fn_sound Fs.k_law (fun L A Rm W => l1walk_law E Fs.k_law W (sub Rm) ih) h' R2 H r
      replace hd := if_f ha hd
      cases hd
end Mine
end
section
set_option maxHeartbeats 8000000
namespace Mine
open PySem PyProof.Rows PySem.W
noncomputable abbrev lexFields : List Str := [("lineno" : Str), "instream", "whitespace", "pushback"]
noncomputable abbrev l1X (prog : Program) (w : World) (s : Shared) : Wd := mkWd prog w s 116 69 52 lexFields l1rb l1p1 l1q1
theorem lexNodup : lexFields.Nodup := by decide +kernel
theorem lexFew : lexFields.length ≤ 100 := by decide +kernel
theorem lk_of_obj : ∀ f ∈ lexFields, typeLookup (.type "object") f = pure none := by
  intro f hf
  simp only [lexFields, List.mem_cons, List.not_mem_nil, or_false] at hf
  rcases hf with rfl | rfl | rfl | rfl <;> (rw [typeLookup_type, builtinLookup_eq_fast]; kernel_rfl)
theorem find_fields {es : Array DictEntry} (h : (lexFields.all fun f => (nsFind es f).isNone) = true) : ∀ f ∈ lexFields, nsFind es f = none := by
  intro f hf
  have := List.all_eq_true.mp h f hf
  simpa using this
section
variable {prog : Program} {w : World} {s : Shared} {mg mb : Str → Option Value} {p : Program} {loose : List Str} {mean : ExcName → Option Value}
theorem l1src (KX : (h1K w.params).In s.heap) (T : Top p loose mean mg mb s.heap) : Src (l1X prog w s) (h1K w.params) mg mb :=
  src_of KX T (by kernel_rfl) (by kernel_rfl) (by decide) (by decide) (by decide)
theorem len1 {α : Type} {l : List α} (h : l.length = 1) : ∃ a, l = [a] := by
  match l, h with
  | [a], _ => exact ⟨a, rfl⟩
theorem len2 {α : Type} {l : List α} (h : l.length = 2) : ∃ a b, l = [a, b] := by
  match l, h with
  | [a, b], _ => exact ⟨a, b, rfl⟩
theorem len3 {α : Type} {l : List α} (h : l.length = 3) : ∃ a b c, l = [a, b, c] := by
  match l, h with
  | [a, b, c], _ => exact ⟨a, b, c, rfl⟩
theorem len_succ {α : Type} {l : List α} {n : Nat} (h : l.length = n + 1) : ∃ a r, l = a :: r ∧ r.length = n := by
  cases l with
  | nil => cases h
  | cons a r => exact ⟨a, r, rfl, Nat.succ.inj h⟩
theorem len6 {α : Type} {l : List α} (h : l.length = 6) : ∃ a b c d e f, l = [a, b, c, d, e, f] := by
  obtain ⟨a, l1, rfl, h1⟩ := len_succ h
  obtain ⟨b, l2, rfl, h2⟩ := len_succ h1
  obtain ⟨c, l3, rfl, h3⟩ := len_succ h2
  obtain ⟨d, e, f, rfl⟩ := len3 h3
  exact ⟨a, b, c, d, e, f, rfl⟩
theorem l1k__read_char (S : Src (l1X prog w s) (h1K w.params) mg mb) : FnOk (l1X prog w s) 52 l1fd__read_char l1b__read_char l1d__read_char :=
  fnOk_of S (by kernel_rfl) (by kernel_rfl) (by kernel_rfl) (by kernel_rfl) (by kernel_rfl) (by kernel_rfl) (fun vals h => by obtain ⟨a, rfl⟩ := len1 h; kernel_rfl) (by kernel_rfl) (by kernel_rfl) (by kernel_rfl) (by kernel_rfl)
theorem l1k_get_token (S : Src (l1X prog w s) (h1K w.params) mg mb) : FnOk (l1X prog w s) 59 l1fd_get_token l1b_get_token l1d_get_token :=
  fnOk_of S (by kernel_rfl) (by kernel_rfl) (by kernel_rfl) (by kernel_rfl) (by kernel_rfl) (by kernel_rfl) (fun vals h => by obtain ⟨a, rfl⟩ := len1 h; kernel_rfl) (by kernel_rfl) (by kernel_rfl) (by kernel_rfl) (by kernel_rfl)
theorem l1k_push_token (S : Src (l1X prog w s) (h1K w.params) mg mb) : FnOk (l1X prog w s) 66 l1fd_push_token l1b_push_token l1d_push_token :=
  fnOk_of S (by kernel_rfl) (by kernel_rfl) (by kernel_rfl) (by kernel_rfl) (by kernel_rfl) (by kernel_rfl) (fun vals h => by obtain ⟨a, b, rfl⟩ := len2 h; kernel_rfl) (by kernel_rfl) (by kernel_rfl) (by kernel_rfl) (by kernel_rfl)
theorem l1k_quotedata (S : Src (l1X prog w s) (h1K w.params) mg mb) : FnOk (l1X prog w s) 90 l1fd_quotedata l1b_quotedata l1d_quotedata :=
  fnOk_of S (by kernel_rfl) (by kernel_rfl) (by kernel_rfl) (by kernel_rfl) (by kernel_rfl) (by kernel_rfl) (fun vals h => by obtain ⟨a, rfl⟩ := len1 h; kernel_rfl) (by kernel_rfl) (by kernel_rfl) (by kernel_rfl) (by kernel_rfl)
theorem l1k_ISTERMINAL (S : Src (l1X prog w s) (h1K w.params) mg mb) : FnOk (l1X prog w s) 100 l1fd_ISTERMINAL l1b_ISTERMINAL l1d_ISTERMINAL :=
  fnOk_of S (by kernel_rfl) (by kernel_rfl) (by kernel_rfl) (by kernel_rfl) (by kernel_rfl) (by kernel_rfl) (fun vals h => by obtain ⟨a, rfl⟩ := len1 h; kernel_rfl) (by kernel_rfl) (by kernel_rfl) (by kernel_rfl) (by kernel_rfl)
theorem l1k_ISNONTERMINAL (S : Src (l1X prog w s) (h1K w.params) mg mb) : FnOk (l1X prog w s) 107 l1fd_ISNONTERMINAL l1b_ISNONTERMINAL l1d_ISNONTERMINAL :=
  fnOk_of S (by kernel_rfl) (by kernel_rfl) (by kernel_rfl) (by kernel_rfl) (by kernel_rfl) (by kernel_rfl) (fun vals h => by obtain ⟨a, rfl⟩ := len1 h; kernel_rfl) (by kernel_rfl) (by kernel_rfl) (by kernel_rfl) (by kernel_rfl)
theorem l1k_ISEOF (S : Src (l1X prog w s) (h1K w.params) mg mb) : FnOk (l1X prog w s) 114 l1fd_ISEOF l1b_ISEOF l1d_ISEOF :=
  fnOk_of S (by kernel_rfl) (by kernel_rfl) (by kernel_rfl) (by kernel_rfl) (by kernel_rfl) (by kernel_rfl) (fun vals h => by obtain ⟨a, rfl⟩ := len1 h; kernel_rfl) (by kernel_rfl) (by kernel_rfl) (by kernel_rfl) (by kernel_rfl)
theorem l1k__law_written (S : Src (l1X prog w s) (h1K w.params) mg mb) : FnOk (l1X prog w s) 128 l1fd__law_written l1b__law_written l1d__law_written :=
  fnOk_of S (by kernel_rfl) (by kernel_rfl) (by kernel_rfl) (by kernel_rfl) (by kernel_rfl) (by kernel_rfl) (fun vals h => by obtain ⟨a, b, c, rfl⟩ := len3 h; kernel_rfl) (by kernel_rfl) (by kernel_rfl) (by kernel_rfl) (by kernel_rfl)
theorem l1k__law_cut (S : Src (l1X prog w s) (h1K w.params) mg mb) : FnOk (l1X prog w s) 135 l1fd__law_cut l1b__law_cut l1d__law_cut :=
  fnOk_of S (by kernel_rfl) (by kernel_rfl) (by kernel_rfl) (by kernel_rfl) (by kernel_rfl) (by kernel_rfl) (fun vals h => by obtain ⟨a, rfl⟩ := len1 h; kernel_rfl) (by kernel_rfl) (by kernel_rfl) (by kernel_rfl) (by kernel_rfl)
theorem l1k__law_run (S : Src (l1X prog w s) (h1K w.params) mg mb) : FnOk (l1X prog w s) 142 l1fd__law_run l1b__law_run l1d__law_run :=
  fnOk_of S (by kernel_rfl) (by kernel_rfl) (by kernel_rfl) (by kernel_rfl) (by kernel_rfl) (by kernel_rfl) (fun vals h => by obtain ⟨a, b, c, d, e, f, rfl⟩ := len6 h; kernel_rfl) (by kernel_rfl) (by kernel_rfl) (by kernel_rfl) (by kernel_rfl)
theorem l1k__law_due (S : Src (l1X prog w s) (h1K w.params) mg mb) : FnOk (l1X prog w s) 147 l1fd__law_due l1b__law_due l1d__law_due :=
  fnOk_of S (by kernel_rfl) (by kernel_rfl) (by kernel_rfl) (by kernel_rfl) (by kernel_rfl) (by kernel_rfl) (fun vals h => by obtain ⟨a, b, c, rfl⟩ := len3 h; kernel_rfl) (by kernel_rfl) (by kernel_rfl) (by kernel_rfl) (by kernel_rfl)
theorem l1k_law (S : Src (l1X prog w s) (h1K w.params) mg mb) : FnOk (l1X prog w s) 152 l1fd_law l1b_law l1d_law :=
  fnOk_of S (by kernel_rfl) (by kernel_rfl) (by kernel_rfl) (by kernel_rfl) (by kernel_rfl) (by kernel_rfl) (fun vals h => by obtain ⟨a, rfl⟩ := len1 h; kernel_rfl) (by kernel_rfl) (by kernel_rfl) (by kernel_rfl) (by kernel_rfl)
theorem l1k_lex (S : Src (l1X prog w s) (h1K w.params) mg mb) : FnOk (l1X prog w s) 121 l1fd__law_lexer l1b__law_lexer l1dLex :=
  fnOk_of S (by kernel_rfl) (by kernel_rfl) (by kernel_rfl) (by kernel_rfl) (by kernel_rfl) (by kernel_rfl) (fun vals h => by obtain ⟨a, rfl⟩ := len1 h; kernel_rfl) (by kernel_rfl) (by kernel_rfl) (by kernel_rfl) (by kernel_rfl)
theorem l1k_init (S : Src (l1X prog w s) (h1K w.params) mg mb) : FnOk (l1X prog w s) 45 l1fd___init__ l1b___init__ l1dInit :=
  fnOk_of S (by kernel_rfl) (by kernel_rfl) (by kernel_rfl) (by kernel_rfl) (by kernel_rfl) (by kernel_rfl) (fun vals h => by obtain ⟨a, b, rfl⟩ := len2 h; kernel_rfl) (by kernel_rfl) (by kernel_rfl) (by kernel_rfl) (by kernel_rfl)
theorem l1ck (S : Src (l1X prog w s) (h1K w.params) mg mb) : ClsK (l1X prog w s) (h1K w.params) 45 :=
  ⟨fun h hb => S.inK hb, by kernel_rfl, by kernel_rfl, by kernel_rfl, by kernel_rfl⟩
theorem l1cls (S : Src (l1X prog w s) (h1K w.params) mg mb) : ClsAt (l1X prog w s) (nsFind (dictEs (h1K w.params) 68)) :=
  clsAt_of S (nm := "_netrclex") (q := "_netrclex") (N := 68) (bs := [.type "object"]) (sn := []) (sub := []) (ab := false) (col := none) (dd := none) (k0 := none) (k1 := none) (k2 := some (.str "_netrclex" 284)) (k3 := some (.str "_netrclex" 292)) (k5 := some (.bool true)) (newId := "object.__new__") (ep := dictEp (h1K w.params) 68)
    (by kernel_rfl) (dictAt_ok (by kernel_rfl)) (strKeys_of (by kernel_rfl)) (by kernel_rfl) (by kernel_rfl) (by kernel_rfl) (fun f hf => ⟨find_fields (by kernel_rfl) f hf, lk_of_obj f hf⟩) lexNodup lexFew
theorem l1init : InitBody l1b___init__ := ⟨⟨_, _, _, _, _, _, _, _, _, _, _, _, _, _, _, _, _, _, rfl⟩⟩
theorem l1mko (S : Src (l1X prog w s) (h1K w.params) mg mb) (T : Top p loose mean mg mb s.heap) : MkOk (l1X prog w s) 120 l1p1 l1q1 :=
  mkOk_of (bm := 4) S T (by decide) (by kernel_rfl) (by kernel_rfl) (by decide) (by decide)
theorem l1qual : ∀ env : Env, env.scope = l1fd__law_lexer.scope → env.qual = l1fd__law_lexer.qualname ++ ".<locals>." → qualnameIn env "_law_read" "_law_read" = l1q1 := by
  intro env h1 h2
  unfold qualnameIn Env.kindOf
  rw [h1, h2]
  kernel_rfl
theorem l1lex : LexBody 120 l1fd__law_lexer l1b__law_lexer l1rb l1p1 l1q1 where
  eq := ⟨_, _, _, _, _, _, _, _, _, _, _, _, _, _, _, _, rfl, rfl, rfl, fun _ => rfl, rfl, rfl, rfl, rfl, fun _ => rfl, rfl, by decide, fun clos doc pm cv ctv v => by kernel_rfl⟩
  code := by kernel_rfl
  qual := l1qual
  names := ⟨by kernel_rfl, by kernel_rfl, by kernel_rfl, by kernel_rfl⟩
theorem l1hash (P : Params) : ∀ e ∈ dictEs (h1K P) 91, ∃ k, Value.isStrOf k e.key = true ∧ ∀ w : World, w.params = P → e.hash = hashStr w k := by
  have key : ∀ l : List DictEntry, (l.map fun e => (match e.key with | .str x _ => (true, PyData.keyHash P x) | _ => (false, 0))) = l.map (fun e => (true, e.hash)) → ∀ e ∈ l, ∃ k, Value.isStrOf k e.key = true ∧ ∀ w : World, w.params = P → e.hash = hashStr w k := by
    intro l
    induction l with
    | nil => intro _ e h; cases h
    | cons e l ih =>
      intro h e' he'
      rw [List.map_cons, List.map_cons] at h
      injection h with h1 h2
      rcases List.mem_cons.mp he' with rfl | he'
      · split at h1
        · rename_i x t hk
          rw [hk]
          refine ⟨x, by simp [Value.isStrOf], fun w hw => ?_⟩
          injection h1 with _ h3
          rw [← h3]; exact keyHash_str P x w hw
        · injection h1 with h4 _; cases h4
      · exact ih h2 e' he'
  intro e he
  exact key (dictEs (h1K P) 91).toList (by kernel_rfl) e (by simpa using he)
theorem l1dict (S : Src (l1X prog w s) (h1K w.params) mg mb) (call : Value → List AV → Hp → Option (AV × Hp)) : DictOk (l1X prog w s) (l1G call) :=
  dictOk_of S (es := dictEs (h1K w.params) 91) (ep := dictEp (h1K w.params) 91) rfl (by decide) (dictAt_ok (by kernel_rfl)) (by kernel_rfl) fun e he => by
    obtain ⟨k, h1, h2⟩ := l1hash w.params e he
    exact ⟨k, h1, h2 w rfl⟩
theorem l1reok (S : Src (l1X prog w s) (h1K w.params) mg mb) (call : Value → List AV → Hp → Option (AV × Hp)) : ReOk (l1X prog w s) (l1G call) where
  re := by
    intro p r x y h
    have h' : l1re p r x = some y := h
    unfold l1re at h'
    obtain ⟨hc, h1⟩ := if_inv h'
    by_cases hp : p = .ref 78
    · obtain rfl := some_inv (if_t hp h1)
      exact ⟨78, code1, _, hp, patFind1, patAt_of S (tp := 77) (vs := #[.str "(?m)^\\." 345, .int 40 358, .int 0 0, .none, .none, .ref 77, .int 0 0]) (ws := #[.int 14 0, .int 4 0, .int 0 0, .int 1 0, .int 1 0, .int 6 0, .int 1 0, .int 16 0, .int 46 0, .int 1 0]) (n := 0) (by kernel_rfl) rfl rfl rfl (by kernel_rfl) (by decide +kernel), hc.1, hc.2.1, hc.2.2, rfl⟩
    · obtain ⟨hp2, rfl⟩ := ite_inv (if_f hp h1)
      exact ⟨83, code2, _, hp2, patFind2, patAt_of S (tp := 82) (vs := #[.str "(?:\\r\\n|\\n|\\r(?!\\n))" 361, .int 32 400, .int 0 0, .none, .none, .ref 82, .int 0 0]) (ws := #[.int 14 0, .int 9 0, .int 4 0, .int 1 0, .int 2 0, .int 16 0, .int 10 0, .int 16 0, .int 13 0, .int 0 0, .int 7 0, .int 7 0, .int 16 0, .int 13 0, .int 16 0, .int 10 0, .int 15 0, .int 18 0, .int 5 0, .int 16 0, .int 10 0, .int 15 0, .int 13 0, .int 11 0, .int 16 0, .int 13 0, .int 5 0, .int 5 0, .int 0 0, .int 16 0, .int 10 0, .int 1 0, .int 15 0, .int 2 0, .int 0 0, .int 1 0]) (n := 0) (by kernel_rfl) rfl rfl rfl (by kernel_rfl) (by decide +kernel), hc.1, hc.2.1, hc.2.2, rfl⟩
theorem tCRLF (P : Params) : nsFind (mainDict (h1K P)) "CRLF" = some (.str "\r\n" 402) := by kernel_rfl
theorem tCRLFl : ("\r\n" : Str).cps.toList = [13, 10] := by decide +kernel
theorem tENDMARKER (P : Params) : nsFind (mainDict (h1K P)) "ENDMARKER" = some (.int 0 413) := by kernel_rfl
theorem tNT_OFFSET (P : Params) : nsFind (mainDict (h1K P)) "NT_OFFSET" = some (.int 256 511) := by kernel_rfl
theorem l1env (S : Src (l1X prog w s) (h1K w.params) mg mb) (call : Value → List AV → Hp → Option (AV × Hp)) : l1Env (l1X prog w s) (l1G call) (nsFind (dictEs (h1K w.params) 68)) where
  g_len := glob_bui S (by kernel_rfl) (by decide +kernel) (by kernel_rfl)
  g_sum := glob_bui S (by kernel_rfl) (by decide +kernel) (by kernel_rfl)
  g_iter := glob_bui S (by kernel_rfl) (by decide +kernel) (by kernel_rfl)
  g_range := glob_bui S (by kernel_rfl) (by decide +kernel) (by kernel_rfl)
  g_list := glob_bui S (by kernel_rfl) (by decide +kernel) (by kernel_rfl)
  g_zip := glob_bui S (by kernel_rfl) (by decide +kernel) (by kernel_rfl)
  g__twin_re_1 := glob_main S (by kernel_rfl)
  g__twin_re_2 := glob_main S (by kernel_rfl)
  g_quotedata := glob_main S (by kernel_rfl)
  g_EXACT_TOKEN_TYPES := glob_main S (by kernel_rfl)
  g_ISTERMINAL := glob_main S (by kernel_rfl)
  g_ISNONTERMINAL := glob_main S (by kernel_rfl)
  g_ISEOF := glob_main S (by kernel_rfl)
  g__law_lexer := glob_main S (by kernel_rfl)
  g__law_written := glob_main S (by kernel_rfl)
  g__law_cut := glob_main S (by kernel_rfl)
  g__law_run := glob_main S (by kernel_rfl)
  g__law_due := glob_main S (by kernel_rfl)
  g_law := glob_main S (by kernel_rfl)
  f_quotedata := fnAt_of S (by kernel_rfl)
  f_ISTERMINAL := fnAt_of S (by kernel_rfl)
  f_ISNONTERMINAL := fnAt_of S (by kernel_rfl)
  f_ISEOF := fnAt_of S (by kernel_rfl)
  f__law_lexer := fnAt_of S (by kernel_rfl)
  f__law_written := fnAt_of S (by kernel_rfl)
  f__law_cut := fnAt_of S (by kernel_rfl)
  f__law_run := fnAt_of S (by kernel_rfl)
  f__law_due := fnAt_of S (by kernel_rfl)
  c_CRLF := ⟨_, _, tCRLFl, glob_main S (tCRLF w.params)⟩
  c_NT_OFFSET := ⟨_, glob_main S (tNT_OFFSET w.params)⟩
  c_ENDMARKER := ⟨_, glob_main S (tENDMARKER w.params)⟩
  m__read_char := methAt_of S (by kernel_rfl) (by kernel_rfl) ⟨none, by rw [typeLookup_type, builtinLookup_eq_fast]; kernel_rfl⟩ (show _ ∉ lexFields by decide +kernel)
  m_get_token := methAt_of S (by kernel_rfl) (by kernel_rfl) ⟨none, by rw [typeLookup_type, builtinLookup_eq_fast]; kernel_rfl⟩ (show _ ∉ lexFields by decide +kernel)
  m_push_token := methAt_of S (by kernel_rfl) (by kernel_rfl) ⟨none, by rw [typeLookup_type, builtinLookup_eq_fast]; kernel_rfl⟩ (show _ ∉ lexFields by decide +kernel)
  m_rc := methAt_of (name := "_read_char") (a := 52) S (by kernel_rfl) (by kernel_rfl) ⟨none, by rw [typeLookup_type, builtinLookup_eq_fast]; kernel_rfl⟩ (show _ ∉ lexFields by decide +kernel)
  dict := l1dict S call
  re := l1reok S call
  cls := l1cls S
  fields := rfl
  rc := rfl
  rcfn := by
    obtain ⟨a, o, fd, h1, h2, h3⟩ := fnAt_of (a := 52) S (by kernel_rfl)
    cases h1
    exact ⟨o, fd, h2, h3⟩
  xrc := rfl
  stm := fun _ _ _ h => h
theorem l1fns (S : Src (l1X prog w s) (h1K w.params) mg mb) (T : Top p loose mean mg mb s.heap) : l1Fns (l1X prog w s) (h1K w.params) (nsFind (dictEs (h1K w.params) 68)) where
  k__read_char := l1k__read_char S
  k_get_token := l1k_get_token S
  k_push_token := l1k_push_token S
  k_quotedata := l1k_quotedata S
  k_ISTERMINAL := l1k_ISTERMINAL S
  k_ISNONTERMINAL := l1k_ISNONTERMINAL S
  k_ISEOF := l1k_ISEOF S
  k__law_written := l1k__law_written S
  k__law_cut := l1k__law_cut S
  k__law_run := l1k__law_run S
  k__law_due := l1k__law_due S
  k_law := l1k_law S
  k_lex := l1k_lex S
  k_init := l1k_init S
  ck := l1ck S
  c := rfl
  gC := glob_main S (by kernel_rfl)
  init := l1init
  mko := l1mko S T
  lex := l1lex
  st := fun _ _ _ h => h
  env := l1env S
end
end Mine
end
section
set_option maxHeartbeats 8000000
namespace Mine
open PySem PyProof.Rows PySem.W
theorem well_ints {P : Params} {h : Heap} {X : Wd} {α : List Addr} {φ : Part} : ∀ {zs : List Int} {vs : List Value}, WellAll P h vs ((zs.map PyData.int).map ofPy) → RepAll X α φ vs (zs.map AV.int)
  | [], vs, w => by
    cases w; exact .nil
  | i :: r, vs, w => by
    cases w with
    | cons a b =>
      cases a
      exact .cons (.int _ _) (well_ints b)
theorem hok_start (X : Wd) (s : Shared) (h1 : s.gens = X.gens) (h2 : s.drawn = X.drawn) (h3 : s.os = X.os) (h4 : ∀ a o, X.base a = some o → s.heap.get? a = some o) (h5 : ∃ o, s.heap.get? X.P = some o ∧ X.TabP X.base o) (h6 : X.base X.P = none) : HOk X [] (fun _ => none) X.base [] [] s where
  gens := h1
  drawn := h2
  os := h3
  base := Part.le_refl _
  kept := fun _ _ e => nomatch e
  froz := h4
  tab := h5
  ownIn := fun _ h => nomatch h
  len := rfl
  obj := fun t x e => by simp at e
  nodup := by simp
  apart := fun a ha => by
    have : a = X.P := by simpa using ha
    subst this
    exact ⟨rfl, h6⟩
  disj := fun _ _ e => nomatch e
theorem wd_base_froz {prog : Program} {w : World} {s : Shared} {P C rc : Addr} {fields : List Str} {rb : List Stmt} {p1 : Pos} {q1 : Str} {a : Addr} {o : Obj} (e : (mkWd prog w s P C rc fields rb p1 q1).base a = some o) : s.heap.get? a = some o := by
  have e' : (if a = P then none else s.heap.get? a) = some o := e
  split at e'
  · cases e'
  · exact e'
theorem wd_base_P {prog : Program} {w : World} {s : Shared} {P C rc : Addr} {fields : List Str} {rb : List Stmt} {p1 : Pos} {q1 : Str} : (mkWd prog w s P C rc fields rb p1 q1).base P = none := if_pos rfl
theorem wd_base_ne {prog : Program} {w : World} {s : Shared} {P C rc : Addr} {fields : List Str} {rb : List Stmt} {p1 : Pos} {q1 : Str} {a : Addr} (h : a ≠ P) : (mkWd prog w s P C rc fields rb p1 q1).base a = s.heap.get? a := if_neg h
theorem tabInv_nil (p1 : Pos) (q1 : Str) (φ : Part) : TabInv p1 q1 φ (tabObj #[]) := ⟨#[], rfl, trivial, fun cv h => nomatch h⟩
theorem l1_close {prog : Program} {w : World} {s : Shared} {mg mb : Str → Option Value} {p : Program} {loose : List Str} {mean : ExcName → Option Value} {cw : ClaimW} {cl : Str → Option Addr} {mn : ExcName → Option Value} {args : List WData} {a : Addr} {zs : List Int} {tabs : List (Addr × Addr)}
    (KX : (h1K w.params).In s.heap) (T : Top p loose mean mg mb s.heap) (ht : tabs = [(120, 116)]) (hT : TabsAt tabs s.heap) (hw : Well w.params s.heap (.ref a) (ofPy (.list (zs.map PyData.int)))) (hg : s.gens = #[])
    (hr : ∀ a x, cw.raises a x = false) (hpost : cw.post args (.bool true) args = true) (law : ∃ k hp', k ≤ 20 ∧ l1call k (.ref 152) [.lst (zs.map .int)] [] = some (.bool true, hp')) :
    codeAny (model prog w) callerA (.call (.ref 152) ⟨[.ref a], []⟩) (GoodWG cw cl mn args s) s := by
  subst ht
  obtain ⟨k, hp', hk, law⟩ := law
  refine kn_post hT hr ?_
  have S := l1src (prog := prog) KX T
  have Fs := l1fns S T
  have hP := (hT _ (.head _)).2
  obtain ⟨vs, ho, wa⟩ : ∃ vs, s.heap.get? a = some { cls := .type "list", data := .seq vs.toArray } ∧ WellAll w.params s.heap vs ((zs.map PyData.int).map ofPy) := by
    have hw' : Well w.params s.heap (.ref a) (.list (ofPys (zs.map PyData.int))) := hw
    cases hw' with
    | list h1 h2 => exact ⟨_, h1, by rw [← ofPys_eq]; exact h2⟩
  have na : a ≠ 116 := by
    rintro rfl
    rw [hP] at ho
    cases ho
  have H : HOk (l1X prog w s) [] (fun _ => none) (l1X prog w s).base [] [] s := hok_start _ _ rfl rfl rfl (fun b o e => wd_base_froz e) ⟨_, hP, tabInv_nil _ _ _⟩ wd_base_P
  have ho' : (l1X prog w s).base a = some { cls := .type "list", data := .seq vs.toArray } := by
    rw [wd_base_ne na]; exact ho
  have R : Room callerA (5 * k + 5) := ⟨rfl, by show 1 + claimMargin + (5 * k + 5) < 900; unfold claimMargin; lia, by show 4 + 20 * (5 * k + 5) < 9000; lia⟩
  refine codeAny_mono (l1cs Fs k _ _ _ _ _ law callerA _ _ _ _ [.ref a] R H (.cons (.lst ho' ⟨_, rfl⟩ (well_ints wa)) .nil)) ?_
  rintro r s' ⟨v, β, ψ, rfl, hβ, hψ, H', rv⟩
  cases rv
  obtain ⟨oP, eP, ps, e1, _, _⟩ := H'.tab
  refine ⟨⟨.inl ⟨_, .bool true, [], rfl, hr args, .bool true, hpost, fun _ => ⟨List.nodup_nil, nofun⟩⟩, fun b o e => ?_, H'.os, H'.gens.trans hg⟩, ⟨ps, by rw [← e1]; exact eP⟩, trivial⟩
  by_cases hb : b = 116
  · subst hb
    have e' : (hideAll s.heap [116]).get? 116 = some o := e
    rw [hideAll_none _ (.head _)] at e'
    cases e'
  · refine H'.froz b o (H'.base b o ?_)
    rw [wd_base_ne hb]; exact of_hideAll [116] e
end Mine
end
section
set_option maxHeartbeats 8000000
namespace Mine
open PySem PyProof.Rows PySem.W
theorem ref_inj {a b : Addr} (h : some (Value.ref a) = some (Value.ref b)) : b = a := by cases h; rfl
theorem l1_holds (law : ∀ zs : List Int, zs.length ≤ 63 → ∃ k hp', k ≤ 20 ∧ l1call k (.ref 152) [.lst (zs.map .int)] [] = some (.bool true, hp')) : PySem.Challenge.rw_rs0106_01.Holds := h1Head (by
  intro w s₀ s₁ mg mb G Y fa o pm cd doc dV kV ho hd hcd hD hmg hg args vals as hpre hlay hrd hwl hlo
  have KX := km_in_of Y
  km_tabs Y
  have X := (Ground.X G).1
  have V := (Ground.X G).2
  refine Ground.open G ?_
  intro T B D TE TW
  try (refine guard_noD D (by decide +kernel) ?_; clear D)
  have hT9 : TabsAt ([(120, 116)] : List (Addr × Addr)) _ := List.forall_mem_cons.mpr ⟨⟨codeHd_of_K (c := 120) (P := 116) KX (by kernel_rfl), hT8 116 (.head _)⟩, fun _ h => nomatch h⟩
  wrow_args hpre hlay hrd hwl hlo
  first | refine callC_kw (enter_call ?_) | refine enter_call ?_
  have S := l1src (prog := PySem.Challenge.rw_rs0106_01.row.prog) KX T
  have hfa : fa = 152 := by
    have e : nsFind (mainDict (h1K w.params)) "law" = some (.ref 152) := by kernel_rfl
    exact ref_inj (e.symm.trans ((S.main "law").trans hmg))
  subst hfa
  refine l1_close KX T rfl hT9 (by assumption) hg (fun _ _ => rfl) (by wrow_post) (law _ ?_)
  rename_i q1 q2
  clear hT9 TW TE B V X T S KX
  lia)
end Mine
end
section
namespace Mine
open PySem
section
variable {G : Gl} {ρ ρ1 : Env'} {hp hp1 hp2 hp3 : Hp} {x y v l h : AV} {a b c e : ME}
theorem onList_s {τ : Type} {f : List AV → Option τ} {z : List AV} : onList (some (.list z)) f = f z := rfl
theorem augSub  : augA .Sub x y = onInt x fun i => onInt y fun j => some (.int (i - j)) := rfl
theorem e_var {i : Nat} (h : ρ[i]? = some (some v)) : evE G (.var i) ρ hp = some (v, hp) := by show onVar _ _ = _; rw [h]; rfl
theorem e_int {i : Int} : evE G (.int i) ρ hp = some (.int i, hp) := rfl
theorem e_str {s : List Nat} : evE G (.str s) ρ hp = some (.str s, hp) := rfl
theorem e_bool {s : Bool} : evE G (.bool s) ρ hp = some (.bool s, hp) := rfl
theorem e_glob {w : Value} : evE G (.glob w) ρ hp = some (.cst w, hp) := rfl
theorem e_bin {op : Operator} (h1 : evE G a ρ hp = some (x, hp1)) (h2 : evE G b ρ hp1 = some (y, hp2)) (h3 : binA op x y = some v) : evE G (.bin op a b) ρ hp = some (v, hp2) := by
  show bnd _ _ = _
  rw [h1, bnd_some, h2, bnd_some, h3]; rfl
theorem e_cmp {op : CmpOp} {r : Bool} (h1 : evE G a ρ hp = some (x, hp1)) (h2 : evE G b ρ hp1 = some (y, hp2)) (h3 : cmpA G hp2 op x y = some r) : evE G (.cmp op a b) ρ hp = some (.bool r, hp2) := by
  show bnd _ _ = _
  rw [h1, bnd_some, h2, bnd_some, h3]; rfl
theorem c_cmp {op : CmpOp} {r : Bool} (h1 : evE G a ρ hp = some (x, hp1)) (h2 : evE G b ρ hp1 = some (y, hp2)) (h3 : cmpA G hp2 op x y = some r) : evC G (.cmp op a b) ρ hp = some (r, hp2) := by
  show bnd _ _ = _
  rw [h1, bnd_some, h2, bnd_some, h3]; rfl
theorem c_var {i : Nat} {r : Bool} (h : ρ[i]? = some (some v)) (ht : truth hp v = some r) : evC G (.var i) ρ hp = some (r, hp) := by show onVar _ _ = _; rw [h]; show (truth hp v).map _ = _; rw [ht]; rfl
theorem c_and {r : Bool} (h1 : evC G a ρ hp = some (true, hp1)) (h2 : evC G b ρ hp1 = some (r, hp2)) : evC G (.and a b) ρ hp = some (r, hp2) := by
  show bnd _ _ = _
  rw [h1, bnd_some]; exact h2
theorem c_and_f (h1 : evC G a ρ hp = some (false, hp1)) : evC G (.and a b) ρ hp = some (false, hp1) := by
  show bnd _ _ = _; rw [h1]; rfl
theorem e_ite_t {r : Option (AV × Hp)} (h1 : evC G c ρ hp = some (true, hp1)) (h2 : evE G a ρ hp1 = r) : evE G (.ite c a b) ρ hp = r := by
  show bnd _ _ = _; rw [h1]; exact h2
theorem e_ite_f {r : Option (AV × Hp)} (h1 : evC G c ρ hp = some (false, hp1)) (h2 : evE G b ρ hp1 = r) : evE G (.ite c a b) ρ hp = r := by
  show bnd _ _ = _; rw [h1]; exact h2
theorem t_ite_t {t e : List MS} {r : Option (Fl × Env' × Hp)} (h1 : evC G c ρ hp = some (true, hp1)) (h2 : evSs G t ρ hp1 = r) : evS G (.ite c t e) ρ hp = r := by
  show bnd _ _ = _; rw [h1]; exact h2
theorem t_ite_f {t e : List MS} {r : Option (Fl × Env' × Hp)} (h1 : evC G c ρ hp = some (false, hp1)) (h2 : evSs G e ρ hp1 = r) : evS G (.ite c t e) ρ hp = r := by
  show bnd _ _ = _; rw [h1]; exact h2
theorem e_idx (h1 : evE G a ρ hp = some (x, hp1)) (h2 : evE G b ρ hp1 = some (y, hp2)) (h3 : idxA hp2 x y = some v) : evE G (.idx a b) ρ hp = some (v, hp2) := by
  show bnd _ _ = _
  rw [h1, bnd_some, h2, bnd_some, h3]; rfl
theorem o_none : evO G none ρ hp = some (none, hp) := rfl
theorem o_some (h : evE G e ρ hp = some (v, hp1)) : evO G (some e) ρ hp = some (some v, hp1) := by show bnd _ _ = _; rw [h]; rfl
theorem e_slice {lo hi : Option ME} {l h : Option AV} (h1 : evE G a ρ hp = some (x, hp1)) (h2 : evO G lo ρ hp1 = some (l, hp2)) (h3 : evO G hi ρ hp2 = some (h, hp3)) (h4 : sliceA hp3 x l h = some v) : evE G (.slice a lo hi) ρ hp = some (v, hp3) := by
  show bnd _ _ = _
  rw [h1, bnd_some, h2, bnd_some, h3, bnd_some, h4]; rfl
theorem es_nil : evEs G [] ρ hp = some ([], hp) := rfl
theorem es_cons {es : List ME} {xs : List AV} (h1 : evE G e ρ hp = some (x, hp1)) (h2 : evEs G es ρ hp1 = some (xs, hp2)) : evEs G (e :: es) ρ hp = some (x :: xs, hp2) := by
  show bnd _ _ = _
  rw [h1, bnd_some, h2]; rfl
theorem e_tuple {es : List ME} {xs : List AV} (h1 : evEs G es ρ hp = some (xs, hp1)) (h2 : xs.length ≤ 1000) : evE G (.tuple es) ρ hp = some (.tup xs, hp1) := by
  show bnd _ _ = _
  rw [h1, bnd_some, if_pos (by unfold szMax; lia)]
theorem e_frz {xs : List AV} (h1 : evL G e ρ hp = some (xs, hp1)) : evE G (.frz e) ρ hp = some (.lst xs, hp1) := by show bnd _ _ = _; rw [h1]; rfl
theorem e_mut {xs : List AV} (h1 : evL G e ρ hp = some (xs, hp1)) : evE G (.mut e) ρ hp = some (.ref hp1.length, hp1 ++ [.list xs]) := by show bnd _ _ = _; rw [h1]; rfl
theorem e_len {n : Nat} (h1 : evE G e ρ hp = some (x, hp1)) (h2 : lenA hp1 x = some n) (h3 : n ≤ 100000) : evE G (.len e) ρ hp = some (.int n, hp1) := by
  show bnd _ _ = _
  rw [h1, bnd_some, h2]; exact if_pos (by unfold szMax; lia)
theorem e_sum {xs : List AV} {is : List Int} (h1 : evE G e ρ hp = some (x, hp1)) (h2 : items hp1 x = some xs) (h3 : intsA xs = some is) : evE G (.sum e) ρ hp = some (.int is.sum, hp1) := by
  show bnd _ _ = _
  rw [h1, bnd_some, h2]; show (intsA xs).map _ = _; rw [h3]; rfl
theorem e_call {f : Value} {es : List ME} {xs : List AV} {r : Option (AV × Hp)} (h1 : evEs G es ρ hp = some (xs, hp1)) (h2 : G.call f xs hp1 = r) : evE G (.call f es) ρ hp = r := by
  show bnd _ _ = _; rw [h1]; exact h2
theorem e_meth {m : MN} {es : List ME} {xs : List AV} {r : Option (AV × Hp)} (h1 : evE G e ρ hp = some (x, hp1)) (h2 : recvOk hp1 m x = true) (h3 : evEs G es ρ hp1 = some (xs, hp2)) (h4 : methA G hp2 m x xs = r) : evE G (.meth m e es) ρ hp = r := by
  show bnd _ _ = _
  rw [h1, bnd_some, if_pos h2, h3]; exact h4
theorem e_attr {f : Nat} (h1 : evE G e ρ hp = some (x, hp1)) (h2 : getField hp1 x f = some v) : evE G (.attr e f) ρ hp = some (v, hp1) := by
  show bnd _ _ = _
  rw [h1, bnd_some, h2]; rfl
theorem chkL_ok {xs : List AV} (h : xs.length ≤ szMax) : chkL xs = some xs := if_pos h
theorem l_disp {es : List ME} {xs : List AV} (h1 : evEs G es ρ hp = some (xs, hp1)) (h2 : xs.length ≤ 1000) : evL G (.lDisp es) ρ hp = some (xs, hp1) := by
  show bnd _ _ = _
  rw [h1, bnd_some, chkL_ok (by unfold szMax; lia)]; rfl
theorem l_add {xs ys : List AV} (h1 : evE G a ρ hp = some (x, hp1)) (h2 : evE G b ρ hp1 = some (y, hp2)) (h3 : items hp2 x = some xs) (h4 : items hp2 y = some ys) (h5 : xs.length + ys.length ≤ 100000) : evL G (.lAdd a b) ρ hp = some (xs ++ ys, hp2) := by
  show bnd _ _ = _
  rw [h1, bnd_some, h2, bnd_some, h3]; show (items hp2 y).bind _ = _; rw [h4]; show (chkL (xs ++ ys)).map _ = _; rw [chkL_ok (by unfold szMax; rw [List.length_append]; lia)]; rfl
theorem l_mul {n : Int} {xs : List AV} (h1 : evE G a ρ hp = some (x, hp1)) (h2 : evE G b ρ hp1 = some (.int n, hp2)) (h3 : items hp2 x = some xs) (h4 : xs.length ≤ 1000) (h5 : -1000 < n ∧ n < 1000) : evL G (.lMul a b) ρ hp = some (rep n.toNat xs, hp2) := by
  show bnd _ _ = _
  rw [h1, bnd_some, h2, bnd_some]; show (items hp2 x).bind _ = _; rw [h3]; exact if_pos ⟨h4, h5⟩
theorem s_range {lo hi : Int} (h1 : evE G a ρ hp = some (.int lo, hp1)) (h2 : evE G b ρ hp1 = some (.int hi, hp2)) (h3 : lo.natAbs ≤ 1000 ∧ hi.natAbs ≤ 1000) : evSrc G (.sRange a b) ρ hp = some (.fix (range lo hi), hp2) := by
  show bnd _ _ = _
  rw [h1, bnd_some]; show bnd _ _ = _; rw [h2, bnd_some]; exact if_pos (by lia)
theorem s_val {r : Sr} (h1 : evE G e ρ hp = some (x, hp1)) (h2 : srcVal x = some r) : evSrc G (.sVal e) ρ hp = some (r, hp1) := by
  show bnd _ _ = _
  rw [h1, bnd_some, h2]; rfl
theorem l_list {xs : List AV} (h1 : evSrc G e ρ hp = some (.fix xs, hp1)) (h2 : xs.length ≤ 100000) : evL G (.lList e) ρ hp = some (xs, hp1) := by
  show bnd _ _ = _
  rw [h1, bnd_some]; show (chkL xs).map _ = _; rw [chkL_ok (by unfold szMax; lia)]; rfl
theorem l_comp {elt src : ME} {cond : Option ME} {unp : Option Nat} {caps : List Nat} {vs : List AV} {r : Option (List AV × Hp)} (h1 : evSrc G src ρ hp = some (.fix vs, hp1)) (h2 : vs.length ≤ 100000) (h3 : compLoop (fun ρ hp => evOC G cond ρ hp) (fun ρ hp => evE G elt ρ hp) unp (caps.map fun i => (ρ[i]?).join) vs hp1 = r) : evL G (.lComp elt cond unp src caps) ρ hp = r := by
  show bnd _ _ = _
  rw [h1, bnd_some]; show (if vs.length < szMax then _ else none) = _; rw [if_pos (by unfold szMax; lia)]; exact h3
theorem comp_flt {c : Env' → Hp → Option (Bool × Hp)} {f : Env' → Hp → Option (AV × Hp)} {caps : Env'} {α : Type} (enc : α → AV) (p : α → Bool) (g : α → AV) (hc : ∀ i, c (some (enc i) :: caps) hp = some (p i, hp)) : ∀ l : List α, (∀ i ∈ l, p i = true → f (some (enc i) :: caps) hp = some (g i, hp)) →
    compLoop c f none caps (l.map enc) hp = some ((l.filter p).map g, hp)
  | [], _ => rfl
  | i :: l, hf => by
    have ih := comp_flt enc p g hc l fun j hj => hf j (.tail _ hj)
    rw [List.map_cons, compLoop]
    show bnd (c (some (enc i) :: caps) hp) _ = _
    rw [hc, bnd_some]
    cases q : p i with
    | true => rw [cond_true, hf i (.head _) q, bnd_some, ih, List.filter_cons_of_pos q]; rfl
    | false => rw [cond_false, ih, List.filter_cons_of_neg (by rw [q]; exact Bool.noConfusion)]
theorem comp_all {f : Env' → Hp → Option (AV × Hp)} {caps : Env'} {α : Type} (enc : α → AV) (g : α → AV) (l : List α) (hf : ∀ i ∈ l, f (some (enc i) :: caps) hp = some (g i, hp)) :
    compLoop (fun ρ hp => evOC G none ρ hp) f none caps (l.map enc) hp = some (l.map g, hp) := by
  have := comp_flt (c := fun ρ hp => evOC G none ρ hp) (f := f) (caps := caps) enc (fun _ => true) g (fun i => rfl) l (fun i hi _ => hf i hi)
  rw [show l.filter (fun _ => true) = l from List.filter_eq_self.mpr fun _ _ => rfl] at this
  exact this
theorem m_append {t : Nat} {xs : List AV} (h : hp[t]? = some (.list xs)) (hl : xs.length ≤ 100000) : methA G hp .append (.ref t) [v] = some (.none, hp.set t (.list (xs ++ [v]))) := by
  show onList hp[t]? _ = _
  rw [h]; exact if_pos (by unfold szMax; lia)
theorem r_append {t : Nat} {xs : List AV} (h : hp[t]? = some (.list xs)) : recvOk hp .append (.ref t) = true := by
  show (onList hp[t]? _).isSome = true
  rw [h]; rfl
theorem t_expr {r : AV} (h1 : evE G e ρ hp = some (r, hp1)) : evS G (.expr e) ρ hp = some (.next, ρ, hp1) := by show bnd _ _ = _; rw [h1]; rfl
theorem t_assign {i : Nat} (h1 : evE G e ρ hp = some (v, hp1)) : evS G (.assign i e) ρ hp = some (.next, setLoc ρ i v, hp1) := by show bnd _ _ = _; rw [h1]; rfl
theorem t_unpack {is : List Nat} {vs : List AV} (h1 : evE G e ρ hp = some (.tup vs, hp1)) (h2 : setLocs ρ is vs = some ρ1) : evS G (.unpack is e) ρ hp = some (.next, ρ1, hp1) := by show bnd _ _ = _; rw [h1, bnd_some]; show (setLocs ρ is vs).map _ = _; rw [h2]; rfl
theorem t_while {b : List MS} {r : Option (Fl × Env' × Hp)} (h1 : whileN (fun ρ hp => evC G c ρ hp) (fun ρ hp => evSs G b ρ hp) G.N ρ hp = r) : evS G (.while c b) ρ hp = r := by exact h1
theorem t_for {unp : Option (List Nat)} {i : Nat} {src : ME} {b : List MS} {vs : List AV} {r : Option (Fl × Env' × Hp)} (h1 : evSrc G src ρ hp = some (.fix vs, hp1)) (h2 : forL (fun ρ hp => evSs G b ρ hp) unp i vs ρ hp1 = r) : evS G (.for unp i src b) ρ hp = r := by show bnd _ _ = _; rw [h1]; exact h2
theorem t_ret (h1 : evE G e ρ hp = some (v, hp1)) : evS G (.ret e) ρ hp = some (.ret v, ρ, hp1) := by show bnd _ _ = _; rw [h1]; rfl
theorem ss_next {s : MS} {ss : List MS} {r : Option (Fl × Env' × Hp)} (h1 : evS G s ρ hp = some (.next, ρ1, hp1)) (h2 : evSs G ss ρ1 hp1 = r) : evSs G (s :: ss) ρ hp = r := by show seqF _ _ = _; rw [h1]; exact h2
theorem ss_stop {s : MS} {ss : List MS} {v : AV} (h1 : evS G s ρ hp = some (.ret v, ρ1, hp1)) : evSs G (s :: ss) ρ hp = some (.ret v, ρ1, hp1) := by show seqF _ _ = _; rw [h1]; rfl
theorem q_cont {ss : List MS} : evSs G (.cont :: ss) ρ hp = some (.cont, ρ, hp) := rfl
theorem ss_stop' {s : MS} {ss : List MS} {f : Fl} (h1 : evS G s ρ hp = some (f, ρ1, hp1)) (hf : f ≠ .next) : evSs G (s :: ss) ρ hp = some (f, ρ1, hp1) := by
  show seqF _ _ = _; rw [h1]
  cases f with
  | next => exact absurd rfl hf
  | _ => rfl
theorem t_augVar {i : Nat} {op : Operator} (h0 : ρ[i]? = some (some x)) (h1 : evE G e ρ hp = some (y, hp1)) (h2 : augA op x y = some v) : evS G (.augVar i op e) ρ hp = some (.next, setLoc ρ i v, hp1) := by
  show onVar _ _ = _; rw [h0]; show bnd _ _ = _; rw [h1]; show (augA op x y).map _ = _; rw [h2]; rfl
theorem t_augAttr {f : Nat} {op : Operator} {w : AV} (h1 : evE G a ρ hp = some (x, hp1)) (h2 : getField hp1 x f = some w) (h3 : evE G b ρ hp1 = some (y, hp2)) (h4 : augA op w y = some v) (h5 : putField hp2 x f v = some hp3) : evS G (.augAttr a f op b) ρ hp = some (.next, ρ, hp3) := by
  show bnd _ _ = _; rw [h1]; show (getField hp1 x f).bind _ = _; rw [h2]; show bnd _ _ = _; rw [h3]; show (augA op w y).bind _ = _; rw [h4]; show (putField hp2 x f v).map _ = _; rw [h5]; rfl
theorem t_forC {i j u : Nat} {b : List MS} {r : Option (Fl × Env' × Hp)} (h : ρ[j]? = some (some (.ref u))) (h1 : forC G (fun ρ hp => evSs G b ρ hp) i u G.N ρ hp = r) : evS G (.forC i j b) ρ hp = r := by
  show onVar _ _ = _; rw [h]; exact h1
theorem e_citer {t : Nat} {fs : List AV} (h1 : evE G a ρ hp = some (.inst t, hp1)) (h2 : hp1[t]? = some (.dict fs)) : evE G (.citer a) ρ hp = some (.ref hp1.length, hp1 ++ [.citer t false]) := by
  show bnd _ _ = _; rw [h1]; show onDict hp1[t]? _ = _; rw [h2]; rfl
theorem c_attr {f : Nat} {r : Bool} (h1 : evE G a ρ hp = some (x, hp1)) (h2 : getField hp1 x f = some v) (h3 : truth hp1 v = some r) : evC G (.attr a f) ρ hp = some (r, hp1) := by
  show bnd _ _ = _; rw [h1]; show ((getField hp1 x f).bind (truth hp1)).map _ = _; rw [h2]; show (truth hp1 v).map _ = _; rw [h3]; rfl
theorem gf_of {t f : Nat} {fs : List AV} (h : hp[t]? = some (.dict fs)) (hf : (fs[f]?).bind noCst = some v) : getField hp (.inst t) f = some v := by show onDict _ _ = _; rw [h]; exact hf
theorem pf_of {t f : Nat} {fs : List AV} (h : hp[t]? = some (.dict fs)) (hf : f < fs.length) : putField hp (.inst t) f v = some (hp.set t (.dict (fs.set f v))) := by show onDict _ _ = _; rw [h]; exact if_pos hf
theorem r_list {t : Nat} {xs : List AV} (h : hp[t]? = some (.list xs)) : isListAt hp (.ref t) = true := by show (onList hp[t]? _).isSome = true; rw [h]; rfl
theorem r_user {t : Nat} {f : Value} {fs : List AV} (h : hp[t]? = some (.dict fs)) : recvOk hp (.user f) (.inst t) = true := by show (onDict hp[t]? _).isSome = true; rw [h]; rfl
theorem run_ret {d : FnDef} {args : List AV} {r : Option (AV × Hp)} (hn : args.length = d.np) (h : evSs G d.body (args.map some ++ List.replicate (d.names.length - d.np) none) hp = some (.ret v, ρ1, hp1)) (hc : close d.trunc hp.length v hp1 = r) : runFn G d args hp = r := by
  show (if _ then endB _ _ else none) = _; rw [if_pos hn, h]; exact hc
theorem run_next {d : FnDef} {args : List AV} {r : Option (AV × Hp)} (hn : args.length = d.np) (h : evSs G d.body (args.map some ++ List.replicate (d.names.length - d.np) none) hp = some (.next, ρ1, hp1)) (hc : close d.trunc hp.length .none hp1 = r) : runFn G d args hp = r := by
  show (if _ then endB _ _ else none) = _; rw [if_pos hn, h]; exact hc
theorem close_keep {r : List AO} (h : hp1.take hp.length = r) (hb : r.all (belowO hp.length) = true) (hv : fz hp1 hp.length 6 x = some v) : close true hp.length x hp1 = some (v, r) := by
  show (if _ then _ else none) = _; rw [h, if_pos hb, hv]; rfl
theorem w_stop {cd : Env' → Hp → Option (Bool × Hp)} {b : Env' → Hp → Option (Fl × Env' × Hp)} {n : Nat} (h : cd ρ hp = some (false, hp1)) : whileN cd b (n + 1) ρ hp = some (.next, ρ, hp1) := by
  show bnd _ _ = _; rw [h]; rfl
theorem w_go {cd : Env' → Hp → Option (Bool × Hp)} {b : Env' → Hp → Option (Fl × Env' × Hp)} {n : Nat} {r : Option (Fl × Env' × Hp)} (h : cd ρ hp = some (true, hp1)) (h2 : b ρ hp1 = some (.next, ρ1, hp2)) (h3 : whileN cd b n ρ1 hp2 = r) : whileN cd b (n + 1) ρ hp = r := by
  show bnd _ _ = _; rw [h]; show turnF (b ρ hp1) _ = _; rw [h2]; exact h3
theorem slice_s {s : List Nat} {lo hi : Option AV} {m n : Nat} (hl : bound s.length 0 lo = some m) (hh : bound s.length s.length hi = some n) (hs : s.length ≤ 100000) : sliceA hp (.str s) lo hi = some (.str (cut s m n)) := by
  show (bound _ _ _).bind _ = _; rw [hl]; show (bound _ _ _).bind _ = _; rw [hh]; exact if_pos (by unfold szMax; lia)
theorem slice_l {s : List AV} {lo hi : Option AV} {m n : Nat} (hl : bound s.length 0 lo = some m) (hh : bound s.length s.length hi = some n) (hs : s.length ≤ 100000) : sliceA hp (.lst s) lo hi = some (.lst (cut s m n)) := by
  show (bound _ _ _).bind _ = _; rw [hl]; show (bound _ _ _).bind _ = _; rw [hh]; exact if_pos (by unfold szMax; lia)
theorem it_ref {t : Nat} {xs : List AV} (h : hp[t]? = some (.list xs)) : items hp (.ref t) = some xs := by show onList _ _ = _; rw [h]; rfl
theorem slice_r {t : Nat} {s : List AV} {lo hi : Option AV} {m n : Nat} (h : hp[t]? = some (.list s)) (hl : bound s.length 0 lo = some m) (hh : bound s.length s.length hi = some n) (hs : s.length ≤ 100000) : sliceA hp (.ref t) lo hi = some (.lst (cut s m n)) := by
  show (items hp (.ref t)).bind _ = _; rw [it_ref h]; show (bound _ _ _).bind _ = _; rw [hl]; show (bound _ _ _).bind _ = _; rw [hh]; exact if_pos (by unfold szMax; lia)
theorem f_go {b : Env' → Hp → Option (Fl × Env' × Hp)} {u : Option (List Nat)} {i : Nat} {vs : List AV} {ρ2 : Env'} {r : Option (Fl × Env' × Hp)} (h1 : bindF u i x ρ = some ρ1) (h2 : b ρ1 hp = some (.next, ρ2, hp1)) (h3 : forL b u i vs ρ2 hp1 = r) : forL b u i (x :: vs) ρ hp = r := by
  show (bindF u i x ρ).bind _ = _; rw [h1]; show turnF (b ρ1 hp) _ = _; rw [h2]; exact h3
theorem ss_append {r : Option (Fl × Env' × Hp)} : ∀ {a b : List MS} {ρ : Env'} {hp : Hp}, evSs G a ρ hp = some (.next, ρ1, hp1) → evSs G b ρ1 hp1 = r → evSs G (a ++ b) ρ hp = r
  | [], b, _, _, h1, h2 => by cases h1; exact h2
  | s :: a, b, _, _, h1, h2 => by
    cases seqF_inv h1 with
    | next ρ2 hp2 e h => exact ss_next e (ss_append h h2)
    | stop e h => exact absurd rfl h
theorem ss_one {s : MS} {r : Option (Fl × Env' × Hp)} (h1 : evS G s ρ hp = r) : evSs G [s] ρ hp = r := by
  subst h1
  show seqF (evS G s ρ hp) (fun ρ hp => some (.next, ρ, hp)) = _
  match evS G s ρ hp with
  | none => rfl
  | some (.next, _, _) => rfl
  | some (.cont, _, _) => rfl
  | some (.ret _, _, _) => rfl
theorem ss_nil : evSs G [] ρ hp = some (.next, ρ, hp) := rfl
end
theorem clip_min (k n : Nat) : (max 0 (min (k : Int) (n : Int))).toNat = min k n := by
  rcases Nat.le_total k n with h | h
  · rw [Nat.min_eq_left h, Int.min_eq_left (Int.ofNat_le.mpr h), Int.max_eq_right (Int.natCast_nonneg k)]; rfl
  · rw [Nat.min_eq_right h, Int.min_eq_right (Int.ofNat_le.mpr h), Int.max_eq_right (Int.natCast_nonneg n)]; rfl
theorem clip_nat (n k : Nat) : clipAt n (k : Int) = min k n := by
  unfold clipAt
  rw [if_neg (Int.not_lt.mpr (Int.natCast_nonneg k)), clip_min]
theorem take_clip {α : Type} (s : List α) (k : Nat) : cut s 0 (clipAt s.length (k : Int)) = s.take k := by
  rw [clip_nat]
  unfold cut
  rw [List.drop_zero, Nat.sub_zero]
  exact List.take_eq_take_min.symm
theorem drop_clip {α : Type} (s : List α) (k : Nat) (h : k ≤ s.length) : cut s (clipAt s.length (k : Int)) s.length = s.drop k := by
  rw [clip_nat, Nat.min_eq_left h]
  unfold cut
  rw [← List.length_drop, List.take_length]
theorem dropLast_clip {α : Type} (s : List α) (h : 1 < s.length) : cut s 0 (clipAt s.length (-1)) = s.dropLast := by
  have : clipAt s.length (-1) = s.length - 1 := by
    unfold clipAt
    rw [if_pos (by decide), show (-1 + (s.length : Int)) = ((s.length - 1 : Nat) : Int) by lia, clip_min, Nat.min_eq_left (Nat.sub_le _ _)]
  rw [this, List.dropLast_eq_take]
  unfold cut
  rw [List.drop_zero, Nat.sub_zero]
end Mine
end
section
namespace Mine
open PySem
noncomputable def chs (L : List Nat) : List AV := L.map fun c => .str [c]
@[simp] theorem chs_nil : chs [] = [] := rfl
@[simp] theorem chs_cons (c : Nat) (L : List Nat) : chs (c :: L) = .str [c] :: chs L := rfl
@[simp] theorem chs_append (a b : List Nat) : chs (a ++ b) = chs a ++ chs b := by simp [chs]
@[simp] theorem chs_length (a : List Nat) : (chs a).length = a.length := by simp [chs]
noncomputable def dct (ls pb : Nat) (ln : Int) : AO := .dict [.int ln, .stm ls, .str wsL, .ref pb]
noncomputable def st (hp : Hp) (t ls pb : Nat) (ln : Int) (L : List Nat) : Hp := (hp.set ls (.list (chs L))).set t (dct ls pb ln)
structure Lx (hp : Hp) (t ls pb : Nat) (ln : Int) (L : List Nat) (Q : List AV) : Prop where
  d : hp[t]? = some (dct ls pb ln)
  l : hp[ls]? = some (.list (chs L))
  q : hp[pb]? = some (.list Q)
  n1 : t ≠ ls
  n2 : t ≠ pb
  n3 : ls ≠ pb
  len : L.length ≤ 100000
  ch : ∀ c ∈ L, c < 128
  bl : hp.all (belowO hp.length) = true
theorem belows_all (n : Nat) : ∀ l : List AV, belows n l = l.all (below n)
  | [] => rfl
  | x :: r => by simp [belows, belows_all n r]
theorem below_chs (n : Nat) (L : List Nat) : belows n (chs L) = true := by
  rw [belows_all]; simp [chs, below]
section
variable {hp : Hp} {t ls pb : Nat} {ln ln' : Int} {L L' : List Nat} {Q : List AV}
theorem st_length : (st hp t ls pb ln L).length = hp.length := by simp [st]
theorem Lx.lt1 (h : Lx hp t ls pb ln L Q) : t < hp.length := (List.getElem?_eq_some_iff.mp h.d).1
theorem Lx.lt2 (h : Lx hp t ls pb ln L Q) : ls < hp.length := (List.getElem?_eq_some_iff.mp h.l).1
theorem Lx.lt3 (h : Lx hp t ls pb ln L Q) : pb < hp.length := (List.getElem?_eq_some_iff.mp h.q).1
theorem all_set {p : AO → Bool} {x : AO} : ∀ {l : List AO} {i : Nat}, l.all p = true → p x = true → (l.set i x).all p = true
  | [], i, _, _ => by simp
  | a :: l, 0, h, k => by simp at h ⊢; exact ⟨k, h.2⟩
  | a :: l, i + 1, h, k => by
    simp only [List.all_cons, Bool.and_eq_true, List.set_cons_succ] at h ⊢
    exact ⟨h.1, all_set h.2 k⟩
theorem Lx.st (h : Lx hp t ls pb ln L Q) (h1 : L'.length ≤ 100000) (h2 : ∀ c ∈ L', c < 128) : Lx (st hp t ls pb ln' L') t ls pb ln' L' Q where
  d := by unfold Mine.st; rw [List.getElem?_set_self (by simpa using h.lt1)]
  l := by unfold Mine.st; rw [List.getElem?_set_ne h.n1, List.getElem?_set_self h.lt2]
  q := by unfold Mine.st; rw [List.getElem?_set_ne h.n2, List.getElem?_set_ne h.n3, h.q]
  n1 := h.n1
  n2 := h.n2
  n3 := h.n3
  len := h1
  ch := h2
  bl := by
    rw [st_length]
    unfold Mine.st
    refine all_set (all_set h.bl (below_chs _ _)) ?_
    have := h.lt2; have := h.lt3
    simp [dct, belowO, belows, below]; lia
theorem st_st (h : t ≠ ls) {ln2 : Int} {L2 : List Nat} : st (st hp t ls pb ln L) t ls pb ln2 L2 = st hp t ls pb ln2 L2 := by
  unfold Mine.st
  rw [List.set_comm _ _ (Ne.symm h.symm), List.set_set, List.set_set]
theorem st_self (h : Lx hp t ls pb ln L Q) : st hp t ls pb ln L = hp := by
  unfold Mine.st
  have e1 : hp.set ls (.list (chs L)) = hp := by
    apply List.ext_getElem? ; intro i
    by_cases q : i = ls
    · subst q; rw [List.getElem?_set_self h.lt2, h.l]
    · rw [List.getElem?_set_ne (Ne.symm q)]
  rw [e1]
  apply List.ext_getElem? ; intro i
  by_cases q : i = t
  · subst q; rw [List.getElem?_set_self h.lt1, h.d]
  · rw [List.getElem?_set_ne (Ne.symm q)]
theorem toPys_chs (hp : Hp) (n : Nat) : ∀ {L : List Nat}, (∀ c ∈ L, c < 1114112) → ∃ r, toPys (toPy hp n) (chs L) = some r
  | [], _ => ⟨_, rfl⟩
  | c :: L, h => by
    obtain ⟨r, e⟩ := toPys_chs hp n (L := L) fun c hc => h c (.tail _ hc)
    have hc := h c (.head _)
    refine ⟨.str ⟨#[c]⟩ :: r, ?_⟩
    rw [chs_cons]
    show (toPy hp n (.str [c])).bind _ = _
    have : toPy hp n (.str [c]) = some (.str ⟨#[c]⟩) := by
      have q : ([c].all (· < 1114112)) = true := by rw [List.all_cons, decide_eq_true hc]; rfl
      cases n <;> exact if_pos q
    rw [this]
    show (toPys (toPy hp n) (chs L)).map _ = _
    rw [e]; rfl
noncomputable def nl (c : List Nat) : Int := if c = [10] then 1 else 0
theorem readA_lx (h : Lx hp t ls pb ln L Q) : readA hp (.stm ls) (.int 1) = some (.str (L.take 1), hp.set ls (.list (chs (L.drop 1)))) := by
  obtain ⟨r, e⟩ := toPys_chs hp 7 (fun c hc => Nat.lt_trans (h.ch c hc) (by decide))
  have e8 : toPy hp 8 (.ref ls) = some (.list r) := by
    show onList hp[ls]? _ = _
    rw [h.l]
    show (toPys (toPy hp 7) (chs L)).map _ = _
    rw [e]; rfl
  show (if (1 : Int) = 1 then onList hp[ls]? _ else none) = _
  rw [if_pos rfl, h.l, onList_s, e8]
  show readT hp ls (chs L) = _
  cases L with
  | nil =>
    have : hp.set ls (.list (chs [])) = hp := by
      apply List.ext_getElem? ; intro i
      by_cases q : i = ls
      · subst q; rw [List.getElem?_set_self h.lt2, h.l]
      · rw [List.getElem?_set_ne (Ne.symm q)]
    show some (AV.str [], hp) = some (AV.str [], hp.set ls (.list (chs [])))
    rw [this]
  | cons c L =>
    have := h.len
    rw [List.length_cons] at this
    show (if (chs L).length < szMax then some (AV.str [c], hp.set ls (.list (chs L))) else none) = _
    rw [if_pos (by unfold szMax; rw [chs_length]; lia)]
    rfl
theorem rc_spec (G : Gl) (h : Lx hp t ls pb ln L Q) : runFn G l1d__read_char [.inst t] hp = some (.str (L.take 1), st hp t ls pb (ln + nl (L.take 1)) (L.drop 1)) := by
  have hb := (h.st (ln' := ln + nl (L.take 1)) (L' := L.drop 1) (by have := h.len; simp; lia) (fun c hc => h.ch c (List.mem_of_mem_drop hc))).bl
  rw [st_length] at hb
  have cl : close true hp.length (.str (L.take 1)) (st hp t ls pb (ln + nl (L.take 1)) (L.drop 1)) = some (.str (L.take 1), st hp t ls pb (ln + nl (L.take 1)) (L.drop 1)) :=
    close_keep (List.take_of_length_le (by rw [st_length]; exact Nat.le_refl _)) hb rfl
  have gd : (hp.set ls (.list (chs (L.drop 1))))[t]? = some (dct ls pb ln) := by rw [List.getElem?_set_ne (Ne.symm h.n1), h.d]
  refine run_ret rfl (ρ1 := [some (.inst t), some (.str (L.take 1))]) ?_ cl
  refine ss_next (t_assign (e_meth (e_attr (e_var rfl) (gf_of h.d rfl)) rfl (es_cons e_int es_nil) (readA_lx h))) ?_
  have c : ∀ hp' : Hp, evC G (.cmp .Eq (.var 1) (.str [10])) [some (.inst t), some (.str (L.take 1))] hp' = some (decide (L.take 1 = [10]), hp') := fun hp' => c_cmp (e_var rfl) e_str rfl
  by_cases q : L.take 1 = [10]
  · refine ss_next (t_ite_t ((c _).trans (by rw [decide_eq_true q])) (ss_next (t_augAttr (e_var rfl) (gf_of gd rfl) e_int rfl (pf_of gd (Nat.zero_lt_succ 3))) ss_nil)) ?_
    have e : nl (L.take 1) = 1 := if_pos q
    rw [e]
    exact ss_stop (t_ret (e_var rfl))
  · refine ss_next (t_ite_f ((c _).trans (by rw [decide_eq_false q])) ss_nil) ?_
    have e : st hp t ls pb (ln + nl (L.take 1)) (L.drop 1) = hp.set ls (.list (chs (L.drop 1))) := by
      unfold nl st
      rw [if_neg q, Int.add_zero]
      apply List.ext_getElem? ; intro i
      by_cases q : i = t
      · subst q; rw [List.getElem?_set_self (by simpa using h.lt1), gd]
      · rw [List.getElem?_set_ne (Ne.symm q)]
    rw [e]
    exact ss_stop (t_ret (e_var rfl))
end
end Mine
end
section
namespace Mine
open PySem
noncomputable def wsB (c : Nat) : Bool := c == 10 || c == 9 || c == 13 || c == 32
theorem ws_in : ∀ c : Nat, c < 128 → Txt.contains ⟨wsL.toArray⟩ ⟨[c].toArray⟩ = wsB c := by decide +kernel
noncomputable def lx3 : List Nat → List Nat → Int → Bool × List Nat × Int × List Nat
  | [], tok, ln => (false, tok, ln, [])
  | c :: r, tok, ln => if wsB c then (true, tok, ln + nl [c], r) else if c = 92 then match r with
      | [] => (false, tok, ln + nl [c], [])
      | d :: r' => lx3 r' (tok ++ [d]) (ln + nl [c] + nl [d])
    else lx3 r (tok ++ [c]) (ln + nl [c])
noncomputable def lx2 : List Nat → List Nat → Int → Bool × List Nat × Int × List Nat
  | [], tok, ln => (false, tok, ln, [])
  | c :: r, tok, ln => if c = 34 then (true, tok, ln + nl [c], r) else if c = 92 then match r with
      | [] => (false, tok, ln + nl [c], [])
      | d :: r' => lx2 r' (tok ++ [d]) (ln + nl [c] + nl [d])
    else lx2 r (tok ++ [c]) (ln + nl [c])
noncomputable def lx1 : List Nat → Int → List Nat × Int × List Nat
  | [], ln => ([], ln, [])
  | c :: r, ln => if wsB c then lx1 r (ln + nl [c]) else if c = 34 then (lx2 r [] (ln + nl [c])).2 else if c = 92 then match r with
      | [] => ([], ln + nl [c], [])
      | d :: r' => (lx3 r' [d] (ln + nl [c] + nl [d])).2
    else (lx3 r [c] (ln + nl [c])).2
noncomputable def esc3 : MS := .ite (.cmp .Eq (.var 3) (.str [92])) [.assign 3 (.meth (.user (.ref 52)) (.var 0) [])] []
noncomputable def bd3 : List MS := [.ite (.cmp .In (.var 3) (.attr (.var 0) 2)) [.ret (.var 1)] [esc3], .augVar 1 .Add (.var 3)]
noncomputable def bd2 : List MS := [.ite (.cmp .Eq (.var 3) (.str [34])) [.ret (.var 1)] [esc3], .augVar 1 .Add (.var 3)]
noncomputable def bd1 : List MS := [.ite (.cmp .In (.var 3) (.attr (.var 0) 2)) [.cont] [], .ite (.cmp .Eq (.var 3) (.str [34])) [.forC 3 2 bd2] [esc3, .augVar 1 .Add (.var 3), .forC 3 2 bd3]]
structure GRc (G : Gl) : Prop where
  rc : G.rc = .ref 52
  call : ∀ args hp, ∃ G', G.call (.ref 52) args hp = runFn G' l1d__read_char args hp
  n : G.N = 1000000
section
variable {G : Gl} {B : Hp} {t ls pb u : Nat} {ln ln0 : Int} {L L0 tok : List Nat} {Q : List AV} {y : Option AV}
noncomputable abbrev okL (L : List Nat) : Prop := L.length ≤ 100000 ∧ ∀ c ∈ L, c < 128
theorem okL.tail {c : Nat} {L : List Nat} (h : okL (c :: L)) : okL L := ⟨by have := h.1; simp at this; lia, fun d hd => h.2 d (.tail _ hd)⟩
theorem okL.head {c : Nat} {L : List Nat} (h : okL (c :: L)) : c < 128 := h.2 c (.head _)
noncomputable abbrev ev (t u : Nat) (tok : List Nat) (y : Option AV) : Env' := [some (.inst t), some (.str tok), some (.ref u), y]
theorem call_rc (g : GRc G) (h : Lx B t ls pb ln0 L0 Q) (hL : okL L) : G.call (.ref 52) [.inst t] (st B t ls pb ln L) = some (.str (L.take 1), st B t ls pb (ln + nl (L.take 1)) (L.drop 1)) := by
  obtain ⟨G', e⟩ := g.call [.inst t] (st B t ls pb ln L)
  rw [e, rc_spec G' (h.st hL.1 hL.2), st_st h.n1]
theorem st_u (h : Lx B t ls pb ln0 L0 Q) (hu : B[u]? = some (.citer t false)) : (st B t ls pb ln L)[u]? = some (.citer t false) := by
  have u1 : u ≠ t := by rintro rfl; rw [h.d] at hu; cases hu
  have u2 : u ≠ ls := by rintro rfl; rw [h.l] at hu; cases hu
  unfold Mine.st
  rw [List.getElem?_set_ne (Ne.symm u1), List.getElem?_set_ne (Ne.symm u2), hu]
theorem forC_cons (g : GRc G) (h : Lx B t ls pb ln0 L0 Q) (hu : B[u]? = some (.citer t false)) {c : Nat} (hL : okL (c :: L)) (b : Env' → Hp → Option (Fl × Env' × Hp)) (x n : Nat) (ρ : Env') :
    forC G b x u (n + 1) ρ (st B t ls pb ln (c :: L)) = turnF (b (setLoc ρ x (.str [c])) (st B t ls pb (ln + nl [c]) L)) fun ρ hp => forC G b x u n ρ hp := by
  show onCiter _ _ = _
  rw [st_u h hu]
  show bnd (G.call G.rc _ _) _ = _
  rw [g.rc, call_rc g h hL]
  show onCiter (st B t ls pb (ln + nl [c]) L)[u]? _ = _
  rw [st_u h hu]
  show (if [c] = [] then some (Fl.next, ρ, (st B t ls pb (ln + nl [c]) L).set u (.citer t true)) else turnF (b (setLoc ρ x (.str [c])) (st B t ls pb (ln + nl [c]) L)) fun ρ hp => forC G b x u n ρ hp) = _
  rw [if_neg (List.cons_ne_nil _ _)]
theorem forC_nil (g : GRc G) (h : Lx B t ls pb ln0 L0 Q) (hu : B[u]? = some (.citer t false)) (b : Env' → Hp → Option (Fl × Env' × Hp)) (x n : Nat) (ρ : Env') :
    forC G b x u (n + 1) ρ (st B t ls pb ln []) = some (.next, ρ, (st B t ls pb ln []).set u (.citer t true)) := by
  have := call_rc (ln := ln) g h (L := []) ⟨Nat.zero_le _, fun _ q => nomatch q⟩
  rw [show ln + nl (List.take 1 []) = ln from Int.add_zero _] at this
  show onCiter _ _ = _
  rw [st_u h hu]
  show bnd (G.call G.rc _ _) _ = _
  rw [g.rc, this]
  show onCiter (st B t ls pb ln [])[u]? _ = _
  rw [st_u h hu]
  rfl
noncomputable def fin (B : Hp) (t ls pb u : Nat) (y : Option AV) : Bool × List Nat × Int × List Nat → Option (Fl × Env' × Hp)
  | (true, tok, ln, r) => some (.ret (.str tok), ev t u tok y, st B t ls pb ln r)
  | (false, tok, ln, r) => some (.next, ev t u tok y, (st B t ls pb ln r).set u (.citer t true))
theorem esc_spec (g : GRc G) (h : Lx B t ls pb ln0 L0 Q) {c : Nat} (hL : okL L) :
    evS G esc3 (ev t u tok (some (.str [c]))) (st B t ls pb ln L) = some (.next, if c = 92 then (ev t u tok (some (.str (L.take 1))), st B t ls pb (ln + nl (L.take 1)) (L.drop 1)) else (ev t u tok (some (.str [c])), st B t ls pb ln L)) := by
  by_cases q : c = 92
  · subst q
    rw [if_pos rfl]
    exact t_ite_t (c_cmp (e_var rfl) e_str rfl) (ss_next (t_assign (e_meth (e_var rfl) (r_user (h.st (ln' := ln) hL.1 hL.2).d) es_nil (call_rc g h hL))) ss_nil)
  · rw [if_neg q]
    exact t_ite_f (c_cmp (e_var rfl) e_str (congrArg some (decide_eq_false fun q2 => q (List.cons.inj q2).1))) ss_nil
theorem chkS_ok {s : List Nat} (h : s.length ≤ 200000) : chkS s = some (.str s) := if_pos (by unfold szMax; lia)
theorem c_ws (h : Lx B t ls pb ln0 L0 Q) {c : Nat} (hc : c < 128) (hL : okL L) : evC G (.cmp .In (.var 3) (.attr (.var 0) 2)) (ev t u tok (some (.str [c]))) (st B t ls pb ln L) = some (wsB c, st B t ls pb ln L) :=
  c_cmp (e_var rfl) (e_attr (e_var rfl) (gf_of (h.st (ln' := ln) hL.1 hL.2).d rfl)) (congrArg some (ws_in c hc))
theorem add_tok {c : List Nat} (hc : c.length ≤ 1) (ht : tok.length + 1 ≤ 200000) {hp : Hp} : evS G (.augVar 1 .Add (.var 3)) (ev t u tok (some (.str c))) hp = some (.next, ev t u (tok ++ c) (some (.str c)), hp) :=
  t_augVar rfl (e_var rfl) (chkS_ok (by rw [List.length_append]; lia))
theorem take1 (L : List Nat) : (L.take 1).length ≤ 1 := List.length_take_le _ _
noncomputable def nxt (B : Hp) (t ls pb u : Nat) (tok : List Nat) (ln : Int) (L : List Nat) (c : Nat) : Env' × Hp := if c = 92 then (ev t u (tok ++ L.take 1) (some (.str (L.take 1))), st B t ls pb (ln + nl (L.take 1)) (L.drop 1)) else (ev t u (tok ++ [c]) (some (.str [c])), st B t ls pb ln L)
theorem body_go (g : GRc G) (h : Lx B t ls pb ln0 L0 Q) {c : Nat} (hL : okL L) (ht : tok.length + 1 ≤ 200000) {cnd : ME} {b : List MS} (hc : evC G cnd (ev t u tok (some (.str [c]))) (st B t ls pb ln L) = some (false, st B t ls pb ln L)) :
    evSs G [.ite cnd b [esc3], .augVar 1 .Add (.var 3)] (ev t u tok (some (.str [c]))) (st B t ls pb ln L) = some (.next, nxt B t ls pb u tok ln L c) := by
  have e := esc_spec (u := u) (tok := tok) (ln := ln) (c := c) g h hL
  unfold nxt
  by_cases q : c = 92
  · rw [if_pos q] at e ⊢; exact ss_next (t_ite_f hc (ss_next e ss_nil)) (ss_next (add_tok (take1 L) ht) ss_nil)
  · rw [if_neg q] at e ⊢; exact ss_next (t_ite_f hc (ss_next e ss_nil)) (ss_next (add_tok (Nat.le_refl _) ht) ss_nil)
theorem body_stop {cnd : ME} {b ss : List MS} {ρ : Env'} {hp : Hp} (hρ : ρ = ev t u tok y) (hc : evC G cnd ρ hp = some (true, hp)) :
    evSs G (.ite cnd [.ret (.var 1)] b :: ss) ρ hp = some (.ret (.str tok), ρ, hp) := by
  subst hρ
  exact ss_stop (t_ite_t hc (ss_stop (t_ret (e_var rfl))))
structure Rd (p : Nat → Bool) (f : List Nat → List Nat → Int → Bool × List Nat × Int × List Nat) : Prop where
  z : ∀ tok ln, f [] tok ln = (false, tok, ln, [])
  s : ∀ c r tok ln, p c = true → f (c :: r) tok ln = (true, tok, ln + nl [c], r)
  n : p 92 = false
  e : ∀ tok ln, f [92] tok ln = (false, tok, ln + nl [92], [])
  d : ∀ d r tok ln, f (92 :: d :: r) tok ln = f r (tok ++ [d]) (ln + nl [92] + nl [d])
  c : ∀ c r tok ln, p c = false → c ≠ 92 → f (c :: r) tok ln = f r (tok ++ [c]) (ln + nl [c])
theorem lx3_cons (c : Nat) (r tok : List Nat) (ln : Int) : lx3 (c :: r) tok ln = if wsB c then (true, tok, ln + nl [c], r) else if c = 92 then match r with
      | [] => (false, tok, ln + nl [c], [])
      | d :: r' => lx3 r' (tok ++ [d]) (ln + nl [c] + nl [d])
    else lx3 r (tok ++ [c]) (ln + nl [c]) := lx3.eq_def _ _ _
theorem lx2_cons (c : Nat) (r tok : List Nat) (ln : Int) : lx2 (c :: r) tok ln = if c = 34 then (true, tok, ln + nl [c], r) else if c = 92 then match r with
      | [] => (false, tok, ln + nl [c], [])
      | d :: r' => lx2 r' (tok ++ [d]) (ln + nl [c] + nl [d])
    else lx2 r (tok ++ [c]) (ln + nl [c]) := lx2.eq_def _ _ _
theorem rd3 : Rd wsB lx3 where
  z := fun _ _ => rfl
  s := fun c r tok ln h => (lx3_cons c r tok ln).trans (if_pos h)
  n := rfl
  e := fun _ _ => rfl
  d := fun _ _ _ _ => rfl
  c := fun c r tok ln h q => (lx3_cons c r tok ln).trans ((if_neg (fun w => by rw [h] at w; cases w)).trans (if_neg q))
theorem rd2 : Rd (fun c => decide (c = 34)) lx2 where
  z := fun _ _ => rfl
  s := fun c r tok ln h => (lx2_cons c r tok ln).trans (if_pos (of_decide_eq_true h))
  n := rfl
  e := fun _ _ => rfl
  d := fun _ _ _ _ => rfl
  c := fun c r tok ln h q => (lx2_cons c r tok ln).trans ((if_neg (of_decide_eq_false h)).trans (if_neg q))
theorem loopG (g : GRc G) (h : Lx B t ls pb ln0 L0 Q) (hu : B[u]? = some (.citer t false)) {p : Nat → Bool} {f : List Nat → List Nat → Int → Bool × List Nat × Int × List Nat} (rd : Rd p f) {cnd : ME}
    (hc : ∀ {c : Nat} {tok : List Nat} {ln : Int} {L : List Nat}, c < 128 → okL L → evC G cnd (ev t u tok (some (.str [c]))) (st B t ls pb ln L) = some (p c, st B t ls pb ln L)) : ∀ (n : Nat) (L tok : List Nat) (ln : Int) (y : Option AV), L.length < n → okL L → tok.length + L.length ≤ 200000 →
    ∃ y', forC G (fun ρ hp => evSs G [.ite cnd [.ret (.var 1)] [esc3], .augVar 1 .Add (.var 3)] ρ hp) 3 u n (ev t u tok y) (st B t ls pb ln L) = fin B t ls pb u y' (f L tok ln)
  | 0, L, tok, ln, y, hn, hL, ht => absurd hn (Nat.not_lt_zero _)
  | n + 1, [], tok, ln, y, hn, hL, ht => ⟨y, by rw [rd.z]; exact forC_nil g h hu _ _ _ _⟩
  | n + 1, c :: r, tok, ln, y, hn, hL, ht => by
    have hn' : r.length < n := Nat.lt_of_succ_lt_succ hn
    have ht' : tok.length + 1 + r.length ≤ 200000 := by rw [List.length_cons] at ht; lia
    have ap : ∀ d : Nat, (tok ++ [d]).length = tok.length + 1 := fun d => List.length_append
    have q := hc (tok := tok) (ln := ln + nl [c]) (L := r) hL.head hL.tail
    cases hw : p c with
    | true =>
      rw [hw] at q
      refine ⟨some (.str [c]), (forC_cons g h hu hL _ _ _ _).trans ?_⟩
      show turnF (evSs G _ (ev t u tok (some (.str [c]))) _) _ = _
      rw [body_stop rfl q, rd.s _ _ _ _ hw]
      rfl
    | false =>
      rw [hw] at q
      have go : forC G (fun ρ hp => evSs G [.ite cnd [.ret (.var 1)] [esc3], .augVar 1 .Add (.var 3)] ρ hp) 3 u (n + 1) (ev t u tok y) (st B t ls pb ln (c :: r)) = forC G (fun ρ hp => evSs G [.ite cnd [.ret (.var 1)] [esc3], .augVar 1 .Add (.var 3)] ρ hp) 3 u n (nxt B t ls pb u tok (ln + nl [c]) r c).1 (nxt B t ls pb u tok (ln + nl [c]) r c).2 := by
        refine (forC_cons g h hu hL _ _ _ _).trans ?_
        show turnF (evSs G _ (ev t u tok (some (.str [c]))) _) _ = _
        rw [body_go g h hL.tail (by lia) q]
        rfl
      unfold nxt at go
      by_cases q9 : c = 92
      · subst q9
        rw [if_pos rfl] at go
        cases r with
        | nil =>
          cases n with
          | zero => exact absurd hn' (Nat.not_lt_zero _)
          | succ n =>
            refine ⟨some (.str []), go.trans ?_⟩
            rw [rd.e]
            show forC G _ 3 u (n + 1) (ev t u (tok ++ []) (some (.str []))) (st B t ls pb (ln + nl [92] + 0) []) = _
            rw [Int.add_zero, List.append_nil, forC_nil g h hu]
            rfl
        | cons d r =>
          obtain ⟨y', e⟩ := loopG g h hu rd hc n r (tok ++ [d]) (ln + nl [92] + nl [d]) (some (.str [d])) (Nat.lt_of_succ_lt hn') hL.tail.tail (by rw [ap]; rw [List.length_cons] at ht'; lia)
          exact ⟨y', by rw [rd.d, ← e]; exact go⟩
      · rw [if_neg q9] at go
        obtain ⟨y', e⟩ := loopG g h hu rd hc n r (tok ++ [c]) (ln + nl [c]) (some (.str [c])) hn' hL.tail (by rw [ap]; exact ht')
        exact ⟨y', by rw [rd.c _ _ _ _ hw q9, ← e]; exact go⟩
theorem loop3 (g : GRc G) (h : Lx B t ls pb ln0 L0 Q) (hu : B[u]? = some (.citer t false)) (n : Nat) (L tok : List Nat) (ln : Int) (y : Option AV) (hn : L.length < n) (hL : okL L) (ht : tok.length + L.length ≤ 200000) :
    ∃ y', forC G (fun ρ hp => evSs G bd3 ρ hp) 3 u n (ev t u tok y) (st B t ls pb ln L) = fin B t ls pb u y' (lx3 L tok ln) :=
  loopG g h hu rd3 (fun hc hL => c_ws h hc hL) n L tok ln y hn hL ht
theorem c_dq {c : Nat} {hp : Hp} : evC G (.cmp .Eq (.var 3) (.str [34])) (ev t u tok (some (.str [c]))) hp = some (decide (c = 34), hp) :=
  c_cmp (e_var rfl) e_str (congrArg some (by
    by_cases q : c = 34
    · subst q; rfl
    · rw [decide_eq_false q]; exact decide_eq_false fun q2 => q (List.cons.inj q2).1))
theorem loop2 (g : GRc G) (h : Lx B t ls pb ln0 L0 Q) (hu : B[u]? = some (.citer t false)) (n : Nat) (L tok : List Nat) (ln : Int) (y : Option AV) (hn : L.length < n) (hL : okL L) (ht : tok.length + L.length ≤ 200000) :
    ∃ y', forC G (fun ρ hp => evSs G bd2 ρ hp) 3 u n (ev t u tok y) (st B t ls pb ln L) = fin B t ls pb u y' (lx2 L tok ln) :=
  loopG g h hu rd2 (fun _ _ => c_dq) n L tok ln y hn hL ht
end
end Mine
end
section
namespace Mine
open PySem
section
variable {G : Gl} {hp B : Hp} {t ls pb u : Nat} {ln ln0 : Int} {L L0 tok : List Nat} {Q : List AV} {y : Option AV}
theorem lx1_cons (c : Nat) (r : List Nat) (ln : Int) : lx1 (c :: r) ln = if wsB c then lx1 r (ln + nl [c]) else if c = 34 then (lx2 r [] (ln + nl [c])).2 else if c = 92 then match r with
      | [] => ([], ln + nl [c], [])
      | d :: r' => (lx3 r' [d] (ln + nl [c] + nl [d])).2
    else (lx3 r [c] (ln + nl [c])).2 := lx1.eq_def _ _
noncomputable def Fin1 (B : Hp) (t ls pb u : Nat) (p : List Nat × Int × List Nat) (o : Option (Fl × Env' × Hp)) : Prop :=
  ∃ y', o = some (.ret (.str p.1), ev t u p.1 y', st B t ls pb p.2.1 p.2.2) ∨ o = some (.next, ev t u p.1 y', (st B t ls pb p.2.1 p.2.2).set u (.citer t true))
theorem done_end (hu : B[u]? = some (.citer t false)) (b : Env' → Hp → Option (Fl × Env' × Hp)) (x n : Nat) (ρ : Env') (ln : Int) (r : List Nat) :
    forC G b x u (n + 1) ρ ((st B t ls pb ln r).set u (.citer t true)) = some (.next, ρ, (st B t ls pb ln r).set u (.citer t true)) := by
  have : ((st B t ls pb ln r).set u (.citer t true))[u]? = some (.citer t true) := List.getElem?_set_self (by rw [st_length]; exact (List.getElem?_eq_some_iff.mp hu).1)
  show onCiter _ _ = _
  rw [this]
  rfl
theorem after_inner (hu : B[u]? = some (.citer t false)) {n : Nat} {b : Env' → Hp → Option (Fl × Env' × Hp)} {p : Bool × List Nat × Int × List Nat} {y' : Option AV} :
    Fin1 B t ls pb u p.2 (turnF (fin B t ls pb u y' p) fun ρ hp => forC G b 3 u (n + 1) ρ hp) := by
  obtain ⟨e, tok, ln, r⟩ := p
  cases e
  · exact ⟨y', .inr (done_end hu _ _ _ _ _ _)⟩
  · exact ⟨y', .inl rfl⟩
theorem bd1_in (g : GRc G) (h : Lx B t ls pb ln0 L0 Q) {c : Nat} (hc : c < 128) (hL : okL L) (hw : wsB c = false) (q : c ≠ 34) {y' : Option AV} {z : Bool × List Nat × Int × List Nat}
    (e : forC G (fun ρ hp => evSs G bd3 ρ hp) 3 u 1000000 (nxt B t ls pb u [] ln L c).1 (nxt B t ls pb u [] ln L c).2 = fin B t ls pb u y' z) :
    evSs G bd1 (ev t u [] (some (.str [c]))) (st B t ls pb ln L) = fin B t ls pb u y' z := by
  have w := c_ws (G := G) (u := u) (tok := []) (ln := ln) h hc hL
  rw [hw] at w
  have d := c_dq (G := G) (t := t) (u := u) (tok := []) (c := c) (hp := st B t ls pb ln L)
  rw [decide_eq_false q] at d
  have x := esc_spec (u := u) (tok := []) (ln := ln) (c := c) g h hL
  unfold nxt at e
  refine ss_next (t_ite_f w ss_nil) (ss_one (t_ite_f d ?_))
  by_cases q9 : c = 92
  · rw [if_pos q9] at e x
    exact ss_next x (ss_next (add_tok (take1 L) (by decide)) (ss_one (t_forC rfl (by rw [g.n]; exact e))))
  · rw [if_neg q9] at e x
    exact ss_next x (ss_next (add_tok (Nat.le_refl _) (by decide)) (ss_one (t_forC rfl (by rw [g.n]; exact e))))
theorem loop1 (g : GRc G) (h : Lx B t ls pb ln0 L0 Q) (hu : B[u]? = some (.citer t false)) : ∀ (n : Nat) (L : List Nat) (ln : Int) (y : Option AV), L.length < n → okL L →
    Fin1 B t ls pb u (lx1 L ln) (forC G (fun ρ hp => evSs G bd1 ρ hp) 3 u n (ev t u [] y) (st B t ls pb ln L))
  | 0, L, ln, y, hn, hL => absurd hn (Nat.not_lt_zero _)
  | n + 1, [], ln, y, hn, hL => ⟨y, .inr (forC_nil g h hu _ _ _ _)⟩
  | n + 1, c :: r, ln, y, hn, hL => by
    have hn' : r.length < n := Nat.lt_of_succ_lt_succ hn
    have lenr : r.length ≤ 100000 := hL.tail.1
    rw [forC_cons g h hu hL]
    show Fin1 B t ls pb u _ (turnF (evSs G bd1 (ev t u [] (some (.str [c]))) _) _)
    rw [lx1_cons]
    have w := c_ws (G := G) (u := u) (tok := []) (ln := ln + nl [c]) h hL.head hL.tail
    by_cases hw : wsB c = true
    · rw [hw] at w
      rw [if_pos hw, show evSs G bd1 (ev t u [] (some (.str [c]))) (st B t ls pb (ln + nl [c]) r) = some (.cont, ev t u [] (some (.str [c])), st B t ls pb (ln + nl [c]) r) from ss_stop' (t_ite_t w q_cont) nofun]
      exact loop1 g h hu n r _ _ hn' hL.tail
    · have hw' : wsB c = false := eq_false_of_ne_true hw
      rw [if_neg hw]
      obtain ⟨n, rfl⟩ : ∃ m, n = m + 1 := ⟨n - 1, by lia⟩
      by_cases q : c = 34
      · subst q
        rw [hw'] at w
        obtain ⟨y', e⟩ := loop2 g h hu 1000000 r [] (ln + nl [34]) (some (.str [34])) (by lia) hL.tail (by show 0 + r.length ≤ 200000; lia)
        rw [if_pos rfl, show evSs G bd1 (ev t u [] (some (.str [34]))) (st B t ls pb (ln + nl [34]) r) = fin B t ls pb u y' (lx2 r [] (ln + nl [34])) from ss_next (t_ite_f w ss_nil) (ss_one (t_ite_t c_dq (ss_one (t_forC rfl (by rw [g.n]; exact e)))))]
        exact after_inner hu
      · rw [if_neg q]
        by_cases q9 : c = 92
        · subst q9
          rw [if_pos rfl]
          cases r with
          | nil =>
            rw [bd1_in (y' := some (.str [])) (z := (false, [], ln + nl [92], [])) g h hL.head hL.tail hw' q (by
              show forC G _ 3 u 1000000 (ev t u [] (some (.str []))) (st B t ls pb (ln + nl [92] + 0) []) = _
              rw [Int.add_zero]
              exact forC_nil g h hu _ 3 999999 _)]
            exact after_inner (p := (false, [], ln + nl [92], [])) hu
          | cons d r =>
            obtain ⟨y', e⟩ := loop3 g h hu 1000000 r [d] (ln + nl [92] + nl [d]) (some (.str [d])) (by rw [List.length_cons] at lenr; lia) hL.tail.tail (by rw [List.length_cons] at lenr; show 1 + r.length ≤ 200000; lia)
            rw [bd1_in g h hL.head hL.tail hw' q e]
            exact after_inner hu
        · rw [if_neg q9]
          obtain ⟨y', e⟩ := loop3 g h hu 1000000 r [c] (ln + nl [c]) (some (.str [c])) (by lia) hL.tail (by show 1 + r.length ≤ 200000; lia)
          rw [bd1_in g h hL.head hL.tail hw' q (show forC G _ 3 u 1000000 (nxt B t ls pb u [] (ln + nl [c]) r c).1 (nxt B t ls pb u [] (ln + nl [c]) r c).2 = fin B t ls pb u y' (lx3 r [c] (ln + nl [c])) by unfold nxt; rw [if_neg q9]; exact e)]
          exact after_inner hu
end
end Mine
end
section
namespace Mine
open PySem
theorem lx3_suf : ∀ (n : Nat) (L tok : List Nat) (ln : Int), L.length < n → (lx3 L tok ln).2.2.2 <:+ L
  | 0, L, tok, ln, h => absurd h (Nat.not_lt_zero _)
  | n + 1, [], tok, ln, h => List.suffix_refl _
  | n + 1, c :: r, tok, ln, h => by
    rw [lx3_cons]
    split
    · exact List.suffix_cons _ _
    · split
      · cases r with
        | nil => exact List.nil_suffix
        | cons d r => exact (lx3_suf n r _ _ (by simp at h; lia)).trans ((List.suffix_cons _ _).trans (List.suffix_cons _ _))
      · exact (lx3_suf n r _ _ (by simp at h; lia)).trans (List.suffix_cons _ _)
theorem lx2_suf : ∀ (n : Nat) (L tok : List Nat) (ln : Int), L.length < n → (lx2 L tok ln).2.2.2 <:+ L
  | 0, L, tok, ln, h => absurd h (Nat.not_lt_zero _)
  | n + 1, [], tok, ln, h => List.suffix_refl _
  | n + 1, c :: r, tok, ln, h => by
    rw [lx2_cons]
    split
    · exact List.suffix_cons _ _
    · split
      · cases r with
        | nil => exact List.nil_suffix
        | cons d r => exact (lx2_suf n r _ _ (by simp at h; lia)).trans ((List.suffix_cons _ _).trans (List.suffix_cons _ _))
      · exact (lx2_suf n r _ _ (by simp at h; lia)).trans (List.suffix_cons _ _)
theorem lx1_suf : ∀ (L : List Nat) (ln : Int), (lx1 L ln).2.2 <:+ L
  | [], ln => List.suffix_refl _
  | c :: r, ln => by
    rw [lx1_cons]
    split
    · exact (lx1_suf r _).trans (List.suffix_cons _ _)
    · split
      · exact (lx2_suf _ r _ _ (Nat.lt_succ_self _)).trans (List.suffix_cons _ _)
      · split
        · cases r with
          | nil => exact List.nil_suffix
          | cons d r => exact (lx3_suf _ r _ _ (Nat.lt_succ_self _)).trans ((List.suffix_cons _ _).trans (List.suffix_cons _ _))
        · exact (lx3_suf _ r _ _ (Nat.lt_succ_self _)).trans (List.suffix_cons _ _)
theorem okL.suf {L M : List Nat} (h : okL L) (hs : M <:+ L) : okL M := ⟨Nat.le_trans hs.length_le h.1, fun c hc => h.2 c (hs.subset hc)⟩
section
variable {G : Gl} {hp B : Hp} {t ls pb u : Nat} {ln ln0 : Int} {L L0 tok : List Nat} {Q : List AV} {y : Option AV}
theorem below_mono {m n : Nat} (h : m ≤ n) : ∀ x : AV, below m x = true → below n x = true := by
  have key : ∀ k : Nat, ∀ x : AV, sizeOf x < k → below m x = true → below n x = true := by
    intro k
    induction k with
    | zero => intro x hx; exact absurd hx (Nat.not_lt_zero _)
    | succ k ih =>
      intro x hx hb
      have lst : ∀ xs : List AV, sizeOf xs < k → belows m xs = true → belows n xs = true := by
        intro xs hxs hb
        rw [belows_all] at hb ⊢
        rw [List.all_eq_true] at hb ⊢
        intro z hz
        exact ih z (by have := List.sizeOf_lt_of_mem hz; lia) (hb z hz)
      cases x with
      | tup xs => exact lst xs (by simp at hx; lia) hb
      | lst xs => exact lst xs (by simp at hx; lia) hb
      | ref t => simp [below] at hb ⊢; lia
      | inst t => simp [below] at hb ⊢; lia
      | stm t => simp [below] at hb ⊢; lia
      | _ => rfl
  exact fun x => key _ x (Nat.lt_succ_self _)
theorem belowO_mono {m n : Nat} (h : m ≤ n) (x : AO) (hb : belowO m x = true) : belowO n x = true := by
  cases x with
  | list xs =>
    simp only [belowO, belows_all, List.all_eq_true] at hb ⊢
    exact fun z hz => below_mono h z (hb z hz)
  | dict xs =>
    simp only [belowO, belows_all, List.all_eq_true] at hb ⊢
    exact fun z hz => below_mono h z (hb z hz)
  | citer t d => simp [belowO] at hb ⊢; lia
theorem Lx.push (h : Lx hp t ls pb ln L Q) : Lx (hp ++ [.citer t false]) t ls pb ln L Q where
  d := by rw [List.getElem?_append_left h.lt1, h.d]
  l := by rw [List.getElem?_append_left h.lt2, h.l]
  q := by rw [List.getElem?_append_left h.lt3, h.q]
  n1 := h.n1
  n2 := h.n2
  n3 := h.n3
  len := h.len
  ch := h.ch
  bl := by
    rw [List.all_append, Bool.and_eq_true]
    refine ⟨?_, ?_⟩
    · rw [List.all_eq_true]
      intro x hx
      exact belowO_mono (by simp) x (List.all_eq_true.mp h.bl x hx)
    · have := h.lt1
      simp [belowO]; lia
theorem st_push (h : Lx hp t ls pb ln0 L0 Q) (x : AO) : st (hp ++ [x]) t ls pb ln L = st hp t ls pb ln L ++ [x] := by
  unfold Mine.st
  rw [List.set_append_left _ _ h.lt2, List.set_append_left _ _ (by simpa using h.lt1)]
theorem close_ex {v : AV} {hp' : Hp} {n : Nat} (hn : hp'.length = n) (hb : hp'.all (belowO n) = true) (hf : ∀ g, fz g n 6 v = some v) (x : List AO) : close true n v (hp' ++ x) = some (v, hp') := by
  subst hn
  show (if _ then _ else none) = _
  rw [List.take_left, if_pos hb, hf]; rfl
theorem gt_lex (g : GRc G) (h : Lx hp t ls pb ln L []) : runFn G l1d_get_token [.inst t] hp = some (.str (lx1 L ln).1, st hp t ls pb (lx1 L ln).2.1 (lx1 L ln).2.2) := by
  have hu : (hp ++ [.citer t false])[hp.length]? = some (.citer t false) := by simp
  have hB := h.push
  have hL : okL L := ⟨h.len, h.ch⟩
  have hR := hL.suf (lx1_suf L ln)
  have hS := (h.st (ln' := (lx1 L ln).2.1) hR.1 hR.2).bl
  rw [st_length] at hS
  obtain ⟨y', e⟩ := loop1 g hB hu 1000000 L ln none (by have := h.len; lia) hL
  rw [st_self hB] at e
  have e1 : evC G (.attr (.var 0) 3) [some (.inst t), none, none, none] hp = some (false, hp) :=
    c_attr (e_var rfl) (gf_of h.d rfl) (by show onList hp[pb]? _ = _; rw [h.q]; rfl)
  have hh : ∀ x : List AO, close true hp.length (.str (lx1 L ln).1) (st hp t ls pb (lx1 L ln).2.1 (lx1 L ln).2.2 ++ x) = some (.str (lx1 L ln).1, st hp t ls pb (lx1 L ln).2.1 (lx1 L ln).2.2) :=
    close_ex st_length hS fun g => rfl
  have go : ∀ {r : Fl × Env' × Hp}, evSs G [.forC 3 2 bd1, .ret (.var 1)] (ev t hp.length [] none) (hp ++ [.citer t false]) = some r → evSs G l1ms_get_token [some (.inst t), none, none, none] hp = some r := fun q =>
    ss_next (t_ite_f e1 ss_nil) (ss_next (t_assign e_str) (ss_next (t_assign (e_citer (e_var rfl) h.d)) q))
  rcases e with e | e
  · refine run_ret rfl (go (ss_stop (t_forC rfl (by rw [g.n]; exact e)))) ?_
    rw [st_push h]
    exact hh _
  · refine run_ret rfl (go (ss_next (t_forC rfl (by rw [g.n]; exact e)) (ss_stop (t_ret (e_var rfl))))) ?_
    rw [st_push h, List.set_append_right _ _ (by rw [st_length]; exact Nat.le_refl _)]
    exact hh _
theorem gt_pop {s : List Nat} (h : Lx hp t ls pb ln L (.str s :: Q)) (hQ : Q.length ≤ 1000) (hq : ∀ n, belows n Q = true) : runFn G l1d_get_token [.inst t] hp = some (.str s, hp.set pb (.list Q)) := by
  have e1 : evC G (.attr (.var 0) 3) [some (.inst t), none, none, none] hp = some (true, hp) :=
    c_attr (e_var rfl) (gf_of h.d rfl) (by show onList hp[pb]? _ = _; rw [h.q]; exact if_pos (by unfold szMax; rw [List.length_cons]; lia))
  have hb : (hp.set pb (.list Q)).all (belowO hp.length) = true := all_set h.bl (hq _)
  have hh := close_ex (v := .str s) (hp' := hp.set pb (.list Q)) (by simp) hb (fun g => rfl) []
  rw [List.append_nil] at hh
  refine run_ret rfl (ss_stop (t_ite_t e1 (ss_stop (t_ret (e_meth (e_attr (e_var rfl) (gf_of h.d rfl)) (r_list h.q) (es_cons e_int es_nil) ?_))))) hh
  show onList hp[pb]? _ = _
  rw [h.q]
  exact if_pos ⟨Int.le_refl _, by unfold szMax; rw [List.length_cons]; lia⟩
theorem pt_spec {s : List Nat} (h : Lx hp t ls pb ln L Q) (hQ : Q.length ≤ 1000) (hq : ∀ n, belows n Q = true) : runFn G l1d_push_token [.inst t, .str s] hp = some (.none, hp.set pb (.list (Q ++ [.str s]))) := by
  have hb : (hp.set pb (.list (Q ++ [.str s]))).all (belowO hp.length) = true := all_set h.bl (by
    have := hq hp.length
    rw [belows_all] at this
    show belows _ _ = true
    rw [belows_all, List.all_append, this]
    rfl)
  have hh := close_ex (v := .none) (hp' := hp.set pb (.list (Q ++ [.str s]))) (by simp) hb (fun g => rfl) []
  rw [List.append_nil] at hh
  exact run_next rfl (ss_next (t_expr (e_meth (e_attr (e_var rfl) (gf_of h.d rfl)) (r_list h.q) (es_cons (e_var rfl) es_nil) (m_append h.q (Nat.le_trans hQ (by decide))))) ss_nil) hh
end
end Mine
end
section
namespace Mine
open PySem
noncomputable def shr : Nat → List Nat → List Nat
  | 0, p => p
  | n + 1, p => if p.length > 1 ∧ tabGet l1tab p = none then shr n p.dropLast else p
noncomputable def symOf (p : List Nat) : Int := (tabGet l1tab p).getD (256 + Txt.find (S [32, 9, 34, 92, 35, 97, 11]) (S p))
noncomputable def cutL : Nat → List Nat → List Int
  | 0, _ => []
  | n + 1, row => if row = [] then [] else symOf (shr 3 (row.take 3)) :: cutL n (row.drop (shr 3 (row.take 3)).length)
theorem shr_len : ∀ (n : Nat) (p : List Nat), (shr n p).length ≤ p.length ∧ (0 < p.length → 0 < (shr n p).length)
  | 0, p => ⟨Nat.le_refl _, id⟩
  | n + 1, p => by
    rw [shr]
    split
    · rename_i h
      have := shr_len n p.dropLast
      simp only [List.length_dropLast] at this
      exact ⟨by lia, fun _ => this.2 (by lia)⟩
    · exact ⟨Nat.le_refl _, id⟩
structure GDict (G : Gl) : Prop where
  dict : G.dict = .ref 91
  tab : G.tab = l1tab
  n : G.N = 1000000
noncomputable def cutB1 : List MS := [.assign 2 (.slice (.var 2) none (some (.int (-1))))]
noncomputable def cutC1 : ME := .and (.cmp .Gt (.len (.var 2)) (.int 1)) (.cmp .NotIn (.var 2) (.glob (.ref 91)))
noncomputable def cutB : List MS := [.assign 2 (.slice (.var 0) none (some (.int 3))), .while cutC1 cutB1, .expr (.meth .append (.var 1) [.meth .get (.glob (.ref 91)) [.var 2, .bin .Add (.int 256) (.meth .find (.str [32, 9, 34, 92, 35, 97, 11]) [.var 2])]]), .assign 0 (.slice (.var 0) (some (.len (.var 2))) none)]
section
variable {G : Gl} {hp : Hp}
theorem cut_inner (g : GDict G) (a b : Option AV) : ∀ (n k : Nat) (p : List Nat), p.length ≤ k → k ≤ 3 → k < n →
    whileN (fun ρ hp => evC G cutC1 ρ hp) (fun ρ hp => evSs G cutB1 ρ hp) n [a, b, some (.str p)] hp = some (.next, [a, b, some (.str (shr k p))], hp)
  | 0, k, p, h1, h2, h3 => absurd h3 (Nat.not_lt_zero _)
  | n + 1, k, p, h1, h2, h3 => by
    have hl : evE G (.len (.var 2)) [a, b, some (.str p)] hp = some (.int p.length, hp) := e_len (e_var rfl) rfl (by lia)
    by_cases q : p.length > 1 ∧ tabGet l1tab p = none
    · have ec : evC G cutC1 [a, b, some (.str p)] hp = some (true, hp) := c_and (c_cmp hl e_int (congrArg some (decide_eq_true (show ((p.length : Nat) : Int) > 1 by have := q.1; lia)))) (c_cmp (e_var rfl) e_glob (by
        show (if Value.ref 91 = G.dict then some (tabGet G.tab p).isNone else none) = _
        rw [g.dict, g.tab, if_pos rfl, q.2]; rfl))
      have eb : evSs G cutB1 [a, b, some (.str p)] hp = some (.next, [a, b, some (.str p.dropLast)], hp) :=
        ss_one (t_assign (e_slice (e_var rfl) o_none (o_some e_int) ((slice_s rfl rfl (by lia)).trans (congrArg (fun z => some (AV.str z)) (dropLast_clip p q.1)))))
      cases k with
      | zero => lia
      | succ k =>
        rw [shr, if_pos q]
        exact w_go ec eb (cut_inner g a b n k p.dropLast (by rw [List.length_dropLast]; lia) (by lia) (by lia))
    · have ec : evC G cutC1 [a, b, some (.str p)] hp = some (false, hp) := by
        by_cases q1 : p.length > 1
        · refine c_and (c_cmp hl e_int (congrArg some (decide_eq_true (show ((p.length : Nat) : Int) > 1 by lia)))) (c_cmp (e_var rfl) e_glob ?_)
          show (if Value.ref 91 = G.dict then some (tabGet G.tab p).isNone else none) = _
          rw [g.dict, g.tab, if_pos rfl]
          cases h : tabGet l1tab p with
          | none => exact absurd ⟨q1, h⟩ q
          | some v => rfl
        · exact c_and_f (c_cmp hl e_int (congrArg some (decide_eq_false (show ¬ ((p.length : Nat) : Int) > 1 by lia))))
      have e9 : shr k p = p := by
        cases k with
        | zero => rfl
        | succ k => rw [shr, if_neg q]
      rw [e9]
      exact w_stop ec
theorem cut_step (g : GDict G) (row : List Nat) (syms : List AV) (z : Option AV) (hr : row.length ≤ 1000) (hs : syms.length ≤ 1000) :
    evSs G cutB [some (.str row), some (.ref hp.length), z] (hp ++ [.list syms]) = some (.next, [some (.str (row.drop (shr 3 (row.take 3)).length)), some (.ref hp.length), some (.str (shr 3 (row.take 3)))], hp ++ [.list (syms ++ [.int (symOf (shr 3 (row.take 3)))])]) := by
  have sl := shr_len 3 (row.take 3)
  have tl : (row.take 3).length ≤ 3 := List.length_take_le _ _
  have tl2 : (row.take 3).length ≤ row.length := by rw [List.length_take]; exact Nat.min_le_right _ _
  have hget : (hp ++ [AO.list syms])[hp.length]? = some (.list syms) := List.getElem?_concat_length
  refine ss_next (t_assign (e_slice (e_var rfl) o_none (o_some e_int) ((slice_s rfl rfl (by lia)).trans (congrArg (fun z => some (AV.str z)) (take_clip row 3))))) ?_
  refine ss_next (t_while (by rw [g.n]; exact cut_inner g _ _ 1000000 3 (row.take 3) tl (by lia) (by lia))) ?_
  generalize hp3 : shr 3 (row.take 3) = p at *
  refine ss_next (t_expr (e_meth (e_var rfl) (r_list hget) (es_cons (e_meth (xs := [.str p, .int (256 + Txt.find (S [32, 9, 34, 92, 35, 97, 11]) (S p))]) (r := some (.int (symOf p), _)) e_glob rfl (es_cons (e_var rfl) (es_cons (e_bin e_int (e_meth e_str rfl (es_cons (e_var rfl) es_nil) rfl) rfl) es_nil)) ?_) es_nil) (m_append hget (by lia)))) ?_
  · show (if Value.ref 91 = G.dict then some (AV.int ((tabGet G.tab p).getD _)) else none).map _ = _
    rw [g.dict, g.tab, if_pos rfl]; rfl
  refine ss_one ((t_assign (e_slice (e_var rfl) (o_some (e_len (e_var rfl) rfl (by lia))) o_none ((slice_s rfl rfl (by lia)).trans (congrArg (fun z => some (AV.str z)) (drop_clip row p.length (by lia)))))).trans ?_)
  rw [List.set_append_right _ _ (Nat.le_refl _), Nat.sub_self]
  rfl
theorem cut_loop (g : GDict G) : ∀ (n k : Nat) (row : List Nat) (syms : List AV) (z : Option AV), row.length < n → row.length ≤ k → k ≤ 500 → syms.length + k ≤ 1000 →
    ∃ z', whileN (fun ρ hp => evC G (.cmp .NotEq (.var 0) (.str [])) ρ hp) (fun ρ hp => evSs G cutB ρ hp) n [some (.str row), some (.ref hp.length), z] (hp ++ [.list syms]) = some (.next, [some (.str []), some (.ref hp.length), z'], hp ++ [.list (syms ++ (cutL k row).map .int)])
  | 0, k, row, syms, z, h1, h2, h3, h4 => absurd h1 (Nat.not_lt_zero _)
  | n + 1, k, row, syms, z, h1, h2, h3, h4 => by
    have ec : evC G (.cmp .NotEq (.var 0) (.str [])) [some (.str row), some (.ref hp.length), z] (hp ++ [.list syms]) = some (!decide (row = []), hp ++ [.list syms]) := rfl
    by_cases q : row = []
    · subst q
      refine ⟨z, (w_stop ec).trans ?_⟩
      cases k <;> (rw [show syms ++ List.map AV.int (cutL _ []) = syms from List.append_nil _])
    · have hpos : 0 < row.length := List.length_pos_iff.mpr q
      have sl := (shr_len 3 (row.take 3)).2 (by rw [List.length_take]; lia)
      rw [decide_eq_false q] at ec
      cases k with
      | zero => lia
      | succ k =>
        obtain ⟨z', e⟩ := cut_loop g n k (row.drop (shr 3 (row.take 3)).length) (syms ++ [.int (symOf (shr 3 (row.take 3)))]) (some (.str (shr 3 (row.take 3)))) (by rw [List.length_drop]; lia) (by rw [List.length_drop]; lia) (by lia) (by rw [List.length_append]; show syms.length + 1 + k ≤ 1000; lia)
        refine ⟨z', w_go ec (cut_step g row syms z (by lia) (by lia)) (e.trans ?_)⟩
        rw [cutL, if_neg q, List.append_assoc]
        rfl
theorem fzs_ints (f : AV → Option AV) (hf : ∀ i, f (.int i) = some (.int i)) : ∀ l : List Int, fzs f (l.map .int) = some (l.map .int)
  | [] => rfl
  | i :: r => by simp [fzs, hf, fzs_ints f hf r]
theorem cutL_len : ∀ (n : Nat) (row : List Nat), (cutL n row).length ≤ n
  | 0, _ => Nat.le_refl _
  | n + 1, row => by
    rw [cutL]
    split
    · simp
    · have := cutL_len n (row.drop (shr 3 (row.take 3)).length)
      simp only [List.length_cons]; lia
theorem cut_spec (g : GDict G) (row : List Nat) (hr : row.length ≤ 100) (hb : hp.all (belowO hp.length) = true) :
    runFn G l1d__law_cut [.str row] hp = some (.lst ((cutL 100 row ++ [0]).map .int), hp) := by
  obtain ⟨z, e⟩ := cut_loop (hp := hp) g 1000000 100 row [] none (by lia) hr (by lia) (by simp)
  have hl := cutL_len 100 row
  have hget : (hp ++ [AO.list ((cutL 100 row).map .int)])[hp.length]? = some (.list ((cutL 100 row).map .int)) := List.getElem?_concat_length
  have e9 : (cutL 100 row).map AV.int ++ [.int 0] = (cutL 100 row ++ [0]).map .int := by rw [List.map_append]; rfl
  refine run_ret rfl (ss_next (t_assign (e_mut (l_disp es_nil (Nat.zero_le _)))) (ss_next (t_while (by rw [g.n]; exact e)) (ss_stop (t_ret (e_frz (l_add (e_var rfl) (e_frz (l_disp (es_cons e_int es_nil) (by decide))) (it_ref hget) rfl ?_)))))) ?_
  · rw [List.length_map]; show _ + 1 ≤ _; lia
  rw [e9]
  refine close_ex rfl hb (fun g => ?_) _
  show (fzs (fz g hp.length 5) _).map AV.lst = _
  rw [fzs_ints (fz g hp.length 5) (fun i => rfl)]
  rfl
end
end Mine
end
section
namespace Mine
open PySem
noncomputable def nrm : List Nat → List Nat
  | [] => []
  | c :: r => if c = 13 then match r with
      | [] => [13, 10]
      | d :: r' => if d = 10 then 13 :: 10 :: nrm r' else 13 :: 10 :: nrm (d :: r')
    else if c = 10 then 13 :: 10 :: nrm r else c :: nrm r
noncomputable def stf : Bool → List Nat → List Nat
  | _, [] => []
  | b, c :: r => (if b && c == 46 then [46, 46] else [c]) ++ stf (c == 10) r
theorem nrm_cons (c : Nat) (r : List Nat) : nrm (c :: r) = if c = 13 then match r with
      | [] => [13, 10]
      | d :: r' => if d = 10 then 13 :: 10 :: nrm r' else 13 :: 10 :: nrm (d :: r')
    else if c = 10 then 13 :: 10 :: nrm r else c :: nrm r := nrm.eq_def _
noncomputable def plain (x : List Nat) : Prop := ∀ c ∈ x, c ≠ 10 ∧ c ≠ 13
theorem nrm_plain : ∀ {x : List Nat}, plain x → ∀ y, nrm (x ++ y) = x ++ nrm y
  | [], _, y => rfl
  | c :: x, h, y => by
    have hc := h c (.head _)
    rw [List.cons_append, nrm_cons, if_neg hc.2, if_neg hc.1, nrm_plain (fun d hd => h d (.tail _ hd)) y]; rfl
theorem getD_drop (text : Array Nat) (s : Nat) (h : s < text.size) : text.toList.drop s = text.getD s 0 :: text.toList.drop (s + 1) := by
  rw [List.drop_eq_getElem_cons (by simpa using h)]
  simp [Array.getD, h]
theorem no_end {c : Nat} (q : ¬ (c == 10 || c == 13) = true) : c ≠ 10 ∧ c ≠ 13 := by
  constructor <;> (rintro rfl; exact q rfl)
theorem find2_no {text : Array Nat} : ∀ {k s : Nat}, s + k = text.size → find2 text k s = none → plain (text.toList.drop s)
  | 0, s, h, _ => by
    rw [List.drop_of_length_le (show text.toList.length ≤ s from Nat.le_of_eq h.symm)]
    exact nofun
  | k + 1, s, h, e => by
    rw [find2] at e
    by_cases q : (text.getD s 0 == 10 || text.getD s 0 == 13) = true
    · rw [if_pos q] at e; cases e
    · rw [if_neg q] at e
      rw [getD_drop text s (Nat.lt_of_lt_of_eq (Nat.lt_add_of_pos_right (Nat.succ_pos k)) h)]
      exact List.forall_mem_cons.mpr ⟨no_end q, find2_no (Nat.succ_add_eq_add_succ s k ▸ h) e⟩
theorem find2_yes {text : Array Nat} : ∀ {k s j : Nat}, s + k = text.size → find2 text k s = some j → ∃ x, plain x ∧ text.toList.drop s = x ++ text.toList.drop j ∧ x = (text.extract s j).toList
  | 0, s, j, h, e => nomatch e
  | k + 1, s, j, h, e => by
    rw [find2] at e
    by_cases q : (text.getD s 0 == 10 || text.getD s 0 == 13) = true
    · rw [if_pos q] at e
      obtain rfl := Option.some.inj e
      exact ⟨[], nofun, rfl, by simp⟩
    · rw [if_neg q] at e
      have hs : s < text.size := Nat.lt_of_lt_of_eq (Nat.lt_add_of_pos_right (Nat.succ_pos k)) h
      obtain ⟨x, h4, h5, rfl⟩ := find2_yes (Nat.succ_add_eq_add_succ s k ▸ h) e
      refine ⟨text.getD s 0 :: _, List.forall_mem_cons.mpr ⟨no_end q, h4⟩, by rw [getD_drop text s hs, h5]; rfl, ?_⟩
      rw [Array.toList_extract, Array.toList_extract]
      show _ = (text.toList.drop s).take (j - s)
      rw [getD_drop text s hs, ← Nat.sub_add_cancel (Nat.sub_pos_of_lt (Nat.lt_of_lt_of_le (Nat.lt_succ_self s) (find2_some e).1)), List.take_succ_cons]
      rfl
noncomputable def fnd2 (text : Array Nat) (s : Nat) : Option (Nat × Nat) := (find2 text (text.size - s) s).map fun j => (j, end2 text j)
noncomputable def fnd1 (text : Array Nat) (s : Nat) : Option (Nat × Nat) := (find1 text (text.size - s) s).map fun j => (j, j + 1)
theorem sub2 (text : Array Nat) : ∀ (k d : Nat), text.size < d + k → d ≤ text.size → (subGo fnd2 text [13, 10] k d).flatten = nrm (text.toList.drop d)
  | 0, d, h, hd => by lia
  | k + 1, d, h, hd => by
    have hdk : d + (text.size - d) = text.size := Nat.add_sub_cancel' hd
    have ef : fnd2 text d = (find2 text (text.size - d) d).map fun j => (j, end2 text j) := rfl
    rw [subGo, ef]
    clear ef
    cases hf : find2 text (text.size - d) d with
    | none =>
      simp only [Option.map]
      have e := nrm_plain (find2_no hdk hf) []
      rw [List.append_nil] at e
      rw [e]
      by_cases q : d < text.size
      · rw [if_pos q]
        simp only [List.flatten_cons, List.flatten_nil, Array.toList_extract, List.extract]
        rw [List.take_of_length_le (by simp)]; simp [nrm]
      · rw [if_neg q, List.drop_of_length_le (by simp; lia)]; rfl
    | some j =>
      simp only [Option.map]
      obtain ⟨h1, h2, h3⟩ := find2_some hf
      rw [hdk] at h2
      obtain ⟨x, h4, h5, h6⟩ := find2_yes hdk hf
      rw [h5, nrm_plain h4, getD_drop text j h2]
      have e0 : (if d < j then [(text.extract d j).toList] else []).flatten = x := by
        subst h6
        by_cases q : d < j
        · rw [if_pos q]; exact List.append_nil _
        · rw [if_neg q, Nat.le_antisymm (Nat.not_lt.mp q) h1]; simp
      obtain ⟨hlt, hle⟩ := end2_span h2
      rw [List.flatten_append, List.flatten_cons, e0, sub2 text k (end2 text j) (by lia) hle]
      congr 1
      rw [nrm_cons]
      unfold end2
      rcases h3 with h3 | h3
      · rw [h3, if_neg (by lia), if_neg (by lia), if_pos rfl]; rfl
      · rw [h3, if_pos rfl]
        by_cases q : j + 1 < text.size
        · rw [getD_drop text (j + 1) q]
          simp only []
          by_cases q2 : text.getD (j + 1) 0 = 10
          · rw [if_pos ⟨trivial, q, q2⟩, if_pos q2]; rfl
          · rw [if_neg (by intro z; exact q2 z.2.2), if_neg q2, getD_drop text (j + 1) q]; rfl
        · rw [if_neg (by intro z; exact q z.2.1), List.drop_of_length_le (i := j + 1) (by simp; lia)]; rfl
theorem stf_none : ∀ (b : Bool) (x y : List Nat), (∀ c ∈ x, c ≠ 10) → (x = [] → True) → (b = true → x.head? ≠ some 46) → x ≠ [] → stf b (x ++ y) = x ++ stf false y
  | b, [], y, _, _, _, h => absurd rfl h
  | b, [c], y, h1, _, h2, _ => by
    have hc := h1 c (.head _)
    have : (b && c == 46) = false := by cases b <;> simp_all
    have h10 : (c == 10) = false := by simpa using hc
    rw [List.cons_append, stf, this, h10]; rfl
  | b, c :: d :: x, y, h1, _, h2, _ => by
    have hc := h1 c (.head _)
    have : (b && c == 46) = false := by cases b <;> simp_all
    have h10 : (c == 10) = false := by simpa using hc
    rw [List.cons_append, stf, this, h10, stf_none false (d :: x) y (fun e he => h1 e (.tail _ he)) (fun _ => trivial) nofun nofun]; rfl
theorem stf_false {x y : List Nat} (h : ∀ c ∈ x, c ≠ 10) : stf false (x ++ y) = x ++ stf false y := by
  cases x with
  | nil => rfl
  | cons c x => exact stf_none false _ y h (fun _ => trivial) nofun nofun
theorem find1_cut (text : Array Nat) : ∀ (k s : Nat), s + k = text.size → match find1 text k s with
    | none => stf (bol text s) (text.toList.drop s) = text.toList.drop s
    | some j => s ≤ j ∧ j < text.size ∧ stf (bol text s) (text.toList.drop s) = (text.extract s j).toList ++ ([46, 46] ++ stf (bol text (j + 1)) (text.toList.drop (j + 1)))
  | 0, s, h => by
    simp only [find1]
    rw [List.drop_of_length_le (by simp; lia)]
    rfl
  | k + 1, s, h => by
    rw [find1]
    have hs : s < text.size := by lia
    have hb : bol text (s + 1) = (text.getD s 0 == 10) := by unfold bol; simp
    by_cases q : (bol text s && text.getD s 0 == 46) = true
    · rw [if_pos q]
      refine ⟨Nat.le_refl _, hs, ?_⟩
      rw [getD_drop text s hs, stf, q, hb]
      simp
    · rw [if_neg q]
      have q' : (bol text s && text.getD s 0 == 46) = false := by simpa using q
      have ih := find1_cut text k (s + 1) (by lia)
      revert ih
      cases find1 text k (s + 1) with
      | none =>
        intro ih
        simp only at ih ⊢
        rw [getD_drop text s hs, stf, q', ← hb, ih]; rfl
      | some j =>
        intro ih
        simp only at ih ⊢
        obtain ⟨h1, h2, h3⟩ := ih
        refine ⟨by lia, h2, ?_⟩
        rw [getD_drop text s hs, stf, q', ← hb, h3]
        rw [Array.toList_extract, Array.toList_extract]
        simp only [List.extract]
        rw [getD_drop text s hs]
        have : j - s = j - (s + 1) + 1 := by lia
        rw [this, List.take_succ_cons]; rfl
theorem sub1 (text : Array Nat) : ∀ (k d : Nat), text.size < d + k → d ≤ text.size → (subGo fnd1 text [46, 46] k d).flatten = stf (bol text d) (text.toList.drop d)
  | 0, d, h, hd => by lia
  | k + 1, d, h, hd => by
    have hc := find1_cut text (text.size - d) d (by lia)
    have ef : fnd1 text d = (find1 text (text.size - d) d).map fun j => (j, j + 1) := rfl
    rw [subGo, ef]
    clear ef
    revert hc
    cases find1 text (text.size - d) d with
    | none =>
      intro hc
      simp only [Option.map] at hc ⊢
      rw [hc]
      by_cases q : d < text.size
      · rw [if_pos q]
        simp only [List.flatten_cons, List.flatten_nil, Array.toList_extract, List.extract]
        rw [List.take_of_length_le (by simp)]; simp
      · rw [if_neg q, List.drop_of_length_le (by simp; lia)]; rfl
    | some j =>
      intro hc
      simp only [Option.map] at hc ⊢
      obtain ⟨h1, h2, h3⟩ := hc
      rw [h3]
      have e0 : (if d < j then [(text.extract d j).toList] else []).flatten = (text.extract d j).toList := by
        split
        · simp
        · have : j = d := by lia
          subst this; simp
      rw [List.flatten_append, List.flatten_cons, e0, sub1 text k (j + 1) (by lia) (by lia)]
noncomputable def qd (x : List Nat) : List Nat := stf true (nrm x)
theorem subL2 (x : List Nat) : subL fnd2 x [13, 10] = nrm x := by
  unfold subL
  rw [sub2 _ _ _ (by simp) (by simp)]; simp
theorem subL1 (x : List Nat) : subL fnd1 x [46, 46] = stf true x := by
  unfold subL
  rw [sub1 _ _ _ (by simp) (by simp)]; simp [bol]
theorem nrm_len : ∀ (n : Nat) (x : List Nat), x.length < n → (nrm x).length ≤ 2 * x.length
  | 0, x, h => absurd h (Nat.not_lt_zero _)
  | n + 1, [], h => Nat.zero_le _
  | n + 1, c :: r, h => by
    rw [nrm_cons]
    split
    · cases r with
      | nil => simp
      | cons d r =>
        simp only []
        split
        · have := nrm_len n r (by simp at h; lia)
          simp; lia
        · have := nrm_len n (d :: r) (by simp at h ⊢; lia)
          simp at this ⊢; lia
    · have := nrm_len n r (by simp at h; lia)
      split <;> simp <;> lia
theorem stf_len : ∀ (b : Bool) (x : List Nat), (stf b x).length ≤ 2 * x.length
  | b, [] => Nat.zero_le _
  | b, c :: r => by
    have := stf_len (c == 10) r
    rw [stf]
    split <;> simp <;> lia
theorem qd_spec (call : Value → List AV → Hp → Option (AV × Hp)) {hp : Hp} (x : List Nat) (hx : x.length ≤ 5000) (hb : hp.all (belowO hp.length) = true) :
    runFn (l1G call) l1d_quotedata [.str x] hp = some (.str (qd x), hp) := by
  have n1 := nrm_len _ x (Nat.lt_succ_self _)
  have n2 := stf_len true (nrm x)
  have r2 : (l1G call).re (.ref 83) [13, 10] x = some (nrm x) := by
    show l1re _ _ _ = _
    unfold l1re
    rw [if_pos ⟨by lia, by decide, by decide⟩, if_neg (by intro h; cases h), if_pos rfl, ← subL2]; rfl
  have r1 : (l1G call).re (.ref 78) [46, 46] (nrm x) = some (qd x) := by
    show l1re _ _ _ = _
    unfold l1re
    rw [if_pos ⟨by lia, by decide, by decide⟩, if_pos rfl]
    show some (subL fnd1 _ _) = _
    rw [subL1]; rfl
  have close := close_ex (v := .str (qd x)) (hp' := hp) rfl hb (fun g => rfl) []
  rw [List.append_nil] at close
  have sb : ∀ {p : Value} {r y z : List Nat} {hp : Hp}, (l1G call).re p r y = some z → z.length ≤ 100000 → methA (l1G call) hp .sub (.cst p) [.str r, .str y] = some (.str z, hp) := fun {p r y z hp} h hz => by
    show ((((l1G call).re p r y).bind chkS).map fun r => (r, hp)) = _
    rw [h]
    show (chkS z).map _ = _
    rw [show chkS z = some (.str z) from if_pos (by unfold szMax; lia)]; rfl
  exact run_ret rfl (ss_stop (t_ret (e_meth e_glob rfl (es_cons e_str (es_cons (e_meth e_glob rfl (es_cons e_str (es_cons (e_var rfl) es_nil)) (sb r2 (by lia))) es_nil)) (sb r1 (by unfold qd; lia))))) close
end Mine
end
section
set_option genInjectivity false
set_option genSizeOf false
set_option genSizeOfSpec false
namespace Mine
open PySem
noncomputable def iv (l : List Int) : List AV := l.map .int
theorem atIdx_iv (l : List Int) (i : Int) : atIdx (iv l) i = (atIdx l i).map .int := by
  unfold atIdx iv
  simp only [List.length_map, List.getElem?_map]
  by_cases q1 : i.natAbs < 2 ^ 30
  · rw [if_pos q1, if_pos q1]
    by_cases q2 : 0 ≤ i
    · rw [if_pos q2, if_pos q2]
    · rw [if_neg q2, if_neg q2]
      by_cases q3 : 0 ≤ i + l.length
      · rw [if_pos q3, if_pos q3]
      · rw [if_neg q3, if_neg q3]; rfl
  · rw [if_neg q1, if_neg q1]; rfl
noncomputable def dueStep (size steps still young : Int) (D M : List Int) (m : Int) : Option (List Int × List Int × Int) :=
  (atIdx M (-1)).bind fun last => (if m > last then (atIdx D m).map (· + 1) else some young).bind fun v => (atIdx (M ++ [m]) m).bind fun w1 => (atIdx (M ++ [m]) w1).bind fun w2 =>
    if w1 < size then some (D ++ [v], M ++ [m], ((D ++ [v]).length : Int) - size - (((cut (D ++ [v]) (clipAt (D ++ [v]).length 1) (clipAt (D ++ [v]).length (m + 1))).filter fun x => decide (x > 2)).length : Int))
    else (atIdx [m, w1, w2] (steps - 1)).map fun w => (D ++ [v], M ++ [m], ((D ++ [v]).length : Int) - still - w)
noncomputable def dueW (count size steps still young : Int) : Nat → List Int → List Int → Int → Option (List Int × List Int)
  | 0, _, _, _ => none
  | n + 1, D, M, m => if m ≤ count then (dueStep size steps still young D M m).bind fun p => dueW count size steps still young n p.1 p.2.1 p.2.2 else some (D, M)
noncomputable def dueAll (herd : List Int) (count young : Int) : Option (List Int × List Int) :=
  dueW count herd.length (4 - young) ((4 - young) * herd.length - ((herd.filter fun x => decide (x < 3)).map fun x => 3 - x).sum) young 60 (0 :: herd) (List.replicate (herd.length + 1) 0) 1
noncomputable def dueC : ME := .cmp .LtE (.var 5) (.var 1)
noncomputable def dueB : List MS := [.expr (.meth .append (.var 6) [.ite (.cmp .Gt (.var 5) (.idx (.var 7) (.int (-1)))) (.bin .Add (.idx (.var 6) (.var 5)) (.int 1)) (.var 2)]), .expr (.meth .append (.var 7) [.var 5]), .assign 9 (.frz (.lDisp [.var 5, .idx (.var 7) (.var 5), .idx (.var 7) (.idx (.var 7) (.var 5))])), .ite (.cmp .Lt (.idx (.var 9) (.int 1)) (.var 3)) [.assign 5 (.bin .Sub (.bin .Sub (.len (.var 6)) (.var 3)) (.len (.frz (.lComp (.var 0) (some (.cmp .Gt (.var 0) (.int 2))) none (.sVal (.slice (.var 6) (some (.int 1)) (some (.bin .Add (.var 5) (.int 1))))) []))))] [.assign 5 (.bin .Sub (.bin .Sub (.len (.var 6)) (.var 8)) (.idx (.var 9) (.bin .Sub (.var 4) (.int 1))))]]
theorem due_body : l1ms__law_due = [.unpack [3, 4, 5] (.tuple [.len (.var 0), .bin .Sub (.int 4) (.var 2), .int 1]), .unpack [6, 7] (.tuple [.mut (.lAdd (.frz (.lDisp [.int 0])) (.var 0)), .mut (.lMul (.frz (.lDisp [.int 0])) (.bin .Add (.var 3) (.int 1)))]), .assign 8 (.bin .Sub (.bin .Mult (.var 4) (.var 3)) (.sum (.frz (.lComp (.bin .Sub (.int 3) (.var 0)) (some (.cmp .Lt (.var 0) (.int 3))) none (.sVal (.var 0)) [])))), .while dueC dueB, .ret (.tuple [.var 6, .var 7])] := rfl
section
variable {G : Gl}
theorem iv_len (l : List Int) : (iv l).length = l.length := List.length_map _
theorem iv_ap (l : List Int) (x : Int) : iv l ++ [.int x] = iv (l ++ [x]) := by unfold iv; rw [List.map_append]; rfl
theorem at_iv {l : List Int} {i v : Int} (h : atIdx l i = some v) : atIdx (iv l) i = some (.int v) := by rw [atIdx_iv, h]; rfl
theorem cut_iv (l : List Int) (a b : Nat) : cut (iv l) a b = iv (cut l a b) := by unfold cut iv; rw [List.map_take, List.map_drop]
theorem cut_len (l : List Int) (a b : Nat) : (cut l a b).length ≤ l.length := by
  unfold cut; rw [List.length_take, List.length_drop]; exact Nat.le_trans (Nat.min_le_right _ _) (Nat.sub_le _ _)
theorem ap_len (l : List Int) (x : Int) : (l ++ [x]).length = l.length + 1 := List.length_append
noncomputable abbrev envD (herd : List Int) (count young size steps m still : Int) (z : Option AV) : Env' := [some (.lst (iv herd)), some (.int count), some (.int young), some (.int size), some (.int steps), some (.int m), some (.ref 0), some (.ref 1), some (.int still), z]
structure DD where
  herd : List Int
  count : Int
  young : Int
  size : Int
  steps : Int
  still : Int
noncomputable def DD.env (c : DD) (m : Int) (z : Option AV) : Env' := envD c.herd c.count c.young c.size c.steps m c.still z
noncomputable def dH (D M : List Int) : Hp := [.list (iv D), .list (iv M)]
section
variable {c : DD} {D M : List Int} {m v : Int} {z : Option AV}
theorem due_e1 {last : Int} (h1 : atIdx M (-1) = some last) (h2 : (if m > last then (atIdx D m).map (· + 1) else some c.young) = some v) :
    evE G (.ite (.cmp .Gt (.var 5) (.idx (.var 7) (.int (-1)))) (.bin .Add (.idx (.var 6) (.var 5)) (.int 1)) (.var 2)) (c.env m z) (dH D M) = some (.int v, dH D M) := by
  have e : evC G (.cmp .Gt (.var 5) (.idx (.var 7) (.int (-1)))) (c.env m z) (dH D M) = some (decide (m > last), dH D M) := c_cmp (e_var (v := .int m) rfl) (e_idx (e_var (v := .ref 1) rfl) e_int (at_iv h1)) rfl
  by_cases q : m > last
  · obtain ⟨d, h5, rfl⟩ := mapp_inv (if_t q h2)
    rw [decide_eq_true q] at e
    exact e_ite_t e (e_bin (e_idx (e_var (v := .ref 0) rfl) (e_var (v := .int m) rfl) (at_iv h5)) e_int rfl)
  · obtain rfl := some_inv (if_f q h2)
    rw [decide_eq_false q] at e
    exact e_ite_f e (e_var rfl)
theorem due_e2 (hD : D.length ≤ 1000) (e1 : evE G (.ite (.cmp .Gt (.var 5) (.idx (.var 7) (.int (-1)))) (.bin .Add (.idx (.var 6) (.var 5)) (.int 1)) (.var 2)) (c.env m z) (dH D M) = some (.int v, dH D M)) :
    evS G (.expr (.meth .append (.var 6) [.ite (.cmp .Gt (.var 5) (.idx (.var 7) (.int (-1)))) (.bin .Add (.idx (.var 6) (.var 5)) (.int 1)) (.var 2)])) (c.env m z) (dH D M) = some (.next, c.env m z, dH (D ++ [v]) M) := by
  unfold dH
  rw [← iv_ap]
  exact t_expr (r := .none) (e_meth (e_var (v := .ref 0) rfl) (r_append rfl) (es_cons e1 es_nil) (m_append rfl (Nat.le_trans (Nat.le_of_eq (iv_len D)) (Nat.le_trans hD (by decide)))))
theorem due_e3 (hM : M.length ≤ 1000) : evS G (.expr (.meth .append (.var 7) [.var 5])) (c.env m z) (dH D M) = some (.next, c.env m z, dH D (M ++ [m])) := by
  unfold dH
  rw [← iv_ap M]
  exact t_expr (r := .none) (e_meth (e_var (v := .ref 1) rfl) (r_append rfl) (es_cons (e_var rfl) es_nil) (m_append rfl (Nat.le_trans (Nat.le_of_eq (iv_len M)) (Nat.le_trans hM (by decide)))))
theorem due_e4 {w1 w2 : Int} (h3 : atIdx M m = some w1) (h4 : atIdx M w1 = some w2) :
    evS G (.assign 9 (.frz (.lDisp [.var 5, .idx (.var 7) (.var 5), .idx (.var 7) (.idx (.var 7) (.var 5))]))) (c.env m z) (dH D M) = some (.next, c.env m (some (.lst (iv [m, w1, w2]))), dH D M) :=
  have e7 : evE G (.idx (.var 7) (.var 5)) (c.env m z) (dH D M) = some (.int w1, dH D M) := e_idx (e_var (v := .ref 1) rfl) (e_var (v := .int m) rfl) (at_iv h3)
  t_assign (v := .lst (iv [m, w1, w2])) (e_frz (l_disp (es_cons (e_var (v := .int m) rfl) (es_cons e7 (es_cons (e_idx (e_var (v := .ref 1) rfl) e7 (at_iv h4)) es_nil))) (show 3 ≤ 1000 by decide)))
theorem due_len (hD : D.length ≤ 1001) : evE G (.len (.var 6)) (c.env m z) (dH D M) = some (.int (D.length : Nat), dH D M) :=
  e_len (e_var (v := .ref 0) rfl) (congrArg some (iv_len D)) (Nat.le_trans hD (by decide))
theorem due_sum (hD : D.length ≤ 1001) : evE G (.len (.frz (.lComp (.var 0) (some (.cmp .Gt (.var 0) (.int 2))) none (.sVal (.slice (.var 6) (some (.int 1)) (some (.bin .Add (.var 5) (.int 1))))) []))) (c.env m z) (dH D M) = some (.int (((cut D (clipAt D.length 1) (clipAt D.length (m + 1))).filter fun x => decide (x > 2)).length : Nat), dH D M) := by
  have hlen := cut_len D (clipAt D.length 1) (clipAt D.length (m + 1))
  have hfl := List.length_filter_le (fun x => decide (x > 2)) (cut D (clipAt D.length 1) (clipAt D.length (m + 1)))
  have sl : sliceA (dH D M) (.ref 0) (some (.int 1)) (some (.int (m + 1))) = some (.lst (iv (cut D (clipAt D.length 1) (clipAt D.length (m + 1))))) := by
    rw [← cut_iv, ← iv_len D]
    exact slice_r rfl rfl rfl (Nat.le_trans (Nat.le_of_eq (iv_len D)) (Nat.le_trans hD (by decide)))
  have cl := comp_flt (hp := dH D M) (c := fun ρ hp => evOC G (some (.cmp .Gt (.var 0) (.int 2))) ρ hp) (f := fun ρ hp => evE G (.var 0) ρ hp) (caps := []) AV.int (fun x => decide (x > 2)) AV.int (fun i => c_cmp (e_var rfl) e_int rfl) (cut D (clipAt D.length 1) (clipAt D.length (m + 1))) (fun i _ _ => e_var rfl)
  exact e_len (e_frz (l_comp (s_val (e_slice (e_var (v := .ref 0) rfl) (o_some e_int) (o_some (e_bin (e_var (v := .int m) rfl) e_int rfl)) sl) rfl) (Nat.le_trans (Nat.le_of_eq (iv_len _)) (Nat.le_trans hlen (Nat.le_trans hD (by decide)))) cl)) (congrArg some (iv_len _)) (Nat.le_trans hfl (Nat.le_trans hlen (Nat.le_trans hD (by decide))))
end
theorem due_step {c : DD} {m m' : Int} {D M D' M' : List Int} (z : Option AV) (hD : D.length ≤ 1000) (hM : M.length ≤ 1000) (h : dueStep c.size c.steps c.still c.young D M m = some (D', M', m')) :
    ∃ z', evSs G dueB (c.env m z) (dH D M) = some (.next, c.env m' z', dH D' M') ∧ D'.length = D.length + 1 ∧ M'.length = M.length + 1 := by
  obtain ⟨last, h1, h⟩ := bind_inv h
  obtain ⟨v, h2, h⟩ := bind_inv h
  obtain ⟨w1, h3, h⟩ := bind_inv h
  obtain ⟨w2, h4, h⟩ := bind_inv h
  have lD := ap_len D v
  have lD' : (D ++ [v]).length ≤ 1001 := lD ▸ Nat.succ_le_succ hD
  have e : evC G (.cmp .Lt (.idx (.var 9) (.int 1)) (.var 3)) (c.env m (some (.lst (iv [m, w1, w2])))) (dH (D ++ [v]) (M ++ [m])) = some (decide (w1 < c.size), dH (D ++ [v]) (M ++ [m])) := c_cmp (e_idx (e_var (v := .lst (iv [m, w1, w2])) rfl) e_int rfl) (e_var (v := .int c.size) rfl) rfl
  refine ⟨some (.lst (iv [m, w1, w2])), ?_⟩
  by_cases q : w1 < c.size
  · obtain ⟨rfl, rfl, rfl⟩ := tri_inv (if_t q h)
    rw [decide_eq_true q] at e
    exact ⟨ss_next (due_e2 hD (due_e1 h1 h2)) (ss_next (due_e3 hM) (ss_next (due_e4 h3 h4) (ss_one (t_ite_t e (ss_one (t_assign (v := .int _) (e_bin (e_bin (x := .int _) (due_len lD') (e_var (v := .int c.size) rfl) rfl) (due_sum lD') rfl))))))), lD, ap_len M m⟩
  · obtain ⟨w, h6, h7⟩ := mapp_inv (if_f q h)
    obtain ⟨rfl, h8⟩ := Prod.mk.inj h7
    obtain ⟨rfl, rfl⟩ := Prod.mk.inj h8
    rw [decide_eq_false q] at e
    exact ⟨ss_next (due_e2 hD (due_e1 h1 h2)) (ss_next (due_e3 hM) (ss_next (due_e4 h3 h4) (ss_one (t_ite_f e (ss_one (t_assign (v := .int _) (e_bin (e_bin (x := .int _) (due_len lD') (e_var (v := .int c.still) rfl) rfl) (e_idx (e_var (v := .lst (iv [m, w1, w2])) rfl) (e_bin (e_var (v := .int c.steps) rfl) e_int rfl) (at_iv h6)) rfl))))))), lD, ap_len M m⟩
theorem due_loop {c : DD} : ∀ (k n : Nat) (m : Int) (z : Option AV) (D M D' M' : List Int), k ≤ n → D.length + k ≤ 1000 → M.length + k ≤ 1000 → dueW c.count c.size c.steps c.still c.young k D M m = some (D', M') →
    ∃ z' m', whileN (fun ρ hp => evC G dueC ρ hp) (fun ρ hp => evSs G dueB ρ hp) n (c.env m z) (dH D M) = some (.next, c.env m' z', dH D' M')
  | 0, n, m, z, D, M, D', M', hk, hD, hM, h => nomatch h
  | k + 1, 0, m, z, D, M, D', M', hk, hD, hM, h => absurd hk (Nat.not_succ_le_zero _)
  | k + 1, n + 1, m, z, D, M, D', M', hk, hD, hM, h => by
    have ec : evC G dueC (c.env m z) (dH D M) = some (decide (m ≤ c.count), dH D M) := rfl
    have h : (if m ≤ c.count then (dueStep c.size c.steps c.still c.young D M m).bind fun p => dueW c.count c.size c.steps c.still c.young k p.1 p.2.1 p.2.2 else some (D, M)) = _ := h
    by_cases q : m ≤ c.count
    · rw [decide_eq_true q] at ec
      obtain ⟨⟨D1, M1, m1⟩, hs, h1⟩ := bind_inv (if_t q h)
      obtain ⟨z1, e1, l1, l2⟩ := due_step (G := G) z (Nat.le_trans (Nat.le_add_right _ _) hD) (Nat.le_trans (Nat.le_add_right _ _) hM) hs
      obtain ⟨z', m', e2⟩ := due_loop k n m1 z1 D1 M1 D' M' (Nat.le_of_succ_le_succ hk) (l1 ▸ Nat.le_trans (Nat.le_of_eq (Nat.succ_add_eq_add_succ _ _)) hD) (l2 ▸ Nat.le_trans (Nat.le_of_eq (Nat.succ_add_eq_add_succ _ _)) hM) h1
      exact ⟨z', m', w_go ec e1 e2⟩
    · rw [decide_eq_false q] at ec
      obtain ⟨rfl, rfl⟩ := pair_inv (if_f q h)
      exact ⟨z, m, w_stop ec⟩
theorem fzs_iv (f : AV → Option AV) (hf : ∀ i, f (.int i) = some (.int i)) (l : List Int) : fzs f (iv l) = some (iv l) := fzs_ints f hf l
theorem due_spec (g : GDict G) (herd : List Int) (count young : Int) (D M : List Int) (hh : herd.length ≤ 10) (hy : young.natAbs ≤ 100) (h : dueAll herd count young = some (D, M)) :
    runFn G l1d__law_due [.lst (iv herd), .int count, .int young] [] = some (.tup [.lst (iv D), .lst (iv M)], []) := by
  have l1 : ∀ l : List Int, (iv l).length = l.length := fun l => by simp [iv]
  obtain ⟨z', m', e⟩ := due_loop (G := G) (c := ⟨herd, count, young, herd.length, 4 - young, (4 - young) * herd.length - ((herd.filter fun x => decide (x < 3)).map fun x => 3 - x).sum⟩) 60 1000000 1 none (0 :: herd) (List.replicate (herd.length + 1) 0) D M (by lia) (by simp; lia) (by simp; lia) h
  have cl := comp_flt (hp := [.list (iv (0 :: herd)), .list (iv (List.replicate (herd.length + 1) 0))]) (c := fun ρ hp => evOC G (some (.cmp .Lt (.var 0) (.int 3))) ρ hp) (f := fun ρ hp => evE G (.bin .Sub (.int 3) (.var 0)) ρ hp) (caps := []) AV.int (fun x => decide (x < 3)) (fun x => AV.int (3 - x)) (fun i => c_cmp (e_var rfl) e_int rfl) herd (fun i _ _ => e_bin e_int (e_var rfl) rfl)
  have ints2 : intsA (((herd.filter fun x => decide (x < 3))).map fun x => AV.int (3 - x)) = some ((herd.filter fun x => decide (x < 3)).map fun x => 3 - x) := by
    generalize (herd.filter fun x => decide (x < 3)) = l
    induction l with
    | nil => rfl
    | cons a l ih => show (intsA (l.map fun x => AV.int (3 - x))).map _ = _; rw [ih]; rfl
  have hrep : rep (((herd.length : Nat) : Int) + 1).toNat [AV.int 0] = iv (List.replicate (herd.length + 1) 0) := by
    rw [show (((herd.length : Nat) : Int) + 1).toNat = herd.length + 1 by lia]
    generalize herd.length + 1 = n
    unfold rep iv
    induction n with
    | zero => rfl
    | succ n ih => simp [List.replicate_succ] at ih ⊢
  have body : evSs G l1ms__law_due [some (.lst (iv herd)), some (.int count), some (.int young), none, none, none, none, none, none, none] [] = some (.ret (.tup [.ref 0, .ref 1]), envD herd count young herd.length (4 - young) m' ((4 - young) * herd.length - ((herd.filter fun x => decide (x < 3)).map fun x => 3 - x).sum) z', [.list (iv D), .list (iv M)]) := by
    rw [due_body]
    refine ss_next (t_unpack (e_tuple (es_cons (e_len (e_var rfl) (show lenA [] _ = some herd.length by simp [lenA, items, l1]) (by lia)) (es_cons (e_bin e_int (e_var rfl) rfl) (es_cons e_int es_nil))) (by simp)) rfl) ?_
    refine ss_next (t_unpack (e_tuple (es_cons (e_mut (l_add (e_frz (l_disp (es_cons e_int es_nil) (by simp))) (e_var rfl) rfl rfl (by rw [l1]; simp; lia))) (es_cons (e_mut (l_mul (e_frz (l_disp (es_cons e_int es_nil) (by simp))) (e_bin (e_var rfl) e_int rfl) rfl (by simp) (by lia))) es_nil)) (by simp)) rfl) ?_
    rw [hrep]
    refine ss_next (t_assign (e_bin (e_bin (e_var rfl) (e_var rfl) (show binA .Mult (.int (4 - young)) (.int herd.length) = some (.int ((4 - young) * herd.length)) from if_pos (by lia))) (e_sum (e_frz (l_comp (s_val (e_var rfl) rfl) (by rw [l1]; lia) cl)) rfl ints2) rfl)) ?_
    refine ss_next (t_while (by rw [g.n]; exact e)) ?_
    exact ss_stop (t_ret (e_tuple (es_cons (e_var rfl) (es_cons (e_var rfl) es_nil)) (by simp)))
  refine run_ret rfl body ?_
  have f1 := fzs_iv (fz [.list (iv D), .list (iv M)] 0 4) (fun i => rfl) D
  have f2 := fzs_iv (fz [.list (iv D), .list (iv M)] 0 4) (fun i => rfl) M
  refine close_keep (hp := []) rfl rfl ?_
  show (((fzs (fz [.list (iv D), .list (iv M)] 0 4) (iv D)).map AV.lst).bind fun d => (((fzs (fz [.list (iv D), .list (iv M)] 0 4) (iv M)).map AV.lst).bind fun e => (some []).map fun ds => e :: ds).map fun ds => d :: ds).map AV.tup = _
  rw [f1, f2]
  rfl
end
noncomputable def gr (young : Nat) : Nat → Nat → List (Nat × Nat) → List (Nat × Nat)
  | 0, _, A => A
  | k + 1, n, A => match A[n - 1]? with
    | none => A
    | some (d, _) => gr young k (n + 1) (A ++ (d + 1, n) :: (if 2 < d then [(young, n)] else []))
noncomputable def herdOf (herd : List Nat) (young : Nat) : List (Nat × Nat) := gr young (3 * herd.length + 4) 1 (herd.map fun d => (d, 0))
noncomputable def dueB1 (herd : List Nat) (young : Nat) : Bool :=
  let A := herdOf herd young
  dueAll (herd.map fun (d : Nat) => (d : Int)) (3 * herd.length + 4 : Nat) young == some (0 :: A.map fun p => (p.1 : Int), List.replicate (herd.length + 1) 0 ++ (A.drop herd.length).map fun p => (p.2 : Int)) && decide (A.length ≤ 40) && A.all (fun p => decide (1 ≤ p.1 ∧ p.1 ≤ 30)) && decide (3 * herd.length + 4 ≤ A.length)
end Mine
end
section
namespace Mine
open PySem
noncomputable def up7 : List Nat := [1, 2, 3, 4, 5, 6, 7]
theorem due_chk1 : (up7.all fun a => [1, 2, 3].all fun y => dueB1 [a] y) = true := by decide +kernel
theorem due_chk2 : (up7.all fun a => up7.all fun b => [1, 2, 3].all fun y => dueB1 [a, b] y) = true := by decide +kernel
noncomputable def chk3 (a : Nat) : Bool := up7.all fun b => up7.all fun c => [1, 2, 3].all fun y => dueB1 [a, b, c] y
theorem due_chk3_1 : chk3 1 = true := by decide +kernel
theorem due_chk3_2 : chk3 2 = true := by decide +kernel
theorem due_chk3_3 : chk3 3 = true := by decide +kernel
theorem due_chk3_4 : chk3 4 = true := by decide +kernel
theorem due_chk3_5 : chk3 5 = true := by decide +kernel
theorem due_chk3_6 : chk3 6 = true := by decide +kernel
theorem due_chk3_7 : chk3 7 = true := by decide +kernel
theorem mem_up7 {d : Nat} (h : 1 ≤ d ∧ d ≤ 7) : d ∈ up7 := (by decide : ∀ d, d < 8 → 1 ≤ d → d ∈ up7) d (Nat.lt_succ_of_le h.2) h.1
theorem chk3_all : ∀ a ∈ up7, chk3 a = true :=
  List.forall_mem_cons.mpr ⟨due_chk3_1, List.forall_mem_cons.mpr ⟨due_chk3_2, List.forall_mem_cons.mpr ⟨due_chk3_3, List.forall_mem_cons.mpr ⟨due_chk3_4, List.forall_mem_cons.mpr ⟨due_chk3_5, List.forall_mem_cons.mpr ⟨due_chk3_6, List.forall_mem_cons.mpr ⟨due_chk3_7, fun _ h => nomatch h⟩⟩⟩⟩⟩⟩⟩
theorem due_ok {herd : List Nat} {y : Nat} (h1 : 1 ≤ herd.length) (h2 : herd.length ≤ 3) (h3 : ∀ d ∈ herd, 1 ≤ d ∧ d ≤ 7) (h4 : 1 ≤ y ∧ y ≤ 3) : dueB1 herd y = true := by
  have hy : y ∈ [1, 2, 3] := (by decide : ∀ y, y < 4 → 1 ≤ y → y ∈ [1, 2, 3]) y (Nat.lt_succ_of_le h4.2) h4.1
  have h3' : ∀ d ∈ herd, d ∈ up7 := fun d hd => mem_up7 (h3 d hd)
  clear h3
  cases herd with
  | nil => exact absurd h1 (by decide)
  | cons a r =>
    obtain ⟨ha, h3'⟩ := List.forall_mem_cons.mp h3'
    cases r with
    | nil => exact List.all_eq_true.mp (List.all_eq_true.mp due_chk1 a ha) y hy
    | cons b r =>
      obtain ⟨hb, h3'⟩ := List.forall_mem_cons.mp h3'
      cases r with
      | nil => exact List.all_eq_true.mp (List.all_eq_true.mp (List.all_eq_true.mp due_chk2 a ha) b hb) y hy
      | cons c r =>
        obtain ⟨hc, _⟩ := List.forall_mem_cons.mp h3'
        cases r with
        | nil => exact List.all_eq_true.mp (List.all_eq_true.mp (List.all_eq_true.mp (chk3_all a ha) b hb) c hc) y hy
        | cons d r => exact absurd h2 (Nat.not_le.mpr (Nat.le_add_left 4 _))
end Mine
end
section
namespace Mine
open PySem
noncomputable def okc (c : Nat) : Prop := wsB c = false ∧ c ≠ 34 ∧ c ≠ 92 ∧ c ≠ 10 ∧ c ≠ 13 ∧ c < 128
noncomputable def okt (x : List Nat) : Prop := ∀ c ∈ x, okc c
theorem okt.append {x y : List Nat} (h : okt x) (k : okt y) : okt (x ++ y) := fun c hc => (List.mem_append.mp hc).elim (h c) (k c)
theorem okc46 : okc 46 := by unfold okc wsB; decide
theorem okt_dots (n : Nat) : okt (List.replicate n 46) := fun c hc => by rw [List.eq_of_mem_replicate hc]; exact okc46
theorem okt.plain {x : List Nat} (h : okt x) : plain x := fun c hc => ⟨(h c hc).2.2.2.1, (h c hc).2.2.2.2.1⟩
theorem nl_ne {c : Nat} (h : c ≠ 10) : nl [c] = 0 := by unfold nl; rw [if_neg (by simpa using h)]
theorem lx3_tok {e : Nat} (he : wsB e = true) (rest : List Nat) : ∀ (x tok : List Nat) (ln : Int), okt x → lx3 (x ++ e :: rest) tok ln = (true, tok ++ x, ln + nl [e], rest)
  | [], tok, ln, _ => by rw [List.nil_append, lx3_cons, if_pos he, List.append_nil]
  | c :: x, tok, ln, h => by
    have hc := h c (.head _)
    rw [List.cons_append, lx3_cons, if_neg (by rw [hc.1]; decide), if_neg hc.2.2.1, nl_ne hc.2.2.2.1, lx3_tok he rest x _ _ (fun d hd => h d (.tail _ hd))]
    simp
theorem lx1_tok {e : Nat} (he : wsB e = true) (rest x : List Nat) (ln : Int) (h : okt x) (hx : x ≠ []) : lx1 (x ++ e :: rest) ln = (x, ln + nl [e], rest) := by
  cases x with
  | nil => exact absurd rfl hx
  | cons c x =>
    have hc := h c (.head _)
    rw [List.cons_append, lx1_cons, if_neg (by rw [hc.1]; decide), if_neg hc.2.1, if_neg hc.2.2.1, nl_ne hc.2.2.2.1, lx3_tok he rest x _ _ (fun d hd => h d (.tail _ hd))]
    simp
theorem lx1_ws {c : Nat} (h : wsB c = true) (L : List Nat) (ln : Int) : lx1 (c :: L) ln = lx1 L (ln + nl [c]) := by rw [lx1_cons, if_pos h]
noncomputable def cnt10 (x : List Nat) : Int := (x.map fun c => nl [c]).sum
theorem cnt10_append (x y : List Nat) : cnt10 (x ++ y) = cnt10 x + cnt10 y := by
  unfold cnt10; simp
theorem cnt10_okt {x : List Nat} (h : plain x) : cnt10 x = 0 := by
  unfold cnt10
  induction x with
  | nil => rfl
  | cons c x ih =>
    rw [List.map_cons, List.sum_cons, ih (fun d hd => h d (.tail _ hd)), nl_ne (h c (.head _)).1]; rfl
theorem lx1_skip : ∀ (w : List Nat), (∀ c ∈ w, wsB c = true) → ∀ (L : List Nat) (ln : Int), lx1 (w ++ L) ln = lx1 L (ln + cnt10 w)
  | [], _, L, ln => by simp [cnt10]
  | c :: w, h, L, ln => by
    rw [List.cons_append, lx1_ws (h c (.head _)), lx1_skip w (fun d hd => h d (.tail _ hd))]
    simp [cnt10, Int.add_assoc]
noncomputable def isEnd (e : List Nat) : Prop := e = [10] ∨ e = [13] ∨ e = [13, 10]
theorem nrm_end {e : List Nat} (h : isEnd e) {z : List Nat} (hz : z.head? ≠ some 10) : nrm (e ++ z) = [13, 10] ++ nrm z := by
  rcases h with rfl | rfl | rfl
  · rw [List.cons_append, nrm_cons, if_neg (by decide), if_pos rfl]; rfl
  · cases z with
    | nil => rfl
    | cons d z =>
      have : d ≠ 10 := by simpa using hz
      rw [List.cons_append, List.nil_append, nrm_cons, if_pos rfl]
      simp only []
      rw [if_neg this]; rfl
  · rw [List.cons_append, List.cons_append, nrm_cons, if_pos rfl]; rfl
theorem nrm_end_nil {e : List Nat} (h : isEnd e) : nrm e = [13, 10] := by
  have := nrm_end h (z := []) nofun
  simpa [nrm] using this
theorem stf_crlf (b : Bool) (z : List Nat) : stf b ([13, 10] ++ z) = [13, 10] ++ stf true z := by
  simp [stf]
theorem stf_dot {x : List Nat} (h : plain x) (hx : x.head? = some 46) (z : List Nat) : stf true (x ++ z) = 46 :: x ++ stf false z := by
  cases x with
  | nil => cases hx
  | cons c x =>
    have : c = 46 := by simpa using hx
    subst this
    rw [List.cons_append, stf, show ((46 : Nat) == 10) = false from rfl, stf_false (fun c hc => (h c (.tail _ hc)).1)]
    rfl
theorem plain.append {x y : List Nat} (h : plain x) (k : plain y) : plain (x ++ y) := fun c hc => (List.mem_append.mp hc).elim (h c) (k c)
theorem qd_one {x e : List Nat} (h : plain x) (hx : x.head? = some 46) (he : isEnd e) : qd (x ++ e) = 46 :: x ++ [13, 10] := by
  unfold qd
  rw [nrm_plain h, nrm_end_nil he, stf_dot h hx]; rfl
theorem qd_two {x y e : List Nat} (h : plain x) (hx : x.head? = some 46) (k : plain y) (hy : y.head? = some 46) (he : isEnd e) : qd (x ++ e ++ y ++ e) = (46 :: x ++ [13, 10]) ++ (46 :: y ++ [13, 10]) := by
  have hz : (y ++ e).head? ≠ some 10 := by
    cases y with
    | nil => cases hy
    | cons c y => simp at hy ⊢; lia
  unfold qd
  rw [List.append_assoc, List.append_assoc, nrm_plain h, nrm_end he hz, nrm_plain k, nrm_end_nil he, stf_dot h hx]
  have e1 : stf false ([13, 10] ++ (y ++ [13, 10])) = [13, 10] ++ stf true (y ++ [13, 10]) := stf_crlf _ _
  rw [e1, stf_dot k hy]
  simp [stf]
structure An where
  d : Nat
  s : List Nat
  k : Int
noncomputable def An.tok (a : An) : List Nat := List.replicate a.d 46 ++ a.s
noncomputable def An.syms (a : An) : List Int := List.replicate (a.d / 3) 52 ++ List.replicate (a.d % 3) 23 ++ [a.k, 0]
structure An.Ok (a : An) : Prop where
  d1 : 1 ≤ a.d
  d2 : a.d ≤ 30
  s2 : a.s.length ≤ 3
  cut : cutL 100 a.tok ++ [0] = a.syms
  k52 : a.k ≠ 52
  k23 : a.k ≠ 23
  k0 : a.k ≠ 0
theorem cutL_fuel : ∀ (n m : Nat) (row : List Nat), row.length ≤ n → row.length ≤ m → cutL n row = cutL m row
  | 0, m, row, h1, h2 => by
    have : row = [] := List.eq_nil_of_length_eq_zero (by lia)
    subst this
    cases m <;> simp [cutL]
  | n + 1, 0, row, h1, h2 => by
    have : row = [] := List.eq_nil_of_length_eq_zero (by lia)
    subst this
    simp [cutL]
  | n + 1, m + 1, row, h1, h2 => by
    rw [cutL, cutL]
    by_cases q : row = []
    · rw [if_pos q, if_pos q]
    · rw [if_neg q, if_neg q]
      have hp : 0 < row.length := by cases row <;> simp at q ⊢
      have := (shr_len 3 (row.take 3)).2 (by simp; lia)
      rw [cutL_fuel n m _ (by simp; lia) (by simp; lia)]
theorem cutL_dots3 (n : Nat) (r : List Nat) : cutL (n + 1) (46 :: 46 :: 46 :: r) = 52 :: cutL n r := by
  have e : shr 3 [46, 46, 46] = [46, 46, 46] := by decide +kernel
  have e2 : symOf [46, 46, 46] = 52 := by decide +kernel
  rw [cutL, if_neg (by simp)]
  simp only [List.take_succ_cons, List.take_zero, e, e2]
  rfl
noncomputable def cutOk (s : List Nat) (k : Int) : Bool := cutL 9 s == [k] && cutL 9 (46 :: s) == [23, k] && cutL 9 (46 :: 46 :: s) == [23, 23, k]
theorem cut_dots {s : List Nat} {k : Int} (hs : s.length ≤ 3) (h : cutOk s k = true) : ∀ (q r n : Nat), r < 3 → 3 * q + r + s.length ≤ n → cutL n (List.replicate (3 * q + r) 46 ++ s) = List.replicate q 52 ++ List.replicate r 23 ++ [k]
  | 0, r, n, hr, hn => by
    unfold cutOk at h
    simp only [Bool.and_eq_true, beq_iff_eq] at h
    rw [cutL_fuel n 9 _ (by simp; lia) (by simp; lia)]
    have : r = 0 ∨ r = 1 ∨ r = 2 := by lia
    rcases this with rfl | rfl | rfl
    · exact h.1.1
    · exact h.1.2
    · exact h.2
  | q + 1, r, n, hr, hn => by
    cases n with
    | zero => lia
    | succ n =>
      rw [show 3 * (q + 1) + r = (3 * q + r) + 1 + 1 + 1 by lia]
      simp only [List.replicate_succ, List.cons_append]
      rw [cutL_dots3, cut_dots hs h q r n hr (by lia)]
theorem An.ok_of {a : An} (h1 : 1 ≤ a.d) (h2 : a.d ≤ 30) (hs : a.s.length ≤ 3) (hk : cutOk a.s a.k = true) (k52 : a.k ≠ 52) (k23 : a.k ≠ 23) (k0 : a.k ≠ 0) : a.Ok where
  d1 := h1
  d2 := h2
  s2 := hs
  cut := by
    have := cut_dots hs hk (a.d / 3) (a.d % 3) 100 (by lia) (by lia)
    rw [show 3 * (a.d / 3) + a.d % 3 = a.d by lia] at this
    unfold An.tok An.syms
    rw [this]
    simp
  k52 := k52
  k23 := k23
  k0 := k0
theorem An.Ok.c52 {a : An} (h : a.Ok) : a.syms.count 52 = a.d / 3 := by
  have := h.k52
  unfold An.syms
  simp [List.count_replicate, List.count_cons, this]
theorem An.Ok.c23 {a : An} (h : a.Ok) : a.syms.count 23 = a.d % 3 := by
  have := h.k23
  unfold An.syms
  simp [List.count_replicate, List.count_cons, this]
theorem An.Ok.head {a : An} (h : a.Ok) : ∃ i, a.syms.head? = some i ∧ i ≠ 0 := by
  unfold An.syms
  by_cases q : a.d / 3 = 0
  · by_cases q2 : a.d % 3 = 0
    · have := h.d1; lia
    · refine ⟨23, ?_, by decide⟩
      obtain ⟨m, hm⟩ := Nat.exists_eq_succ_of_ne_zero q2
      rw [q, hm]; rfl
  · refine ⟨52, ?_, by decide⟩
    obtain ⟨m, hm⟩ := Nat.exists_eq_succ_of_ne_zero q
    rw [hm]; rfl
end Mine
end
section
namespace Mine
open PySem
noncomputable def qv (l : List (List Nat)) : List AV := l.map .str
theorem below_qv (n : Nat) (l : List (List Nat)) : belows n (qv l) = true := by rw [belows_all]; simp [qv, below]
noncomputable abbrev HR (m0 m1 : AO) (L : List Nat) (ln : Int) (L2 : List Nat) (ln2 : Int) (q : List (List Nat)) (seen rest : List AV) : Hp :=
  [m0, m1, .list (chs L), .list [], dct 2 3 ln, .list (chs L2), .list (qv q), dct 5 6 ln2, .list seen, .list rest]
structure HROk (m0 m1 : AO) (L L2 : List Nat) (q : List (List Nat)) (seen rest : List AV) : Prop where
  b0 : ∀ n, belowO n m0 = true
  b1 : ∀ n, belowO n m1 = true
  l : okL L
  l2 : okL L2
  q : q.length ≤ 900
  bs : ∀ n, belows n seen = true
  br : ∀ n, belows n rest = true
section
variable {m0 m1 : AO} {L L' L2 : List Nat} {ln ln' ln2 : Int} {q q' : List (List Nat)} {seen rest : List AV}
theorem HROk.bl (h : HROk m0 m1 L L2 q seen rest) : (HR m0 m1 L ln L2 ln2 q seen rest).all (belowO 10) = true := by
  have c1 := below_chs 10 L
  have c2 := below_chs 10 L2
  have c3 := below_qv 10 q
  show (_ :: _ :: _ : Hp).all _ = true
  rw [List.all_cons, h.b0, List.all_cons, h.b1]
  simp only [List.all_cons, List.all_nil, belowO, dct, c1, c2, c3, h.bs, h.br]
  simp [belows, below]
theorem HROk.rdr (h : HROk m0 m1 L L2 q seen rest) : Lx (HR m0 m1 L ln L2 ln2 q seen rest) 4 2 3 ln L [] where
  d := rfl
  l := rfl
  q := rfl
  n1 := by decide
  n2 := by decide
  n3 := by decide
  len := h.l.1
  ch := h.l.2
  bl := h.bl
theorem HROk.lnr (h : HROk m0 m1 L L2 q seen rest) : Lx (HR m0 m1 L ln L2 ln2 q seen rest) 7 5 6 ln2 L2 (qv q) where
  d := rfl
  l := rfl
  q := rfl
  n1 := by decide
  n2 := by decide
  n3 := by decide
  len := h.l2.1
  ch := h.l2.2
  bl := h.bl
noncomputable abbrev GK (k : Nat) : Gl := l1G (l1call (k + 2))
theorem grc (k : Nat) : GRc (l1G (l1call (k + 1))) := ⟨rfl, fun args hp => ⟨l1G (l1call k), rfl⟩, rfl⟩
theorem gdict (k : Nat) : GDict (l1G (l1call k)) := ⟨rfl, rfl, rfl⟩
theorem call_gt (k : Nat) (args : List AV) (hp : Hp) : (GK k).call (.ref 59) args hp = runFn (l1G (l1call (k + 1))) l1d_get_token args hp := rfl
theorem call_pt (k : Nat) (args : List AV) (hp : Hp) : (GK k).call (.ref 66) args hp = runFn (l1G (l1call (k + 1))) l1d_push_token args hp := rfl
theorem call_cut (k : Nat) (args : List AV) (hp : Hp) : (GK k).call (.ref 135) args hp = runFn (l1G (l1call (k + 1))) l1d__law_cut args hp := rfl
theorem it_spec (G : Gl) {hp : Hp} (x : Int) (hb : hp.all (belowO hp.length) = true) : runFn G l1d_ISTERMINAL [.int x] hp = some (.bool (decide (x < 256)), hp) := by
  have := close_ex (v := .bool (decide (x < 256))) (hp' := hp) rfl hb (fun g => rfl) []
  rw [List.append_nil] at this
  exact this
theorem nt_spec (G : Gl) {hp : Hp} (x : Int) (hb : hp.all (belowO hp.length) = true) : runFn G l1d_ISNONTERMINAL [.int x] hp = some (.bool (decide (x ≥ 256)), hp) := by
  have := close_ex (v := .bool (decide (x ≥ 256))) (hp' := hp) rfl hb (fun g => rfl) []
  rw [List.append_nil] at this
  exact this
theorem eof_spec (G : Gl) {hp : Hp} (x : Int) (hb : hp.all (belowO hp.length) = true) : runFn G l1d_ISEOF [.int x] hp = some (.bool (decide (x = 0)), hp) := by
  have := close_ex (v := .bool (decide (x = 0))) (hp' := hp) rfl hb (fun g => rfl) []
  rw [List.append_nil] at this
  exact this
noncomputable def rdS : MS := .expr (.meth (.user (.ref 66)) (.var 7) [.meth (.user (.ref 59)) (.var 6) []])
theorem rd_tok (k : Nat) (h : HROk m0 m1 L L2 q seen rest) {ρ : Env'} (r6 : ρ[6]? = some (some (.inst 4))) :
    evE (GK k) (.meth (.user (.ref 59)) (.var 6) []) ρ (HR m0 m1 L ln L2 ln2 q seen rest) = some (.str (lx1 L ln).1, HR m0 m1 (lx1 L ln).2.2 (lx1 L ln).2.1 L2 ln2 q seen rest) := by
  refine e_meth (e_var r6) rfl es_nil ?_
  show (GK k).call (.ref 59) [.inst 4] _ = _
  rw [call_gt, gt_lex (grc k) h.rdr]
  rfl
theorem HROk.rd (h : HROk m0 m1 L L2 q seen rest) (ln : Int) : HROk m0 m1 (lx1 L ln).2.2 L2 q seen rest :=
  ⟨h.b0, h.b1, h.l.suf (lx1_suf L ln), h.l2, h.q, h.bs, h.br⟩
theorem rd_step (k : Nat) (h : HROk m0 m1 L L2 q seen rest) (hq : q.length ≤ 800) {ρ : Env'} (r6 : ρ[6]? = some (some (.inst 4))) (r7 : ρ[7]? = some (some (.inst 7))) :
    evS (GK k) rdS ρ (HR m0 m1 L ln L2 ln2 q seen rest) = some (.next, ρ, HR m0 m1 (lx1 L ln).2.2 (lx1 L ln).2.1 L2 ln2 (q ++ [(lx1 L ln).1]) seen rest) := by
  refine t_expr (r := .none) (e_meth (e_var r7) rfl (es_cons (rd_tok k h r6) es_nil) ?_)
  show (GK k).call (.ref 66) [.inst 7, .str (lx1 L ln).1] _ = _
  rw [call_pt, pt_spec (h.rd ln).lnr (by simp [qv]; lia) (fun n => below_qv n q)]
  simp [HR, qv]
theorem HROk.push (h : HROk m0 m1 L L2 q seen rest) (hq : q.length ≤ 800) (x : List Nat) : HROk m0 m1 L L2 (q ++ [x]) seen rest :=
  ⟨h.b0, h.b1, h.l, h.l2, by simp; lia, h.bs, h.br⟩
theorem ln_tok (k : Nat) (x : List Nat) (h : HROk m0 m1 L L2 (x :: q) seen rest) {ρ : Env'} (r7 : ρ[7]? = some (some (.inst 7))) :
    evE (GK k) (.meth (.user (.ref 59)) (.var 7) []) ρ (HR m0 m1 L ln L2 ln2 (x :: q) seen rest) = some (.str x, HR m0 m1 L ln L2 ln2 q seen rest) := by
  refine e_meth (e_var r7) rfl es_nil ?_
  show (GK k).call (.ref 59) [.inst 7] _ = _
  rw [call_gt, gt_pop (Q := qv q) (s := x) h.lnr (by have := h.q; simp [qv] at this ⊢; lia) (fun n => below_qv n q)]
  rfl
theorem HROk.pop {x : List Nat} (h : HROk m0 m1 L L2 (x :: q) seen rest) : HROk m0 m1 L L2 q seen rest :=
  ⟨h.b0, h.b1, h.l, h.l2, by have := h.q; simp at this; lia, h.bs, h.br⟩
theorem cut_tok (k : Nat) {a : An} (ha : a.Ok) (h : HROk m0 m1 L L2 (a.tok :: q) seen rest) {ρ : Env'} (r7 : ρ[7]? = some (some (.inst 7))) :
    evE (GK k) (.call (.ref 135) [.meth (.user (.ref 59)) (.var 7) []]) ρ (HR m0 m1 L ln L2 ln2 (a.tok :: q) seen rest) = some (.lst (iv a.syms), HR m0 m1 L ln L2 ln2 q seen rest) := by
  refine e_call (es_cons (ln_tok k _ h r7) es_nil) ?_
  have hl : a.tok.length ≤ 100 := by
    have := ha.d2; have := ha.s2
    unfold An.tok; simp; lia
  rw [call_cut, cut_spec (gdict _) _ hl h.pop.bl, ha.cut]
  rfl
end
end Mine
end
section
namespace Mine
open PySem
noncomputable abbrev ERn (size : Int) (names : List (List Nat)) (calf : List Nat) (apart : Bool) (ends : List (List Nat)) (pl n sy en ow wo se wd : Option AV) : Env' :=
  [some (.ref 2), some (.int size), some (.lst (qv names)), some (.str calf), some (.bool apart), some (.lst (qv ends)), some (.inst 4), some (.inst 7), some (.ref 8), some (.ref 9), pl, n, sy, en, ow, wo, se, wd]
noncomputable def ownOf (a : An) (name : List Nat) : List Nat := List.replicate a.d 46 ++ name
noncomputable def sentOf (a : An) (name calf : List Nat) (apart : Bool) (n : Nat) : List Nat :=
  if a.d ≤ 2 then 46 :: ownOf a name ++ [13, 10]
  else if apart then (46 :: ownOf a name ++ [13, 10]) ++ (46 :: (calf ++ name) ++ [13, 10])
  else 46 :: ownOf a name ++ ([[32, 9].getD (n % 2) 0] ++ (calf ++ name)) ++ [13, 10]
noncomputable def newOf (a : An) (name calf : List Nat) (apart : Bool) : List (List Nat) :=
  (46 :: ownOf a name) :: (if a.d ≤ 2 then [] else [if apart then 46 :: (calf ++ name) else calf ++ name])
structure NameOk (x : List Nat) : Prop where
  t : okt x
  len : x.length ≤ 3
section
variable {m0 m1 : AO} {L L2 R : List Nat} {ln ln2 : Int} {q : List (List Nat)} {seen rest : List AV}
theorem iv_int (l : List Int) (i : Int) : countA [] (.lst (iv l)) (.int i) = some (.int (l.count i)) := by
  have : intsA (iv l) = some l := by
    induction l with
    | nil => rfl
    | cons a l ih => show (intsA (iv l)).map _ = _; rw [ih]; rfl
  show (intsA (iv l)).map _ = _
  rw [this]; rfl
theorem count_iv (hp : Hp) (l : List Int) (i : Int) (G : Gl) : methA G hp .count (.lst (iv l)) [.int i] = some (.int (l.count i), hp) := by
  have : countA hp (.lst (iv l)) (.int i) = some (.int (l.count i)) := iv_int l i
  show (countA hp (.lst (iv l)) (.int i)).map _ = _
  rw [this]; rfl
theorem rep_dots (n : Nat) : rep n [46] = List.replicate n 46 := by
  unfold rep
  induction n with
  | zero => rfl
  | succ n ih => rw [List.replicate_succ, List.flatten_cons, ih]; rfl
theorem idx_qv (hp : Hp) (l : List (List Nat)) (n : Nat) (x : List Nat) (hn : n < 1000) (h : l[n]? = some x) : idxA hp (.lst (qv l)) (.int n) = some (.str x) := by
  show atIdx (qv l) n = _
  unfold atIdx
  rw [if_pos (by lia), if_pos (by lia)]
  simp [qv, h]
theorem fmod_nat (n k : Nat) (hk : 0 < k) : (n : Int).fmod (k : Int) = ((n % k : Nat) : Int) := by
  rw [Int.fmod_eq_emod_of_nonneg _ (by lia)]; rfl
end
noncomputable def wordsB : List MS := [.assign 14 (.bin .Add (.bin .Mult (.str [46]) (.bin .Add (.bin .Mult (.int 3) (.meth .count (.var 12) [.int 52])) (.meth .count (.var 12) [.int 23]))) (.idx (.var 2) (.var 11))), .assign 15 (.ite (.cmp .Is (.call (.ref 100) [.bin .Add (.int 255) (.meth .count (.var 12) [.int 52])]) (.bool true)) (.frz (.lDisp [.var 14])) (.frz (.lDisp []))), .ite (.cmp .Is (.call (.ref 107) [.bin .Add (.int 255) (.meth .count (.var 12) [.int 52])]) (.bool true)) [.assign 15 (.frz (.lAdd (.var 15) (.frz (.lDisp [.var 14, .bin .Add (.var 3) (.idx (.var 2) (.var 11))]))))] [], .assign 16 (.call (.ref 90) [.bin .Add (.meth .join (.ite (.var 4) (.var 13) (.idx (.str [32, 9]) (.bin .Mod (.var 11) (.int 2)))) [.var 15]) (.var 13)])]
structure RD where
  k : Nat
  ends : List (List Nat)
  names : List (List Nat)
  calf : List Nat
  apart : Bool
  size : Int
  m0 : AO
  m1 : AO
  L2 : List Nat
  ln2 : Int
  rest : List AV
namespace RD
variable (c : RD)
noncomputable def er (pl n sy en ow wo se wd : Option AV) : Env' := ERn c.size c.names c.calf c.apart c.ends pl n sy en ow wo se wd
noncomputable def hp (L : List Nat) (ln : Int) (q : List (List Nat)) (seen : List AV) : Hp := HR c.m0 c.m1 L ln c.L2 c.ln2 q seen c.rest
noncomputable def Ok (L : List Nat) (q : List (List Nat)) (seen : List AV) : Prop := HROk c.m0 c.m1 L c.L2 q seen c.rest
end RD
structure WD where
  c : RD
  a : An
  name : List Nat
  e : List Nat
  n : Nat
  L : List Nat
  ln : Int
  q : List (List Nat)
  seen : List AV
  pl : Option AV
  wd : Option AV
namespace WD
variable (w : WD)
noncomputable def E (ow wo se : Option AV) : Env' := w.c.er w.pl (some (.int (w.n : Int))) (some (.lst (iv w.a.syms))) (some (.str w.e)) ow wo se w.wd
noncomputable def H : Hp := w.c.hp w.L w.ln w.q w.seen
noncomputable def own : List Nat := ownOf w.a w.name
noncomputable def sent : List Nat := sentOf w.a w.name w.c.calf w.c.apart w.n
noncomputable def cn : List Nat := w.c.calf ++ w.name
noncomputable def sg : Nat := ([32, 9] : List Nat).getD (w.n % 2) 0
noncomputable def sep : List Nat := if w.c.apart then w.e else [w.sg]
noncomputable def ws : List (List Nat) := if w.a.d ≤ 2 then [w.own] else [w.own, w.cn]
end WD
structure WOk (w : WD) : Prop where
  ha : w.a.Ok
  hn : w.n < 1000
  h : w.c.Ok w.L w.q w.seen
  hname : w.c.names[w.n]? = some w.name
  ho : NameOk w.name
  hc : w.c.calf = [46] ∨ w.c.calf = [46, 46]
  he : isEnd w.e
theorem dots_int (d : Nat) : 3 * ((d / 3 : Nat) : Int) + ((d % 3 : Nat) : Int) = (d : Int) := by lia
theorem ge256 (d : Nat) : ((255 + ((d / 3 : Nat) : Int) < 256) ↔ d ≤ 2) ∧ ((255 + ((d / 3 : Nat) : Int) ≥ 256) ↔ ¬ d ≤ 2) := by lia
theorem m_join {G : Gl} {hp : Hp} {sep : List Nat} {ws : List (List Nat)} (h1 : sep.length ≤ 1000) (h2 : ws.length ≤ 2) (h3 : ∀ w ∈ ws, w.length ≤ 40) : methA G hp .join (.str sep) [.lst (qv ws)] = some (.str (join sep ws), hp) := by
  have e1 : strsA (qv ws) = some ws := by
    clear h2 h3
    induction ws with
    | nil => rfl
    | cons w ws ih => show (strsA (qv ws)).map _ = _; rw [ih]; rfl
  show (((strsA (qv ws)).bind _).map _) = _
  rw [e1]
  show (if _ then _ else none : Option AV).map _ = _
  rw [if_pos ⟨Nat.le_trans h2 (by decide), h1, List.all_eq_true.mpr fun w hw => decide_eq_true (Nat.le_trans (h3 w hw) (by decide))⟩]
  rfl
theorem sg_cases (n : Nat) : (([32, 9] : List Nat).getD (n % 2) 0 = 32 ∨ ([32, 9] : List Nat).getD (n % 2) 0 = 9) ∧ atIdx ([32, 9] : List Nat) ((n : Int).fmod 2) = some (([32, 9] : List Nat).getD (n % 2) 0) := by
  rw [show ((2 : Int)) = ((2 : Nat) : Int) from rfl, fmod_nat n 2 (by decide)]
  rcases Nat.mod_two_eq_zero_or_one n with h | h <;> rw [h]
  · exact ⟨.inl rfl, rfl⟩
  · exact ⟨.inr rfl, rfl⟩
namespace WOk
variable {w : WD} (h : WOk w) {ow wo se : Option AV}
include h
theorem ownl : w.own.length ≤ 40 := by
  have := h.ha.d2; have := h.ho.len
  show (List.replicate w.a.d 46 ++ w.name).length ≤ 40
  rw [List.length_append, List.length_replicate]; lia
theorem calfl : w.c.calf.length ≤ 2 := by rcases h.hc with q | q <;> rw [q] <;> decide
theorem cnl : w.cn.length ≤ 40 := by
  show (w.c.calf ++ w.name).length ≤ 40
  rw [List.length_append]
  exact Nat.le_trans (Nat.add_le_add h.calfl h.ho.len) (by decide)
theorem endl : w.e.length ≤ 2 := by rcases h.he with q | q | q <;> rw [q] <;> decide
theorem sepl : w.sep.length ≤ 2 := by
  unfold WD.sep
  cases w.c.apart
  · exact (by decide : 1 ≤ 2)
  · exact h.endl
theorem wsl : w.ws.length ≤ 2 ∧ ∀ x ∈ w.ws, x.length ≤ 40 := by
  unfold WD.ws
  by_cases q : w.a.d ≤ 2
  · rw [if_pos q]; exact ⟨Nat.le_succ 1, List.forall_mem_cons.mpr ⟨h.ownl, fun _ h => nomatch h⟩⟩
  · rw [if_neg q]; exact ⟨Nat.le_refl 2, List.forall_mem_cons.mpr ⟨h.ownl, List.forall_mem_cons.mpr ⟨h.cnl, fun _ h => nomatch h⟩⟩⟩
theorem c52 : evE (GK w.c.k) (.meth .count (.var 12) [.int 52]) (w.E ow wo se) w.H = some (.int ((w.a.d / 3 : Nat) : Int), w.H) :=
  e_meth (e_var (v := .lst (iv w.a.syms)) rfl) rfl (es_cons e_int es_nil) (by rw [count_iv, h.ha.c52])
theorem c23 : evE (GK w.c.k) (.meth .count (.var 12) [.int 23]) (w.E ow wo se) w.H = some (.int ((w.a.d % 3 : Nat) : Int), w.H) :=
  e_meth (e_var (v := .lst (iv w.a.syms)) rfl) rfl (es_cons e_int es_nil) (by rw [count_iv, h.ha.c23])
theorem c255 : evE (GK w.c.k) (.bin .Add (.int 255) (.meth .count (.var 12) [.int 52])) (w.E ow wo se) w.H = some (.int (255 + ((w.a.d / 3 : Nat) : Int)), w.H) := e_bin e_int h.c52 rfl
theorem eIt : evE (GK w.c.k) (.call (.ref 100) [.bin .Add (.int 255) (.meth .count (.var 12) [.int 52])]) (w.E ow wo se) w.H = some (.bool (decide (w.a.d ≤ 2)), w.H) := by
  refine e_call (es_cons h.c255 es_nil) ?_
  exact (it_spec (l1G (l1call (w.c.k + 1))) _ (HROk.bl h.h)).trans (congrArg (fun p => some (AV.bool p, w.H)) (decide_eq_decide.mpr (ge256 w.a.d).1))
theorem eNt : evE (GK w.c.k) (.call (.ref 107) [.bin .Add (.int 255) (.meth .count (.var 12) [.int 52])]) (w.E ow wo se) w.H = some (.bool (decide (¬ w.a.d ≤ 2)), w.H) := by
  refine e_call (es_cons h.c255 es_nil) ?_
  exact (nt_spec (l1G (l1call (w.c.k + 1))) _ (HROk.bl h.h)).trans (congrArg (fun p => some (AV.bool p, w.H)) (decide_eq_decide.mpr (ge256 w.a.d).2))
theorem b1 : binA .Mult (.str [46]) (.int (w.a.d : Int)) = some (.str (List.replicate w.a.d 46)) := by
  show (if _ then some (AV.str (rep ((w.a.d : Int)).toNat [46])) else none) = _
  rw [if_pos ⟨by decide, by lia, by have := h.ha.d2; lia⟩, Int.toNat_natCast, rep_dots]
theorem b3 : binA .Mult (.int 3) (.int ((w.a.d / 3 : Nat) : Int)) = some (.int (3 * ((w.a.d / 3 : Nat) : Int))) := if_pos (by have := h.ha.d2; lia)
theorem nidx : evE (GK w.c.k) (.idx (.var 2) (.var 11)) (w.E ow wo se) w.H = some (.str w.name, w.H) :=
  e_idx (e_var (v := .lst (qv w.c.names)) rfl) (e_var (v := .int (w.n : Int)) rfl) (idx_qv w.H w.c.names w.n w.name h.hn h.hname)
theorem a14 : evS (GK w.c.k) (.assign 14 (.bin .Add (.bin .Mult (.str [46]) (.bin .Add (.bin .Mult (.int 3) (.meth .count (.var 12) [.int 52])) (.meth .count (.var 12) [.int 23]))) (.idx (.var 2) (.var 11)))) (w.E ow wo se) w.H = some (.next, w.E (some (.str w.own)) wo se, w.H) := by
  have hb : binA .Add (.int (3 * ((w.a.d / 3 : Nat) : Int))) (.int ((w.a.d % 3 : Nat) : Int)) = some (.int (w.a.d : Int)) := congrArg (fun z => some (AV.int z)) (dots_int w.a.d)
  exact t_assign (e_bin (e_bin e_str (e_bin (e_bin e_int h.c52 h.b3) h.c23 hb) h.b1) h.nidx (show binA .Add (.str (List.replicate w.a.d 46)) (.str w.name) = some (.str w.own) from if_pos (Nat.le_trans h.ownl (by unfold szMax; decide))))
theorem eSep : evE (GK w.c.k) (.ite (.var 4) (.var 13) (.idx (.str [32, 9]) (.bin .Mod (.var 11) (.int 2)))) (w.E ow wo se) w.H = some (.str w.sep, w.H) := by
  have hv : (w.E ow wo se)[4]? = some (some (.bool w.c.apart)) := rfl
  unfold WD.sep
  generalize w.c.apart = ap at hv
  cases ap with
  | true => exact e_ite_t (c_var hv rfl) (e_var rfl)
  | false =>
    refine e_ite_f (c_var hv rfl) (e_idx (y := .int ((w.n : Int).fmod 2)) e_str (e_bin (x := .int (w.n : Int)) (y := .int 2) (e_var rfl) e_int rfl) ?_)
    show (atIdx [32, 9] ((w.n : Int).fmod 2)).map _ = _
    rw [(sg_cases w.n).2]; rfl
theorem pown : plain w.own := (okt.append (okt_dots _) h.ho.t).plain
theorem hown : w.own.head? = some 46 := by
  show (List.replicate w.a.d 46 ++ w.name).head? = _
  rw [← Nat.succ_pred_eq_of_pos h.ha.d1]; rfl
theorem pcn : plain w.cn := by
  refine okt.plain (okt.append ?_ h.ho.t)
  rcases h.hc with q | q <;> rw [q]
  · exact okt_dots 1
  · exact okt_dots 2
theorem hcn : w.cn.head? = some 46 := by
  unfold WD.cn
  rcases h.hc with q | q <;> rw [q] <;> rfl
theorem w15 : evSs (GK w.c.k) [.assign 15 (.ite (.cmp .Is (.call (.ref 100) [.bin .Add (.int 255) (.meth .count (.var 12) [.int 52])]) (.bool true)) (.frz (.lDisp [.var 14])) (.frz (.lDisp []))), .ite (.cmp .Is (.call (.ref 107) [.bin .Add (.int 255) (.meth .count (.var 12) [.int 52])]) (.bool true)) [.assign 15 (.frz (.lAdd (.var 15) (.frz (.lDisp [.var 14, .bin .Add (.var 3) (.idx (.var 2) (.var 11))]))))] []] (w.E (some (.str w.own)) wo se) w.H = some (.next, w.E (some (.str w.own)) (some (.lst (qv w.ws))) se, w.H) := by
  unfold WD.ws
  by_cases q2 : w.a.d ≤ 2
  · rw [if_pos q2]
    exact ss_next (t_assign (v := .lst (qv [w.own])) (e_ite_t (c_cmp h.eIt e_bool (by rw [decide_eq_true q2]; rfl)) (e_frz (l_disp (es_cons (e_var rfl) es_nil) (by simp [qv]))))) (ss_next (t_ite_f (c_cmp h.eNt e_bool (by rw [decide_eq_false (not_not_intro q2)]; rfl)) ss_nil) ss_nil)
  · rw [if_neg q2]
    have hb : binA .Add (.str w.c.calf) (.str w.name) = some (.str w.cn) := if_pos (Nat.le_trans h.cnl (by unfold szMax; decide))
    exact ss_next (t_assign (v := .lst (qv [])) (e_ite_f (c_cmp h.eIt e_bool (by rw [decide_eq_false q2]; rfl)) (e_frz (l_disp es_nil (by simp [qv]))))) (ss_next (t_ite_t (c_cmp h.eNt e_bool (by rw [decide_eq_true q2]; rfl)) (ss_next (t_assign (v := .lst (qv [w.own, w.cn])) (e_frz (l_add (e_var rfl) (e_frz (l_disp (es_cons (e_var rfl) (es_cons (e_bin (e_var rfl) h.nidx hb) es_nil)) (by simp))) (xs := qv []) (ys := qv [w.own, w.cn]) rfl rfl (by simp [qv])))) ss_nil)) ss_nil)
theorem jl : (join w.sep w.ws ++ w.e).length ≤ 90 := by
  have h1 := h.ownl; have h2 := h.cnl; have h3 := h.sepl; have h4 := h.endl
  rw [List.length_append]
  unfold WD.ws
  by_cases q2 : w.a.d ≤ 2
  · rw [if_pos q2]
    show w.own.length + _ ≤ _
    lia
  · rw [if_neg q2]
    show (w.own ++ w.sep ++ w.cn).length + _ ≤ _
    rw [List.length_append, List.length_append]; lia
theorem qdE : qd (join w.sep w.ws ++ w.e) = w.sent := by
  unfold WD.ws WD.sent sentOf
  by_cases q2 : w.a.d ≤ 2
  · rw [if_pos q2, if_pos q2]
    exact qd_one h.pown h.hown h.he
  · rw [if_neg q2, if_neg q2]
    unfold WD.sep
    cases w.c.apart with
    | true =>
      show qd (w.own ++ w.e ++ w.cn ++ w.e) = _
      rw [qd_two h.pown h.hown h.pcn h.hcn h.he]; rfl
    | false =>
      show qd (w.own ++ [w.sg] ++ w.cn ++ w.e) = _
      have pc : plain [w.sg] := List.forall_mem_cons.mpr ⟨by rcases (sg_cases w.n).1 with q | q <;> (show _ ≠ _ ∧ _ ≠ _; unfold WD.sg; rw [q]; decide), fun _ h => nomatch h⟩
      have hh : (w.own ++ [w.sg] ++ w.cn).head? = some 46 := by
        have := h.hown
        cases ho : w.own with
        | nil => rw [ho] at this; cases this
        | cons z zs => rw [ho] at this; exact this
      rw [qd_one ((h.pown.append pc).append h.pcn) hh h.he]
      show 46 :: (w.own ++ [w.sg] ++ w.cn) ++ [13, 10] = 46 :: w.own ++ ([w.sg] ++ w.cn) ++ [13, 10]
      simp
theorem w16 : evS (GK w.c.k) (.assign 16 (.call (.ref 90) [.bin .Add (.meth .join (.ite (.var 4) (.var 13) (.idx (.str [32, 9]) (.bin .Mod (.var 11) (.int 2)))) [.var 15]) (.var 13)])) (w.E ow (some (.lst (qv w.ws))) se) w.H = some (.next, w.E ow (some (.lst (qv w.ws))) (some (.str w.sent)), w.H) := by
  have hb : binA .Add (.str (join w.sep w.ws)) (.str w.e) = some (.str (join w.sep w.ws ++ w.e)) := if_pos (Nat.le_trans h.jl (by unfold szMax; decide))
  refine t_assign (e_call (es_cons (e_bin (e_meth h.eSep rfl (es_cons (e_var rfl) es_nil) (m_join (Nat.le_trans h.sepl (by decide)) h.wsl.1 h.wsl.2)) (e_var rfl) hb) es_nil) ?_)
  exact (qd_spec (l1call (w.c.k + 1)) _ (Nat.le_trans h.jl (by decide)) (HROk.bl h.h)).trans (congrArg (fun x => some (AV.str x, w.H)) h.qdE)
theorem words : evSs (GK w.c.k) wordsB (w.E ow wo se) w.H = some (.next, w.E (some (.str w.own)) (some (.lst (qv w.ws))) (some (.str w.sent)), w.H) :=
  ss_next h.a14 (ss_append h.w15 (ss_next h.w16 ss_nil))
theorem wsn : w.ws.length = (newOf w.a w.name w.c.calf w.c.apart).length := by
  unfold WD.ws newOf
  by_cases q2 : w.a.d ≤ 2
  · rw [if_pos q2, if_pos q2]; rfl
  · rw [if_neg q2, if_neg q2]; rfl
end WOk
end Mine
end
section
namespace Mine
open PySem
noncomputable def rdN : Nat → List Nat → Int → List (List Nat) × Int × List Nat
  | 0, L, ln => ([], ln, L)
  | m + 1, L, ln => ((lx1 L ln).1 :: (rdN m (lx1 L ln).2.2 (lx1 L ln).2.1).1, (rdN m (lx1 L ln).2.2 (lx1 L ln).2.1).2)
section
variable {m0 m1 : AO} {L L2 R : List Nat} {ln ln2 : Int} {q : List (List Nat)} {seen rest : List AV}
theorem rd_loop (k : Nat) (x : Nat) (hx : x ≠ 6 ∧ x ≠ 7) : ∀ (vs : List AV) (ρ : Env') (L : List Nat) (ln : Int) (q : List (List Nat)), HROk m0 m1 L L2 q seen rest → q.length + vs.length ≤ 800 → ρ[6]? = some (some (.inst 4)) → ρ[7]? = some (some (.inst 7)) →
    forL (fun ρ hp => evSs (GK k) [rdS] ρ hp) none x vs ρ (HR m0 m1 L ln L2 ln2 q seen rest) = some (.next, vs.foldl (fun ρ v => setLoc ρ x v) ρ, HR m0 m1 (rdN vs.length L ln).2.2 (rdN vs.length L ln).2.1 L2 ln2 (q ++ (rdN vs.length L ln).1) seen rest) ∧ HROk m0 m1 (rdN vs.length L ln).2.2 L2 (q ++ (rdN vs.length L ln).1) seen rest
  | [], ρ, L, ln, q, h, hq, r6, r7 => by
    refine ⟨?_, ?_⟩
    · show some (Fl.next, ρ, HR m0 m1 L ln L2 ln2 q seen rest) = some (Fl.next, ρ, HR m0 m1 L ln L2 ln2 (q ++ []) seen rest)
      rw [List.append_nil]
    · show HROk m0 m1 L L2 (q ++ []) seen rest
      rw [List.append_nil]; exact h
  | v :: vs, ρ, L, ln, q, h, hq, r6, r7 => by
    have r6' : (setLoc ρ x v)[6]? = some (some (.inst 4)) := by unfold setLoc; rw [List.getElem?_set_ne hx.1, r6]
    have r7' : (setLoc ρ x v)[7]? = some (some (.inst 7)) := by unfold setLoc; rw [List.getElem?_set_ne hx.2, r7]
    have hs := rd_step (ln := ln) (ln2 := ln2) k h (by simp at hq; lia) r6' r7'
    have hb : evSs (GK k) [rdS] (setLoc ρ x v) (HR m0 m1 L ln L2 ln2 q seen rest) = some (.next, setLoc ρ x v, HR m0 m1 (lx1 L ln).2.2 (lx1 L ln).2.1 L2 ln2 (q ++ [(lx1 L ln).1]) seen rest) := ss_next hs ss_nil
    obtain ⟨e1, e2⟩ := rd_loop k x hx vs (setLoc ρ x v) (lx1 L ln).2.2 (lx1 L ln).2.1 (q ++ [(lx1 L ln).1]) ((h.rd ln).push (by simp at hq; lia) _) (by simp at hq ⊢; lia) r6' r7'
    rw [List.append_assoc] at e1 e2
    exact ⟨f_go rfl hb e1, e2⟩
theorem cnt10_crlf : cnt10 [13, 10] = 1 := by decide
theorem okt.lt {x : List Nat} (h : okt x) (c : Nat) (hc : c ∈ x) : c < 128 := (h c hc).2.2.2.2.2
theorem okt.cons46 {x : List Nat} (h : okt x) : okt (46 :: x) := List.forall_mem_cons.mpr ⟨okc46, h⟩
section
variable {x y : List Nat} (hR : ∀ c ∈ R, wsB c = true) (tx : okt x) (nx : x ≠ []) (ty : okt y) (ny : y ≠ []) (ln : Int)
include hR tx nx
theorem rd_first {e : Nat} (he : wsB e = true) (r : List Nat) : lx1 (R ++ (x ++ e :: r)) ln = (x, ln + cnt10 R + nl [e], r) := by rw [lx1_skip R hR, lx1_tok he r x _ tx nx]
theorem rd_1 : rdN 1 (R ++ (x ++ [13, 10])) ln = ([x], ln + cnt10 R + cnt10 (x ++ [13, 10]) - 1, [10]) := by
  show (((lx1 (R ++ (x ++ [13, 10])) ln).1 :: [], (lx1 (R ++ (x ++ [13, 10])) ln).2) : List (List Nat) × Int × List Nat) = _
  rw [rd_first hR tx nx ln rfl [10], cnt10_append, cnt10_okt tx.plain, cnt10_crlf, Int.zero_add, Int.add_sub_cancel]
  exact congrArg (fun z => ([x], z, [10])) (Int.add_zero _)
include ty ny
theorem rd_2a : rdN 2 (R ++ (x ++ [13, 10] ++ (y ++ [13, 10]))) ln = ([x, y], ln + cnt10 R + cnt10 (x ++ [13, 10] ++ (y ++ [13, 10])) - 1, [10]) := by
  have e1 : lx1 (R ++ (x ++ [13, 10] ++ (y ++ [13, 10]))) ln = (x, ln + cnt10 R + 0, 10 :: (y ++ [13, 10])) := by
    rw [List.append_assoc x]
    exact rd_first hR tx nx ln (e := 13) rfl (10 :: (y ++ [13, 10]))
  have e2 : ∀ l : Int, lx1 (10 :: (y ++ [13, 10])) l = (y, l + 1 + 0, [10]) := fun l => by
    rw [lx1_ws rfl]
    exact lx1_tok (e := 13) rfl [10] y _ ty ny
  show (((lx1 (R ++ (x ++ [13, 10] ++ (y ++ [13, 10]))) ln).1 :: [(lx1 (lx1 (R ++ (x ++ [13, 10] ++ (y ++ [13, 10]))) ln).2.2 (lx1 (R ++ (x ++ [13, 10] ++ (y ++ [13, 10]))) ln).2.1).1], (lx1 (lx1 (R ++ (x ++ [13, 10] ++ (y ++ [13, 10]))) ln).2.2 (lx1 (R ++ (x ++ [13, 10] ++ (y ++ [13, 10]))) ln).2.1).2) : List (List Nat) × Int × List Nat) = _
  rw [e1]
  show (([x, (lx1 (10 :: (y ++ [13, 10])) (ln + cnt10 R + 0)).1], (lx1 (10 :: (y ++ [13, 10])) (ln + cnt10 R + 0)).2) : List (List Nat) × Int × List Nat) = _
  rw [e2, cnt10_append, cnt10_append, cnt10_append, cnt10_okt tx.plain, cnt10_okt ty.plain, cnt10_crlf]
  exact congrArg (fun z => ([x, y], z, [10])) (by lia)
theorem rd_2b {c : Nat} (hc : c = 32 ∨ c = 9) : rdN 2 (R ++ (x ++ ([c] ++ y) ++ [13, 10])) ln = ([x, y], ln + cnt10 R + cnt10 (x ++ ([c] ++ y) ++ [13, 10]) - 1, [10]) := by
  have hw : wsB c = true ∧ nl [c] = 0 ∧ cnt10 [c] = 0 := by rcases hc with rfl | rfl <;> exact ⟨rfl, rfl, rfl⟩
  have e1 : lx1 (R ++ (x ++ ([c] ++ y) ++ [13, 10])) ln = (x, ln + cnt10 R + 0, y ++ [13, 10]) := by
    rw [List.append_assoc x]
    exact (rd_first hR tx nx ln (e := c) hw.1 (y ++ [13, 10])).trans (by rw [hw.2.1])
  have e2 : ∀ l : Int, lx1 (y ++ [13, 10]) l = (y, l + 0, [10]) := fun l => lx1_tok (e := 13) rfl [10] y _ ty ny
  show (((lx1 (R ++ (x ++ ([c] ++ y) ++ [13, 10])) ln).1 :: [(lx1 (lx1 (R ++ (x ++ ([c] ++ y) ++ [13, 10])) ln).2.2 (lx1 (R ++ (x ++ ([c] ++ y) ++ [13, 10])) ln).2.1).1], (lx1 (lx1 (R ++ (x ++ ([c] ++ y) ++ [13, 10])) ln).2.2 (lx1 (R ++ (x ++ ([c] ++ y) ++ [13, 10])) ln).2.1).2) : List (List Nat) × Int × List Nat) = _
  rw [e1]
  show (([x, (lx1 (y ++ [13, 10]) (ln + cnt10 R + 0)).1], (lx1 (y ++ [13, 10]) (ln + cnt10 R + 0)).2) : List (List Nat) × Int × List Nat) = _
  rw [e2, cnt10_append, cnt10_append, cnt10_append, cnt10_okt tx.plain, cnt10_okt ty.plain, cnt10_crlf, hw.2.2]
  exact congrArg (fun z => ([x, y], z, [10])) (by lia)
end
theorem okL_of {x : List Nat} (h : ∀ c ∈ x, c < 128) (hl : x.length ≤ 1000) : okL x := ⟨Nat.le_trans hl (by decide), h⟩
theorem lt_app {x y : List Nat} (h : ∀ c ∈ x, c < 128) (k : ∀ c ∈ y, c < 128) : ∀ c ∈ x ++ y, c < 128 := fun c hc => (List.mem_append.mp hc).elim (h c) (k c)
theorem sent_facts {a : An} (ha : a.Ok) {name calf : List Nat} {apart : Bool} (n : Nat) (ho : NameOk name) (hc : calf = [46] ∨ calf = [46, 46]) (hR : ∀ c ∈ R, wsB c = true) (ln : Int) :
    rdN (newOf a name calf apart).length (R ++ sentOf a name calf apart n) ln = (newOf a name calf apart, ln + cnt10 R + cnt10 (sentOf a name calf apart n) - 1, [10]) ∧ okL (sentOf a name calf apart n) := by
  have town : okt (46 :: ownOf a name) := ((okt_dots _).append ho.t).cons46
  have tc : okt (calf ++ name) := by
    refine okt.append ?_ ho.t
    rcases hc with rfl | rfl
    · exact okt_dots 1
    · exact okt_dots 2
  have nc : calf ++ name ≠ [] := by rcases hc with rfl | rfl <;> exact nofun
  have nlc : (calf ++ name).length ≤ 5 := by
    rw [List.length_append]
    refine Nat.add_le_add (b := 2) ?_ ho.len
    rcases hc with rfl | rfl <;> decide
  have ownl : (46 :: ownOf a name).length ≤ 50 := by
    have := ha.d2; have := ho.len
    show (List.replicate a.d 46 ++ name).length + 1 ≤ 50
    rw [List.length_append, List.length_replicate]; lia
  have l2 : ∀ c ∈ ([13, 10] : List Nat), c < 128 := by decide
  unfold sentOf newOf
  by_cases q : a.d ≤ 2
  · rw [if_pos q, if_pos q]
    exact ⟨rd_1 hR town nofun ln, okL_of (lt_app town.lt l2) (by rw [List.length_append]; exact Nat.le_trans (Nat.add_le_add_right ownl 2) (by decide))⟩
  · rw [if_neg q, if_neg q]
    cases apart with
    | true =>
      simp only [if_true]
      exact ⟨rd_2a hR town nofun tc.cons46 nofun ln, okL_of (lt_app (lt_app town.lt l2) (lt_app tc.cons46.lt l2)) (by rw [List.length_append, List.length_append, List.length_append]; exact Nat.le_trans (Nat.add_le_add (Nat.add_le_add_right ownl 2) (Nat.add_le_add_right (Nat.succ_le_succ nlc) 2)) (by decide))⟩
    | false =>
      have hs := (sg_cases n).1
      simp only [Bool.false_eq_true, if_false]
      exact ⟨rd_2b hR town nofun tc nc ln hs, okL_of (lt_app (lt_app town.lt (lt_app (by rcases hs with e | e <;> (rw [e]; decide)) tc.lt)) l2) (by rw [List.length_append, List.length_append, List.length_append]; exact Nat.le_trans (Nat.add_le_add_right (Nat.add_le_add ownl (Nat.add_le_add_left nlc 1)) 2) (by decide))⟩
end
end Mine
end
section
namespace Mine
open PySem
noncomputable def turnB : List MS := .unpack [12, 13] (.tuple [.call (.ref 135) [.meth (.user (.ref 59)) (.var 7) []], .idx (.var 5) (.bin .Mod (.var 11) (.int 3))]) :: (wordsB ++ [.expr (.meth .extend (.var 0) [.frz (.lList (.sVal (.var 16)))]), .for none 17 (.sVal (.var 15)) [rdS], .expr (.meth .append (.var 8) [.tuple [.var 12, .var 16, .attr (.var 6) 0]])])
noncomputable def lastC : ME := .and (.cmp .IsNot (.call (.ref 114) [.idx (.var 12) (.int 0)]) (.bool true)) (.cmp .Lt (.len (.var 9)) (.int 40))
noncomputable def lastB : List MS := [.expr (.meth .append (.var 9) [.var 12]), .assign 12 (.call (.ref 135) [.meth (.user (.ref 59)) (.var 7) []])]
section
variable {m0 m1 : AO} {L L2 R : List Nat} {ln ln2 : Int} {q : List (List Nat)} {seen rest : List AV}
theorem idx_ends (hp : Hp) {ends : List (List Nat)} (he : ends.length = 3) (n : Nat) : ∃ e, e ∈ ends ∧ idxA hp (.lst (qv ends)) (.int ((n : Int).fmod 3)) = some (.str e) := by
  have := fmod_nat n 3 (by decide)
  rw [show ((3 : Int)) = ((3 : Nat) : Int) from rfl, this]
  have hlt : n % 3 < ends.length := by lia
  refine ⟨ends[n % 3], List.getElem_mem _, idx_qv hp ends (n % 3) _ (by lia) (List.getElem?_eq_getElem hlt)⟩
theorem belows_snoc (n : Nat) (l : List AV) (x : AV) (h : belows n l = true) (hx : below n x = true) : belows n (l ++ [x]) = true := by
  rw [belows_all] at h ⊢
  rw [List.all_append, h, Bool.true_and]
  simp [hx]
theorem below_iv (n : Nat) (l : List Int) : belows n (iv l) = true := by rw [belows_all]; simp [iv, below]
noncomputable def entry (a : An) (sent : List Nat) (ln : Int) : AV := .tup [.lst (iv a.syms), .str sent, .int ln]
theorem below_entry (n : Nat) (a : An) (sent : List Nat) (ln : Int) : below n (entry a sent ln) = true := by
  simp only [entry, below, belows, below_iv]; rfl
end
noncomputable abbrev slots := Option AV × Option AV × Option AV × Option AV × Option AV × Option AV × Option AV × Option AV
noncomputable def RD.es (c : RD) (z : slots) : Env' := c.er z.1 z.2.1 z.2.2.1 z.2.2.2.1 z.2.2.2.2.1 z.2.2.2.2.2.1 z.2.2.2.2.2.2.1 z.2.2.2.2.2.2.2
theorem foldl_17 (c : RD) (pl n sy en ow wo se : Option AV) : ∀ (vs : List AV) (wd : Option AV), ∃ wd', vs.foldl (fun ρ v => setLoc ρ 17 v) (c.er pl n sy en ow wo se wd) = c.er pl n sy en ow wo se wd'
  | [], wd => ⟨wd, rfl⟩
  | v :: vs, wd => foldl_17 c pl n sy en ow wo se vs (some v)
namespace WD
variable (w : WD)
noncomputable def new : List (List Nat) := newOf w.a w.name w.c.calf w.c.apart
noncomputable def lnE : Int := w.ln + cnt10 w.L + cnt10 w.sent - 1
noncomputable def ent : AV := entry w.a w.sent w.lnE
end WD
structure TOk (w : WD) : Prop where
  o : WOk w
  tok : w.c.Ok w.L (w.a.tok :: w.q) w.seen
  q : w.q.length ≤ 700
  s : w.seen.length ≤ 900
  R : ∀ c ∈ w.L, wsB c = true
  R2 : w.L.length ≤ 100
  hei : atIdx (qv w.c.ends) ((w.n : Int).fmod 3) = some (.str w.e)
theorem WOk.sentL {w : WD} (h : WOk w) : w.sent.length ≤ 200 := by
  have h1 := h.ownl; have h2 := h.cnl
  unfold WD.sent sentOf
  by_cases q : w.a.d ≤ 2
  · rw [if_pos q]
    show (46 :: w.own ++ [13, 10]).length ≤ 200
    rw [List.length_append, List.length_cons]
    exact Nat.add_le_add (Nat.succ_le_succ h1) (by decide : 2 ≤ 159)
  · rw [if_neg q]
    cases w.c.apart with
    | true =>
      show (46 :: w.own ++ [13, 10] ++ (46 :: w.cn ++ [13, 10])).length ≤ 200
      rw [List.length_append, List.length_append, List.length_append, List.length_cons, List.length_cons]
      show w.own.length + 1 + 2 + (w.cn.length + 1 + 2) ≤ 200
      lia
    | false =>
      show (46 :: w.own ++ ([w.sg] ++ w.cn) ++ [13, 10]).length ≤ 200
      rw [List.length_append, List.length_append, List.length_append, List.length_cons]
      show w.own.length + 1 + (1 + w.cn.length) + 2 ≤ 200
      lia
namespace TOk
variable {w : WD} (h : TOk w) {sy en ow wo se : Option AV}
include h
theorem facts : rdN w.new.length (w.L ++ w.sent) w.ln = (w.new, w.lnE, [10]) ∧ okL w.sent := sent_facts h.o.ha w.n h.o.ho h.o.hc h.R w.ln
theorem u : evS (GK w.c.k) (.unpack [12, 13] (.tuple [.call (.ref 135) [.meth (.user (.ref 59)) (.var 7) []], .idx (.var 5) (.bin .Mod (.var 11) (.int 3))])) (w.c.er w.pl (some (.int (w.n : Int))) sy en ow wo se w.wd) (w.c.hp w.L w.ln (w.a.tok :: w.q) w.seen) = some (.next, w.E ow wo se, w.H) :=
  t_unpack (e_tuple (es_cons (cut_tok w.c.k h.o.ha h.tok rfl) (es_cons (e_idx (y := .int ((w.n : Int).fmod 3)) (e_var (v := .lst (qv w.c.ends)) rfl) (e_bin (x := .int (w.n : Int)) (y := .int 3) (e_var rfl) e_int rfl) h.hei) es_nil)) (by simp)) rfl
theorem okx : w.c.Ok (w.L ++ w.sent) w.q w.seen := by
  have hp := h.o.h
  exact ⟨hp.b0, hp.b1, ⟨by rw [List.length_append]; exact Nat.le_trans (Nat.add_le_add h.R2 h.o.sentL) (by decide), fun c hc => (List.mem_append.mp hc).elim (hp.l.2 c) (h.facts.2.2 c)⟩, hp.l2, hp.q, hp.bs, hp.br⟩
theorem ext : evS (GK w.c.k) (.expr (.meth .extend (.var 0) [.frz (.lList (.sVal (.var 16)))])) (w.E ow wo (some (.str w.sent))) w.H = some (.next, w.E ow wo (some (.str w.sent)), w.c.hp (w.L ++ w.sent) w.ln w.q w.seen) := by
  refine t_expr (r := .none) (e_meth (e_var (v := .ref 2) rfl) rfl (es_cons (e_frz (l_list (xs := chs w.sent) (s_val (e_var rfl) rfl) (by rw [chs_length]; exact Nat.le_trans h.o.sentL (by decide)))) es_nil) ?_)
  show extendA w.H (.ref 2) (.lst (chs w.sent)) = some (.none, w.c.hp (w.L ++ w.sent) w.ln w.q w.seen)
  show (if (chs w.L).length + (chs w.sent).length ≤ 1000000 then some (AV.none, _) else none) = _
  rw [if_pos (by rw [chs_length, chs_length]; exact Nat.le_trans (Nat.add_le_add h.R2 h.o.sentL) (by decide)), ← chs_append]
  rfl
theorem lp : ∃ wd', evS (GK w.c.k) (.for none 17 (.sVal (.var 15)) [rdS]) (w.E ow (some (.lst (qv w.ws))) se) (w.c.hp (w.L ++ w.sent) w.ln w.q w.seen) = some (.next, w.c.er w.pl (some (.int (w.n : Int))) (some (.lst (iv w.a.syms))) (some (.str w.e)) ow (some (.lst (qv w.ws))) se wd', w.c.hp [10] w.lnE (w.q ++ w.new) w.seen) ∧ w.c.Ok [10] (w.q ++ w.new) w.seen := by
  have ql : (qv w.ws).length = w.new.length := (List.length_map _).trans h.o.wsn
  obtain ⟨g1, g2⟩ := rd_loop (ln2 := w.c.ln2) w.c.k 17 (by decide) (qv w.ws) (w.E ow (some (.lst (qv w.ws))) se) (w.L ++ w.sent) w.ln w.q h.okx (Nat.le_trans (m := 702) (Nat.add_le_add h.q (Nat.le_trans (Nat.le_of_eq (List.length_map _)) h.o.wsl.1)) (by decide)) rfl rfl
  rw [ql, h.facts.1] at g1 g2
  obtain ⟨wd', hwd⟩ := foldl_17 w.c w.pl (some (.int (w.n : Int))) (some (.lst (iv w.a.syms))) (some (.str w.e)) ow (some (.lst (qv w.ws))) se (qv w.ws) w.wd
  exact ⟨wd', t_for (s_val (e_var rfl) rfl) (g1.trans (congrArg (fun ρ => some (Fl.next, ρ, w.c.hp [10] w.lnE (w.q ++ w.new) w.seen)) hwd)), g2⟩
theorem turn : ∃ z : slots, z.1 = w.pl ∧ evSs (GK w.c.k) turnB (w.c.er w.pl (some (.int (w.n : Int))) sy en ow wo se w.wd) (w.c.hp w.L w.ln (w.a.tok :: w.q) w.seen) = some (.next, w.c.es z, w.c.hp [10] w.lnE (w.q ++ w.new) (w.seen ++ [w.ent])) ∧ w.c.Ok [10] (w.q ++ w.new) (w.seen ++ [w.ent]) := by
  obtain ⟨wd', e, g2⟩ := h.lp (ow := some (.str w.own)) (se := some (.str w.sent))
  refine ⟨(w.pl, some (.int (w.n : Int)), some (.lst (iv w.a.syms)), some (.str w.e), some (.str w.own), some (.lst (qv w.ws)), some (.str w.sent), wd'), rfl, ?_, g2.b0, g2.b1, g2.l, g2.l2, g2.q, fun n => belows_snoc n _ _ (g2.bs n) (below_entry n _ _ _), g2.br⟩
  exact ss_next h.u (ss_append h.o.words (ss_next h.ext (ss_next e (ss_next (t_expr (r := .none) (e_meth (e_var (v := .ref 8) rfl) (r_append rfl) (es_cons (e_tuple (es_cons (e_var rfl) (es_cons (e_var rfl) (es_cons (e_attr (e_var (v := .inst 4) rfl) rfl) es_nil))) (by simp)) es_nil) (m_append rfl (Nat.le_trans h.s (by decide))))) ss_nil))))
end TOk
end Mine
end
section
namespace Mine
open PySem
noncomputable def newAn (young : Nat) (lab : List Nat × Int) (a : An) : List An :=
  ⟨a.d + 1, lab.1, lab.2⟩ :: (if 2 < a.d then [⟨young, lab.1, lab.2⟩] else [])
noncomputable def growA (young : Nat) (lab : Nat → List Nat × Int) : Nat → Nat → List An → List An
  | 0, _, A => A
  | k + 1, n, A => match A[n - 1]? with
    | none => A
    | some a => growA young lab k (n + 1) (A ++ newAn young (lab n) a)
theorem growA_pre (young : Nat) (lab : Nat → List Nat × Int) : ∀ (k n : Nat) (A : List An), A <+: growA young lab k n A
  | 0, n, A => List.prefix_refl _
  | k + 1, n, A => by
    rw [growA]
    split
    · exact List.prefix_refl _
    · exact (List.prefix_append _ _).trans (growA_pre young lab k (n + 1) _)
noncomputable def ents (lab : Nat → List Nat × Int) (calf : List Nat) (apart : Bool) : Nat → Nat → List An → Int → List AV
  | 0, _, _, _ => []
  | _ + 1, _, [], _ => []
  | k + 1, n, a :: G, S => entry a (sentOf a (lab n).1 calf apart n) (S + cnt10 (sentOf a (lab n).1 calf apart n) - 1) :: ents lab calf apart k (n + 1) G (S + cnt10 (sentOf a (lab n).1 calf apart n))
noncomputable def endS (lab : Nat → List Nat × Int) (calf : List Nat) (apart : Bool) : Nat → Nat → List An → Int → Int
  | 0, _, _, S => S
  | _ + 1, _, [], S => S
  | k + 1, n, a :: G, S => endS lab calf apart k (n + 1) G (S + cnt10 (sentOf a (lab n).1 calf apart n))
section
variable {m0 m1 : AO} {L L2 R : List Nat} {ln ln2 : Int} {q : List (List Nat)} {seen rest : List AV}
theorem new_tok {young : Nat} {lab : List Nat × Int} {a : An} {calf : List Nat} {apart : Bool} (hc : calf = [46] ∨ calf = [46, 46]) (hy : young = calf.length + (if apart then 1 else 0)) :
    newOf a lab.1 calf apart = (newAn young lab a).map An.tok := by
  unfold newOf newAn
  have e1 : (An.tok ⟨a.d + 1, lab.1, lab.2⟩) = 46 :: ownOf a lab.1 := by
    unfold An.tok ownOf; simp [List.replicate_succ]
  have e2 : (An.tok ⟨young, lab.1, lab.2⟩) = if apart then 46 :: (calf ++ lab.1) else calf ++ lab.1 := by
    unfold An.tok
    subst hy
    rcases hc with rfl | rfl <;> cases apart <;> rfl
  by_cases q : a.d ≤ 2
  · rw [if_pos q, if_neg (show ¬ 2 < a.d by lia)]
    simp [e1]
  · rw [if_neg q, if_pos (show 2 < a.d by lia)]
    simp [e1, e2]
end
structure HC (c : RD) (lab : Nat → List Nat × Int) (young N : Nat) (F : List An) : Prop where
  hF : ∀ a ∈ F, a.Ok
  hFl : F.length ≤ 300
  hN : N < 500
  hnm : ∀ n, 1 ≤ n → n ≤ N → c.names[n]? = some (lab n).1 ∧ NameOk (lab n).1
  hc : c.calf = [46] ∨ c.calf = [46, 46]
  hy : young = c.calf.length + (if c.apart then 1 else 0)
  he : c.ends.length = 3
  hE : ∀ e ∈ c.ends, isEnd e
structure HI (c : RD) (lab : Nat → List Nat × Int) (young N : Nat) (F : List An) (k m : Nat) (A : List An) (R : List Nat) (seen : List AV) : Prop where
  hg : growA young lab k (m + 1) A = F
  hnk : m + k = N
  hA : m < A.length
  hR : ∀ c ∈ R, wsB c = true
  hR2 : R.length ≤ 100
  h : c.Ok R ((A.drop m).map An.tok) seen
  hs : seen.length + k ≤ 900
noncomputable def lastR : Nat → List Nat → List Nat
  | 0, R => R
  | _ + 1, _ => [10]
theorem drop_at {α : Type} {l : List α} {n : Nat} {a : α} (h : l[n]? = some a) : l.drop n = a :: l.drop (n + 1) := by
  obtain ⟨hl, rfl⟩ := List.getElem?_eq_some_iff.mp h
  exact List.drop_eq_getElem_cons hl
theorem pre_at {α : Type} {l m : List α} {n : Nat} {a : α} (p : l <+: m) (h : l[n]? = some a) : m[n]? = some a := by
  obtain ⟨T, rfl⟩ := p
  rw [List.getElem?_append_left (List.getElem?_eq_some_iff.mp h).1, h]
section
variable {c : RD} {lab : Nat → List Nat × Int} {young N : Nat} {F : List An} {k m : Nat} {A : List An} {R : List Nat} {seen : List AV}
structure Nxt (lab : Nat → List Nat × Int) (young : Nat) (F : List An) (k m : Nat) (A : List An) (a : An) : Prop where
  d : A.drop m = a :: A.drop (m + 1)
  f : F.drop m = a :: F.drop (m + 1)
  mem : a ∈ F
  g : growA young lab k (m + 1 + 1) (A ++ newAn young (lab (m + 1)) a) = F
  l : A.length ≤ F.length
theorem HI.nxt (I : HI c lab young N F (k + 1) m A R seen) : ∃ a, Nxt lab young F k m A a := by
  have ha : A[m]? = some (A[m]'I.hA) := List.getElem?_eq_getElem I.hA
  have hg := I.hg
  rw [growA, Nat.add_sub_cancel, ha] at hg
  have hpre : A <+: F := hg ▸ (List.prefix_append _ _).trans (growA_pre young lab k _ _)
  exact ⟨_, drop_at ha, drop_at (pre_at hpre ha), List.mem_of_getElem? (pre_at hpre ha), hg, hpre.length_le⟩
theorem HI.turn (C : HC c lab young N F) (I : HI c lab young N F (k + 1) m A R seen) {a : An} (X : Nxt lab young F k m A a) {e : List Nat} (he : isEnd e) (hei : atIdx (qv c.ends) (((m + 1 : Nat) : Int).fmod 3) = some (.str e)) (ln : Int) (z : slots) :
    TOk ⟨c, a, (lab (m + 1)).1, e, m + 1, R, ln, (A.drop (m + 1)).map An.tok, seen, z.1, z.2.2.2.2.2.2.2⟩ := by
  have h := I.h
  rw [X.d, List.map_cons] at h
  have hmN : m + 1 ≤ N := I.hnk ▸ Nat.add_le_add_left (Nat.le_add_left 1 k) m
  obtain ⟨n1, n2⟩ := C.hnm (m + 1) (Nat.le_add_left _ _) hmN
  refine ⟨⟨C.hF a X.mem, Nat.lt_trans (Nat.lt_of_le_of_lt hmN C.hN) (by decide), h.pop, n1, n2, C.hc, he⟩, h, ?_, Nat.le_trans (Nat.le_add_right _ _) I.hs, I.hR, I.hR2, hei⟩
  show ((A.drop (m + 1)).map An.tok).length ≤ 700
  rw [List.length_map, List.length_drop]
  exact Nat.le_trans (Nat.sub_le _ _) (Nat.le_trans (Nat.le_trans X.l C.hFl) (by decide))
theorem end_ln (ln a b : Int) : ln + a + b - 1 + cnt10 [10] = ln + a + b := by
  have : cnt10 [10] = 1 := by decide
  rw [this, Int.sub_add_cancel]
theorem herd_loop (C : HC c lab young N F) : ∀ (k m : Nat) (A : List An) (R : List Nat) (ln : Int) (seen : List AV) (z : slots), HI c lab young N F k m A R seen →
    ∃ z' ln', forL (fun ρ hp => evSs (GK c.k) turnB ρ hp) none 11 ((List.range' (m + 1) k).map fun (i : Nat) => AV.int (i : Int)) (c.es z) (c.hp R ln ((A.drop m).map An.tok) seen)
        = some (.next, c.es z', c.hp (lastR k R) ln' ((F.drop N).map An.tok) (seen ++ ents lab c.calf c.apart k (m + 1) (F.drop m) (ln + cnt10 R)))
      ∧ c.Ok (lastR k R) ((F.drop N).map An.tok) (seen ++ ents lab c.calf c.apart k (m + 1) (F.drop m) (ln + cnt10 R)) ∧ ln' + cnt10 (lastR k R) = endS lab c.calf c.apart k (m + 1) (F.drop m) (ln + cnt10 R)
  | 0, m, A, R, ln, seen, z, I => by
    have hg := I.hg
    rw [growA] at hg
    obtain rfl : m = N := I.hnk
    have h := I.h
    rw [hg] at h
    refine ⟨z, ln, ?_, ?_, rfl⟩
    · show some (Fl.next, c.es z, _) = _
      rw [hg]
      exact congrArg (fun l => some (Fl.next, c.es z, c.hp R ln _ l)) (List.append_nil seen).symm
    · exact (List.append_nil seen).symm ▸ h
  | k + 1, m, A, R, ln, seen, z, I => by
    obtain ⟨a, X⟩ := I.nxt
    obtain ⟨e, hem, hei⟩ := idx_ends [] C.he (m + 1)
    have T := I.turn C X (C.hE e hem) hei ln z
    obtain ⟨z2, _, e1, e2⟩ := T.turn (sy := z.2.2.1) (en := z.2.2.2.1) (ow := z.2.2.2.2.1) (wo := z.2.2.2.2.2.1) (se := z.2.2.2.2.2.2.1)
    have hq2 : (A.drop (m + 1)).map An.tok ++ newOf a (lab (m + 1)).1 c.calf c.apart = ((A ++ newAn young (lab (m + 1)) a).drop (m + 1)).map An.tok := by
      rw [new_tok (young := young) C.hc C.hy, List.drop_append_of_le_length I.hA, List.map_append]
    have I2 : HI c lab young N F k (m + 1) (A ++ newAn young (lab (m + 1)) a) [10] (seen ++ [entry a (sentOf a (lab (m + 1)).1 c.calf c.apart (m + 1)) (ln + cnt10 R + cnt10 (sentOf a (lab (m + 1)).1 c.calf c.apart (m + 1)) - 1)]) :=
      ⟨X.g, by rw [← I.hnk]; exact Nat.succ_add_eq_add_succ m k, by rw [List.length_append]; exact Nat.lt_of_lt_of_le (Nat.succ_lt_succ I.hA) (Nat.add_le_add_left (Nat.succ_le_succ (Nat.zero_le _)) _), by decide, by decide, hq2 ▸ e2, by rw [List.length_append]; exact Nat.le_trans (Nat.le_of_eq (Nat.add_right_comm _ 1 k)) I.hs⟩
    obtain ⟨z', ln', f1, f2, f4⟩ := herd_loop C k (m + 1) _ [10] (ln + cnt10 R + cnt10 (sentOf a (lab (m + 1)).1 c.calf c.apart (m + 1)) - 1) _ z2 I2
    have hl : lastR k [10] = [10] := by cases k <;> rfl
    rw [end_ln, hl, List.append_assoc] at f1 f2
    rw [end_ln, hl] at f4
    refine ⟨z', ln', ?_, ?_, ?_⟩
    · rw [X.f, X.d, ents, List.range'_succ, List.map_cons]
      refine f_go (ρ1 := c.er z.1 (some (.int ((m + 1 : Nat) : Int))) z.2.2.1 z.2.2.2.1 z.2.2.2.2.1 z.2.2.2.2.2.1 z.2.2.2.2.2.2.1 z.2.2.2.2.2.2.2) rfl e1 ?_
      exact Eq.trans (congrArg (fun q => forL (fun ρ hp => evSs (GK c.k) turnB ρ hp) none 11 ((List.range' (m + 1 + 1) k).map fun (i : Nat) => AV.int (i : Int)) (c.es z2) (c.hp [10] (ln + cnt10 R + cnt10 (sentOf a (lab (m + 1)).1 c.calf c.apart (m + 1)) - 1) q (seen ++ [entry a (sentOf a (lab (m + 1)).1 c.calf c.apart (m + 1)) (ln + cnt10 R + cnt10 (sentOf a (lab (m + 1)).1 c.calf c.apart (m + 1)) - 1)]))) hq2) f1
    · rw [X.f, ents]; exact f2
    · rw [X.f, endS]; exact f4
end
end Mine
end
section
namespace Mine
open PySem
structure RE where
  k : Nat
  ends : List (List Nat)
  names : List (List Nat)
  calf : List Nat
  apart : Bool
  size : Int
  m0 : AO
  m1 : AO
namespace RE
variable (c : RE)
noncomputable def rd : RD := ⟨c.k, c.ends, c.names, c.calf, c.apart, c.size, c.m0, c.m1, [97], 1, []⟩
noncomputable def es (z : slots) : Env' := c.rd.es z
noncomputable def sy (z : slots) (v : List Int) : Env' := c.rd.es (z.1, z.2.1, some (.lst (iv v)), z.2.2.2)
noncomputable def hp (L : List Nat) (ln : Int) (L2 : List Nat) (ln2 : Int) (q : List (List Nat)) (seen rest : List AV) : Hp := HR c.m0 c.m1 L ln L2 ln2 q seen rest
noncomputable def Ok (L L2 : List Nat) (q : List (List Nat)) (seen rest : List AV) : Prop := HROk c.m0 c.m1 L L2 q seen rest
end RE
noncomputable def symsA (a : An) : AV := .lst (iv a.syms)
noncomputable def outL (rest : List AV) (cur : List Int) (G : List An) : List AV := rest ++ [.lst (iv cur)] ++ G.map symsA ++ [.lst (iv [261, 0])]
section
variable {m0 m1 : AO} {L L2 R : List Nat} {ln ln2 : Int} {q : List (List Nat)} {seen rest : List AV}
theorem HROk.addr (h : HROk m0 m1 L L2 q seen rest) (cur : List Int) : HROk m0 m1 L L2 q seen (rest ++ [.lst (iv cur)]) :=
  ⟨h.b0, h.b1, h.l, h.l2, h.q, h.bs, fun n => belows_snoc n _ _ (h.br n) (below_iv n cur)⟩
theorem cut_stream (k : Nat) (h : HROk m0 m1 L L2 [] seen rest) {ρ : Env'} (r7 : ρ[7]? = some (some (.inst 7))) (hl : (lx1 L2 ln2).1.length ≤ 100) :
    evE (GK k) (.call (.ref 135) [.meth (.user (.ref 59)) (.var 7) []]) ρ (HR m0 m1 L ln L2 ln2 [] seen rest) = some (.lst (iv (cutL 100 (lx1 L2 ln2).1 ++ [0])), HR m0 m1 L ln (lx1 L2 ln2).2.2 (lx1 L2 ln2).2.1 [] seen rest) := by
  have hx : HROk m0 m1 L (lx1 L2 ln2).2.2 [] seen rest := ⟨h.b0, h.b1, h.l, h.l2.suf (lx1_suf L2 ln2), h.q, h.bs, h.br⟩
  have e : evE (GK k) (.meth (.user (.ref 59)) (.var 7) []) ρ (HR m0 m1 L ln L2 ln2 [] seen rest) = some (.str (lx1 L2 ln2).1, HR m0 m1 L ln (lx1 L2 ln2).2.2 (lx1 L2 ln2).2.1 [] seen rest) := by
    refine e_meth (e_var r7) rfl es_nil ?_
    show (GK k).call (.ref 59) [.inst 7] _ = _
    rw [call_gt, gt_lex (grc k) h.lnr]
    rfl
  refine e_call (es_cons e es_nil) ?_
  rw [call_cut, cut_spec (gdict _) _ hl hx.bl]
  rfl
end
section
variable {c : RE} {L L2 R : List Nat} {ln ln2 : Int} {q : List (List Nat)} {seen rest : List AV} {z : slots}
theorem last_c (h : c.Ok L L2 q seen rest) {cur : List Int} {i : Int} (hi : cur.head? = some i) (h0 : i ≠ 0) (hr : rest.length < 40) : evC (GK c.k) lastC (c.sy z cur) (c.hp L ln L2 ln2 q seen rest) = some (true, c.hp L ln L2 ln2 q seen rest) := by
  have e1 : atIdx (iv cur) 0 = some (.int i) := by
    cases cur with
    | nil => cases hi
    | cons a r => rw [← Option.some.inj hi]; rfl
  have e2 : (GK c.k).call (.ref 114) [.int i] (c.hp L ln L2 ln2 q seen rest) = some (.bool false, c.hp L ln L2 ln2 q seen rest) :=
    (eof_spec (l1G (l1call (c.k + 1))) _ (HROk.bl h)).trans (congrArg (fun b => some (AV.bool b, c.hp L ln L2 ln2 q seen rest)) (decide_eq_false h0))
  exact c_and (c_cmp (e_call (es_cons (e_idx (e_var (v := .lst (iv cur)) rfl) e_int e1) es_nil) e2) e_bool rfl) (c_cmp (e_len (n := rest.length) (e_var (v := .ref 9) rfl) rfl (Nat.le_trans (Nat.le_of_lt hr) (by decide))) e_int (congrArg some (decide_eq_true (Int.ofNat_lt.mpr hr))))
theorem last_c0 (h : c.Ok L L2 q seen rest) : evC (GK c.k) lastC (c.sy z [0]) (c.hp L ln L2 ln2 q seen rest) = some (false, c.hp L ln L2 ln2 q seen rest) := by
  have e2 : (GK c.k).call (.ref 114) [.int 0] (c.hp L ln L2 ln2 q seen rest) = some (.bool true, c.hp L ln L2 ln2 q seen rest) :=
    (eof_spec (l1G (l1call (c.k + 1))) _ (HROk.bl h)).trans (congrArg (fun b => some (AV.bool b, c.hp L ln L2 ln2 q seen rest)) (decide_eq_true rfl))
  exact c_and_f (c_cmp (e_call (es_cons (e_idx (e_var (v := .lst (iv [0])) rfl) e_int rfl) es_nil) e2) e_bool rfl)
theorem last_b {cur nxt : List Int} {hp' : Hp} (hr : rest.length < 40)
    (hcut : evE (GK c.k) (.call (.ref 135) [.meth (.user (.ref 59)) (.var 7) []]) (c.sy z cur) (c.hp L ln L2 ln2 q seen (rest ++ [.lst (iv cur)])) = some (.lst (iv nxt), hp')) :
    evSs (GK c.k) lastB (c.sy z cur) (c.hp L ln L2 ln2 q seen rest) = some (.next, c.sy z nxt, hp') :=
  ss_next (t_expr (r := .none) (e_meth (e_var (v := .ref 9) rfl) (r_append rfl) (es_cons (e_var rfl) es_nil) (m_append rfl (Nat.le_trans (Nat.le_of_lt hr) (by decide))))) (ss_next (t_assign hcut) ss_nil)
theorem last_end {cur : List Int} {i : Int} (hi : cur.head? = some i) (h0 : i ≠ 0) (hr : rest.length + 2 ≤ 40) (h : c.Ok L [97] [] seen rest) (n : Nat) :
    whileN (fun ρ hp => evC (GK c.k) lastC ρ hp) (fun ρ hp => evSs (GK c.k) lastB ρ hp) (n + 3) (c.sy z cur) (c.hp L ln [97] 1 [] seen rest) = some (.next, c.sy z [0], c.hp L ln [] 1 [] seen (outL rest cur [])) ∧ c.Ok L [] [] seen (outL rest cur []) := by
  have h1 := HROk.addr h cur
  have x1 : lx1 [97] 1 = ([97], 1, []) := by decide
  have x2 : lx1 [] 1 = ([], 1, []) := by decide
  have cu1 : cutL 100 [97] ++ [0] = [261, 0] := by decide +kernel
  have cu2 : cutL 100 [] ++ [0] = [0] := by decide
  have c1 := cut_stream (ln := ln) (ln2 := 1) c.k h1 (ρ := c.sy z cur) rfl (by rw [x1]; decide)
  rw [x1, cu1] at c1
  have h2 : c.Ok L [] [] seen (rest ++ [.lst (iv cur)]) := ⟨h1.b0, h1.b1, h1.l, ⟨by decide, nofun⟩, h1.q, h1.bs, h1.br⟩
  have h3 := HROk.addr h2 [261, 0]
  have c2 := cut_stream (ln := ln) (ln2 := 1) c.k h3 (ρ := c.sy z [261, 0]) rfl (by rw [x2]; decide)
  rw [x2, cu2] at c2
  have ha : outL rest cur [] = rest ++ [.lst (iv cur)] ++ [.lst (iv [261, 0])] := by unfold outL; rw [List.map_nil, List.append_nil]
  rw [ha]
  have l1 : (rest ++ [AV.lst (iv cur)]).length < 40 := by rw [List.length_append]; exact hr
  exact ⟨w_go (last_c h hi h0 (Nat.lt_of_lt_of_le (Nat.lt_add_of_pos_right (by decide)) hr)) (last_b (Nat.lt_of_lt_of_le (Nat.lt_add_of_pos_right (by decide)) hr) c1) (w_go (last_c h2 (cur := [261, 0]) rfl (by decide) l1) (last_b l1 c2) (w_stop (last_c0 h3))), h3⟩
theorem last_loop : ∀ (G : List An) (n : Nat) (cur : List Int) (i : Int) (rest : List AV), (∀ a ∈ G, a.Ok) → cur.head? = some i → i ≠ 0 → rest.length + G.length + 2 ≤ 40 → c.Ok L [97] (G.map An.tok) seen rest →
    whileN (fun ρ hp => evC (GK c.k) lastC ρ hp) (fun ρ hp => evSs (GK c.k) lastB ρ hp) (n + 3 + G.length) (c.sy z cur) (c.hp L ln [97] 1 (G.map An.tok) seen rest) = some (.next, c.sy z [0], c.hp L ln [] 1 [] seen (outL rest cur G)) ∧ c.Ok L [] [] seen (outL rest cur G)
  | [], n, cur, i, rest, hG, hi, h0, hr, h => last_end hi h0 hr h n
  | a :: G, n, cur, i, rest, hG, hi, h0, hr, h => by
    have hok := hG a (.head _)
    have hr' : rest.length < 40 := Nat.lt_of_lt_of_le (Nat.lt_of_le_of_lt (Nat.le_add_right _ _) (Nat.lt_add_of_pos_right (by decide))) hr
    have h1 := HROk.addr h cur
    have b1 := last_b hr' (cut_tok (ln := ln) (ln2 := 1) c.k hok h1 (ρ := c.sy z cur) rfl)
    obtain ⟨j, hj, hj0⟩ := hok.head
    have e9 : outL (rest ++ [.lst (iv cur)]) a.syms G = outL rest cur (a :: G) := congrArg (· ++ [AV.lst (iv [261, 0])]) (List.append_assoc (rest ++ [AV.lst (iv cur)]) [symsA a] (G.map symsA))
    obtain ⟨e1, e2⟩ := last_loop G n a.syms j (rest ++ [AV.lst (iv cur)]) (fun b hb => hG b (.tail _ hb)) hj hj0 (by rw [List.length_append]; exact Nat.le_trans (Nat.le_of_eq (congrArg (· + 2) (Nat.succ_add_eq_add_succ _ _))) hr) h1.pop
    rw [e9] at e1 e2
    exact ⟨w_go (last_c h hi h0 hr') b1 e1, e2⟩
end
section
variable {m0 m1 : AO} {L L2 R : List Nat} {ln ln2 : Int} {q : List (List Nat)} {seen rest : List AV}
theorem fz_entry (hp : Hp) (n k : Nat) (a : An) (s : List Nat) (ln : Int) : fz hp n (k + 3) (entry a s ln) = some (entry a s ln) := by
  have := fzs_iv (fz hp n (k + 1)) (fun i => by cases k <;> rfl) a.syms
  show (((fzs (fz hp n (k + 1)) (iv a.syms)).map AV.lst).bind _).map _ = _
  rw [this]; rfl
theorem fz_iv (hp : Hp) (n k : Nat) (l : List Int) : fz hp n (k + 2) (.lst (iv l)) = some (.lst (iv l)) := by
  have := fzs_iv (fz hp n (k + 1)) (fun i => by cases k <;> rfl) l
  show (fzs (fz hp n (k + 1)) (iv l)).map _ = _
  rw [this]; rfl
theorem fzs_all (f : AV → Option AV) : ∀ l : List AV, (∀ x ∈ l, f x = some x) → fzs f l = some l
  | [], _ => rfl
  | x :: l, h => by show (f x).bind _ = _; rw [h x (.head _)]; show (fzs f l).map _ = _; rw [fzs_all f l fun y hy => h y (.tail _ hy)]; rfl
theorem ents_mem (lab : Nat → List Nat × Int) (calf : List Nat) (apart : Bool) : ∀ (k n : Nat) (G : List An) (S : Int), ∀ x ∈ ents lab calf apart k n G S, ∃ a s ln, x = entry a s ln
  | 0, n, G, S, x, h => by simp [ents] at h
  | k + 1, n, [], S, x, h => by simp [ents] at h
  | k + 1, n, a :: G, S, x, h => by
    rw [ents] at h
    rcases List.mem_cons.mp h with rfl | h
    · exact ⟨_, _, _, rfl⟩
    · exact ents_mem lab calf apart k _ _ _ x h
theorem foldl_10 (c : RE) : ∀ (vs : List AV) (z : slots), ∃ z', vs.foldl (fun ρ v => setLoc ρ 10 v) (c.es z) = c.es z'
  | [], z => ⟨z, rfl⟩
  | v :: vs, z => foldl_10 c vs (some v, z.2)
end
structure RunOk (c : RE) (lab : Nat → List Nat × Int) (young N : Nat) (F A0 : List An) (page : List Nat) (lnp : Int) (R : List Nat) : Prop where
  C : HC c.rd lab young N F
  b0 : ∀ n, belowO n c.m0 = true
  b1 : ∀ n, belowO n c.m1 = true
  pg : okL page
  sz : c.size = (A0.length : Int)
  s1 : 1 ≤ A0.length
  s3 : A0.length ≤ 3
  rd : rdN A0.length page 1 = (A0.map An.tok, lnp, R)
  Rw : ∀ c ∈ R, wsB c = true
  R2 : R.length ≤ 100
  g : growA young lab N 1 A0 = F
  Fl : F.length ≤ 40
  N1 : 1 ≤ N
  NF : N < F.length
  nl : c.names.length = N + 1
namespace RunOk
variable {c : RE} {lab : Nat → List Nat × Int} {young N : Nat} {F A0 : List An} {page : List Nat} {lnp : Int} {R : List Nat} (r : RunOk c lab young N F A0 page lnp R)
include r
theorem u : evS (GK c.k) (.unpack [6, 7, 8, 9] (.tuple [.call (.ref 121) [.var 0], .call (.ref 121) [.mut (.lDisp [.str [97]])], .mut (.lDisp []), .mut (.lDisp [])])) [some (.ref 2), some (.int c.size), some (.lst (qv c.names)), some (.str c.calf), some (.bool c.apart), some (.lst (qv c.ends)), none, none, none, none, none, none, none, none, none, none, none, none] [c.m0, c.m1, .list (chs page)] = some (.next, c.es (none, none, none, none, none, none, none, none), c.hp page 1 [97] 1 [] [] []) :=
  t_unpack (e_tuple (es_cons (e_call (es_cons (e_var rfl) es_nil) (show (GK c.k).call (.ref 121) [.ref 2] [c.m0, c.m1, .list (chs page)] = some (.inst 4, [c.m0, c.m1, .list (chs page), .list [], dct 2 3 1]) from rfl)) (es_cons (e_call (es_cons (e_mut (l_disp (es_cons e_str es_nil) (by simp))) es_nil) (show (GK c.k).call (.ref 121) [.ref 5] [c.m0, c.m1, .list (chs page), .list [], dct 2 3 1, .list [.str [97]]] = some (.inst 7, [c.m0, c.m1, .list (chs page), .list [], dct 2 3 1, .list [.str [97]], .list [], dct 5 6 1]) from rfl)) (es_cons (e_mut (l_disp es_nil (by simp))) (es_cons (e_mut (l_disp es_nil (by simp))) es_nil)))) (by simp)) rfl
theorem l0 (z : slots) : ∃ z1, evS (GK c.k) (.for none 10 (.sRange (.int 0) (.var 1)) [rdS]) (c.es z) (c.hp page 1 [97] 1 [] [] []) = some (.next, c.es z1, c.hp R lnp [97] 1 (A0.map An.tok) [] []) ∧ c.rd.Ok R (A0.map An.tok) [] := by
  have H0 : c.rd.Ok page [] [] := ⟨r.b0, r.b1, r.pg, (show okL [97] from ⟨by decide, by decide⟩), by decide, fun _ => rfl, fun _ => rfl⟩
  have rl : (range 0 (A0.length : Int)).length = A0.length := by simp [range]
  obtain ⟨g1, g2⟩ := rd_loop (ln2 := 1) c.k 10 (by decide) (range 0 (A0.length : Int)) (c.es z) page 1 [] H0 (by rw [rl]; exact Nat.le_trans (Nat.add_le_add_left r.s3 _) (by decide)) rfl rfl
  rw [rl, r.rd] at g1 g2
  obtain ⟨z1, hz1⟩ := foldl_10 c (range 0 (A0.length : Int)) z
  refine ⟨z1, t_for (s_range e_int (e_var (v := .int (A0.length : Int)) (congrArg (fun x => some (some (AV.int x))) r.sz)) (by have := r.s3; lia)) (g1.trans (congrArg (fun ρ => some (Fl.next, ρ, c.hp R lnp [97] 1 (A0.map An.tok) [] [])) hz1)), g2⟩
theorem rg : range 1 ((c.names.length : Nat) : Int) = (List.range' 1 N).map fun (i : Nat) => AV.int (i : Int) := by
  unfold range
  rw [r.nl, show (((N + 1 : Nat) : Int) - 1).toNat = N by lia, List.range'_eq_map_range, List.map_map]
  apply List.map_congr_left
  intro i _
  simp
theorem N40 : N < 40 := Nat.lt_of_lt_of_le r.NF r.Fl
theorem l1 (z : slots) (h : c.rd.Ok R (A0.map An.tok) []) : ∃ z1 ln', evS (GK c.k) (.for none 11 (.sRange (.int 1) (.len (.var 2))) turnB) (c.es z) (c.hp R lnp [97] 1 (A0.map An.tok) [] []) = some (.next, c.es z1, c.hp [10] ln' [97] 1 ((F.drop N).map An.tok) (ents lab c.calf c.apart N 1 F (lnp + cnt10 R)) [])
    ∧ c.rd.Ok [10] ((F.drop N).map An.tok) (ents lab c.calf c.apart N 1 F (lnp + cnt10 R)) ∧ ln' + 1 = endS lab c.calf c.apart N 1 F (lnp + cnt10 R) := by
  obtain ⟨z2, ln', f1, f2, f4⟩ := herd_loop r.C N 0 A0 R lnp [] z ⟨r.g, Nat.zero_add _, r.s1, r.Rw, r.R2, h, by rw [List.length_nil, Nat.zero_add]; exact Nat.le_trans (Nat.le_of_lt r.N40) (by decide)⟩
  have hl : lastR N R = [10] := by
    cases N with
    | zero => exact absurd r.N1 (by decide)
    | succ n => rfl
  rw [hl] at f1 f2 f4
  exact ⟨z2, ln', t_for (s_range e_int (e_len (n := c.names.length) (e_var (v := .lst (qv c.names)) rfl) (congrArg some (List.length_map _)) (by have := r.nl; have := r.N40; lia)) (by have := r.nl; have := r.N40; lia)) (by rw [r.rg]; exact f1), f2, f4⟩
theorem tail : ∃ a T, F.drop N = a :: T ∧ (∀ b ∈ a :: T, b.Ok) ∧ T.length + 1 ≤ 39 := by
  refine ⟨_, _, List.drop_eq_getElem_cons r.NF, fun b hb => r.C.hF b (List.mem_of_mem_drop (by rw [List.drop_eq_getElem_cons r.NF]; exact hb)), ?_⟩
  rw [List.length_drop]
  have := r.Fl; have := r.N1; lia
theorem fin (z : slots) (ln' : Int) (E : List AV) (h : c.rd.Ok [10] ((F.drop N).map An.tok) E) : ∃ ρ, evSs (GK c.k) [.assign 12 (.call (.ref 135) [.meth (.user (.ref 59)) (.var 7) []]), .while lastC lastB, .ret (.tuple [.var 8, .var 9, .meth (.user (.ref 59)) (.var 6) [], .attr (.var 6) 0])] (c.es z) (c.hp [10] ln' [97] 1 ((F.drop N).map An.tok) E [])
    = some (.ret (.tup [.ref 8, .ref 9, .str [], .int (ln' + 1)]), ρ, c.hp [] (ln' + 1) [] 1 [] E ((F.drop N).map symsA ++ [.lst (iv [261, 0])])) := by
  obtain ⟨a, T, hT, hTo, hTl⟩ := r.tail
  rw [hT] at h ⊢
  obtain ⟨j, hj, hj0⟩ := (hTo a (.head _)).head
  obtain ⟨e1, e2⟩ := last_loop (z := z) (ln := ln') T (1000000 - 3 - T.length) a.syms j [] (fun b hb => hTo b (.tail _ hb)) hj hj0 (by show 0 + T.length + 2 ≤ 40; rw [Nat.zero_add]; exact Nat.succ_le_succ hTl) (HROk.pop h)
  rw [show 1000000 - 3 - T.length + 3 + T.length = 1000000 by lia] at e1
  have t1 := rd_tok (ln := ln') (ln2 := 1) c.k e2 (ρ := c.sy z [0]) rfl
  rw [show lx1 [10] ln' = ([], ln' + 1, []) from lx1_ws (by decide) ..] at t1
  exact ⟨_, ss_next (t_assign (cut_tok c.k (hTo a (.head _)) h rfl)) (ss_next (t_while e1) (ss_stop (t_ret (e_tuple (es_cons (e_var (v := .ref 8) rfl) (es_cons (e_var (v := .ref 9) rfl) (es_cons t1 (es_cons (e_attr (e_var (v := .inst 4) rfl) rfl) es_nil)))) (by simp)))))⟩
end RunOk
theorem fz_out {c : RE} {l v : Int} {E1 E2 : List AV} (h1 : ∀ x ∈ E1, ∃ a s ln, x = entry a s ln) (h2 : ∀ x ∈ E2, ∃ l, x = .lst (iv l)) :
    fz (c.hp [] l [] 1 [] E1 E2) 3 6 (.tup [.ref 8, .ref 9, .str [], .int v]) = some (.tup [.lst E1, .lst E2, .str [], .int v]) := by
  have s1 : fzs (fz (c.hp [] l [] 1 [] E1 E2) 3 4) E1 = some E1 := fzs_all _ _ fun x hx => by
    obtain ⟨b, s, l, rfl⟩ := h1 x hx
    exact fz_entry _ _ 1 _ _ _
  have s2 : fzs (fz (c.hp [] l [] 1 [] E1 E2) 3 4) E2 = some E2 := fzs_all _ _ fun x hx => by
    obtain ⟨l, rfl⟩ := h2 x hx
    exact fz_iv _ _ 2 _
  show ((((fzs (fz (c.hp [] l [] 1 [] E1 E2) 3 4) E1).map AV.lst).bind fun d => ((((fzs (fz (c.hp [] l [] 1 [] E1 E2) 3 4) E2).map AV.lst).bind fun e => (fzs (fz (c.hp [] l [] 1 [] E1 E2) 3 5) [.str [], .int v]).map fun ds => e :: ds)).map fun ds => d :: ds)).map AV.tup = _
  rw [s1, s2]
  rfl
theorem run_spec {c : RE} {lab : Nat → List Nat × Int} {young N : Nat} {F A0 : List An} {page : List Nat} {lnp : Int} {R : List Nat} (r : RunOk c lab young N F A0 page lnp R) :
    l1call (c.k + 3) (.ref 142) [.ref 2, .int c.size, .lst (qv c.names), .str c.calf, .bool c.apart, .lst (qv c.ends)] [c.m0, c.m1, .list (chs page)] =
      some (.tup [.lst (ents lab c.calf c.apart N 1 F (lnp + cnt10 R)), .lst ((F.drop N).map symsA ++ [.lst (iv [261, 0])]), .str [], .int (endS lab c.calf c.apart N 1 F (lnp + cnt10 R))], [c.m0, c.m1, .list (chs [])]) := by
  obtain ⟨z1, e0, h0⟩ := r.l0 (none, none, none, none, none, none, none, none)
  obtain ⟨z2, ln', e1, h1, hE⟩ := r.l1 z1 h0
  obtain ⟨ρ, e2⟩ := r.fin z2 ln' _ h1
  rw [← hE]
  have cr : ∀ args hp, l1call (c.k + 3) (.ref 142) args hp = runFn (GK c.k) l1d__law_run args hp := fun _ _ => rfl
  rw [cr]
  refine run_ret rfl (ss_next r.u (ss_next e0 (ss_next e1 e2))) ?_
  refine close_keep (hp := [c.m0, c.m1, .list (chs page)]) rfl (by show (_ && (_ && (_ && _))) = true; rw [r.b0, r.b1]; rfl) ?_
  refine fz_out (fun x hx => ents_mem _ _ _ _ _ _ _ x hx) fun x hx => ?_
  rcases List.mem_append.mp hx with hx | hx
  · obtain ⟨b, _, rfl⟩ := List.mem_map.mp hx
    exact ⟨_, rfl⟩
  · exact ⟨[261, 0], List.mem_singleton.mp hx⟩
end Mine
end
section
namespace Mine
open PySem
theorem lx3_ln : ∀ (n : Nat) (L tok : List Nat) (ln : Int), L.length < n → lx3 L tok ln = ((lx3 L tok 0).1, (lx3 L tok 0).2.1, ln + (lx3 L tok 0).2.2.1, (lx3 L tok 0).2.2.2)
  | 0, L, tok, ln, h => absurd h (Nat.not_lt_zero _)
  | n + 1, [], tok, ln, h => by simp [lx3]
  | n + 1, c :: r, tok, ln, h => by
    rw [lx3_cons, lx3_cons]
    split
    · simp
    · split
      · cases r with
        | nil => simp
        | cons d r =>
          simp only []
          rw [lx3_ln n r _ (ln + nl [c] + nl [d]) (by simp at h; lia), lx3_ln n r _ (0 + nl [c] + nl [d]) (by simp at h; lia)]
          simp; lia
      · rw [lx3_ln n r _ (ln + nl [c]) (by simp at h; lia), lx3_ln n r _ (0 + nl [c]) (by simp at h; lia)]
        simp; lia
theorem lx2_ln : ∀ (n : Nat) (L tok : List Nat) (ln : Int), L.length < n → lx2 L tok ln = ((lx2 L tok 0).1, (lx2 L tok 0).2.1, ln + (lx2 L tok 0).2.2.1, (lx2 L tok 0).2.2.2)
  | 0, L, tok, ln, h => absurd h (Nat.not_lt_zero _)
  | n + 1, [], tok, ln, h => by simp [lx2]
  | n + 1, c :: r, tok, ln, h => by
    rw [lx2_cons, lx2_cons]
    split
    · simp
    · split
      · cases r with
        | nil => simp
        | cons d r =>
          simp only []
          rw [lx2_ln n r _ (ln + nl [c] + nl [d]) (by simp at h; lia), lx2_ln n r _ (0 + nl [c] + nl [d]) (by simp at h; lia)]
          simp; lia
      · rw [lx2_ln n r _ (ln + nl [c]) (by simp at h; lia), lx2_ln n r _ (0 + nl [c]) (by simp at h; lia)]
        simp; lia
theorem lx1_ln : ∀ (L : List Nat) (ln : Int), lx1 L ln = ((lx1 L 0).1, ln + (lx1 L 0).2.1, (lx1 L 0).2.2)
  | [], ln => by simp [lx1]
  | c :: r, ln => by
    rw [lx1_cons, lx1_cons]
    split
    · rw [lx1_ln r (ln + nl [c]), lx1_ln r (0 + nl [c])]
      simp; lia
    · split
      · rw [lx2_ln _ r _ (ln + nl [c]) (Nat.lt_succ_self _), lx2_ln _ r _ (0 + nl [c]) (Nat.lt_succ_self _)]
        simp; lia
      · split
        · cases r with
          | nil => simp
          | cons d r =>
            simp only []
            rw [lx3_ln _ r _ (ln + nl [c] + nl [d]) (Nat.lt_succ_self _), lx3_ln _ r _ (0 + nl [c] + nl [d]) (Nat.lt_succ_self _)]
            simp; lia
        · rw [lx3_ln _ r _ (ln + nl [c]) (Nat.lt_succ_self _), lx3_ln _ r _ (0 + nl [c]) (Nat.lt_succ_self _)]
          simp; lia
noncomputable def sg7 : List Nat := [32, 9, 34, 92, 35, 97, 11]
noncomputable def wr (d s m : Nat) : List Nat :=
  if m = 1 then [34, 92] ++ List.replicate d 46 ++ (if s = 34 ∨ s = 92 then [92] else []) ++ [s] ++ [34]
  else if m = 2 then (List.replicate d [92, 46]).flatten ++ [92] ++ [s]
  else List.replicate d 46 ++ (if s = 32 ∨ s = 9 ∨ s = 92 then [92] else []) ++ [s]
noncomputable def rowOf (x : Nat) : List Nat := wr (1 + x % 6) (sg7.getD (x / 6 % 7) 0) (x / 42 % 3)
noncomputable def rowAn (x : Nat) : An := ⟨1 + x % 6 + (if x / 42 % 3 = 0 then 1 else 0), [sg7.getD (x / 6 % 7) 0], 256 + ((x / 6 % 7 : Nat) : Int)⟩
noncomputable def dotted (row : List Nat) : List Nat := (if row.head? = some 46 then [46] else []) ++ row
noncomputable def remOf (x : Nat) : List Nat := if x / 42 % 3 = 1 then [13, 10, 13, 10] else [10, 13, 10]
theorem row_mod (x : Nat) : rowOf x = rowOf (x % 126) ∧ rowAn x = rowAn (x % 126) ∧ remOf x = remOf (x % 126) := by
  have e1 : x % 126 % 6 = x % 6 := Nat.mod_mod_of_dvd x (by decide)
  have e2 : x % (6 * 21) / 6 % 7 = x / 6 % 7 := by rw [Nat.mod_mul_right_div_self]; exact Nat.mod_mod_of_dvd _ (by decide)
  have e3 : x % (42 * 3) / 42 % 3 = x / 42 % 3 := by rw [Nat.mod_mul_right_div_self, Nat.mod_mod]
  unfold rowOf rowAn remOf
  rw [e1, e2, e3]
  exact ⟨rfl, rfl, rfl⟩
theorem row_lex0 (rest : List Nat) : ((List.range 126).map fun x => lx1 (dotted (rowOf x) ++ ([13, 10, 13, 10] ++ rest)) 0) = (List.range 126).map fun x => ((rowAn x).tok, (0 : Int), remOf x ++ rest) := by kernel_rfl
noncomputable def rowB (x : Nat) : Bool := (rowOf x).all (fun c => decide (c ≠ 10 ∧ c ≠ 13 ∧ c < 128)) && !(rowOf x).isEmpty && decide ((rowOf x).length ≤ 40) && cutOk (rowAn x).s (rowAn x).k
theorem row_chk : (List.range 126).all rowB = true := by decide +kernel
theorem row_lex (x : Nat) (rest : List Nat) (ln : Int) : lx1 (dotted (rowOf x) ++ ([13, 10, 13, 10] ++ rest)) ln = ((rowAn x).tok, ln, remOf x ++ rest) := by
  obtain ⟨m1, m2, m3⟩ := row_mod x
  rw [m1, m2, m3]
  have h : x % 126 < 126 := Nat.mod_lt _ (by decide)
  generalize x % 126 = y at h
  have := row_lex0 rest
  have := congrArg (fun l => l[y]?) this
  simp only [List.getElem?_map, List.getElem?_range h, Option.map_some] at this
  rw [lx1_ln, Option.some.inj this]
  simp
theorem row_ok (x : Nat) : rowB x = true := by
  obtain ⟨m1, m2, m3⟩ := row_mod x
  unfold rowB
  rw [m1, m2]
  exact List.all_eq_true.mp row_chk (x % 126) (List.mem_range.mpr (Nat.mod_lt _ (by decide)))
theorem row_plain (x : Nat) : plain (rowOf x) ∧ rowOf x ≠ [] ∧ (rowOf x).length ≤ 40 ∧ ∀ c ∈ rowOf x, c < 128 := by
  have h := row_ok x
  unfold rowB at h
  simp only [Bool.and_eq_true, List.all_eq_true, decide_eq_true_eq] at h
  obtain ⟨⟨⟨h1, h2⟩, h3⟩, h4⟩ := h
  exact ⟨fun c hc => ⟨(h1 c hc).1, (h1 c hc).2.1⟩, by intro e; rw [e] at h2; exact absurd h2 (by decide), h3, fun c hc => (h1 c hc).2.2⟩
theorem rowAn_ok (x : Nat) : (rowAn x).Ok := by
  have h := row_ok x
  unfold rowB at h
  simp only [Bool.and_eq_true] at h
  refine An.ok_of ?_ ?_ ?_ h.2 ?_ ?_ ?_
  · show 1 ≤ 1 + x % 6 + _
    lia
  · show 1 + x % 6 + (if x / 42 % 3 = 0 then 1 else 0) ≤ 30
    split <;> lia
  · exact Nat.le_trans (Nat.le_of_eq rfl) (by decide : 1 ≤ 3)
  · show 256 + ((x / 6 % 7 : Nat) : Int) ≠ 52
    lia
  · show 256 + ((x / 6 % 7 : Nat) : Int) ≠ 23
    lia
  · show 256 + ((x / 6 % 7 : Nat) : Int) ≠ 0
    lia
noncomputable def pageOf (ns : List Nat) : List Nat := (ns.map fun x => dotted (rowOf x) ++ [13, 10, 13, 10]).flatten
theorem stf_row {x : List Nat} (h : plain x) (hx : x ≠ []) (z : List Nat) : stf true (x ++ z) = dotted x ++ stf false z := by
  unfold dotted
  by_cases q : x.head? = some 46
  · rw [if_pos q, stf_dot h q]; rfl
  · rw [if_neg q, stf_none true x z (fun c hc => (h c hc).1) (fun _ => trivial) (fun _ => q) hx]; rfl
theorem nrm_ends {e : List Nat} (h : isEnd e) {z : List Nat} (hz : z.head? ≠ some 10) : nrm (e ++ (e ++ z)) = [13, 10] ++ ([13, 10] ++ nrm z) := by
  rcases h with rfl | rfl | rfl
  · simp only [List.cons_append, List.nil_append]
    rw [nrm_cons, if_neg (by decide), if_pos rfl, nrm_cons, if_neg (by decide), if_pos rfl]
  · rw [nrm_end (.inr (.inl rfl)) (by simp), nrm_end (.inr (.inl rfl)) hz]
  · rw [nrm_end (.inr (.inr rfl)) (by simp), nrm_end (.inr (.inr rfl)) hz]
theorem qd_page : ∀ (l : List (Nat × List Nat)), (∀ p ∈ l, isEnd p.2) → qd ((l.map fun p => rowOf p.1 ++ (p.2 ++ p.2)).flatten) = pageOf (l.map (·.1))
  | [], _ => rfl
  | (x, e) :: l, h => by
    have ih := qd_page l fun p hp => h p (.tail _ hp)
    obtain ⟨h1, h2, _⟩ := row_plain x
    have hz : ((l.map fun p => rowOf p.1 ++ (p.2 ++ p.2)).flatten).head? ≠ some 10 := by
      cases l with
      | nil => simp
      | cons p l =>
        obtain ⟨k1, k2, _⟩ := row_plain p.1
        cases hr : rowOf p.1 with
        | nil => exact absurd hr k2
        | cons c r =>
          rw [hr] at k1
          have := (k1 c (.head _)).1
          simp [hr, this]
    unfold qd pageOf at ih ⊢
    rw [List.map_cons, List.flatten_cons, List.map_cons, List.map_cons, List.flatten_cons, ← ih]
    simp only []
    rw [List.append_assoc, List.append_assoc, nrm_plain h1, nrm_ends (h _ (.head _)) hz, stf_row h1 h2]
    have e1 : ∀ z, stf false ([13, 10] ++ ([13, 10] ++ z)) = [13, 10] ++ ([13, 10] ++ stf true z) := fun z => by
      rw [stf_crlf, stf_crlf]
    rw [e1]
    simp
theorem rd_page : ∀ (ns : List Nat) (w : List Nat) (ln : Int), (∀ c ∈ w, wsB c = true) → ∃ lnp R, rdN ns.length (w ++ pageOf ns) ln = (ns.map fun x => (rowAn x).tok, lnp, R) ∧ (∀ c ∈ R, wsB c = true) ∧ (R = w ∨ R.length ≤ 4) ∧ lnp + cnt10 R = ln + cnt10 w + 2 * ns.length
  | [], w, ln, hw => ⟨ln, w, by simp [rdN, pageOf], hw, .inl rfl, by simp⟩
  | x :: ns, w, ln, hw => by
    have e0 : w ++ pageOf (x :: ns) = w ++ (dotted (rowOf x) ++ ([13, 10, 13, 10] ++ pageOf ns)) := by simp [pageOf]
    have e1 : lx1 (w ++ pageOf (x :: ns)) ln = ((rowAn x).tok, ln + cnt10 w, remOf x ++ pageOf ns) := by
      rw [e0, lx1_skip w hw, row_lex]
    have hr : ∀ c ∈ remOf x, wsB c = true := by
      unfold remOf
      split <;> decide
    have hc : cnt10 (remOf x) = 2 := by
      unfold remOf
      split <;> decide
    have hl : (remOf x).length ≤ 4 := by
      unfold remOf
      split <;> decide
    obtain ⟨lnp, R, r1, r2, r3, r4⟩ := rd_page ns (remOf x) (ln + cnt10 w) hr
    refine ⟨lnp, R, ?_, r2, .inr ?_, ?_⟩
    · simp only [List.length_cons, rdN, e1, r1, List.map_cons]
    · rcases r3 with rfl | r3
      · exact hl
      · exact r3
    · rw [r4, hc]; simp; lia
noncomputable def signsT : List Nat := [40, 32, 41, 32, 91, 32, 93, 32, 58, 32, 44, 32, 59, 32, 43, 32, 45, 32, 42, 32, 47, 32, 124, 32, 38, 32, 60, 32, 62, 32, 61, 32, 37, 32, 123, 32, 125, 32, 61, 61, 32, 33, 61, 32, 60, 61, 32, 62, 61, 32, 126, 32, 94, 32, 60, 60, 32, 62, 62, 32, 42, 42, 32, 43, 61, 32, 45, 61, 32, 42, 61, 32, 47, 61, 32, 37, 61, 32, 38, 61, 32, 124, 61, 32, 94, 61, 32, 60, 60, 61, 32, 62, 62, 61, 32, 42, 42, 61, 32, 47, 47, 32, 47, 47, 61, 32, 64, 32, 64, 61, 32, 45, 62, 32, 58, 61, 32, 33]
noncomputable def signsL : List (List Nat) := (Txt.split (S signsT) (S [32])).map fun z => z.cps.toList
noncomputable def freeL : List Int := (List.range 16).map (fun (i : Nat) => (7 : Int) + i) ++ (List.range 28).map (fun (i : Nat) => (24 : Int) + i) ++ [53, 54]
noncomputable def okcB (c : Nat) : Bool := !wsB c && decide (c ≠ 34 ∧ c ≠ 92 ∧ c ≠ 10 ∧ c ≠ 13 ∧ c < 128)
noncomputable def signB (p : Nat) : Bool := match signsL[p]?, freeL[p]? with
  | some s, some k => s.all okcB && decide (s.length ≤ 3) && cutOk s k && decide (k ≠ 52 ∧ k ≠ 23 ∧ k ≠ 0)
  | _, _ => false
theorem sign_chk : (List.range 46).all signB = true := by decide +kernel
theorem sign_ok (p : Nat) (h : p < 46) : ∃ s k, signsL[p]? = some s ∧ freeL[p]? = some k ∧ NameOk s ∧ cutOk s k = true ∧ k ≠ 52 ∧ k ≠ 23 ∧ k ≠ 0 := by
  have := List.all_eq_true.mp sign_chk p (List.mem_range.mpr h)
  unfold signB at this
  split at this
  · rename_i s k h1 h2
    simp only [Bool.and_eq_true, List.all_eq_true, decide_eq_true_eq] at this
    obtain ⟨⟨⟨a, b⟩, c⟩, d⟩ := this
    refine ⟨s, k, h1, h2, ⟨fun x hx => ?_, b⟩, c, d.1, d.2.1, d.2.2⟩
    have := a x hx
    unfold okcB at this
    simp only [Bool.and_eq_true, decide_eq_true_eq, Bool.not_eq_true'] at this
    exact ⟨this.1, this.2⟩
  · cases this
theorem wr_ev0 (k : Nat) : ((List.range 126).map fun x => l1call (k + 1) (.ref 128) [.int ((1 + x % 6 : Nat) : Int), .str [sg7.getD (x / 6 % 7) 0], .int ((x / 42 % 3 : Nat) : Int)] []) = (List.range 126).map fun x => some (.str (rowOf x), []) := by kernel_rfl
theorem wr_ev (k x : Nat) : l1call (k + 1) (.ref 128) [.int ((1 + x % 6 : Nat) : Int), .str [sg7.getD (x / 6 % 7) 0], .int ((x / 42 % 3 : Nat) : Int)] [] = some (.str (rowOf x), []) := by
  have e1 : x % 126 % 6 = x % 6 := Nat.mod_mod_of_dvd x (by decide)
  have e2 : x % (6 * 21) / 6 % 7 = x / 6 % 7 := by rw [Nat.mod_mul_right_div_self]; exact Nat.mod_mod_of_dvd _ (by decide)
  have e3 : x % (42 * 3) / 42 % 3 = x / 42 % 3 := by rw [Nat.mod_mul_right_div_self, Nat.mod_mod]
  have h : x % 126 < 126 := Nat.mod_lt _ (by decide)
  have := congrArg (fun l => l[x % 126]?) (wr_ev0 k)
  simp only [List.getElem?_map, List.getElem?_range h, Option.map_some] at this
  rw [e1, e2, e3] at this
  rw [(row_mod x).1]
  exact Option.some.inj this
end Mine
end
section
namespace Mine
open PySem
noncomputable def nv (l : List Nat) : List AV := l.map fun (n : Nat) => AV.int (n : Int)
theorem nv_iv (l : List Nat) : nv l = iv (l.map fun (n : Nat) => (n : Int)) := by simp [nv, iv]
theorem intsA_nv (l : List Nat) : intsA (nv l) = some (l.map fun (n : Nat) => (n : Int)) := by
  induction l with
  | nil => rfl
  | cons a l ih => show (intsA (nv l)).map _ = _; rw [ih]; rfl
theorem sum_nv (l : List Nat) : (l.map fun (n : Nat) => (n : Int)).sum = ((l.sum : Nat) : Int) := by
  induction l with
  | nil => rfl
  | cons a l ih => simp [ih]
theorem fdiv_nat (n k : Nat) : (n : Int).fdiv (k : Int) = ((n / k : Nat) : Int) := by
  rw [Int.fdiv_eq_ediv_of_nonneg _ (by lia)]; rfl
theorem b_mod {n k : Nat} (hk : 0 < k) : binA .Mod (.int (n : Int)) (.int (k : Int)) = some (.int ((n % k : Nat) : Int)) := by
  show (if (k : Int) = 0 then none else some (AV.int ((n : Int).fmod k))) = _
  rw [if_neg (by lia), fmod_nat n k hk]
theorem b_div {n k : Nat} (hk : 0 < k) (hk2 : k < 2 ^ 20) : binA .FloorDiv (.int (n : Int)) (.int (k : Int)) = some (.int ((n / k : Nat) : Int)) := by
  show (if 0 < (k : Int) ∧ (k : Int) < 2 ^ 20 then some (AV.int ((n : Int).fdiv k)) else none) = _
  rw [if_pos (by lia), fdiv_nat n k]
theorem b_add (n k : Nat) : binA .Add (.int (n : Int)) (.int (k : Int)) = some (.int ((n + k : Nat) : Int)) := rfl
theorem b_mul {n k : Nat} (h : n < 1000 ∧ k < 1000) : binA .Mult (.int (n : Int)) (.int (k : Int)) = some (.int ((n * k : Nat) : Int)) := by
  exact if_pos (by lia)
theorem b_strs {x y : List Nat} (h : x.length + y.length ≤ 100000) : binA .Add (.str x) (.str y) = some (.str (x ++ y)) := if_pos (by unfold szMax; simp; lia)
theorem b_dots {n : Nat} (h : n < 1000) : binA .Mult (.str [46]) (.int (n : Int)) = some (.str (List.replicate n 46)) := by
  show (if _ then some (AV.str (rep (n : Int).toNat [46])) else none) = _
  rw [if_pos ⟨by decide, by lia, by lia⟩, Int.toNat_natCast, rep_dots]
theorem range0 (n : Nat) : range 0 (n : Int) = (List.range n).map fun (i : Nat) => AV.int (i : Int) := by
  unfold range
  simp
theorem e_nat {G : Gl} {ρ : Env'} {hp : Hp} (n : Nat) : evE G (.int (n : Int)) ρ hp = some (.int (n : Int), hp) := e_int
section
variable {G : Gl} {ρ : Env'} {hp : Hp} {tot size N : Nat} {ns : List Nat}
noncomputable def endsOf (e : Nat) : List (List Nat) := ((([[10], [13], [13, 10], [10], [13]] : List (List Nat)).drop e).take 3)
theorem ends_facts (e : Nat) (h : e < 3) : (endsOf e).length = 3 ∧ ∀ x ∈ endsOf e, isEnd x := by
  have : e = 0 ∨ e = 1 ∨ e = 2 := by lia
  rcases this with rfl | rfl | rfl <;> refine ⟨rfl, fun x hx => ?_⟩ <;> simp [endsOf] at hx <;> unfold isEnd <;> (rcases hx with rfl | rfl | rfl <;> simp)
theorem w_ends (h3 : ρ[3]? = some (some (.int (tot : Int)))) : evE G (.slice (.slice (.frz (.lDisp [.str [10], .str [13], .str [13, 10], .str [10], .str [13]])) (some (.bin .Mod (.bin .FloorDiv (.var 3) (.int 184)) (.int 3))) none) none (some (.int 3))) ρ hp = some (.lst (qv (endsOf (tot / 184 % 3))), hp) := by
  have hd : evL G (.lDisp [.str [10], .str [13], .str [13, 10], .str [10], .str [13]]) ρ hp = some (qv [[10], [13], [13, 10], [10], [13]], hp) :=
    l_disp (es_cons e_str (es_cons e_str (es_cons e_str (es_cons e_str (es_cons e_str es_nil))))) (by decide)
  have hm : evE G (.bin .Mod (.bin .FloorDiv (.var 3) (.int 184)) (.int 3)) ρ hp = some (.int ((tot / 184 % 3 : Nat) : Int), hp) :=
    e_bin (e_bin (e_var h3) (e_nat 184) (b_div (by decide) (by decide))) (e_nat 3) (b_mod (by decide))
  refine e_slice (x := .lst (qv ((([[10], [13], [13, 10], [10], [13]] : List (List Nat)).drop (tot / 184 % 3))))) (e_slice (e_frz hd) (o_some hm) o_none ?_) o_none (o_some e_int) ?_
  · have : tot / 184 % 3 = 0 ∨ tot / 184 % 3 = 1 ∨ tot / 184 % 3 = 2 := by lia
    rcases this with q | q | q <;> rw [q] <;> rfl
  · have : tot / 184 % 3 = 0 ∨ tot / 184 % 3 = 1 ∨ tot / 184 % 3 = 2 := by lia
    rcases this with q | q | q <;> rw [q] <;> rfl
theorem w_signs : evE G (.meth .split (.str signsT) [.str [32]]) ρ hp = some (.lst (qv signsL), hp) := by
  refine e_meth e_str rfl (es_cons e_str es_nil) ?_
  have : splitA (.str signsT) (.str [32]) = some (.lst (qv signsL)) := by
    refine (if_pos (by decide +kernel)).trans ?_
    simp only [qv, signsL, List.map_map]
    rfl
  show (splitA (.str signsT) (.str [32])).map _ = _
  rw [this]; rfl
theorem w_free : evE G (.frz (.lAdd (.frz (.lAdd (.frz (.lList (.sRange (.int 7) (.int 23)))) (.frz (.lList (.sRange (.int 24) (.int 52)))))) (.frz (.lDisp [.int 53, .int 54])))) ρ hp = some (.lst (iv freeL), hp) :=
  e_frz (l_add (xs := range 7 23 ++ range 24 52) (ys := [.int 53, .int 54]) (e_frz (l_add (xs := range 7 23) (ys := range 24 52) (e_frz (l_list (s_range e_int e_int (by decide)) (by decide))) (e_frz (l_list (s_range e_int e_int (by decide)) (by decide))) rfl rfl (by decide))) (e_frz (l_disp (es_cons e_int (es_cons e_int es_nil)) (by decide))) rfl rfl (by decide))
noncomputable def turnOf (tot i : Nat) : Nat := (tot / 4 + i) % 46
theorem w_turn (hN : N < 500) (h3 : ρ[3]? = some (some (.int (tot : Int)))) (h6 : ρ[6]? = some (some (.int (N : Int)))) :
    evE G (.frz (.lComp (.bin .Mod (.bin .Add (.bin .FloorDiv (.var 1) (.int 4)) (.var 0)) (.int 46)) none none (.sRange (.int 0) (.bin .Add (.var 6) (.int 1))) [3])) ρ hp = some (.lst (nv ((List.range (N + 1)).map (turnOf tot))), hp) := by
  refine e_frz (l_comp (vs := (List.range (N + 1)).map fun (i : Nat) => AV.int (i : Int)) (by rw [← range0]; exact s_range e_int (e_bin (e_var h6) (e_nat 1) (b_add N 1)) (by lia)) (by simp; lia) ?_)
  have hc : ([3].map fun i => (ρ[i]?).join) = [some (.int (tot : Int))] := by simp [h3]
  rw [hc]
  refine (comp_all (fun (i : Nat) => AV.int (i : Int)) (fun i => AV.int ((turnOf tot i : Nat) : Int)) (List.range (N + 1)) fun i _ => ?_).trans ?_
  · exact e_bin (e_bin (e_bin (e_var rfl) (e_nat 4) (b_div (by decide) (by decide))) (e_var rfl) (b_add _ _)) (e_nat 46) (b_mod (by decide))
  · simp [nv]
noncomputable def labOf (tot n : Nat) : List Nat × Int := (signsL.getD (turnOf tot n) [], freeL.getD (turnOf tot n) 0)
theorem lab_ok (tot n : Nat) : signsL[turnOf tot n]? = some (labOf tot n).1 ∧ freeL[turnOf tot n]? = some (labOf tot n).2 ∧ NameOk (labOf tot n).1 ∧ cutOk (labOf tot n).1 (labOf tot n).2 = true ∧ (labOf tot n).2 ≠ 52 ∧ (labOf tot n).2 ≠ 23 ∧ (labOf tot n).2 ≠ 0 := by
  obtain ⟨s, k, h1, h2, r⟩ := sign_ok (turnOf tot n) (Nat.mod_lt _ (by decide))
  have e1 : (labOf tot n).1 = s := by simp [labOf, List.getD_eq_getElem?_getD, h1]
  have e2 : (labOf tot n).2 = k := by simp [labOf, List.getD_eq_getElem?_getD, h2]
  rw [e1, e2]
  exact ⟨h1, h2, r⟩
noncomputable def namesOf (tot N : Nat) : List (List Nat) := (List.range (N + 1)).map fun n => (labOf tot n).1
theorem w_names (hN : N < 500) (h10 : ρ[10]? = some (some (.lst (nv ((List.range (N + 1)).map (turnOf tot)))))) (h8 : ρ[8]? = some (some (.lst (qv signsL)))) :
    evE G (.frz (.lComp (.idx (.var 1) (.var 0)) none none (.sVal (.var 10)) [8])) ρ hp = some (.lst (qv (namesOf tot N)), hp) := by
  have hl : (nv ((List.range (N + 1)).map (turnOf tot))) = (List.range (N + 1)).map fun i => AV.int ((turnOf tot i : Nat) : Int) := by simp [nv]
  refine e_frz (l_comp (s_val (e_var h10) rfl) (by simp [nv]; lia) ?_)
  have hc : ([8].map fun i => (ρ[i]?).join) = [some (.lst (qv signsL))] := by simp [h8]
  rw [hc, hl]
  refine (comp_all (fun (i : Nat) => AV.int ((turnOf tot i : Nat) : Int)) (fun i => AV.str (labOf tot i).1) (List.range (N + 1)) fun i _ => ?_).trans ?_
  · exact e_idx (e_var rfl) (e_var rfl) (idx_qv hp signsL (turnOf tot i) _ (Nat.lt_trans (Nat.mod_lt _ (by decide)) (by decide)) (lab_ok tot i).1)
  · simp [qv, namesOf]
end
end Mine
end
section
namespace Mine
open PySem
section
variable {G : Gl} {ρ : Env'} {hp : Hp} {tot size N : Nat} {ns : List Nat}
theorem atIdx_nat {α : Type} (l : List α) (n : Nat) (hn : n < 1000) : atIdx l (n : Int) = l[n]? := by
  unfold atIdx
  rw [if_pos (by lia), if_pos (by lia)]
  simp
theorem sg7_at (x : Nat) : idxA hp (.str [32, 9, 34, 92, 35, 97, 11]) (.int ((x / 6 % 7 : Nat) : Int)) = some (.str [sg7.getD (x / 6 % 7) 0]) := by
  have : x / 6 % 7 < 7 := Nat.mod_lt _ (by decide)
  show (atIdx sg7 ((x / 6 % 7 : Nat) : Int)).map _ = _
  rw [atIdx_nat _ _ (by lia)]
  have h : x / 6 % 7 < sg7.length := this
  rw [List.getElem?_eq_getElem h]
  simp [List.getD_eq_getElem?_getD, List.getElem?_eq_getElem h]
theorem w_written (k : Nat) (hl : ns.length ≤ 10) (h1 : ρ[1]? = some (some (.lst (nv ns)))) :
    evE (l1G (l1call (k + 1))) (.frz (.lComp (.call (.ref 128) [.bin .Add (.int 1) (.bin .Mod (.var 0) (.int 6)), .idx (.str [32, 9, 34, 92, 35, 97, 11]) (.bin .Mod (.bin .FloorDiv (.var 0) (.int 6)) (.int 7)), .bin .Mod (.bin .FloorDiv (.var 0) (.int 42)) (.int 3)]) none none (.sVal (.var 1)) [])) ρ [] = some (.lst (qv (ns.map rowOf)), []) := by
  refine e_frz (l_comp (s_val (e_var h1) rfl) (by simp [nv]; lia) ?_)
  refine (comp_all (fun (n : Nat) => AV.int (n : Int)) (fun x => AV.str (rowOf x)) ns fun x _ => ?_).trans ?_
  · exact e_call (es_cons (e_bin (e_nat 1) (e_bin (e_var rfl) (e_nat 6) (b_mod (by decide))) (b_add _ _)) (es_cons (e_idx e_str (e_bin (e_bin (e_var rfl) (e_nat 6) (b_div (by decide) (by decide))) (e_nat 7) (b_mod (by decide))) (sg7_at x)) (es_cons (e_bin (e_bin (e_var rfl) (e_nat 42) (b_div (by decide) (by decide))) (e_nat 3) (b_mod (by decide))) es_nil))) (wr_ev k x)
  · simp [qv]
theorem strsA_qv (ws : List (List Nat)) : strsA (qv ws) = some ws := by
  induction ws with
  | nil => rfl
  | cons w ws ih => show (strsA (qv ws)).map _ = _; rw [ih]; rfl
theorem j_empty {ws : List (List Nat)} (h1 : ws.length ≤ 1000) (h2 : ∀ w ∈ ws, w.length ≤ 10000) : methA G hp .join (.str []) [.lst (qv ws)] = some (.str ws.flatten, hp) := by
  show (((strsA (qv ws)).bind _).map _) = _
  rw [strsA_qv]
  show (if _ then _ else none : Option AV).map _ = _
  rw [if_pos ⟨h1, by decide, by
    rw [List.all_eq_true]
    intro w hw
    have := h2 w hw
    simp; lia⟩, join_nil]
  rfl
theorem isEnd_len {e : List Nat} (h : isEnd e) : e.length ≤ 2 := by rcases h with rfl | rfl | rfl <;> decide
theorem rep2 (x : List Nat) : rep 2 x = x ++ x := by simp [rep, List.replicate_succ]
theorem b_two {e : List Nat} (h : e.length ≤ 2) : binA .Mult (.int 2) (.str e) = some (.str (e ++ e)) := by
  show (if _ then some (AV.str (rep 2 e)) else none) = _
  rw [if_pos ⟨by lia, by decide, by decide⟩, rep2]
theorem zip_range (ns : List Nat) (ends : List (List Nat)) (h : ns.length ≤ ends.length) : ((List.range ns.length).map fun k => rowOf (ns.getD k 0) ++ (ends.getD k [] ++ ends.getD k [])) = (ns.zip ends).map fun p => rowOf p.1 ++ (p.2 ++ p.2) := by
  apply List.ext_getElem
  · simp; lia
  · intro i h1 h2
    simp at h1 h2
    simp [List.getD_eq_getElem?_getD, List.getElem?_eq_getElem h1, List.getElem?_eq_getElem (show i < ends.length by lia)]
theorem fst_zip (ns : List Nat) (ends : List (List Nat)) (h : ns.length ≤ ends.length) : (ns.zip ends).map (·.1) = ns := by
  rw [List.map_fst_zip h]
theorem dotted_len (x : List Nat) : (dotted x).length ≤ x.length + 1 := by
  unfold dotted; split <;> simp
theorem w_page (k : Nat) {ends : List (List Nat)} (hl : ns.length ≤ 3) (he : ends.length = 3) (hE : ∀ e ∈ ends, isEnd e) (h2 : ρ[2]? = some (some (.int (ns.length : Int)))) (h12 : ρ[12]? = some (some (.lst (qv (ns.map rowOf))))) (h7 : ρ[7]? = some (some (.lst (qv ends)))) :
    evE (l1G (l1call (k + 1))) (.call (.ref 90) [.meth .join (.str []) [.frz (.lComp (.bin .Add (.idx (.var 1) (.var 0)) (.bin .Mult (.int 2) (.idx (.var 2) (.var 0)))) none none (.sRange (.int 0) (.var 2)) [12, 7])]]) ρ [] = some (.str (pageOf ns), []) := by
  have hc : ([12, 7].map fun i => (ρ[i]?).join) = [some (.lst (qv (ns.map rowOf))), some (.lst (qv ends))] := by simp [h12, h7]
  have rl : ∀ x, (rowOf x).length ≤ 40 := fun x => (row_plain x).2.2.1
  have hcomp : evL (l1G (l1call (k + 1))) (.lComp (.bin .Add (.idx (.var 1) (.var 0)) (.bin .Mult (.int 2) (.idx (.var 2) (.var 0)))) none none (.sRange (.int 0) (.var 2)) [12, 7]) ρ [] = some (qv ((ns.zip ends).map fun p => rowOf p.1 ++ (p.2 ++ p.2)), []) := by
    refine l_comp (vs := (List.range ns.length).map fun (i : Nat) => AV.int (i : Int)) (by rw [← range0]; exact s_range e_int (e_var h2) (by lia)) (by simp; lia) ?_
    rw [hc]
    refine (comp_all (fun (i : Nat) => AV.int (i : Int)) (fun k => AV.str (rowOf (ns.getD k 0) ++ (ends.getD k [] ++ ends.getD k []))) (List.range ns.length) fun i hi => ?_).trans ?_
    · have hi' : i < ns.length := List.mem_range.mp hi
      have hi2 : i < ends.length := by lia
      have g1 : (ns.map rowOf)[i]? = some (rowOf (ns.getD i 0)) := by simp [List.getD_eq_getElem?_getD, List.getElem?_eq_getElem hi']
      have g2 : ends[i]? = some (ends.getD i []) := by simp [List.getD_eq_getElem?_getD, List.getElem?_eq_getElem hi2]
      have hm : ends.getD i [] ∈ ends := List.mem_of_getElem? g2
      have := isEnd_len (hE _ hm)
      have := rl (ns.getD i 0)
      exact e_bin (e_idx (e_var rfl) (e_var rfl) (idx_qv _ _ i _ (by lia) g1)) (e_bin e_int (e_idx (e_var rfl) (e_var rfl) (idx_qv _ _ i _ (by lia) g2)) (b_two (by lia))) (b_strs (by simp only [List.length_append]; lia))
    · have e1 : ((List.range ns.length).map fun k => AV.str (rowOf (ns.getD k 0) ++ (ends.getD k [] ++ ends.getD k []))) = qv ((List.range ns.length).map fun k => rowOf (ns.getD k 0) ++ (ends.getD k [] ++ ends.getD k [])) := by simp [qv]
      rw [e1, zip_range ns ends (by lia)]
  have hmem : ∀ w ∈ (ns.zip ends).map (fun p => rowOf p.1 ++ (p.2 ++ p.2)), w.length ≤ 44 := by
    intro w hw
    obtain ⟨p, hp, rfl⟩ := List.mem_map.mp hw
    have := isEnd_len (hE _ (List.of_mem_zip hp).2)
    have := rl p.1
    simp only [List.length_append]; lia
  have hlen : ((ns.zip ends).map fun p => rowOf p.1 ++ (p.2 ++ p.2)).length ≤ 3 := by simp; lia
  have hfl : ∀ l : List (List Nat), (∀ w ∈ l, w.length ≤ 44) → l.flatten.length ≤ 44 * l.length := by
    intro l
    induction l with
    | nil => intro _; simp
    | cons a l ih =>
      intro h
      have := ih fun w hw => h w (.tail _ hw)
      have := h a (.head _)
      simp only [List.flatten_cons, List.length_append, List.length_cons]; lia
  have hx := hfl _ hmem
  refine e_call (es_cons (e_meth e_str rfl (es_cons (e_frz hcomp) es_nil) (j_empty (by lia) (fun w hw => by have := hmem w hw; lia))) es_nil) ?_
  show l1call (k + 1) (.ref 90) [.str _] [] = _
  have cq : ∀ args hp, l1call (k + 1) (.ref 90) args hp = runFn (l1G (l1call k)) l1d_quotedata args hp := fun _ _ => rfl
  rw [cq, qd_spec _ _ (by lia) rfl, qd_page _ (fun p hp => hE _ (List.of_mem_zip hp).2), fst_zip ns ends (by lia)]
theorem w_check {ts es : List MS} {r : Option (Fl × Env' × Hp)} (hl : ns.length ≤ 3) (h13 : ρ[13]? = some (some (.str (pageOf ns)))) (h12 : ρ[12]? = some (some (.lst (qv (ns.map rowOf))))) (hr : evSs G es ρ hp = r) :
    evS G (.ite (.cmp .NotEq (.var 13) (.meth .join (.str []) [.frz (.lComp (.bin .Add (.bin .Add (.ite (.cmp .Eq (.idx (.var 0) (.int 0)) (.str [46])) (.str [46]) (.str [])) (.var 0)) (.str [13, 10, 13, 10])) none none (.sVal (.var 12)) [])])) ts es) ρ hp = r := by
  have hcomp : evL G (.lComp (.bin .Add (.bin .Add (.ite (.cmp .Eq (.idx (.var 0) (.int 0)) (.str [46])) (.str [46]) (.str [])) (.var 0)) (.str [13, 10, 13, 10])) none none (.sVal (.var 12)) []) ρ hp = some (qv (ns.map fun x => dotted (rowOf x) ++ [13, 10, 13, 10]), hp) := by
    refine l_comp (s_val (e_var h12) rfl) (by simp [qv]; lia) ?_
    have e0 : qv (ns.map rowOf) = ns.map fun x => AV.str (rowOf x) := by simp [qv]
    rw [e0]
    refine (comp_all (fun x => AV.str (rowOf x)) (fun x => AV.str (dotted (rowOf x) ++ [13, 10, 13, 10])) ns fun x _ => ?_).trans ?_
    · obtain ⟨p1, p2, p3, p4⟩ := row_plain x
      generalize rowOf x = row at p2 p3
      cases row with
      | nil => exact absurd rfl p2
      | cons c row =>
        have ei : idxA hp (.str (c :: row)) (.int 0) = some (.str [c]) := rfl
        have ed : dotted (c :: row) = (if c = 46 then [46] else []) ++ (c :: row) := by
          unfold dotted
          by_cases q : c = 46 <;> simp [q]
        have ec : evC G (.cmp .Eq (.idx (.var 0) (.int 0)) (.str [46])) [some (.str (c :: row))] hp = some (decide ([c] = [46]), hp) := c_cmp (e_idx (e_var rfl) e_int ei) e_str rfl
        have ei2 : evE G (.ite (.cmp .Eq (.idx (.var 0) (.int 0)) (.str [46])) (.str [46]) (.str [])) [some (.str (c :: row))] hp = some (.str (if c = 46 then [46] else []), hp) := by
          by_cases q : c = 46
          · subst q
            exact e_ite_t (by rw [ec]; rfl) (by rw [if_pos rfl]; exact e_str)
          · rw [if_neg q]
            exact e_ite_f (by rw [ec, decide_eq_false (by simpa using q)]) e_str
        rw [ed]
        exact e_bin (e_bin ei2 (e_var rfl) (b_strs (by split <;> simp at p3 ⊢ <;> lia))) e_str (b_strs (by split <;> simp at p3 ⊢ <;> lia))
    · simp [qv]
  have hj := j_empty (G := G) (hp := hp) (ws := ns.map fun x => dotted (rowOf x) ++ [13, 10, 13, 10]) (by simp; lia) (fun w hw => by
    obtain ⟨x, _, rfl⟩ := List.mem_map.mp hw
    have := dotted_len (rowOf x)
    have := (row_plain x).2.2.1
    simp only [List.length_append, List.length_cons, List.length_nil]; lia)
  refine t_ite_f (c_cmp (e_var h13) (e_meth e_str rfl (es_cons (e_frz hcomp) es_nil) hj) ?_) hr
  show some (!decide (pageOf ns = (ns.map fun x => dotted (rowOf x) ++ [13, 10, 13, 10]).flatten)) = _
  unfold pageOf
  simp
theorem w_herd (hl : ns.length ≤ 3) (h1 : ρ[1]? = some (some (.lst (nv ns)))) : evE G (.frz (.lComp (.bin .Add (.bin .Add (.int 1) (.bin .Mod (.var 0) (.int 6))) (.ite (.cmp .Eq (.bin .Mod (.bin .FloorDiv (.var 0) (.int 42)) (.int 3)) (.int 0)) (.int 1) (.int 0))) none none (.sVal (.var 1)) [])) ρ hp = some (.lst (nv (ns.map fun x => (rowAn x).d)), hp) := by
  refine e_frz (l_comp (s_val (e_var h1) rfl) (by simp [nv]; lia) ?_)
  refine (comp_all (fun (n : Nat) => AV.int (n : Int)) (fun x => AV.int (((rowAn x).d : Nat) : Int)) ns fun x _ => ?_).trans ?_
  · have ec : evC G (.cmp .Eq (.bin .Mod (.bin .FloorDiv (.var 0) (.int 42)) (.int 3)) (.int 0)) [some (.int (x : Int))] hp = some (decide (((x / 42 % 3 : Nat) : Int) = 0), hp) := c_cmp (e_bin (e_bin (e_var rfl) (e_nat 42) (b_div (by decide) (by decide))) (e_nat 3) (b_mod (by decide))) e_int rfl
    refine e_bin (x := .int ((1 + x % 6 : Nat) : Int)) (y := .int ((if x / 42 % 3 = 0 then 1 else 0 : Nat) : Int)) (e_bin (e_nat 1) (e_bin (e_var rfl) (e_nat 6) (b_mod (by decide))) (b_add _ _)) ?_ (b_add _ _)
    by_cases q : x / 42 % 3 = 0
    · rw [if_pos q]
      exact e_ite_t (ec.trans (by rw [decide_eq_true (by lia)])) e_int
    · rw [if_neg q]
      exact e_ite_f (ec.trans (by rw [decide_eq_false (by lia)])) e_int
  · simp [nv]
end
end Mine
end
section
namespace Mine
open PySem
noncomputable def anOf (tot : Nat) (p : Nat × Nat) : An := ⟨p.1, (labOf tot p.2).1, (labOf tot p.2).2⟩
theorem grow_gr (young tot : Nat) : ∀ (k n : Nat) (A : List An) (B : List (Nat × Nat)), A.map An.d = B.map (·.1) → 1 ≤ n → n ≤ A.length →
    ∃ T : List (Nat × Nat), growA young (labOf tot) k n A = A ++ T.map (anOf tot) ∧ gr young k n B = B ++ T ∧ (∀ p ∈ T, n ≤ p.2 ∧ p.2 < n + k) ∧ k ≤ T.length
  | 0, n, A, B, h, _, _ => ⟨[], by simp [growA], by simp [gr], by simp, Nat.le_refl _⟩
  | k + 1, n, A, B, h, h1, h2 => by
    have hl : A.length = B.length := by
      have := congrArg List.length h
      simpa using this
    have a1 : n - 1 < A.length := by lia
    have b1 : n - 1 < B.length := by lia
    have ed : (A[n - 1]).d = (B[n - 1]).1 := by
      have := congrArg (fun l => l[n - 1]?) h
      simpa [List.getElem?_map, List.getElem?_eq_getElem a1, List.getElem?_eq_getElem b1] using this
    have hm : (A ++ newAn young (labOf tot n) A[n - 1]).map An.d = (B ++ ((B[n - 1]).1 + 1, n) :: (if 2 < (B[n - 1]).1 then [(young, n)] else [])).map (·.1) := by
      unfold newAn
      rw [ed]
      by_cases q : 2 < (B[n - 1]).1
      · simp [q, h]
      · simp [q, h]
    obtain ⟨T, t1, t2, t3, t4⟩ := grow_gr young tot k (n + 1) (A ++ newAn young (labOf tot n) A[n - 1]) (B ++ ((B[n - 1]).1 + 1, n) :: (if 2 < (B[n - 1]).1 then [(young, n)] else [])) hm (by lia) (by
      unfold newAn; simp; lia)
    refine ⟨((B[n - 1]).1 + 1, n) :: (if 2 < (B[n - 1]).1 then [(young, n)] else []) ++ T, ?_, ?_, ?_, ?_⟩
    · rw [growA, List.getElem?_eq_getElem a1]
      simp only []
      rw [t1, List.append_assoc, List.map_append]
      congr 2
      unfold newAn anOf
      rw [ed]
      by_cases q : 2 < (B[n - 1]).1 <;> simp [q]
    · rw [gr, List.getElem?_eq_getElem b1]
      have : B[n - 1] = ((B[n - 1]).1, (B[n - 1]).2) := rfl
      rw [this]
      simp only []
      rw [t2, List.append_assoc]
    · intro p hp
      rcases List.mem_append.mp hp with hp | hp
      · rcases List.mem_cons.mp hp with rfl | hp
        · exact ⟨Nat.le_refl _, by show n < n + (k + 1); lia⟩
        · split at hp
          · have : p = (young, n) := by simpa using hp
            subst this
            exact ⟨Nat.le_refl _, by show n < n + (k + 1); lia⟩
          · cases hp
      · have := t3 p hp
        lia
    · simp only [List.length_append, List.length_cons]; lia
section
variable {G : Gl} {ρ : Env'} {hp : Hp} {tot N : Nat} {ns : List Nat}
theorem zip_tup : ∀ F : List An, ((iv (F.map fun a => (a.d : Int))).zip (iv (F.map An.k))).map (fun p => AV.tup [p.1, p.2]) = F.map fun a => AV.tup [.int (a.d : Int), .int a.k]
  | [] => rfl
  | a :: F => by
    have ih := zip_tup F
    simp only [iv, List.map_cons, List.zip_cons_cons] at ih ⊢
    rw [ih]
theorem slice_from (l : List Int) (n : Nat) (h : n ≤ l.length) (hl : l.length ≤ 100000) : sliceA hp (.lst (iv l)) (some (.int (n : Int))) none = some (.lst (iv (l.drop n))) := by
  have l1 : (iv l).length = l.length := by simp [iv]
  refine (slice_l rfl rfl (by rw [l1]; exact hl)).trans ?_
  rw [drop_clip _ _ (by rw [l1]; exact h)]
  simp [iv]
theorem w_kinds {T : List (Nat × Nat)} (hl : ns.length ≤ 3) (hN : N < 500) (hT : ∀ p ∈ T, p.2 ≤ N) (hTl : T.length ≤ 100) (h1 : ρ[1]? = some (some (.lst (nv ns)))) (h2 : ρ[2]? = some (some (.int (ns.length : Int)))) (h9 : ρ[9]? = some (some (.lst (iv freeL)))) (h10 : ρ[10]? = some (some (.lst (nv ((List.range (N + 1)).map (turnOf tot))))))
    (h17 : ρ[17]? = some (some (.lst (iv (List.replicate (ns.length + 1) 0 ++ T.map fun p => (p.2 : Int)))))) :
    evE G (.frz (.lAdd (.frz (.lComp (.bin .Add (.int 256) (.bin .Mod (.bin .FloorDiv (.var 0) (.int 6)) (.int 7))) none none (.sVal (.var 1)) [])) (.frz (.lComp (.idx (.var 1) (.idx (.var 2) (.var 0))) none none (.sVal (.slice (.var 17) (some (.bin .Add (.var 2) (.int 1))) none)) [9, 10])))) ρ hp = some (.lst (iv ((ns.map rowAn ++ T.map (anOf tot)).map An.k)), hp) := by
  have c1 : evL G (.lComp (.bin .Add (.int 256) (.bin .Mod (.bin .FloorDiv (.var 0) (.int 6)) (.int 7))) none none (.sVal (.var 1)) []) ρ hp = some (iv (ns.map fun x => (rowAn x).k), hp) := by
    refine l_comp (s_val (e_var h1) rfl) (by simp [nv]; lia) ?_
    refine (comp_all (fun (n : Nat) => AV.int (n : Int)) (fun x => AV.int (rowAn x).k) ns fun x _ => ?_).trans ?_
    · exact e_bin (e_nat 256) (e_bin (e_bin (e_var rfl) (e_nat 6) (b_div (by decide) (by decide))) (e_nat 7) (b_mod (by decide))) rfl
    · simp [iv]
  have hs : sliceA hp (.lst (iv (List.replicate (ns.length + 1) 0 ++ T.map fun p => (p.2 : Int)))) (some (.int ((ns.length + 1 : Nat) : Int))) none = some (.lst (iv (T.map fun p => (p.2 : Int)))) := by
    rw [slice_from _ _ (by simp) (by simp; lia)]
    rw [List.drop_left' (by simp)]
  have hc : ([9, 10].map fun i => (ρ[i]?).join) = [some (.lst (iv freeL)), some (.lst (nv ((List.range (N + 1)).map (turnOf tot))))] := by simp [h9, h10]
  have c2 : evL G (.lComp (.idx (.var 1) (.idx (.var 2) (.var 0))) none none (.sVal (.slice (.var 17) (some (.bin .Add (.var 2) (.int 1))) none)) [9, 10]) ρ hp = some (iv (T.map fun p => (labOf tot p.2).2), hp) := by
    refine l_comp (vs := iv (T.map fun p => (p.2 : Int))) (s_val (e_slice (e_var h17) (o_some (e_bin (e_var h2) (e_nat 1) (b_add _ _))) o_none hs) rfl) (by simp [iv]; lia) ?_
    have e0 : iv (T.map fun p => (p.2 : Int)) = T.map fun p => AV.int (p.2 : Int) := by simp [iv]
    rw [hc, e0]
    refine (comp_all (fun (p : Nat × Nat) => AV.int (p.2 : Int)) (fun p => AV.int (labOf tot p.2).2) T fun p hpm => ?_).trans ?_
    · have hpN := hT p hpm
      have hlt : p.2 < N + 1 := by lia
      have i1 : idxA hp (.lst (nv ((List.range (N + 1)).map (turnOf tot)))) (.int (p.2 : Int)) = some (.int ((turnOf tot p.2 : Nat) : Int)) := by
        show atIdx (nv ((List.range (N + 1)).map (turnOf tot))) (p.2 : Int) = _
        rw [atIdx_nat _ _ (by lia)]
        simp [nv, List.getElem?_range hlt]
      have i2 : idxA hp (.lst (iv freeL)) (.int ((turnOf tot p.2 : Nat) : Int)) = some (.int (labOf tot p.2).2) := by
        show atIdx (iv freeL) ((turnOf tot p.2 : Nat) : Int) = _
        have : turnOf tot p.2 < 46 := Nat.mod_lt _ (by decide)
        rw [atIdx_nat _ _ (by lia)]
        simp [iv, (lab_ok tot p.2).2.1]
      exact e_idx (e_var rfl) (e_idx (e_var rfl) (e_var rfl) i1) i2
    · simp [iv]
  have := e_frz (l_add (e_frz c1) (e_frz c2) rfl rfl (by simp [iv]; lia))
  rw [this]
  simp [iv, anOf, Function.comp_def]
theorem w_syms (a : An) (hd : a.d ≤ 30) {f : Env' → Hp → Option (AV × Hp)} : evE G (.frz (.lAdd (.frz (.lAdd (.frz (.lMul (.frz (.lDisp [.int 52])) (.bin .FloorDiv (.var 0) (.int 3)))) (.frz (.lMul (.frz (.lDisp [.int 23])) (.bin .Mod (.var 0) (.int 3)))))) (.frz (.lDisp [.var 1, .int 0])))) [some (.int (a.d : Int)), some (.int a.k)] hp = some (.lst (iv a.syms), hp) := by
  have r : ∀ (n : Nat) (x : Int), rep n [AV.int x] = iv (List.replicate n x) := by
    intro n x
    unfold rep iv
    induction n with
    | zero => rfl
    | succ n ih => simp [List.replicate_succ] at ih ⊢
  have m1 : evL G (.lMul (.frz (.lDisp [.int 52])) (.bin .FloorDiv (.var 0) (.int 3))) [some (.int (a.d : Int)), some (.int a.k)] hp = some (iv (List.replicate (a.d / 3) 52), hp) := by
    rw [← r]
    exact l_mul (e_frz (l_disp (es_cons e_int es_nil) (by simp))) (e_bin (e_var rfl) (e_nat 3) (b_div (by decide) (by decide))) rfl (by simp) (by lia)
  have m2 : evL G (.lMul (.frz (.lDisp [.int 23])) (.bin .Mod (.var 0) (.int 3))) [some (.int (a.d : Int)), some (.int a.k)] hp = some (iv (List.replicate (a.d % 3) 23), hp) := by
    rw [← r]
    exact l_mul (e_frz (l_disp (es_cons e_int es_nil) (by simp))) (e_bin (e_var rfl) (e_nat 3) (b_mod (by decide))) rfl (by simp) (by lia)
  have := e_frz (l_add (e_frz (l_add (e_frz m1) (e_frz m2) rfl rfl (by simp [iv]; lia))) (e_frz (l_disp (es_cons (e_var (i := 1) rfl) (es_cons e_int es_nil)) (by simp))) (xs := iv (List.replicate (a.d / 3) 52) ++ iv (List.replicate (a.d % 3) 23)) (ys := [.int a.k, .int 0]) rfl rfl (by simp [iv]; lia))
  rw [this]
  simp [iv, An.syms]
theorem compZ {f : Env' → Hp → Option (AV × Hp)} {α : Type} (x y g : α → AV) : ∀ l : List α, (∀ a ∈ l, f [some (x a), some (y a)] hp = some (g a, hp)) →
    compLoop (fun _ hp => some (true, hp)) f (some 2) [] (l.map fun a => .tup [x a, y a]) hp = some (l.map g, hp)
  | [], _ => rfl
  | a :: l, h => by
    have ih := compZ x y g l fun b hb => h b (.tail _ hb)
    rw [List.map_cons]
    show bnd (f [some (x a), some (y a)] hp) _ = _
    rw [h a (.head _), bnd_some, ih]
    rfl
noncomputable def dueL (F : List An) : List AV := F.map fun a => .lst (iv a.syms)
theorem w_due {F : List An} (hF : ∀ a ∈ F, a.d ≤ 30) (hFl : F.length ≤ 100) (h16 : ρ[16]? = some (some (.lst (iv (0 :: F.map fun a => (a.d : Int)))))) (h18 : ρ[18]? = some (some (.lst (iv (F.map An.k))))) :
    evE G (.frz (.lCompZ (.frz (.lAdd (.frz (.lAdd (.frz (.lMul (.frz (.lDisp [.int 52])) (.bin .FloorDiv (.var 0) (.int 3)))) (.frz (.lMul (.frz (.lDisp [.int 23])) (.bin .Mod (.var 0) (.int 3)))))) (.frz (.lDisp [.var 1, .int 0])))) (.slice (.var 16) (some (.int 1)) none) (.var 18))) ρ hp = some (.lst (dueL F), hp) := by
  refine e_frz ?_
  have hs := slice_from (hp := hp) (0 :: F.map fun a => (a.d : Int)) 1 (by simp) (by simp; lia)
  have e1 : evE G (.slice (.var 16) (some (.int 1)) none) ρ hp = some (.lst (iv (F.map fun a => (a.d : Int))), hp) := e_slice (e_var h16) (o_some e_int) o_none hs
  show bnd _ _ = _
  rw [e1]
  show bnd (evE G (.var 18) ρ hp) _ = _
  rw [e_var h18]
  show (if (iv (F.map fun a => (a.d : Int))).length < szMax then _ else none) = _
  rw [if_pos (by rw [iv_len, List.length_map]; unfold szMax; lia), zip_tup]
  exact compZ (fun a => .int (a.d : Int)) (fun a => .int a.k) (fun a => .lst (iv a.syms)) F fun a ha => w_syms (f := fun _ _ => none) a (hF a ha)
end
end Mine
end
section
namespace Mine
open PySem
theorem toPys_eq {f : AV → Option PyData} (hf : ∀ x d, f x = some d → PyData.eqv d d = true) : ∀ (xs : List AV) (ds : List PyData), toPys f xs = some ds → PyData.eqvAll ds ds = true
  | [], ds, h => by obtain rfl := some_inv h; rfl
  | x :: xs, ds, h => by
    obtain ⟨d, h1, h2⟩ := bind_inv h
    obtain ⟨ds', h3, rfl⟩ := mapp_inv h2
    rw [PyData.eqvAll, hf x d h1, toPys_eq hf xs ds' h3]; rfl
theorem str_self (x : Str) : PyData.eqv (.str x) (.str x) = true := by simp [PyData.eqv]
theorem int_self (x : Int) : PyData.eqv (.int x) (.int x) = true := by simp [PyData.eqv]
theorem bool_self (x : Bool) : PyData.eqv (.bool x) (.bool x) = true := by simp [PyData.eqv]
theorem toPy_eq (hp : Hp) : ∀ (n : Nat) (v : AV) (d : PyData), toPy hp n v = some d → PyData.eqv d d = true
  | 0, v, d, h => by
    cases v with
    | none => obtain rfl := some_inv h; rfl
    | bool b => obtain rfl := some_inv h; exact bool_self _
    | int i => obtain rfl := some_inv h; exact int_self _
    | str s => obtain ⟨_, rfl⟩ := ite_inv h; exact str_self _
    | _ => cases h
  | n + 1, v, d, h => by
    cases v with
    | none => obtain rfl := some_inv h; rfl
    | bool b => obtain rfl := some_inv h; exact bool_self _
    | int i => obtain rfl := some_inv h; exact int_self _
    | str s => obtain ⟨_, rfl⟩ := ite_inv h; exact str_self _
    | tup xs => obtain ⟨ds, e, rfl⟩ := mapp_inv h; rw [PyData.eqv]; exact toPys_eq (toPy_eq hp n) xs ds e
    | lst xs => obtain ⟨ds, e, rfl⟩ := mapp_inv h; rw [PyData.eqv]; exact toPys_eq (toPy_eq hp n) xs ds e
    | ref t =>
      obtain ⟨xs, _, h1⟩ := onList_inv h
      obtain ⟨ds, e, rfl⟩ := mapp_inv h1; rw [PyData.eqv]; exact toPys_eq (toPy_eq hp n) xs ds e
    | _ => cases h
theorem toPys_some {f : AV → Option PyData} : ∀ (xs : List AV), (∀ x ∈ xs, ∃ d, f x = some d) → ∃ ds, toPys f xs = some ds
  | [], _ => ⟨[], rfl⟩
  | x :: xs, h => by
    obtain ⟨d, hd⟩ := h x (.head _)
    obtain ⟨ds, hds⟩ := toPys_some xs fun y hy => h y (.tail _ hy)
    exact ⟨d :: ds, by show (f x).bind _ = _; rw [hd]; show (toPys f xs).map _ = _; rw [hds]; rfl⟩
theorem toPy_lst {hp : Hp} {n : Nat} {xs : List AV} (h : ∀ x ∈ xs, ∃ d, toPy hp n x = some d) : ∃ d, toPy hp (n + 1) (.lst xs) = some d := by
  obtain ⟨ds, e⟩ := toPys_some xs h
  exact ⟨.list ds, by show (toPys (toPy hp n) xs).map _ = _; rw [e]; rfl⟩
theorem toPy_tup {hp : Hp} {n : Nat} {xs : List AV} (h : ∀ x ∈ xs, ∃ d, toPy hp n x = some d) : ∃ d, toPy hp (n + 1) (.tup xs) = some d := by
  obtain ⟨ds, e⟩ := toPys_some xs h
  exact ⟨.tuple ds, by show (toPys (toPy hp n) xs).map _ = _; rw [e]; rfl⟩
theorem toPy_int (hp : Hp) (n : Nat) (i : Int) : ∃ d, toPy hp n (.int i) = some d := ⟨.int i, by cases n <;> rfl⟩
theorem toPy_str (hp : Hp) (n : Nat) {s : List Nat} (h : ∀ c ∈ s, c < 128) : ∃ d, toPy hp n (.str s) = some d := by
  have : s.all (fun c => decide (c < 1114112)) = true := by
    rw [List.all_eq_true]
    intro c hc
    have := h c hc
    simp; lia
  refine ⟨.str ⟨s.toArray⟩, ?_⟩
  cases n <;> exact if_pos this
theorem toPy_iv (hp : Hp) (n : Nat) (l : List Int) : ∃ d, toPy hp (n + 1) (.lst (iv l)) = some d := toPy_lst fun x hx => by
  obtain ⟨i, _, rfl⟩ := List.mem_map.mp hx
  exact toPy_int hp n i
theorem cmp_same (G : Gl) (hp : Hp) (xs : List AV) (h : ∃ d, toPy hp 8 (.tup xs) = some d) : cmpA G hp .Eq (.tup xs) (.tup xs) = some true := by
  obtain ⟨d, e⟩ := h
  have hl := toPy_eq hp 8 _ _ e
  show (toPy hp 8 (.tup xs)).bind _ = _
  rw [e]
  exact congrArg some hl
noncomputable def mailsL (lab : Nat → List Nat × Int) (calf : List Nat) (apart : Bool) : Nat → Nat → List An → List (List Nat)
  | 0, _, _ => []
  | _ + 1, _, [] => []
  | k + 1, n, a :: G => sentOf a (lab n).1 calf apart n :: mailsL lab calf apart k (n + 1) G
noncomputable def linesL (lab : Nat → List Nat × Int) (calf : List Nat) (apart : Bool) : Nat → Nat → List An → Int → List Int
  | 0, _, _, _ => []
  | _ + 1, _, [], _ => []
  | k + 1, n, a :: G, S => (S + cnt10 (sentOf a (lab n).1 calf apart n) - 1) :: linesL lab calf apart k (n + 1) G (S + cnt10 (sentOf a (lab n).1 calf apart n))
theorem zip_ents (lab : Nat → List Nat × Int) (calf : List Nat) (apart : Bool) : ∀ (k n : Nat) (G : List An) (S : Int), zip3L (dueL G) (qv (mailsL lab calf apart k n G)) (iv (linesL lab calf apart k n G S)) = ents lab calf apart k n G S
  | 0, n, [], S => rfl
  | 0, n, a :: G, S => rfl
  | k + 1, n, [], S => rfl
  | k + 1, n, a :: G, S => congrArg (_ :: ·) (zip_ents lab calf apart k (n + 1) G (S + cnt10 (sentOf a (lab n).1 calf apart n)))
theorem mails_len (lab : Nat → List Nat × Int) (calf : List Nat) (apart : Bool) : ∀ (k n : Nat) (G : List An) (S : Int), (mailsL lab calf apart k n G).length = (linesL lab calf apart k n G S).length
  | 0, n, G, S => rfl
  | k + 1, n, [], S => rfl
  | k + 1, n, a :: G, S => congrArg (· + 1) (mails_len lab calf apart k (n + 1) G (S + cnt10 (sentOf a (lab n).1 calf apart n)))
theorem lines_last (lab : Nat → List Nat × Int) (calf : List Nat) (apart : Bool) : ∀ (k n : Nat) (G : List An) (S : Int), k < G.length → (linesL lab calf apart (k + 1) n G S).getLast? = some (endS lab calf apart (k + 1) n G S - 1) ∧ (linesL lab calf apart (k + 1) n G S).length = k + 1
  | 0, n, [], S, h => by simp at h
  | 0, n, a :: G, S, h => by simp [linesL, endS]
  | k + 1, n, [], S, h => by simp at h
  | k + 1, n, a :: G, S, h => by
    obtain ⟨h1, h2⟩ := lines_last lab calf apart k (n + 1) G (S + cnt10 (sentOf a (lab n).1 calf apart n)) (by simp at h; lia)
    refine ⟨?_, ?_⟩
    · rw [linesL, List.getLast?_cons, h1]
      rfl
    · rw [linesL, List.length_cons, h2]
theorem cnt_cnt10 : ∀ l : List Nat, PyProof.Rows.cnt 10 l = cnt10 l
  | [] => rfl
  | c :: l => by
    rw [PyProof.Rows.cnt_cons, cnt_cnt10 l]
    unfold cnt10 nl
    simp
theorem count10 (x : List Nat) : Txt.count (S x) (S [10]) = cnt10 x := by
  have := PyProof.Rows.count_cnt (S x) 10
  rw [cnt_cnt10] at this
  exact this
section
variable {G : Gl} {hp : Hp}
theorem j_ref {t : Nat} {ws : List (List Nat)} (ht : hp[t]? = some (.list (qv ws))) (h1 : ws.length ≤ 1000) (h2 : ∀ w ∈ ws, w.length ≤ 10000) : methA G hp .join (.str []) [.ref t] = some (.str ws.flatten, hp) := by
  show (((items hp (.ref t)).bind strsA).bind _).map _ = _
  rw [it_ref ht]
  show (((strsA (qv ws)).bind _).map _) = _
  rw [strsA_qv]
  show (if _ then _ else none : Option AV).map _ = _
  rw [if_pos ⟨h1, by decide, by
    rw [List.all_eq_true]
    intro w hw
    have := h2 w hw
    simp; lia⟩, join_nil]
  rfl
theorem sent_len {a : An} (ha : a.d ≤ 30) {name calf : List Nat} (hn : name.length ≤ 3) (hc : calf.length ≤ 2) (apart : Bool) (n : Nat) : (sentOf a name calf apart n).length ≤ 200 := by
  have ownl : (ownOf a name).length ≤ 40 := by unfold ownOf; simp; lia
  unfold sentOf
  split
  · simp; lia
  · split <;> simp <;> lia
noncomputable def mailB : List MS := [.assign 23 (.ite (.cmp .Gt (.idx (.var 16) (.var 22)) (.int 2)) (.bin .Add (.bin .Add (.ite (.var 5) (.str [13, 10]) (.idx (.str [32, 9]) (.bin .Mod (.var 22) (.int 2)))) (.bin .Mult (.str [46]) (.var 14))) (.idx (.var 11) (.var 22))) (.str [])), .expr (.meth .append (.var 20) [.bin .Add (.bin .Add (.bin .Add (.bin .Mult (.str [46]) (.bin .Add (.idx (.var 16) (.var 22)) (.int 1))) (.idx (.var 11) (.var 22))) (.var 23)) (.str [13, 10])]), .expr (.meth .append (.var 21) [.bin .Add (.bin .Mult (.int 2) (.var 2)) (.meth .count (.meth .join (.str []) [.var 20]) [.str [10]])])]
structure LP (ρ : Env') (D : List Int) (apart : Bool) (young size : Nat) (names : List (List Nat)) : Prop where
  h2 : ρ[2]? = some (some (.int (size : Int)))
  h5 : ρ[5]? = some (some (.bool apart))
  h11 : ρ[11]? = some (some (.lst (qv names)))
  h14 : ρ[14]? = some (some (.int (young : Int)))
  h16 : ρ[16]? = some (some (.lst (iv D)))
  h20 : ρ[20]? = some (some (.ref 0))
  h21 : ρ[21]? = some (some (.ref 1))
  len : ρ.length = 25
noncomputable def Same (ρ ρ' : Env') : Prop := ρ'.length = ρ.length ∧ ∀ i, i ≠ 22 → i ≠ 23 → ρ'[i]? = ρ[i]?
theorem Same.lp {ρ ρ' : Env'} {D : List Int} {apart : Bool} {young size : Nat} {names : List (List Nat)} (s : Same ρ ρ') (h : LP ρ D apart young size names) : LP ρ' D apart young size names where
  h2 := by rw [s.2 2 (by decide) (by decide), h.h2]
  h5 := by rw [s.2 5 (by decide) (by decide), h.h5]
  h11 := by rw [s.2 11 (by decide) (by decide), h.h11]
  h14 := by rw [s.2 14 (by decide) (by decide), h.h14]
  h16 := by rw [s.2 16 (by decide) (by decide), h.h16]
  h20 := by rw [s.2 20 (by decide) (by decide), h.h20]
  h21 := by rw [s.2 21 (by decide) (by decide), h.h21]
  len := by rw [s.1, h.len]
theorem Same.set22 (ρ : Env') (v : AV) : Same ρ (setLoc ρ 22 v) := ⟨by simp [setLoc], fun i h _ => by unfold setLoc; rw [List.getElem?_set_ne (Ne.symm h)]⟩
theorem Same.set23 (ρ : Env') (v : AV) : Same ρ (setLoc ρ 23 v) := ⟨by simp [setLoc], fun i _ h => by unfold setLoc; rw [List.getElem?_set_ne (Ne.symm h)]⟩
theorem Same.trans {a b c : Env'} (h : Same a b) (k : Same b c) : Same a c := ⟨k.1.trans h.1, fun i x y => (k.2 i x y).trans (h.2 i x y)⟩
end
theorem b_strs' {x y : List Nat} (h : (x ++ y).length ≤ 200) : binA .Add (.str x) (.str y) = some (.str (x ++ y)) := if_pos (Nat.le_trans h (by unfold szMax; decide))
structure MD where
  D : List Int
  apart : Bool
  young : Nat
  size : Nat
  n : Nat
  names : List (List Nat)
  mails : List (List Nat)
  lines : List Int
  a : An
  name : List Nat
  calf : List Nat
  ρ : Env'
namespace MD
variable (m : MD)
noncomputable def sg : Nat := ([32, 9] : List Nat).getD (m.n % 2) 0
noncomputable def sep : List Nat := if m.apart then [13, 10] else [m.sg]
noncomputable def more : List Nat := if m.a.d ≤ 2 then [] else m.sep ++ List.replicate m.young 46 ++ m.name
noncomputable def sent : List Nat := sentOf m.a m.name m.calf m.apart m.n
noncomputable def mails1 : List (List Nat) := m.mails ++ [m.sent]
noncomputable def ln : Int := 2 * (m.size : Int) + cnt10 m.mails1.flatten
noncomputable def H : Hp := [.list (qv m.mails), .list (iv m.lines)]
noncomputable def H1 : Hp := [.list (qv m.mails1), .list (iv m.lines)]
noncomputable def H2 : Hp := [.list (qv m.mails1), .list (iv (m.lines ++ [m.ln]))]
noncomputable def ρ1 : Env' := setLoc m.ρ 23 (.str m.more)
end MD
structure MOk (m : MD) : Prop where
  h : LP m.ρ m.D m.apart m.young m.size m.names
  h22 : m.ρ[22]? = some (some (.int (m.n : Int)))
  hn : m.n < 900
  hD : m.D[m.n]? = some (m.a.d : Int)
  ha : m.a.d ≤ 30
  hname : m.names[m.n]? = some m.name
  hnl : m.name.length ≤ 3
  hc : m.calf = [46] ∨ m.calf = [46, 46]
  hy : m.young = m.calf.length + (if m.apart then 1 else 0)
  hsz : m.size ≤ 3
  hm : m.mails.length ≤ 100
  hml : ∀ w ∈ m.mails, w.length ≤ 200
  hll : m.lines.length ≤ 100
namespace MOk
variable {G : Gl} {m : MD} (k : MOk m)
include k
theorem cl : m.calf.length ≤ 2 := by rcases k.hc with q | q <;> rw [q] <;> decide
theorem yl : m.young ≤ 3 := by
  rw [k.hy]
  have := k.cl
  split <;> lia
theorem sepl : m.sep.length ≤ 2 := by
  unfold MD.sep
  cases m.apart
  · exact Nat.le_succ 1
  · exact Nat.le_refl 2
theorem ml : m.more.length ≤ 10 := by
  unfold MD.more
  by_cases q : m.a.d ≤ 2
  · rw [if_pos q]; exact Nat.zero_le _
  · rw [if_neg q, List.length_append, List.length_append, List.length_replicate]
    exact Nat.le_trans (Nat.add_le_add (Nat.add_le_add k.sepl k.yl) k.hnl) (by decide)
theorem eD {ρ : Env'} {hp : Hp} (h16 : ρ[16]? = some (some (.lst (iv m.D)))) (h22 : ρ[22]? = some (some (.int (m.n : Int)))) : evE G (.idx (.var 16) (.var 22)) ρ hp = some (.int (m.a.d : Int), hp) := by
  refine e_idx (e_var h16) (e_var h22) ?_
  show atIdx (iv m.D) (m.n : Int) = _
  rw [atIdx_nat _ _ (by have := k.hn; lia)]
  unfold iv
  rw [List.getElem?_map, k.hD]; rfl
theorem eN {ρ : Env'} {hp : Hp} (h11 : ρ[11]? = some (some (.lst (qv m.names)))) (h22 : ρ[22]? = some (some (.int (m.n : Int)))) : evE G (.idx (.var 11) (.var 22)) ρ hp = some (.str m.name, hp) :=
  e_idx (e_var h11) (e_var h22) (idx_qv hp m.names m.n m.name (Nat.lt_trans k.hn (by decide)) k.hname)
theorem eSep : evE G (.ite (.var 5) (.str [13, 10]) (.idx (.str [32, 9]) (.bin .Mod (.var 22) (.int 2)))) m.ρ m.H = some (.str m.sep, m.H) := by
  have h5 := k.h.h5
  unfold MD.sep
  generalize m.apart = ap at h5
  cases ap with
  | true => exact e_ite_t (c_var h5 rfl) e_str
  | false =>
    refine e_ite_f (c_var h5 rfl) (e_idx e_str (e_bin (e_var k.h22) (e_nat 2) (b_mod (by decide))) ?_)
    show (atIdx ([32, 9] : List Nat) ((m.n % 2 : Nat) : Int)).map _ = some (AV.str [([32, 9] : List Nat).getD (m.n % 2) 0])
    rcases Nat.mod_two_eq_zero_or_one m.n with q | q <;> rw [q] <;> rfl
theorem e23 : evE G (.ite (.cmp .Gt (.idx (.var 16) (.var 22)) (.int 2)) (.bin .Add (.bin .Add (.ite (.var 5) (.str [13, 10]) (.idx (.str [32, 9]) (.bin .Mod (.var 22) (.int 2)))) (.bin .Mult (.str [46]) (.var 14))) (.idx (.var 11) (.var 22))) (.str [])) m.ρ m.H = some (.str m.more, m.H) := by
  have ec : evC G (.cmp .Gt (.idx (.var 16) (.var 22)) (.int 2)) m.ρ m.H = some (decide ((m.a.d : Int) > 2), m.H) := c_cmp (k.eD k.h.h16 k.h22) e_int rfl
  have ml := k.ml
  unfold MD.more at ml ⊢
  by_cases q : m.a.d ≤ 2
  · rw [if_pos q]
    exact e_ite_f (ec.trans (by rw [decide_eq_false (by lia)])) e_str
  · rw [if_neg q] at ml ⊢
    have ml3 := Nat.le_trans ml (by decide : 10 ≤ 200)
    have ml2 : (m.sep ++ List.replicate m.young 46).length ≤ 200 := Nat.le_trans (by rw [List.length_append (bs := m.name)]; exact Nat.le_add_right _ _) ml3
    exact e_ite_t (ec.trans (by rw [decide_eq_true (by lia)])) (e_bin (e_bin k.eSep (e_bin e_str (e_var k.h.h14) (b_dots (Nat.lt_of_le_of_lt k.yl (by decide)))) (b_strs' ml2)) (k.eN k.h.h11 k.h22) (b_strs' ml3))
theorem hs : List.replicate (m.a.d + 1) 46 ++ m.name ++ m.more ++ [13, 10] = m.sent := by
  unfold MD.more MD.sent sentOf ownOf MD.sep MD.sg
  by_cases q : m.a.d ≤ 2
  · rw [if_pos q, if_pos q]; simp [List.replicate_succ]
  · rw [if_neg q, if_neg q, k.hy]
    rcases k.hc with e | e <;> rw [e] <;> cases m.apart <;> simp [List.replicate_succ]
theorem sl : m.sent.length ≤ 200 := sent_len k.ha k.hnl k.cl m.apart m.n
theorem h1 : LP m.ρ1 m.D m.apart m.young m.size m.names := (Same.set23 m.ρ (.str m.more)).lp k.h
theorem h22' : m.ρ1[22]? = some (some (.int (m.n : Int))) := by unfold MD.ρ1 setLoc; rw [List.getElem?_set_ne (by decide), k.h22]
theorem h23' : m.ρ1[23]? = some (some (.str m.more)) := by unfold MD.ρ1 setLoc; rw [List.getElem?_set_self (by rw [k.h.len]; decide)]
theorem ea20 : evE G (.bin .Add (.bin .Add (.bin .Add (.bin .Mult (.str [46]) (.bin .Add (.idx (.var 16) (.var 22)) (.int 1))) (.idx (.var 11) (.var 22))) (.var 23)) (.str [13, 10])) m.ρ1 m.H = some (.str m.sent, m.H) := by
  have sl := k.sl
  rw [← k.hs] at sl ⊢
  have l3 : (List.replicate (m.a.d + 1) 46 ++ m.name ++ m.more).length ≤ 200 := Nat.le_trans (by rw [List.length_append (bs := [13, 10])]; exact Nat.le_add_right _ _) sl
  have l2 : (List.replicate (m.a.d + 1) 46 ++ m.name).length ≤ 200 := Nat.le_trans (by rw [List.length_append (bs := m.more)]; exact Nat.le_add_right _ _) l3
  exact e_bin (e_bin (e_bin (e_bin e_str (e_bin (k.eD k.h1.h16 k.h22') (e_nat 1) (b_add _ _)) (b_dots (Nat.lt_of_le_of_lt (Nat.succ_le_succ k.ha) (by decide)))) (k.eN k.h1.h11 k.h22') (b_strs' l2)) (e_var k.h23') (b_strs' l3)) e_str (b_strs' sl)
theorem e20 : evS G (.expr (.meth .append (.var 20) [.bin .Add (.bin .Add (.bin .Add (.bin .Mult (.str [46]) (.bin .Add (.idx (.var 16) (.var 22)) (.int 1))) (.idx (.var 11) (.var 22))) (.var 23)) (.str [13, 10])])) m.ρ1 m.H = some (.next, m.ρ1, m.H1) := by
  have := t_expr (G := G) (r := .none) (e_meth (e_var k.h1.h20) (r_append (xs := qv m.mails) rfl) (es_cons k.ea20 es_nil) (m_append (xs := qv m.mails) rfl (Nat.le_trans (Nat.le_of_eq (List.length_map _)) (Nat.le_trans k.hm (by decide)))))
  exact this.trans (congrArg (fun l => some (Fl.next, m.ρ1, [AO.list l, AO.list (iv m.lines)])) (List.map_append (l₁ := m.mails) (l₂ := [m.sent]) (f := AV.str)).symm)
theorem e21 : evS G (.expr (.meth .append (.var 21) [.bin .Add (.bin .Mult (.int 2) (.var 2)) (.meth .count (.meth .join (.str []) [.var 20]) [.str [10]])])) m.ρ1 m.H1 = some (.next, m.ρ1, m.H2) := by
  have hj := j_ref (G := G) (hp := m.H1) (t := 0) (ws := m.mails1) rfl (by unfold MD.mails1; rw [List.length_append]; exact Nat.le_trans (Nat.succ_le_succ k.hm) (by decide)) (fun w hw => by
    rcases List.mem_append.mp hw with hw | hw
    · exact Nat.le_trans (k.hml w hw) (by decide)
    · rw [List.mem_singleton.mp hw]; exact Nat.le_trans k.sl (by decide))
  have ea : evE G (.bin .Add (.bin .Mult (.int 2) (.var 2)) (.meth .count (.meth .join (.str []) [.var 20]) [.str [10]])) m.ρ1 m.H1 = some (.int m.ln, m.H1) := by
    refine e_bin (x := .int (2 * (m.size : Int))) (y := .int (cnt10 m.mails1.flatten)) (e_bin e_int (e_var k.h1.h2) (if_pos (by have := k.hsz; lia))) (e_meth (e_meth e_str rfl (es_cons (e_var k.h1.h20) es_nil) hj) rfl (es_cons e_str es_nil) ?_) rfl
    show some (AV.int (Txt.count (S _) (S [10])), _) = _
    rw [count10]
  have := t_expr (G := G) (r := .none) (e_meth (e_var k.h1.h21) (r_append (xs := iv m.lines) rfl) (es_cons ea es_nil) (m_append (xs := iv m.lines) rfl (Nat.le_trans (Nat.le_of_eq (List.length_map _)) (Nat.le_trans k.hll (by decide)))))
  exact this.trans (congrArg (fun l => some (Fl.next, m.ρ1, [AO.list (qv m.mails1), AO.list l])) (List.map_append (l₁ := m.lines) (l₂ := [m.ln]) (f := AV.int)).symm)
theorem step : Same m.ρ m.ρ1 ∧ evSs G mailB m.ρ m.H = some (.next, m.ρ1, m.H2) := ⟨Same.set23 _ _, ss_next (t_assign k.e23) (ss_next k.e20 (ss_next k.e21 ss_nil))⟩
end MOk
end Mine
end
section
namespace Mine
open PySem
structure QD where
  F : List An
  apart : Bool
  young : Nat
  size : Nat
  N : Nat
  names : List (List Nat)
  calf : List Nat
  lab : Nat → List Nat × Int
structure QC (c : QD) : Prop where
  hF : ∀ a ∈ c.F, a.d ≤ 30
  hN : c.N ≤ 90
  hnm : ∀ n, 1 ≤ n → n ≤ c.N → c.names[n]? = some (c.lab n).1 ∧ (c.lab n).1.length ≤ 3
  hc : c.calf = [46] ∨ c.calf = [46, 46]
  hy : c.young = c.calf.length + (if c.apart then 1 else 0)
  hsz : c.size ≤ 3
structure QI (c : QD) (k m : Nat) (ρ : Env') (mails : List (List Nat)) (lines : List Int) : Prop where
  hk : m + k ≤ c.F.length
  hkN : m + k ≤ c.N
  h : LP ρ (0 :: c.F.map fun a => (a.d : Int)) c.apart c.young c.size c.names
  hm : mails.length ≤ m
  hml : ∀ w ∈ mails, w.length ≤ 200
  hl : lines.length ≤ m
theorem cnt_snoc (s : Int) (mails : List (List Nat)) (x : List Nat) : 1 + s + cnt10 (mails ++ [x]).flatten = 1 + s + cnt10 mails.flatten + cnt10 x ∧ s + cnt10 (mails ++ [x]).flatten = 1 + s + cnt10 mails.flatten + cnt10 x - 1 := by
  rw [List.flatten_append, cnt10_append, List.flatten_cons, List.flatten_nil, List.append_nil]
  lia
section
variable {G : Gl} {c : QD} {k m : Nat} {ρ : Env'} {mails : List (List Nat)} {lines : List Int}
theorem QI.mok (C : QC c) (I : QI c (k + 1) m ρ mails lines) {a : An} (ha : c.F[m]? = some a) : MOk ⟨0 :: c.F.map fun a => (a.d : Int), c.apart, c.young, c.size, m + 1, c.names, mails, lines, a, (c.lab (m + 1)).1, c.calf, setLoc ρ 22 (.int ((m + 1 : Nat) : Int))⟩ := by
  have hmN : m + 1 ≤ c.N := Nat.le_trans (Nat.add_le_add_left (Nat.le_add_left 1 k) m) I.hkN
  have hm90 : m ≤ 90 := Nat.le_trans (Nat.le_of_succ_le hmN) C.hN
  obtain ⟨n1, n2⟩ := C.hnm (m + 1) (Nat.le_add_left _ _) hmN
  refine ⟨(Same.set22 ρ _).lp I.h, ?_, Nat.lt_of_le_of_lt (Nat.succ_le_succ hm90) (by decide), ?_, C.hF a (List.mem_of_getElem? ha), n1, n2, C.hc, C.hy, C.hsz, Nat.le_trans I.hm (Nat.le_trans hm90 (by decide)), I.hml, Nat.le_trans I.hl (Nat.le_trans hm90 (by decide))⟩
  · show (setLoc ρ 22 _)[22]? = _
    unfold setLoc; rw [List.getElem?_set_self (by rw [I.h.len]; decide)]
  · show (0 :: c.F.map fun a => (a.d : Int))[m + 1]? = _
    rw [List.getElem?_cons_succ, List.getElem?_map, ha]; rfl
theorem mail_loop (C : QC c) : ∀ (k m : Nat) (ρ : Env') (mails : List (List Nat)) (lines : List Int), QI c k m ρ mails lines →
      ∃ ρ', Same ρ ρ' ∧ forL (fun ρ hp => evSs G mailB ρ hp) none 22 ((List.range' (m + 1) k).map fun (i : Nat) => AV.int (i : Int)) ρ [.list (qv mails), .list (iv lines)] = some (.next, ρ', [.list (qv (mails ++ mailsL c.lab c.calf c.apart k (m + 1) (c.F.drop m))), .list (iv (lines ++ linesL c.lab c.calf c.apart k (m + 1) (c.F.drop m) (1 + 2 * (c.size : Int) + cnt10 mails.flatten)))])
  | 0, m, ρ, mails, lines, I => ⟨ρ, ⟨rfl, fun _ _ _ => rfl⟩, by
    show some (Fl.next, ρ, _) = some (Fl.next, ρ, [AO.list (qv (mails ++ [])), AO.list (iv (lines ++ []))])
    rw [List.append_nil, List.append_nil]⟩
  | k + 1, m, ρ, mails, lines, I => by
    have hlt : m < c.F.length := Nat.lt_of_lt_of_le (Nat.lt_add_of_pos_right (Nat.succ_pos k)) I.hk
    have ha : c.F[m]? = some (c.F[m]'hlt) := List.getElem?_eq_getElem hlt
    generalize c.F[m]'hlt = a at ha
    have K := I.mok C ha
    obtain ⟨s2, e1⟩ := K.step (G := G)
    have s3 := (Same.set22 ρ (.int ((m + 1 : Nat) : Int))).trans s2
    obtain ⟨ρ2, s4, e2⟩ := mail_loop C k (m + 1) _ _ _ (⟨Nat.le_trans (Nat.le_of_eq (Nat.succ_add_eq_add_succ m k)) I.hk, Nat.le_trans (Nat.le_of_eq (Nat.succ_add_eq_add_succ m k)) I.hkN, s3.lp I.h, by rw [List.length_append]; exact Nat.succ_le_succ I.hm, fun w hw => (List.mem_append.mp hw).elim (I.hml w) fun h => by rw [List.mem_singleton.mp h]; exact K.sl, by rw [List.length_append]; exact Nat.succ_le_succ I.hl⟩ : QI c k (m + 1) _ (mails ++ [sentOf a (c.lab (m + 1)).1 c.calf c.apart (m + 1)]) (lines ++ [2 * (c.size : Int) + cnt10 (mails ++ [sentOf a (c.lab (m + 1)).1 c.calf c.apart (m + 1)]).flatten]))
    refine ⟨ρ2, s3.trans s4, ?_⟩
    rw [List.range'_succ, List.map_cons]
    refine (f_go rfl e1 e2).trans ?_
    obtain ⟨h1, h2⟩ := cnt_snoc (2 * (c.size : Int)) mails (sentOf a (c.lab (m + 1)).1 c.calf c.apart (m + 1))
    rw [drop_at ha, mailsL, linesL, h1, h2, List.append_assoc, List.append_assoc]
    rfl
end
theorem page_okL (ns : List Nat) (h : ns.length ≤ 3) : okL (pageOf ns) := by
  have hd : ∀ x, (dotted (rowOf x)).length ≤ 41 ∧ ∀ c ∈ dotted (rowOf x), c < 128 := fun x => by
    obtain ⟨p1, p2, p3, p4⟩ := row_plain x
    refine ⟨by have := dotted_len (rowOf x); lia, fun c hc => ?_⟩
    unfold dotted at hc
    rcases List.mem_append.mp hc with hc | hc
    · split at hc
      · have : c = 46 := by simpa using hc
        lia
      · cases hc
    · exact p4 c hc
  have key : ∀ l : List Nat, (pageOf l).length ≤ 45 * l.length ∧ ∀ c ∈ pageOf l, c < 128 := by
    intro l
    induction l with
    | nil => exact ⟨by simp [pageOf], by simp [pageOf]⟩
    | cons x l ih =>
      have e : pageOf (x :: l) = (dotted (rowOf x) ++ [13, 10, 13, 10]) ++ pageOf l := by simp [pageOf]
      rw [e]
      obtain ⟨d1, d2⟩ := hd x
      refine ⟨by simp only [List.length_append, List.length_cons, List.length_nil]; lia, fun c hc => ?_⟩
      rcases List.mem_append.mp hc with hc | hc
      · rcases List.mem_append.mp hc with hc | hc
        · exact d2 c hc
        · have : c = 13 ∨ c = 10 ∨ c = 13 ∨ c = 10 := by simpa using hc
          lia
      · exact ih.2 c hc
  exact ⟨by have := (key ns).1; lia, (key ns).2⟩
structure Herd (ns : List Nat) (tot young : Nat) (F : List An) (T : List (Nat × Nat)) : Prop where
  f : F = ns.map rowAn ++ T.map (anOf tot)
  g : growA young (labOf tot) (3 * ns.length + 4) 1 (ns.map rowAn) = F
  len : F.length ≤ 40
  ok : ∀ a ∈ F, a.Ok
  t : ∀ p ∈ T, 1 ≤ p.2 ∧ p.2 ≤ 3 * ns.length + 4
  tl : 3 * ns.length + 4 ≤ T.length
  due : dueAll ((ns.map fun x => (rowAn x).d).map fun (d : Nat) => (d : Int)) (3 * ns.length + 4 : Nat) young = some (0 :: F.map (fun a => (a.d : Int)), List.replicate (ns.length + 1) 0 ++ T.map fun p => (p.2 : Int))
theorem herd_of (ns : List Nat) (tot young : Nat) (h1 : 1 ≤ ns.length) (h2 : ns.length ≤ 3) (hy : 1 ≤ young ∧ young ≤ 3) : ∃ F T, Herd ns tot young F T := by
  have hd : ∀ d ∈ ns.map (fun x => (rowAn x).d), 1 ≤ d ∧ d ≤ 7 := by
    intro d hd
    obtain ⟨x, _, rfl⟩ := List.mem_map.mp hd
    show 1 ≤ 1 + x % 6 + (if x / 42 % 3 = 0 then 1 else 0) ∧ 1 + x % 6 + (if x / 42 % 3 = 0 then 1 else 0) ≤ 7
    split <;> lia
  have hb := due_ok (herd := ns.map fun x => (rowAn x).d) (by simpa using h1) (by simpa using h2) hd hy
  have hm : (ns.map rowAn).map An.d = ((ns.map fun x => (rowAn x).d).map fun d => (d, 0)).map (·.1) := by simp
  obtain ⟨T, t1, t2, t3, t4⟩ := grow_gr young tot (3 * ns.length + 4) 1 (ns.map rowAn) ((ns.map fun x => (rowAn x).d).map fun d => (d, 0)) hm (by lia) (by simpa using h1)
  have hg : herdOf (ns.map fun x => (rowAn x).d) young = ((ns.map fun x => (rowAn x).d).map fun d => (d, 0)) ++ T := by
    unfold herdOf
    rw [List.length_map]
    exact t2
  unfold dueB1 at hb
  rw [hg] at hb
  simp only [Bool.and_eq_true, decide_eq_true_eq, beq_iff_eq, List.all_eq_true, List.length_map] at hb
  obtain ⟨⟨⟨b1, b2⟩, b3⟩, b4⟩ := hb
  refine ⟨_, T, rfl, t1, ?_, ?_, fun p hp => by have := t3 p hp; lia, t4, ?_⟩
  · simp at b2 ⊢; lia
  · intro a ha
    rcases List.mem_append.mp ha with ha | ha
    · obtain ⟨x, _, rfl⟩ := List.mem_map.mp ha
      exact rowAn_ok x
    · obtain ⟨p, hp, rfl⟩ := List.mem_map.mp ha
      have hd := b3 p (List.mem_append_right _ hp)
      obtain ⟨_, _, l1, l2, l3, l4, l5⟩ := lab_ok tot p.2
      exact An.ok_of hd.1 hd.2 l1.len l2 l3 l4 l5
  · rw [b1]
    congr 2
    · simp [anOf, Function.comp_def]
    · rw [List.drop_left' (by simp)]
end Mine
end
section
set_option maxHeartbeats 1000000
namespace Mine
open PySem
theorem l_zip {G : Gl} {ρ : Env'} {hp hp1 : Hp} {es : List ME} {x y z : AV} {a b c : List AV} (h : evEs G es ρ hp = some ([x, y, z], hp1)) (hx : items hp1 x = some a) (hy : items hp1 y = some b) (hz : items hp1 z = some c) (hl : b.length < a.length ∧ c.length = b.length ∧ b.length ≤ szMax ∧ 0 < b.length) :
    evL G (.lList (.sZip es)) ρ hp = some (zip3L a b c, hp1) := by
  show bnd (bnd (evEs G es ρ hp) _) _ = _
  rw [h]
  show (items hp1 x).bind _ = _
  rw [hx]
  show (items hp1 y).bind _ = _
  rw [hy]
  show (items hp1 z).bind _ = _
  rw [hz]
  exact if_pos hl
theorem slice_av {hp : Hp} (l : List AV) (n : Nat) (h : n ≤ l.length) (hl : l.length ≤ 100000) : sliceA hp (.lst l) (some (.int (n : Int))) none = some (.lst (l.drop n)) := by
  refine (slice_l rfl rfl hl).trans ?_
  rw [drop_clip _ _ h]
theorem ents_mem2 (lab : Nat → List Nat × Int) (calf : List Nat) (apart : Bool) : ∀ (k n : Nat) (G : List An) (S : Int), ∀ x ∈ ents lab calf apart k n G S, ∃ a m ln, a ∈ G ∧ x = entry a (sentOf a (lab m).1 calf apart m) ln
  | 0, n, G, S, x, h => nomatch h
  | k + 1, n, [], S, x, h => nomatch h
  | k + 1, n, a :: G, S, x, h => (List.mem_cons.mp h).elim (fun e => ⟨a, n, _, .head _, e⟩) fun h =>
    let ⟨b, m, ln, hb, e⟩ := ents_mem2 lab calf apart k _ _ _ x h
    ⟨b, m, ln, .tail _ hb, e⟩
structure LD where
  ns : List Nat
  tot : Nat
  N : Nat
  young : Nat
  apart : Bool
  calf : List Nat
  F : List An
  T : List (Nat × Nat)
structure LC (c : LD) : Prop where
  h1 : 1 ≤ c.ns.length
  h2 : c.ns.length ≤ 3
  htot : c.tot = c.ns.sum
  hap : c.apart = decide (((c.tot / 2 % 2 : Nat) : Int) = 1)
  hcalf : c.calf = List.replicate (1 + c.tot % 2) 46
  hN : c.N = 3 * c.ns.length + 4
  hyo : c.young = (1 + c.tot % 2) + (if c.apart then 1 else 0)
  hF : Herd c.ns c.tot c.young c.F c.T
namespace LD
variable (c : LD)
noncomputable def mo : List Int := List.replicate (c.ns.length + 1) 0 ++ c.T.map fun p => (p.2 : Int)
noncomputable def do' : List Int := 0 :: c.F.map fun a => (a.d : Int)
noncomputable def S0 : Int := 1 + 2 * (c.ns.length : Int)
noncomputable def mails : List (List Nat) := mailsL (labOf c.tot) c.calf c.apart c.N 1 c.F
noncomputable def lines : List Int := linesL (labOf c.tot) c.calf c.apart c.N 1 c.F c.S0
noncomputable def ents : List AV := Mine.ents (labOf c.tot) c.calf c.apart c.N 1 c.F c.S0
noncomputable def endL : Int := endS (labOf c.tot) c.calf c.apart c.N 1 c.F c.S0
noncomputable def vals : List AV := [.lst (nv c.ns), .int (c.ns.length : Int), .int (c.tot : Int), .str c.calf, .bool c.apart, .int (c.N : Int), .lst (qv (endsOf (c.tot / 184 % 3))), .lst (qv signsL), .lst (iv freeL), .lst (nv ((List.range (c.N + 1)).map (turnOf c.tot))), .lst (qv (namesOf c.tot c.N)), .lst (qv (c.ns.map rowOf)), .str (pageOf c.ns), .int (c.young : Int), .lst (nv (c.ns.map fun x => (rowAn x).d)), .lst (iv c.do'), .lst (iv c.mo), .lst (iv (c.F.map An.k)), .lst (dueL c.F), .ref 0, .ref 1]
noncomputable def en (sc : AV) (k : Nat) : Env' := some sc :: ((c.vals.take k).map some ++ List.replicate (24 - k) none)
end LD
theorem go {G : Gl} {ρ ρ0 : Env'} (ρ1 : Env') {hp hp1 : Hp} {s : MS} {ss : List MS} {v : AV} (h1 : evS G s ρ hp = some (.next, ρ0, hp1)) (he : ρ0 = ρ1) (h2 : ∃ ρ' hp', evSs G ss ρ1 hp1 = some (.ret v, ρ', hp')) : ∃ ρ' hp', evSs G (s :: ss) ρ hp = some (.ret v, ρ', hp') :=
  let ⟨a, b, e⟩ := h2; ⟨a, b, ss_next (he ▸ h1) e⟩
theorem law_tail_eq : ∃ first : MS, l1ms_law = first :: l1ms_law.tail := ⟨_, rfl⟩
theorem neg1 (n : Nat) (h : 0 < n) : ((-1 : Int) + (n : Int)).toNat = n - 1 := by lia
theorem iend (x : Int) : binA .Add (.int (x - 1)) (.int 1) = some (.int x) := by
  show some (AV.int (x - 1 + 1)) = _
  rw [Int.sub_add_cancel]
namespace LC
variable {c : LD} (h : LC c)
include h
theorem hcl : c.calf.length = 1 + c.tot % 2 := by rw [h.hcalf]; exact List.length_replicate
theorem hc : c.calf = [46] ∨ c.calf = [46, 46] := by
  rw [h.hcalf]
  rcases Nat.mod_two_eq_zero_or_one c.tot with q | q
  · left; rw [q]; rfl
  · right; rw [q]; rfl
theorem hy : c.young = c.calf.length + (if c.apart then 1 else 0) := by rw [h.hcl]; exact h.hyo
theorem hy3 : c.young ≤ 3 := by
  rw [h.hyo]
  split <;> lia
theorem hN16 : c.N ≤ 13 := by have := h.hN; have := h.h2; lia
theorem hFl : c.N < c.F.length := by
  rw [h.hF.f, List.length_append, List.length_map, List.length_map, h.hN]
  exact Nat.lt_of_le_of_lt h.hF.tl (Nat.lt_add_of_pos_left h.h1)
theorem hd30 (a : An) (ha : a ∈ c.F) : a.d ≤ 30 := (h.hF.ok a ha).d2
theorem F100 : c.F.length ≤ 100 := Nat.le_trans h.hF.len (by decide)
theorem hnm (n : Nat) (_ : 1 ≤ n) (hn : n ≤ c.N) : (namesOf c.tot c.N)[n]? = some (labOf c.tot n).1 ∧ NameOk (labOf c.tot n).1 := by
  refine ⟨?_, (lab_ok c.tot n).2.2.1⟩
  unfold namesOf
  rw [List.getElem?_map, List.getElem?_range (Nat.lt_succ_of_le hn)]; rfl
theorem n500 : c.N < 500 := Nat.lt_of_le_of_lt h.hN16 (by decide)
theorem x2 {ρ : Env'} (r1 : ρ[1]? = some (some (.lst (nv c.ns)))) : evE (l1G (l1call 3)) (.tuple [.len (.var 1), .sum (.var 1)]) ρ [] = some (.tup [.int (c.ns.length : Int), .int (c.tot : Int)], []) := by
  have es := e_sum (G := l1G (l1call 3)) (ρ := ρ) (hp := []) (e := .var 1) (x := .lst (nv c.ns)) (xs := nv c.ns) (e_var r1) rfl (intsA_nv c.ns)
  rw [sum_nv, ← h.htot] at es
  exact e_tuple (es_cons (e_len (n := c.ns.length) (e_var r1) (by simp [lenA, items, nv]) (Nat.le_trans h.h2 (by decide))) (es_cons es es_nil)) (by simp)
theorem x3 {ρ : Env'} (r2 : ρ[2]? = some (some (.int (c.ns.length : Int)))) (r3 : ρ[3]? = some (some (.int (c.tot : Int)))) : evE (l1G (l1call 3)) (.tuple [.bin .Mult (.str [46]) (.bin .Add (.int 1) (.bin .Mod (.var 3) (.int 2))), .cmp .Eq (.bin .Mod (.bin .FloorDiv (.var 3) (.int 2)) (.int 2)) (.int 1), .bin .Add (.bin .Mult (.int 3) (.var 2)) (.int 4)]) ρ [] = some (.tup [.str c.calf, .bool c.apart, .int (c.N : Int)], []) := by
  rw [h.hcalf, h.hap, h.hN]
  exact e_tuple (es_cons (e_bin e_str (e_bin (e_nat 1) (e_bin (e_var r3) (e_nat 2) (b_mod (by decide))) (b_add _ _)) (b_dots (by lia))) (es_cons (e_cmp (e_bin (e_bin (e_var r3) (e_nat 2) (b_div (by decide) (by decide))) (e_nat 2) (b_mod (by decide))) e_int rfl) (es_cons (e_bin (e_bin (e_nat 3) (e_var r2) (b_mul (by have := h.h2; lia))) (e_nat 4) (b_add _ _)) es_nil))) (by simp)
theorem x14 {ρ : Env'} (r4 : ρ[4]? = some (some (.str c.calf))) (r5 : ρ[5]? = some (some (.bool c.apart))) : evE (l1G (l1call 3)) (.bin .Add (.len (.var 4)) (.ite (.var 5) (.int 1) (.int 0))) ρ [] = some (.int (c.young : Int), []) := by
  rw [h.hyo]
  refine e_bin (x := .int ((1 + c.tot % 2 : Nat) : Int)) (y := .int ((if c.apart then 1 else 0 : Nat) : Int)) (e_len (n := 1 + c.tot % 2) (e_var r4) (congrArg some h.hcl) (Nat.le_trans (Nat.add_le_add_left (Nat.le_of_lt (Nat.mod_lt _ (by decide))) _) (by decide))) ?_ (b_add _ _)
  generalize c.apart = ap at r5
  cases ap with
  | true => exact e_ite_t (c_var r5 rfl) e_int
  | false => exact e_ite_f (c_var r5 rfl) e_int
theorem x16 {ρ : Env'} (r15 : ρ[15]? = some (some (.lst (nv (c.ns.map fun x => (rowAn x).d))))) (r6 : ρ[6]? = some (some (.int (c.N : Int)))) (r14 : ρ[14]? = some (some (.int (c.young : Int)))) : evE (l1G (l1call 3)) (.call (.ref 147) [.var 15, .var 6, .var 14]) ρ [] = some (.tup [.lst (iv c.do'), .lst (iv c.mo)], []) := by
  refine e_call (es_cons (e_var r15) (es_cons (e_var r6) (es_cons (e_var r14) es_nil))) ?_
  have cr : ∀ args hp, (l1G (l1call 3)).call (.ref 147) args hp = runFn (l1G (l1call 2)) l1d__law_due args hp := fun _ _ => rfl
  rw [cr, nv_iv]
  exact due_spec (gdict 2) _ _ _ _ _ (by rw [List.length_map, List.length_map]; exact Nat.le_trans h.h2 (by decide)) (by have := h.hy3; lia) (by rw [h.hN]; exact h.hF.due)
theorem x18 {ρ : Env'} (r1 : ρ[1]? = some (some (.lst (nv c.ns)))) (r2 : ρ[2]? = some (some (.int (c.ns.length : Int)))) (r9 : ρ[9]? = some (some (.lst (iv freeL)))) (r10 : ρ[10]? = some (some (.lst (nv ((List.range (c.N + 1)).map (turnOf c.tot)))))) (r17 : ρ[17]? = some (some (.lst (iv c.mo)))) : evE (l1G (l1call 3)) (.frz (.lAdd (.frz (.lComp (.bin .Add (.int 256) (.bin .Mod (.bin .FloorDiv (.var 0) (.int 6)) (.int 7))) none none (.sVal (.var 1)) [])) (.frz (.lComp (.idx (.var 1) (.idx (.var 2) (.var 0))) none none (.sVal (.slice (.var 17) (some (.bin .Add (.var 2) (.int 1))) none)) [9, 10])))) ρ [] = some (.lst (iv (c.F.map An.k)), []) := by
  rw [h.hF.f]
  exact w_kinds (G := l1G (l1call 3)) (hp := []) (tot := c.tot) (N := c.N) (T := c.T) h.h2 h.n500 (fun p hp => h.hN ▸ (h.hF.t p hp).2) (Nat.le_trans (by rw [h.hF.f, List.length_append, List.length_map, List.length_map]; exact Nat.le_add_left _ _) h.F100) r1 r2 r9 r10 r17
theorem head (sc : AV) (k : ∃ ρ' hp', evSs (l1G (l1call 3)) (l1ms_law.drop 17) (c.en sc 21) [.list [], .list []] = some (.ret (.bool true), ρ', hp')) :
    ∃ ρ' hp', evSs (l1G (l1call 3)) l1ms_law.tail (c.en sc 1) [] = some (.ret (.bool true), ρ', hp') := by
  unfold l1ms_law
  rw [List.tail_cons]
  refine go (c.en sc 3) (t_unpack (h.x2 rfl) rfl) rfl ?_
  refine go (c.en sc 6) (t_unpack (h.x3 rfl rfl) rfl) rfl ?_
  refine go (c.en sc 7) (t_assign (w_ends rfl)) rfl ?_
  refine go (c.en sc 8) (t_assign w_signs) rfl ?_
  refine go (c.en sc 9) (t_assign w_free) rfl ?_
  refine go (c.en sc 10) (t_assign (w_turn h.n500 rfl rfl)) rfl ?_
  refine go (c.en sc 11) (t_assign (w_names h.n500 rfl rfl)) rfl ?_
  refine go (c.en sc 12) (t_assign (w_written 2 (Nat.le_trans h.h2 (by decide)) rfl)) rfl ?_
  refine go (c.en sc 13) (t_assign (w_page 2 h.h2 (ends_facts (c.tot / 184 % 3) (Nat.mod_lt _ (by decide))).1 (ends_facts (c.tot / 184 % 3) (Nat.mod_lt _ (by decide))).2 rfl rfl rfl)) rfl ?_
  refine go (c.en sc 13) (w_check h.h2 rfl rfl ss_nil) rfl ?_
  refine go (c.en sc 14) (t_assign (h.x14 rfl rfl)) rfl ?_
  refine go (c.en sc 15) (t_assign (w_herd h.h2 rfl)) rfl ?_
  refine go (c.en sc 17) (t_unpack (h.x16 rfl rfl rfl) rfl) rfl ?_
  refine go (c.en sc 18) (t_assign (h.x18 rfl rfl rfl rfl rfl)) rfl ?_
  refine go (c.en sc 19) (t_assign (w_due h.hd30 h.F100 rfl rfl)) rfl ?_
  exact go (c.en sc 21) (t_unpack (e_tuple (es_cons (e_mut (l_disp es_nil (by decide))) (es_cons (e_mut (l_disp es_nil (by decide))) es_nil)) (by decide)) rfl) rfl k
theorem rg : range 1 (((c.N + 1 : Nat) : Int)) = (List.range' 1 c.N).map fun (i : Nat) => AV.int (i : Int) := by
  unfold range
  rw [show (((c.N + 1 : Nat) : Int) - 1).toNat = c.N by lia, List.range'_eq_map_range, List.map_map]
  apply List.map_congr_left
  intro i _
  simp
theorem xm {ρ : Env'} (hl : LP ρ c.do' c.apart c.young c.ns.length (namesOf c.tot c.N)) : ∃ ρ', Same ρ ρ' ∧ forL (fun ρ hp => evSs (l1G (l1call 3)) mailB ρ hp) none 22 ((List.range' 1 c.N).map fun (i : Nat) => AV.int (i : Int)) ρ [.list [], .list []] = some (.next, ρ', [.list (qv c.mails), .list (iv c.lines)]) := by
  obtain ⟨ρ', s, e⟩ := mail_loop (G := l1G (l1call 3)) (c := ⟨c.F, c.apart, c.young, c.ns.length, c.N, namesOf c.tot c.N, c.calf, labOf c.tot⟩) ⟨h.hd30, Nat.le_trans h.hN16 (by decide), fun n a b => ⟨(h.hnm n a b).1, (h.hnm n a b).2.len⟩, h.hc, h.hy, h.h2⟩ c.N 0 ρ [] [] ⟨by rw [Nat.zero_add]; exact Nat.le_of_lt h.hFl, Nat.le_of_eq (Nat.zero_add _), hl, Nat.le_refl _, (fun _ q => nomatch q), Nat.le_refl _⟩
  exact ⟨ρ', s, by simpa [qv, iv, cnt10, LD.mails, LD.lines, LD.S0] using e⟩
theorem N1 : 1 ≤ c.N := by rw [h.hN]; exact Nat.le_add_left _ _
theorem linesLen : c.lines.length = c.N := by
  obtain ⟨k, hk⟩ : ∃ k, c.N = k + 1 := ⟨c.N - 1, by have := h.hN; lia⟩
  have := (lines_last (labOf c.tot) c.calf c.apart k 1 c.F c.S0 (by have := h.hFl; lia)).2
  rw [← hk] at this
  exact this
theorem ilast (m x : AO) : idxA [m, .list (iv c.lines), x] (.ref 1) (.int (-1)) = some (.int (c.endL - 1)) := by
  obtain ⟨k, hk⟩ : ∃ k, c.N = k + 1 := ⟨c.N - 1, by have := h.hN; lia⟩
  have e := (lines_last (labOf c.tot) c.calf c.apart k 1 c.F c.S0 (by have := h.hFl; lia)).1
  rw [← hk, List.getLast?_eq_getElem?] at e
  have hl := h.linesLen
  show atIdx (iv c.lines) (-1) = _
  rw [atIdx_iv]
  unfold atIdx
  rw [if_pos (by decide), if_neg (by decide), if_pos (by rw [hl]; lia)]
  rw [neg1 _ (by rw [hl]; exact h.N1)]
  exact congrArg (Option.map AV.int) e
theorem run : l1call 3 (.ref 142) [.ref 2, .int (c.ns.length : Int), .lst (qv (namesOf c.tot c.N)), .str c.calf, .bool c.apart, .lst (qv (endsOf (c.tot / 184 % 3)))] [.list (qv c.mails), .list (iv c.lines), .list (chs (pageOf c.ns))] =
      some (.tup [.lst c.ents, .lst ((c.F.drop c.N).map (fun a => AV.lst (iv a.syms)) ++ [.lst (iv [261, 0])]), .str [], .int c.endL], [.list (qv c.mails), .list (iv c.lines), .list (chs [])]) := by
  obtain ⟨lnp, R, p1, p2, p3, p4⟩ := rd_page c.ns [] 1 (by simp)
  have c0 : cnt10 [] = 0 := rfl
  rw [List.nil_append] at p1
  rw [c0] at p4
  have hR2 : R.length ≤ 100 := by
    rcases p3 with rfl | p3
    · exact Nat.zero_le _
    · lia
  have hS : lnp + cnt10 R = c.S0 := by rw [p4]; unfold LD.S0; lia
  have p1' : rdN c.ns.length (pageOf c.ns) 1 = ((c.ns.map rowAn).map An.tok, lnp, R) := by rw [p1]; simp
  obtain ⟨he3, hE⟩ := ends_facts (c.tot / 184 % 3) (Nat.mod_lt _ (by decide))
  have run := run_spec (c := ⟨0, endsOf (c.tot / 184 % 3), namesOf c.tot c.N, c.calf, c.apart, (c.ns.length : Int), .list (qv c.mails), .list (iv c.lines)⟩) (lab := labOf c.tot) (young := c.young) (N := c.N) (F := c.F) (A0 := c.ns.map rowAn) (page := pageOf c.ns) (lnp := lnp) (R := R)
    ⟨⟨h.hF.ok, Nat.le_trans h.F100 (by decide), h.n500, h.hnm, h.hc, h.hy, he3, hE⟩, fun n => below_qv n _, fun n => below_iv n _, page_okL c.ns h.h2, congrArg Int.ofNat (List.length_map _).symm, by rw [List.length_map]; exact h.h1, by rw [List.length_map]; exact h.h2, by rw [List.length_map]; exact p1', p2, hR2, by rw [h.hN]; exact h.hF.g, h.hF.len, by rw [h.hN]; exact Nat.le_add_left _ _, h.hFl, by simp [namesOf]⟩
  rw [hS] at run
  exact run
theorem mailsLen : c.mails.length = c.N := (mails_len (labOf c.tot) c.calf c.apart c.N 1 c.F c.S0).trans h.linesLen
theorem at2 {ρ2 : Env'} {sc : AV} (s : Same (c.en sc 21) ρ2) (w : AV) (i : Nat) (h22 : i ≠ 22) (h23 : i ≠ 23) (h24 : i ≠ 24) : (setLoc ρ2 24 w)[i]? = (c.en sc 21)[i]? := by
  unfold setLoc
  rw [List.getElem?_set_ne (Ne.symm h24), s.2 i h22 h23]
theorem at24 {ρ2 : Env'} {sc : AV} (s : Same (c.en sc 21) ρ2) (w : AV) : (setLoc ρ2 24 w)[24]? = some (some w) := by
  unfold setLoc
  rw [List.getElem?_set_self (by rw [s.1]; exact Nat.lt_of_lt_of_eq (by decide : 24 < 25) rfl)]
theorem zip {ρ : Env'} {x : AO} (r19 : ρ[19]? = some (some (.lst (dueL c.F)))) (r20 : ρ[20]? = some (some (.ref 0))) (r21 : ρ[21]? = some (some (.ref 1))) :
    evL (l1G (l1call 3)) (.lList (.sZip [.var 19, .var 20, .var 21])) ρ [.list (qv c.mails), .list (iv c.lines), x] = some (c.ents, [.list (qv c.mails), .list (iv c.lines), x]) := by
  have hm : (qv c.mails).length = c.N := (List.length_map _).trans h.mailsLen
  have hl : (iv c.lines).length = c.N := (List.length_map _).trans h.linesLen
  have hd : (dueL c.F).length = c.F.length := List.length_map _
  have := l_zip (G := l1G (l1call 3)) (ρ := ρ) (es_cons (e_var r19) (es_cons (e_var r20) (es_cons (e_var r21) es_nil))) (a := dueL c.F) (b := qv c.mails) (c := iv c.lines) (hp1 := [.list (qv c.mails), .list (iv c.lines), x]) rfl rfl rfl (by rw [hm, hl, hd]; exact ⟨h.hFl, rfl, Nat.le_trans h.hN16 (by decide), h.N1⟩)
  exact this.trans (congrArg (fun l => some (l, _)) (zip_ents (labOf c.tot) c.calf c.apart c.N 1 c.F c.S0))
theorem rest {ρ : Env'} {hp : Hp} (r19 : ρ[19]? = some (some (.lst (dueL c.F)))) (r6 : ρ[6]? = some (some (.int (c.N : Int)))) :
    evL (l1G (l1call 3)) (.lAdd (.slice (.var 19) (some (.var 6)) none) (.frz (.lDisp [.frz (.lDisp [.int 261, .int 0])]))) ρ hp = some ((c.F.drop c.N).map (fun a => AV.lst (iv a.syms)) ++ [.lst (iv [261, 0])], hp) := by
  have hd : (dueL c.F).length = c.F.length := List.length_map _
  have hsl := slice_av (hp := hp) (dueL c.F) c.N (by rw [hd]; exact Nat.le_of_lt h.hFl) (by rw [hd]; exact Nat.le_trans h.F100 (by decide))
  rw [show (dueL c.F).drop c.N = (c.F.drop c.N).map fun a => AV.lst (iv a.syms) from (List.map_drop ..).symm] at hsl
  refine l_add (e_slice (e_var r19) (o_some (e_var r6)) o_none hsl) (e_frz (l_disp (es_cons (e_frz (l_disp (es_cons e_int (es_cons e_int es_nil)) (by decide))) es_nil) (by decide))) rfl rfl ?_
  rw [List.length_map, List.length_drop]
  exact Nat.le_trans (Nat.add_le_add_right (Nat.le_trans (Nat.sub_le _ _) h.F100) _) (by decide)
theorem py {hp : Hp} : ∃ d, toPy hp 8 (.tup [.lst c.ents, .lst ((c.F.drop c.N).map (fun a => AV.lst (iv a.syms)) ++ [.lst (iv [261, 0])]), .str [], .int c.endL]) = some d := by
  refine toPy_tup fun x hx => ?_
  simp only [List.mem_cons, List.not_mem_nil, or_false] at hx
  rcases hx with rfl | rfl | rfl | rfl
  · refine toPy_lst fun x hx => ?_
    obtain ⟨a, m, ln, ha, rfl⟩ := ents_mem2 _ _ _ _ _ _ _ x hx
    have hs := (sent_facts (R := []) (apart := c.apart) (h.hF.ok a ha) m (lab_ok c.tot m).2.2.1 h.hc (fun _ q => nomatch q) 0).2.2
    refine toPy_tup fun x hx => ?_
    simp only [List.mem_cons, List.not_mem_nil, or_false] at hx
    rcases hx with rfl | rfl | rfl
    · exact toPy_iv _ _ _
    · exact toPy_str _ _ hs
    · exact toPy_int _ _ _
  · refine toPy_lst fun x hx => ?_
    rcases List.mem_append.mp hx with hx | hx
    · obtain ⟨a, _, rfl⟩ := List.mem_map.mp hx
      exact toPy_iv _ _ _
    · rw [List.mem_singleton.mp hx]
      exact toPy_iv _ _ _
  · exact toPy_str _ _ (fun _ q => nomatch q)
  · exact toPy_int _ _ _
theorem last {ρ2 : Env'} {sc : AV} (s : Same (c.en sc 21) ρ2) : ∃ ρ' hp', evSs (l1G (l1call 3)) (l1ms_law.drop 18) ρ2 [.list (qv c.mails), .list (iv c.lines)] = some (.ret (.bool true), ρ', hp') := by
  unfold l1ms_law
  show ∃ ρ' hp', evSs (l1G (l1call 3)) [_, _] _ _ = _
  have q : ∀ i v, i < 22 → (c.en sc 21)[i]? = some (some v) → ρ2[i]? = some (some v) := fun i v hi e => (s.2 i (Nat.ne_of_lt hi) (Nat.ne_of_lt (Nat.lt_succ_of_lt hi))).trans e
  refine go (setLoc ρ2 24 (.tup [.lst c.ents, .lst ((c.F.drop c.N).map (fun a => AV.lst (iv a.syms)) ++ [.lst (iv [261, 0])]), .str [], .int c.endL])) (t_assign (e_call (es_cons (e_mut (l_list (xs := chs (pageOf c.ns)) (s_val (e_var (q 13 _ (by decide) rfl)) rfl) (by rw [chs_length]; exact Nat.le_trans (page_okL c.ns h.h2).1 (by decide)))) (es_cons (e_var (q 2 _ (by decide) rfl)) (es_cons (e_var (q 11 _ (by decide) rfl)) (es_cons (e_var (q 4 _ (by decide) rfl)) (es_cons (e_var (q 5 _ (by decide) rfl)) (es_cons (e_var (q 7 _ (by decide) rfl)) es_nil)))))) h.run)) rfl ?_
  exact ⟨_, _, ss_stop (t_ret (e_cmp (e_var (h.at24 s _)) (e_tuple (es_cons (e_frz (h.zip (h.at2 s _ 19 (by decide) (by decide) (by decide)) (h.at2 s _ 20 (by decide) (by decide) (by decide)) (h.at2 s _ 21 (by decide) (by decide) (by decide)))) (es_cons (e_frz (h.rest (h.at2 s _ 19 (by decide) (by decide) (by decide)) (h.at2 s _ 6 (by decide) (by decide) (by decide)))) (es_cons e_str (es_cons (e_bin (e_idx (e_var (h.at2 s _ 21 (by decide) (by decide) (by decide))) e_int (h.ilast _ _)) e_int (iend c.endL)) es_nil)))) (by simp)) (cmp_same _ _ _ h.py)))⟩
theorem all (sc : AV) : ∃ ρ' hp', evSs (l1G (l1call 3)) l1ms_law.tail (c.en sc 1) [] = some (.ret (.bool true), ρ', hp') := by
  refine h.head sc ?_
  obtain ⟨ρ2, s, em⟩ := h.xm (ρ := c.en sc 21) ⟨rfl, rfl, rfl, rfl, rfl, rfl, rfl, rfl⟩
  exact go (G := l1G (l1call 3)) (s := l1ms_law.getD 17 (.cont)) (ss := l1ms_law.drop 18) ρ2 (t_for (s_range e_int (e_bin (e_var (rfl : (c.en sc 21)[6]? = some (some (.int (c.N : Int))))) (e_nat 1) (b_add _ _)) (by have := h.hN16; lia)) (by rw [h.rg]; exact em)) rfl (h.last s)
end LC
theorem law_tail (ns : List Nat) (h1 : 1 ≤ ns.length) (h2 : ns.length ≤ 3) (sc : AV) :
    ∃ ρ' hp', evSs (l1G (l1call 3)) l1ms_law.tail [some sc, some (.lst (nv ns)), none, none, none, none, none, none, none, none, none, none, none, none, none, none, none, none, none, none, none, none, none, none, none] [] = some (.ret (.bool true), ρ', hp') := by
  have hy3 : 1 ≤ (1 + ns.sum % 2) + (if decide (((ns.sum / 2 % 2 : Nat) : Int) = 1) then 1 else 0) ∧ (1 + ns.sum % 2) + (if decide (((ns.sum / 2 % 2 : Nat) : Int) = 1) then 1 else 0) ≤ 3 := by
    split <;> lia
  obtain ⟨F, T, hF⟩ := herd_of ns ns.sum _ h1 h2 hy3
  exact LC.all (c := ⟨ns, ns.sum, 3 * ns.length + 4, _, decide (((ns.sum / 2 % 2 : Nat) : Int) = 1), List.replicate (1 + ns.sum % 2) 46, F, T⟩) ⟨h1, h2, rfl, rfl, rfl, rfl, rfl, hF⟩ sc
end Mine
end
section
set_option maxHeartbeats 1000000
namespace Mine
open PySem
theorem law_all (zs : List Int) (hz : zs.length ≤ 63) : ∃ k hp', k ≤ 20 ∧ l1call k (.ref 152) [.lst (zs.map .int)] [] = some (.bool true, hp') := by
  obtain ⟨ns, n1, n2, e1⟩ : ∃ ns : List Nat, 1 ≤ ns.length ∧ ns.length ≤ 3 ∧ evE (l1G (l1call 3)) (.ite (.cmp .NotEq (.var 0) (.frz (.lDisp []))) (.frz (.lComp (.bin .Mod (.var 0) (.bin .Pow (.int 10) (.int 6))) none none (.sVal (.slice (.var 0) none (some (.int 3)))) [])) (.frz (.lDisp [.int 56, .int 0]))) [some (.lst (iv zs)), none, none, none, none, none, none, none, none, none, none, none, none, none, none, none, none, none, none, none, none, none, none, none, none] [] = some (.lst (nv ns), []) := by
    cases zs with
    | nil =>
      refine ⟨[56, 0], by decide, by decide, e_ite_f (c_cmp (e_var rfl) (e_frz (l_disp es_nil (by simp))) ?_) (e_frz (l_disp (es_cons e_int (es_cons e_int es_nil)) (by decide)))⟩
      rfl
    | cons z r =>
      refine ⟨((z :: r).take 3).map fun z => (z.fmod 1000000).toNat, by simp, by simp; lia, e_ite_t (c_cmp (e_var rfl) (e_frz (l_disp es_nil (by simp))) ?_) (e_frz (l_comp (vs := iv ((z :: r).take 3)) (s_val (e_slice (x := .lst (iv (z :: r))) (v := .lst (iv ((z :: r).take 3))) (e_var rfl) o_none (o_some e_int) ?_) rfl) (by simp [iv]; lia) ?_))⟩
      · obtain ⟨ds, hd⟩ := toPys_some (f := toPy [] 7) (iv r) fun x hx => by
          obtain ⟨i, _, rfl⟩ := List.mem_map.mp hx
          exact toPy_int [] 7 i
        have h1 : toPy [] 8 (.lst (iv (z :: r))) = some (.list (.int z :: ds)) := by
          show (toPys (toPy [] 7) (.int z :: iv r)).map PyData.list = _
          show ((toPys (toPy [] 7) (iv r)).map _).map _ = _
          rw [hd]
          rfl
        have h2 : toPy [] 8 (.lst []) = some (.list []) := rfl
        show (eqvA [] (.lst (iv (z :: r))) (.lst [])).map not = _
        unfold eqvA
        rw [h1, h2]
        rfl
      · refine (slice_l rfl rfl (by rw [iv_len]; lia)).trans ?_
        have := take_clip (iv (z :: r)) 3
        rw [show (((3 : Nat) : Int)) = 3 from rfl] at this
        rw [this]
        simp [iv]
      · refine (comp_all (G := l1G (l1call 3)) (hp := []) AV.int (fun z => AV.int (((z.fmod 1000000).toNat : Nat) : Int)) ((z :: r).take 3) fun i _ => ?_).trans ?_
        · refine e_bin (y := .int 1000000) (e_var rfl) (e_bin e_int e_int (show binA .Pow (.int 10) (.int 6) = some (.int 1000000) from rfl)) ?_
          show (if (1000000 : Int) = 0 then none else some (AV.int (Int.fmod _ 1000000))) = _
          rw [if_neg (by decide), Int.toNat_of_nonneg (Int.fmod_nonneg_of_pos _ (by decide))]
        · simp only [nv, List.map_map]; rfl
  obtain ⟨ρ', hp', e2⟩ := law_tail ns n1 n2 (.lst (iv zs))
  obtain ⟨first, hf⟩ := law_tail_eq
  refine ⟨4, [], by decide, ?_⟩
  have cr : ∀ args hp, l1call 4 (.ref 152) args hp = runFn (l1G (l1call 3)) l1d_law args hp := fun _ _ => rfl
  rw [cr]
  have eb : evSs (l1G (l1call 3)) l1ms_law [some (.lst (iv zs)), none, none, none, none, none, none, none, none, none, none, none, none, none, none, none, none, none, none, none, none, none, none, none, none] [] = some (.ret (.bool true), ρ', hp') := by
    have hcons : l1ms_law = .assign 1 (.ite (.cmp .NotEq (.var 0) (.frz (.lDisp []))) (.frz (.lComp (.bin .Mod (.var 0) (.bin .Pow (.int 10) (.int 6))) none none (.sVal (.slice (.var 0) none (some (.int 3)))) [])) (.frz (.lDisp [.int 56, .int 0]))) :: l1ms_law.tail := rfl
    rw [hcons]
    exact ss_next (t_assign e1) e2
  exact run_ret rfl eb rfl
end Mine
end
open PySem PySem.W PyProof.Rows
theorem PySem.Challenge.cw_rs0106_01_holds : PySem.Challenge.rw_rs0106_01.Holds := by
  exact Mine.l1_holds Mine.law_all
