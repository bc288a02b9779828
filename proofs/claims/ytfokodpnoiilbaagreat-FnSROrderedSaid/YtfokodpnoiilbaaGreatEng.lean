/-
  An engine for walking Go functions: the words in which a body is told, what a body asks in them (compF), and the proof that this is enough for a call of the model (calls_of_compF).
-/
import Derived.Still
import Derived.Below
import Derived.KernelRfl
import Derived.OrdersHeld
import Derived.Tactics
import Derived.Laws.World
import Derived.Laws.Sem
import Derived.Laws.Cells
namespace Go.Proofs.YtfokodpnoiilbaaGreat.E
open Go
noncomputable section

abbrev W := World → Prop

/-- The type of one cell. -/
inductive Ty where
  | int (k : IntKind) | float (k : FloatKind) | bool | str | ptr | slice | map | any | addr

/-- What a cell of the type holds. -/
abbrev Ty.D : Ty → Type
  | .int _ => Int | .float _ => Nat | .bool => Bool | .str => ByteArray | .ptr => Option Addr
  | .slice => Option Addr × Nat × Nat | .map => Option Nat | .any => Value | .addr => Addr

def Ty.mk : (t : Ty) → t.D → Value
  | .int k, n => .int k n | .float k, n => .float k n | .bool, b => .bool b | .str, s => .string s | .ptr, p => .pointer p
  | .slice, s => .slice s.1 s.2.1 s.2.2 | .map, r => .map r | .any, v => v | .addr, a => .pointer (some a)

/-- A function of what a cell holds. -/
abbrev Ty.F (R : Type) : Ty → Type
  | .int _ => Int → R | .float _ => Nat → R | .bool => Bool → R | .str => ByteArray → R | .ptr => Option Addr → R
  | .slice => Option Addr → Nat → Nat → R | .map => Option Nat → R | .any => Value → R | .addr => Addr → R

def Ty.cur {R : Type} : (t : Ty) → (t.D → R) → t.F R
  | .int _, f => f | .float _, f => f | .bool, f => f | .str, f => f | .ptr, f => f
  | .slice, f => fun a l c => f (a, l, c) | .map, f => f | .any, f => f | .addr, f => f

def Ty.unc {R : Type} : (t : Ty) → t.F R → t.D → R
  | .int _, f => f | .float _, f => f | .bool, f => f | .str, f => f | .ptr, f => f
  | .slice, f => fun s => f s.1 s.2.1 s.2.2 | .map, f => f | .any, f => f | .addr, f => f

@[simp] theorem Ty.unc_cur {R : Type} (t : Ty) (f : t.D → R) (s : t.D) : t.unc (t.cur f) s = f s := by cases t <;> rfl

abbrev Fn (R : Type) : List Ty → Type
  | [] => R
  | t :: ts => t.F (Fn R ts)

abbrev Tup : List Ty → Type
  | [] => Unit
  | t :: ts => t.D × Tup ts

def cur {R : Type} : (ts : List Ty) → (Tup ts → R) → Fn R ts
  | [], f => f ()
  | t :: ts, f => t.cur fun d => cur ts fun s => f (d, s)

def unc {R : Type} : (ts : List Ty) → Fn R ts → Tup ts → R
  | [], f, _ => f
  | t :: ts, f, s => unc ts (t.unc f s.1) s.2

theorem unc_cur {R : Type} : (ts : List Ty) → (f : Tup ts → R) → (s : Tup ts) → unc ts (cur ts f) s = f s
  | [], _, _ => rfl
  | t :: ts, f, s => by simp [unc, cur, unc_cur ts]

def vals : (ts : List Ty) → Tup ts → List Value
  | [], _ => []
  | t :: ts, s => t.mk s.1 :: vals ts s.2

theorem vals_length : (ts : List Ty) → (s : Tup ts) → (vals ts s).length = ts.length
  | [], _ => rfl
  | t :: ts, s => by simp [vals, vals_length ts]

/-- A function of the cells' values, told as one of what they hold. -/
def abs {R : Type} (ts : List Ty) (g : List Value → R) : Fn R ts := cur ts fun s => g (vals ts s)

theorem unc_abs {R : Type} (ts : List Ty) (g : List Value → R) (s : Tup ts) : unc ts (abs ts g) s = g (vals ts s) := unc_cur ts _ s

/-- The shape of a value: one cell, or a struct or array of cells. -/
inductive S1 where
  | one (t : Ty) | agg (ts : List Ty)
def S1.leaves : S1 → List Ty
  | .one t => [t] | .agg ts => ts
def S1.bld : S1 → List Value → Value
  | .one _, v :: _ => v
  | .one _, [] => undef
  | .agg _, vs => .agg vs.toArray

/-- The shape of what a call or an operation yields. -/
inductive RTy where
  | s (a : S1) | tup (l : List S1)
def leavesL : List S1 → List Ty
  | [] => [] | a :: l => a.leaves ++ leavesL l
def bldL : List S1 → List Value → List Value
  | [], _ => []
  | a :: l, vs => a.bld (vs.take a.leaves.length) :: bldL l (vs.drop a.leaves.length)
def RTy.leaves : RTy → List Ty
  | .s a => a.leaves | .tup l => leavesL l
def RTy.bld : RTy → List Value → Value
  | .s a, vs => a.bld vs | .tup l, vs => .tuple (bldL l vs).toArray

/-! ## The words -/

/-- Is it the value of one cell? -/
def oneC : Value → Bool
  | .agg _ | .tuple _ => false
  | _ => true

/-- A cell of this type is read. -/
def LoadT (t : Ty) (a : Addr) (f : t.F W) : W := fun w => ∃ d : t.D, w.cell? a = some (t.mk d) ∧ t.unc f d w
/-- A piece of the model's text that yields a value. -/
def RawT (P : Program) (s : Sem Value) (r : RTy) (f : Fn W r.leaves) : W :=
  fun w => ∃ (d : Tup r.leaves) (w' : World), s.run P w = .ok (r.bld (vals _ d)) w' ∧ unc _ f d w'
/-- What lies at this place of a tuple. -/
def ExtW (v : Value) (i : Nat) (r : S1) (f : Fn W r.leaves) : W := fun w => ∃ d : Tup r.leaves, (∃ vs : Array Value, v = .tuple vs ∧ vs[i]? = some (r.bld (vals _ d))) ∧ unc _ f d w
def RawU (P : Program) (s : Sem Unit) (k : W) : W := fun w => ∃ w', s.run P w = .ok () w' ∧ k w'
/-- How a call comes back. -/
def Back (r : RTy) (f : Fn W r.leaves) (e : Ending) (w : World) : Prop := ∃ d : Tup r.leaves, e = .returned (r.bld (vals _ d)) ∧ unc _ f d w
def CallT (P : Program) (g : FuncId) (args : List Value) (r : RTy) (f : Fn W r.leaves) : W := fun w => Calls P g args.toArray w (Back r f)
/-- A call whose target the model finds out (a method of an interface value, a function value, a function without a body). -/
def NextT (P : Program) (s : Sem Next) (r : RTy) (f : Fn W r.leaves) : W := fun w =>
  match s.run P w with
  | .ok (.value v) w' => Back r f (.returned v) w'
  | .ok (.enter g as) w' => Calls P g as w' (Back r f)
  | _ => False
/-- A cell still holds what was read of it. -/
def Chk1 (a : Addr) (v : Value) (k : W) : W := fun w => w.cell? a = some v ∧ k w
/-- An interface value is held against nil. -/
def IfaceNil (v : Value) (f : Bool → W) : W := match v with | .nilIface => f true | .iface _ _ => f false | _ => fun _ => False
/-- What lies in an interface value, where it is of this type. -/
def TAs (v : Value) (t : TypeId) (r : RTy) (f : Fn W r.leaves) : W := fun w => ∃ d : Tup r.leaves, v = .iface t (r.bld (vals _ d)) ∧ unc _ f d w
/-- A piece of the model's text that yields a value and leaves the world alone. -/
def RawS (P : Program) (s : Sem Value) (r : RTy) (f : Fn W r.leaves) : W :=
  fun w => ∃ d : Tup r.leaves, s.run P w = .ok (r.bld (vals _ d)) w ∧ unc _ f d w
def NN (p : Option Addr) (f : Addr → W) : W := match p with | some a => f a | none => fun _ => False
def Req (c : Prop) (k : W) : W := fun w => c ∧ k w
def Store1 (a : Addr) (v : Value) (k : W) : W := fun w => oneC v = true ∧ (∃ old, w.cell? a = some old) ∧ w.frozen? a = false ∧ k (w.setCell a v)
def New (c : List Value) (t : TypeId) (f : Nat → W) : W := fun w => f w.heap.size (w.alloc (.cells c.toArray t))
def Both (x y : W) : W := fun w => x w ∧ y w
def bot : W := fun _ => False
def BIf (b : Bool) (x y : W) : W := match b with | true => x | false => y
/-- A value under a name. -/
def Bind {α : Type} (a : α) (f : α → W) : W := f a
def Drw (k : W) : W := fun w => k w.drew
/-- A loop: what holds at its head, and a measure. -/
def Loop (ts : List Ty) (body : Fn W ts → Fn W ts) : Fn W ts := cur ts fun s w =>
  ∃ (I : Tup ts → W) (μ : Tup ts → World → Nat), I s w ∧ ∀ s w, I s w → unc ts (body (cur ts fun s' w' => I s' w' ∧ μ s' w' < μ s w)) s w

def addI (k : IntKind) (a b : Int) : Int := k.wrap (a + b)
def subI (k : IntKind) (a b : Int) : Int := k.wrap (a - b)
/-- Products and shifts to the left are hidden from the kernel, which would count them out. -/
theorem mulI_ex (k : IntKind) (a b : Int) : ∃ n, n = k.wrap (a * b) := ⟨_, rfl⟩
def mulI (k : IntKind) (a b : Int) : Int := (mulI_ex k a b).choose
theorem mulI_def (k : IntKind) (a b : Int) : mulI k a b = k.wrap (a * b) := (mulI_ex k a b).choose_spec
def andI (k : IntKind) (a b : Int) : Int := k.wrap (BitVec.ofInt k.bits a &&& BitVec.ofInt k.bits b).toNat
def orI (k : IntKind) (a b : Int) : Int := k.wrap (BitVec.ofInt k.bits a ||| BitVec.ofInt k.bits b).toNat
def xorI (k : IntKind) (a b : Int) : Int := k.wrap (BitVec.ofInt k.bits a ^^^ BitVec.ofInt k.bits b).toNat
def andNotI (k : IntKind) (a b : Int) : Int := k.wrap (BitVec.ofInt k.bits a &&& ~~~(BitVec.ofInt k.bits b)).toNat
theorem shlI_ex (k : IntKind) (a : Int) (n : Nat) : ∃ m, m = k.wrap (a * 2 ^ (min n k.bits)) := ⟨_, rfl⟩
def shlI (k : IntKind) (a : Int) (n : Nat) : Int := (shlI_ex k a n).choose
theorem shlI_def (k : IntKind) (a : Int) (n : Nat) : shlI k a n = k.wrap (a * 2 ^ (min n k.bits)) := (shlI_ex k a n).choose_spec
def shrI (k : IntKind) (a : Int) (n : Nat) : Int := a.fdiv (2 ^ (min n k.bits))
def quoI (k : IntKind) (a b : Int) : Int := k.wrap (a.tdiv b)
def remI (a b : Int) : Int := a.tmod b

/-- A temporary's content: a value whose form is known, or any value of an interface's or a function's type. -/
inductive EV where
  | val (v : Value) | any (v : Value)
def EV.v : EV → Value
  | .val v => v | .any v => v
def mkE (t : Ty) (v : Value) : EV := match t with | .any => .any v | _ => .val v
def S1.mkE (s : S1) (v : Value) : EV := match s with | .one t => E.mkE t v | .agg _ => .val v
def RTy.mkE (r : RTy) (v : Value) : EV := match r with | .s a => a.mkE v | .tup _ => .val v

abbrev Env := Nat → Option EV
def upd (e : Env) (t : Nat) (v : Option EV) : Env := fun s => bif Nat.beq s t then v else e s
def mkEnv : List (Nat × EV) → Env
  | [] => fun _ => none
  | p :: l => fun s => bif Nat.beq s p.1 then some p.2 else mkEnv l s
def put (n : Nat) (e : Env) (d : Option Tmp) (v : Option EV) : Env :=
  match d with
  | none => e
  | some t => bif Nat.ble (t + 1) n then upd e t v else e
def ev (e : Env) (x : Operand) : Option EV :=
  match x with
  | .tmp t => e t
  | .const v => some (.val v)
  | .global g => some (.val (.pointer (some ⟨g, 0, none⟩)))
  | .func f => some (.val (.func (.func f) #[] #[]))
def evs (e : Env) : List Operand → Option (List Value)
  | [] => some []
  | x :: l => match ev e x, evs e l with
    | some v, some vs => some (v.v :: vs)
    | _, _ => none
def refine' (e : Env) (x : Operand) (v : EV) : Env := match x with | .tmp t => upd e t (some v) | _ => e

/-! ## Types -/
def ty1 (P : Program) (t : TypeId) : Ty :=
  match P.underlying t with
  | some .bool => .bool | some (.int k) => .int k | some (.float k) => .float k | some .string => .str
  | some (.pointer _) => .ptr | some (.slice _) => .slice | some (.map _ _) => .map | _ => .any
def isAggT (P : Program) (t : TypeId) : Bool :=
  match P.underlying t with
  | some (.struct _) => true | some (.array _ _) => true | _ => false
def lvsF (g : TypeId → List Ty) : List Field → List Ty
  | [] => [] | f :: l => g f.type ++ lvsF g l
def repL (l : List Ty) : Nat → List Ty
  | 0 => [] | n + 1 => l ++ repL l n
def lvs (P : Program) : Nat → TypeId → List Ty
  | 0, _ => []
  | n + 1, t => match P.underlying t with
    | some (.struct fs) => lvsF (lvs P n) fs.toList
    | some (.array m e) => repL (lvs P n e) m
    | _ => [ty1 P t]
def s1 (P : Program) (t : TypeId) : S1 := bif isAggT P t then .agg (lvs P 30 t) else .one (ty1 P t)
def s1L (P : Program) : List TypeId → List S1
  | [] => [] | t :: l => s1 P t :: s1L P l
def rty (P : Program) (t : TypeId) : RTy :=
  match P.info? t with
  | some { desc := .tuple ts, .. } => .tup (s1L P ts.toList)
  | _ => .s (s1 P t)
/-- What a type assertion gives: where its type is not told, any pair. -/
def rtyA (P : Program) (t : TypeId) : RTy :=
  match rty P t with
  | .tup [] => .s (.one .any)
  | r => r
def rtyR (P : Program) : List TypeId → RTy
  | [t] => .s (s1 P t)
  | l => .tup (s1L P l)

/-! ## One operation -/
abbrev Facts := List (Addr × Value)
/-- What goes on behind an operation: the temporaries, the value, and the cells that were read. -/
abbrev Kont := Env → EV → Facts → W

def mulSz (j s : Nat) : Nat := bif Nat.beq s 1 then j else j * s
def addOff (a : Addr) (o : Nat) : Addr := bif Nat.beq o 0 then a else a.add o
def kEq (j k : IntKind) : Bool := decide (j = k)

def loadL : List Ty → Addr → Nat → (List Value → Facts → W) → W
  | [], _, _, k => k [] []
  | t :: ts, a, i, k => LoadT t (a.add i) (t.cur fun d => loadL ts a (i + 1) fun vs fs => k (t.mk d :: vs) ((a.add i, t.mk d) :: fs))
def storeL : List Value → Addr → Nat → W → W
  | [], _, _, k => k
  | v :: vs, a, i, k => Store1 (a.add i) v (storeL vs a (i + 1) k)

def loadW (P : Program) (t : TypeId) (a : Addr) (K : EV → Facts → W) : W :=
  bif (P.underlying t).isSome then
  bif isAggT P t then
    bif Nat.beq (lvs P 30 t).length (P.cellsOf t) then loadL (lvs P 30 t) a 0 fun vs fs => K (.val (.agg vs.toArray)) fs else bot
  else LoadT (ty1 P t) a ((ty1 P t).cur fun d => K (mkE (ty1 P t) ((ty1 P t).mk d)) [(a, (ty1 P t).mk d)])
  else bot
/-- The cells of a value of this type. -/
def cellsW (P : Program) (t : TypeId) (v : EV) (K : List Value → W) : W :=
  bif (P.info? t).isSome then
  bif isAggT P t then match v with
    | .val (.agg cs) => bif Nat.beq cs.toList.length (P.cellsOf t) then K cs.toList else bot
    | _ => bot
  else bif Nat.beq (P.cellsOf t) 1 then match v with
    | .val v => bif oneC v then K [v] else bot
    | .any v => Req (oneC v = true) (K [v])
  else bot
  else bot

def arith (op : BinOp) (k : IntKind) (a b : Int) : Option Value :=
  match op with
  | .add => some (.int k (addI k a b)) | .sub => some (.int k (subI k a b)) | .mul => some (.int k (mulI k a b))
  | .and => some (.int k (andI k a b)) | .or => some (.int k (orI k a b)) | .xor => some (.int k (xorI k a b)) | .andNot => some (.int k (andNotI k a b))
  | .eql => some (.bool (a == b)) | .neq => some (.bool (a != b)) | .lss => some (.bool (decide (a < b))) | .leq => some (.bool (decide (a ≤ b)))
  | .gtr => some (.bool (decide (a > b))) | .geq => some (.bool (decide (a ≥ b)))
  | _ => none
/-- A shift's count, where it is a constant. -/
def countOf : Operand → Option Nat
  | .const (.int _ (.ofNat n)) => some n
  | _ => none
def shW (k : IntKind) (left : Bool) (p q : Int) (y : Operand) (K : EV → W) : W :=
  match countOf y with
  | some n => K (.val (.int k (bif left then shlI k p n else shrI k p n)))
  | none => Req (0 ≤ q) (K (.val (.int k (bif left then shlI k p q.toNat else shrI k p q.toNat))))
def binS (op : BinOp) (t : TypeId) (x y : Operand) (a b : Value) : Sem Value := do eqGuard op t x y a b; binOp op t a b
def nilPtr : Operand → Bool
  | .const (.pointer none) => true | _ => false
def nilSl : Operand → Bool
  | .const (.slice none _ _) => true | _ => false
def nilMp : Operand → Bool
  | .const (.map none) => true | _ => false
def nilIf : Operand → Bool
  | .const .nilIface => true | _ => false
def eqW (op : BinOp) (b : Bool) (K : EV → W) : W :=
  match op with
  | .eql => K (.val (.bool b)) | .neq => K (.val (.bool !b)) | _ => bot
def ptrW (op : BinOp) (a : EV) (K : EV → W) : W := match a with | .val (.pointer p) => eqW op p.isNone K | _ => bot
def slW (op : BinOp) (a : EV) (K : EV → W) : W := match a with | .val (.slice p _ _) => eqW op p.isNone K | _ => bot
def mpW (op : BinOp) (a : EV) (K : EV → W) : W := match a with | .val (.map p) => eqW op p.isNone K | _ => bot
def binW (P : Program) (op : BinOp) (t : TypeId) (x y : Operand) (a b : EV) (r : RTy) (K : EV → W) : W :=
  match P.underlying t with
  | some (.int _) => match a, b with
    | .val (.int k p), .val (.int k' q) => match op with
      | .shl => shW k true p q y K
      | .shr => shW k false p q y K
      | .quo => bif kEq k k' then Req (q ≠ 0) (K (.val (.int k (quoI k p q)))) else bot
      | .rem => bif kEq k k' then Req (q ≠ 0) (K (.val (.int k (remI p q)))) else bot
      | op => bif kEq k k' then (match arith op k p q with | some v => K (.val v) | none => bot) else bot
    | _, _ => bot
  | some .bool => match a, b with
    | .val (.bool p), .val (.bool q) => eqW op (p == q) K
    | _, _ => bot
  | some .string => match a, b with
    | .val (.string p), .val (.string q) => eqW op (p.toList == q.toList) K
    | _, _ => bot
  | some (.pointer _) => bif nilPtr y then ptrW op a K else bif nilPtr x then ptrW op b K else RawS P (binS op t x y a.v b.v) r (abs _ fun vs => K (r.mkE (r.bld vs)))
  | some (.slice _) => bif nilSl y then slW op a K else bif nilSl x then slW op b K else bot
  | some (.map _ _) => bif nilMp y then mpW op a K else bif nilMp x then mpW op b K else bot
  | some (.interface _) => bif nilIf y then IfaceNil a.v (fun b => eqW op b K) else RawS P (binS op t x y a.v b.v) r (abs _ fun vs => K (r.mkE (r.bld vs)))
  | _ => RawS P (binS op t x y a.v b.v) r (abs _ fun vs => K (r.mkE (r.bld vs)))
def unW (P : Program) (op : UnOp) (t : TypeId) (a : EV) (r : RTy) (K : EV → W) : W :=
  match P.underlying t with
  | some (.int _) => match a with
    | .val (.int k p) => match op with
      | .neg => K (.val (.int k (subI k 0 p)))
      | .xor => K (.val (.int k (xorI k (bif k.signed then -1 else k.max) p)))
      | _ => bot
    | _ => bot
  | some .bool => match a, op with
    | .val (.bool b), .not => K (.val (.bool !b))
    | _, _ => bot
  | _ => RawS P (Op.unary op a.v) r (abs _ fun vs => K (r.mkE (r.bld vs)))
def convW (P : Program) (src dst : TypeId) (a : EV) (r : RTy) (K : EV → W) : W :=
  match P.underlying src, P.underlying dst with
  | some (.int _), some (.int k) => match a with
    | .val (.int _ p) => K (.val (.int k (k.wrap p)))
    | _ => bot
  | _, _ => RawT P (convert src dst a.v) r (abs _ fun vs => K (r.mkE (r.bld vs)))
def byteAt (s : ByteArray) (j : Nat) : Int := match s[j]? with | some b => (b.toNat : Int) | none => 0
def sliceA (a : Option Addr) (l m sz : Nat) : Option Addr := if m = l then a else a.map (·.add (l * sz))
def optI (e : Env) : Option Operand → Option (Option Int)
  | none => some none
  | some x => match ev e x with | some (.val (.int _ i)) => some (some i) | _ => none
/-- A slice's upper bounds (high, max), as numbers. -/
def upW (len cap : Nat) (hi mx : Option Int) (K : Nat → Nat → W) : W :=
  match mx, hi with
  | none, none => K len cap
  | none, some h => Req (0 ≤ h ∧ h ≤ (cap : Int)) (K h.toNat cap)
  | some m, some h => Req (0 ≤ m ∧ m ≤ (cap : Int)) (Req (0 ≤ h ∧ h ≤ ((m.toNat : Nat) : Int)) (K h.toNat m.toNat))
  | some _, none => bot
def loW (lo : Option Int) (h : Nat) (K : Nat → W) : W :=
  match lo with
  | none => K 0
  | some l => Req (0 ≤ l ∧ l ≤ (h : Int)) (K l.toNat)
def sliceW (P : Program) (e : Env) (t : TypeId) (x : EV) (lo hi mx : Option Operand) (K : EV → W) : W :=
  match optI e lo, optI e hi, optI e mx with
  | some lo, some hi, some mx => match P.underlying t with
    | some (.slice el) => match x with
      | .val (.slice p l c) => bif (P.info? el).isSome then upW l c hi mx fun h m => loW lo h fun l => K (.val (.slice (sliceA p l m (P.cellsOf el)) (h - l) (m - l))) else bot
      | _ => bot
    | some (.array n el) => match x with
      | .val (.pointer (some a)) => bif (P.info? el).isSome then upW n n hi mx fun h m => loW lo h fun l => K (.val (.slice (sliceA (some a) l m (P.cellsOf el)) (h - l) (m - l))) else bot
      | _ => bot
    | some .string => match x with
      | .val (.string s) => match mx with
        | none => upW s.size s.size hi none fun h _ => loW lo h fun l => K (.val (.string (s.extract l h)))
        | some _ => bot
      | _ => bot
    | _ => bot
  | _, _, _ => bot
/-- Where a struct type's fields lie: place and size. -/
def places (P : Program) : List Field → Option (List (Nat × Nat))
  | [] => some []
  | f :: l => match P.info? f.type, places P l with
    | some i, some r => some ((f.offset, i.size) :: r)
    | _, _ => none
def setL (cs : List Value) (off : Nat) : List Value → List Value
  | [] => cs
  | v :: vs => setL (cs.set off v) (off + 1) vs
def fillW (pl : Nat → Option (Nat × Nat)) : List Value → List (Nat × EV) → (List Value → W) → W
  | cs, [], K => K cs
  | cs, (i, v) :: r, K => match pl i with
    | none => bot
    | some (off, sz) => match v with
      | .val v => bif Nat.beq v.cells.toList.length sz && Nat.ble (off + v.cells.toList.length) cs.length then fillW pl (setL cs off v.cells.toList) r K else bot
      | .any v => bif Nat.beq 1 sz && Nat.ble (off + 1) cs.length then Req (oneC v = true) (fillW pl (setL cs off [v]) r K) else bot
def evP (e : Env) : List (Nat × Operand) → Option (List (Nat × EV))
  | [] => some []
  | (i, x) :: l => match ev e x, evP e l with
    | some v, some vs => some ((i, v) :: vs)
    | _, _ => none
def unE : List (Nat × EV) → List (Nat × Value)
  | [] => [] | (i, v) :: l => (i, v.v) :: unE l
def buildW (P : Program) (t : TypeId) (parts : List (Nat × EV)) (K : EV → W) : W :=
  match P.info? t, P.underlying t with
  | some i, some (.struct fs) => match i.zero, places P fs.toList with
    | some z, some pl => fillW (fun i => pl[i]?) z.cells.toList parts fun cs => K (.val (.agg cs.toArray))
    | _, _ => bot
  | some i, some (.array _ el) => match i.zero, P.info? el with
    | some z, some ie => fillW (fun i => some (i * ie.size, ie.size)) z.cells.toList parts fun cs => K (.val (.agg cs.toArray))
    | _, _ => bot
  | _, _ => bot
def constsL : List Operand → List Bool
  | [] => []
  | x :: l => (match x with | .const _ => true | _ => false) :: constsL l
def evO (e : Env) : Option Operand → Option (Option Value)
  | none => some none
  | some x => (ev e x).map fun v => some v.v
def callV (f : Value) (args : Array Value) : Sem Next := do let d ← Deferred.ofValue f args; invoke d.target d.args
/-- len and cap of slices, len of strings. -/
def lenT (P : Program) (b : Builtin) (ts : List TypeId) : Bool :=
  match b with
  | .len => match ts with
    | [t] => match P.underlying t with | some (.slice _) => true | some .string => true | _ => false
    | _ => false
  | .cap => match ts with
    | [t] => match P.underlying t with | some (.slice _) => true | _ => false
    | _ => false
  | _ => false
def lenV (P : Program) (b : Builtin) (ts : List TypeId) (args : List Value) : Option Value :=
  match ts with
  | [t] => match P.underlying t with
    | some (.slice _) => match args with
      | [.slice _ n c] => match b with | .len => some (.int .i64 n) | .cap => some (.int .i64 c) | _ => none
      | _ => none
    | some .string => match args with
      | [.string s] => match b with | .len => some (.int .i64 s.size) | _ => none
      | _ => none
    | _ => none
  | _ => none
def callW (P : Program) (ty : TypeId) (c : Call) (e : Env) (K : EV → W) : W :=
  match evs e c.args.toList with
  | none => bot
  | some args => match c.callee with
    | .value f => match ev e f with
      | some (.val (.func (.func g) first cap)) => match P.funcs[g]? with
        | some fn => match fn.body with
          | some _ => CallT P g (first.toList ++ args ++ cap.toList) (rtyR P fn.resultTypes.toList) (abs _ fun vs => K ((rtyR P fn.resultTypes.toList).mkE ((rtyR P fn.resultTypes.toList).bld vs)))
          | none => NextT P (callFunc g (first.toList ++ args ++ cap.toList).toArray) (rty P ty) (abs _ fun vs => K ((rty P ty).mkE ((rty P ty).bld vs)))
        | none => bot
      | some f => NextT P (callV f.v args.toArray) (rty P ty) (abs _ fun vs => K ((rty P ty).mkE ((rty P ty).bld vs)))
      | none => bot
    | .invoke r m => match ev e r with
      | some r => NextT P (callMethod r.v m args.toArray) (rty P ty) (abs _ fun vs => K ((rty P ty).mkE ((rty P ty).bld vs)))
      | none => bot
    | .builtin b => bif lenT P b c.argTypes.toList then (match lenV P b c.argTypes.toList args with | some v => K (.val v) | none => bot) else NextT P (builtin b c.argTypes ty (constsL c.args.toList).toArray args.toArray) (rty P ty) (abs _ fun vs => K ((rty P ty).mkE ((rty P ty).bld vs)))
def nnv : Value → Bool
  | .iface _ _ => true | .func (.func _) _ _ => true | _ => false

/-- A method value that is asked not to be nil: its receiver is none. -/
def MethOk (P : Program) (v : Value) (k : W) : W := fun w => (∀ w', (execOp (fun _ => v) { dst := none, op := .nilCheck (.tmp 0), type := 0, pos := "", after := #[], guard := none }).run P w' = .ok (.value v) w') ∧ k w
def opW (P : Program) (o : Oper) (e : Env) (K : Kont) : W :=
  match o.op with
  | .move x => match ev e x with | some v => K e v [] | none => bot
  | .assign x => match ev e x with | some v => K e v [] | none => bot
  | .pick c a b => match ev e c with
    | some (.val (.bool t)) => BIf t (match ev e a with | some v => K e v [] | none => bot) (match ev e b with | some v => K e v [] | none => bot)
    | _ => bot
  | .nilCheck x => match ev e x with
    | some (.val (.pointer p)) => NN p fun a => K (refine' e x (.val (.pointer (some a)))) (.val (.pointer (some a))) []
    | some (.val v) => bif nnv v then K e (.val v) [] else MethOk P v (K e (.val v) [])
    | some (.any v) => Req (nnv v = true) (K e (.any v) [])
    | none => bot
  | .load t a => match ev e a with
    | some (.val (.pointer (some a))) => loadW P t a (K e)
    | _ => bot
  | .store t a x => match ev e a, ev e x with
    | some (.val (.pointer (some a))), some v => cellsW P t v fun cs => match cs with
      | [v] => bif isAggT P t then Store1 (a.add 0) v (K e (.val undef) []) else Store1 a v (K e (.val undef) [])
      | cs => storeL cs a 0 (K e (.val undef) [])
    | _, _ => bot
  | .alloc t => match P.info? t with
    | some i => match i.zero with
      | some z => New z.cells.toList t fun b => K e (.val (.pointer (some ⟨b, 0, none⟩))) []
      | none => bot
    | none => bot
  | .box t x => match ev e x with
    | some v => cellsW P t v fun cs => New cs t fun b => K e (.val (.pointer (some ⟨b, 0, none⟩))) []
    | none => bot
  | .build t parts => match evP e parts.toList with
    | some ps => buildW P t ps fun v => K e v []
    | none => bot
  | .buildSlice t len parts => match evP e parts.toList with
    | some ps => RawT P (Instr.buildSlice t len (unE ps).toArray) (.s (.one .slice)) fun a l c => K e (.val (.slice a l c)) []
    | none => bot
  | .binOp op t x y _ => match ev e x, ev e y with
    | some a, some b => binW P op t x y a b (rty P o.type) fun v => K e v []
    | _, _ => bot
  | .unOp op t x => match ev e x with | some a => unW P op t a (rty P o.type) fun v => K e v [] | none => bot
  | .convert src dst x => match ev e x with | some a => convW P src dst a (rty P dst) fun v => K e v [] | none => bot
  | .makeInterface t x => match ev e x with
    | some v => match P.underlying t with
      | some (.interface _) => bot
      | none => bot
      | _ => K e (.val (.iface t v.v)) []
    | none => bot
  | .makeFunc fn first captured => match evs e first.toList, evs e captured.toList with
    | some a, some b => K e (.val (.func fn a.toArray b.toArray)) []
    | _, _ => bot
  | .fieldAddr s x f => match P.underlying s, ev e x with
    | some (.struct fs), some (.val (.pointer (some a))) => match fs.toList[f]? with
      | some fl => bif Nat.beq (P.cellsOf fl.type) 0 then bot else K e (.val (.pointer (some (addOff a fl.offset)))) []
      | none => bot
    | _, _ => bot
  | .field s x f => match P.underlying s, ev e x with
    | some (.struct fs), some (.val (.agg cs)) => match fs.toList[f]? with
      | some fl => match P.underlying fl.type with
        | none => bot
        | some _ => bif isAggT P fl.type then K e (.val (.agg ((cs.toList.drop fl.offset).take (P.cellsOf fl.type)).toArray)) []
          else match cs.toList[fl.offset]? with
            | some v => K e (mkE (ty1 P fl.type) v) []
            | none => bot
      | none => bot
    | _, _ => bot
  | .indexAddr t x i => match P.underlying t, ev e x, ev e i with
    | some (.slice el), some (.val (.slice p l _)), some (.val (.int _ j)) =>
      bif (P.info? el).isSome then NN p fun a => Req (0 ≤ j ∧ j < (l : Int)) (K e (.val (.pointer (some (a.add (mulSz j.toNat (P.cellsOf el)))))) []) else bot
    | some (.array n el), some (.val (.pointer (some a))), some (.val (.int _ j)) =>
      bif (P.info? el).isSome then Req (0 ≤ j ∧ j < (n : Int)) (K e (.val (.pointer (some (a.add (mulSz j.toNat (P.cellsOf el)))))) []) else bot
    | _, _, _ => bot
  | .index t x i => match ev e x, ev e i with
    | some a, some b => match P.underlying t with
      | some .string => match a, b with
        | .val (.string s), .val (.int _ j) => Req (0 ≤ j ∧ j < (s.size : Int)) (K e (.val (.int .u8 (byteAt s j.toNat))) [])
        | _, _ => bot
      | _ => RawS P (Instr.index t a.v b.v) (rty P o.type) (abs _ fun vs => K e ((rty P o.type).mkE ((rty P o.type).bld vs)) [])
    | _, _ => bot
  | .slice t x lo hi mx => match ev e x with
    | some v => sliceW P e t v lo hi mx fun v => K e v []
    | none => bot
  | .typeAssert x xt t ok => match ev e x with
    | some v => bif ok then RawS P (Instr.typeAssert v.v xt t true) (rtyA P o.type) (abs _ fun vs => K e ((rtyA P o.type).mkE ((rtyA P o.type).bld vs)) [])
      else match P.underlying t with
        | some (.interface _) => RawS P (Instr.typeAssert v.v xt t false) (rtyA P o.type) (abs _ fun vs => K e ((rtyA P o.type).mkE ((rtyA P o.type).bld vs)) [])
        | none => bot
        | _ => TAs v.v t (.s (s1 P t)) (abs _ fun vs => K e ((s1 P t).mkE ((s1 P t).bld vs)) [])
    | none => bot
  | .extract x i => match ev e x with
    | some (.val (.tuple vs)) => match vs.toList[i]? with
      | some v => K e ((s1 P o.type).mkE v) []
      | none => bot
    | some (.any v) => ExtW v i (s1 P o.type) (abs _ fun vs => K e ((s1 P o.type).mkE ((s1 P o.type).bld vs)) [])
    | _ => bot
  | .makeSlice t l c => match ev e l, ev e c with
    | some l, some c => RawT P (Instr.makeSlice t l.v c.v) (.s (.one .slice)) fun a l c => K e (.val (.slice a l c)) []
    | _, _ => bot
  | .makeMap t r => match evO e r with
    | some r => RawT P (Instr.makeMap t r) (.s (.one .map)) fun m => K e (.val (.map m)) []
    | none => bot
  | .lookup t x i ok => match ev e x, ev e i with
    | some a, some b => RawS P (Instr.lookup t a.v b.v ok) (rty P o.type) (abs _ fun vs => K e ((rty P o.type).mkE ((rty P o.type).bld vs)) [])
    | _, _ => bot
  | .mapUpdate t m k x => match ev e m, ev e k, ev e x with
    | some m, some k, some x => RawU P (Instr.mapUpdate t m.v k.v x.v) (K e (.val undef) [])
    | _, _, _ => bot
  | .mapEntry t m k => match ev e m, ev e k with
    | some m, some k => RawT P (Instr.mapEntry t m.v k.v) (rty P o.type) (abs _ fun vs => K e ((rty P o.type).mkE ((rty P o.type).bld vs)) [])
    | _, _ => bot
  | .entryStore t m s x => match ev e m, ev e s, ev e x with
    | some m, some s, some x => RawU P (Instr.entryStore t m.v s.v x.v) (K e (.val undef) [])
    | _, _, _ => bot
  | .range t x => match ev e x with
    | some x => RawT P (Instr.range t x.v) (.s (.one .any)) fun v => K e (.any v) []
    | none => bot
  | .next it s => match ev e it with
    | some it => RawT P (Instr.next it.v s o.type) (.s (.one .any)) fun v => K e (.any v) []
    | none => bot
  | .entry it => match ev e it with
    | some it => RawT P (Instr.entry it.v) (.s (.one .any)) fun v => K e (.any v) []
    | none => bot
  | .waits g => RawT P (Instr.waits g) (.s (.one .any)) fun v => K e (.any v) []
  | .call c => callW P o.type c e fun v => K e v []
  | _ => bot

/-- May the operation be taken ahead of calls? Its value hangs on its operands alone, or on the cells that it reads. -/
def loose (P : Program) (o : Op) : Bool :=
  match o with
  | .move _ | .assign _ | .pick _ _ _ | .nilCheck _ | .load _ _ | .build _ _ | .makeInterface _ _ | .makeFunc _ _ _ | .fieldAddr _ _ _ | .field _ _ _ | .indexAddr _ _ _
  | .slice _ _ _ _ _ | .extract _ _ => true
  | .binOp _ t x y _ => match P.underlying t with
    | some (.int _) | some .bool | some .string | some (.slice _) | some (.map _ _) => true
    | some (.pointer _) => nilPtr x || nilPtr y
    | some (.interface _) => nilIf y
    | _ => false
  | .unOp _ t _ => match P.underlying t with | some (.int _) | some .bool => true | _ => false
  | .convert s d _ => match P.underlying s, P.underlying d with | some (.int _), some (.int _) => true | _, _ => false
  | .index t _ _ => match P.underlying t with | some .string => true | _ => false
  | .typeAssert _ _ t ok => !ok && match P.underlying t with | some (.interface _) | none => false | _ => true
  | .call c => match c.callee with | .builtin b => lenT P b c.argTypes.toList | _ => false
  | _ => false

/-! ## Regions -/
/-- An operation's guard, in a region: its temporary. -/
def guardT (ops : List Oper) (o : Oper) : Option (Option (Nat × Bool)) :=
  match o.guard with
  | none => some none
  | some (j, want) => match ops[j]? with
    | some g => match g.dst with
      | some d => some (some (d, want))
      | none => none
    | none => none
/-- The operation where it is wanted; where it isn't, its temporary holds nothing. -/
def guardW (ops : List Oper) (o : Oper) (e : Env) (yes no : Env → W) : W :=
  match guardT ops o with
  | none => bot
  | some none => yes e
  | some (some (d, want)) => match e d with
    | some (.val (.bool b)) => BIf b ((bif want then yes else no) (upd e d (some (.val (.bool true))))) ((bif want then no else yes) (upd e d (some (.val (.bool false)))))
    | some (.val (.tuple _)) => no e
    | _ => bot
def seqW (P : Program) (n : Nat) (ops : List Oper) : List Oper → (Env → W) → Env → W
  | [], k, e => k e
  | o :: r, k, e => guardW ops o e (fun e => opW P o e fun e v _ => seqW P n ops r k (put n e o.dst (some v))) (fun e => seqW P n ops r k (put n e o.dst (some (.val undef))))

def bitOf (n : Nat) : Nat := Nat.pow 2 n
/-- The operations that must come first, as bits. -/
def predM : List Edge → Nat
  | [] => 0
  | e :: l => bif Region.binds .any e then Nat.lor (bitOf e.on) (predM l) else predM l
def masks : List Oper → List Nat
  | [] => []
  | o :: l => predM o.after.toList :: masks l
def tst (m i : Nat) : Bool := Nat.beq (Nat.land m (bitOf i)) (bitOf i)
def sub (m L : Nat) : Bool := Nat.beq (Nat.land m L) m
/-- Those that may come up. -/
def readyL : List Nat → Nat → Nat → List Nat
  | [], _, _ => []
  | m :: ms, i, L => bif !tst L i && sub m L then i :: readyL ms (i + 1) L else readyL ms (i + 1) L
def opsOf : Op → List Operand
  | .alloc _ | .ready _ | .waits _ => []
  | .move x | .assign x | .box _ x | .load _ x | .nilCheck x | .unOp _ _ x | .convert _ _ x | .sliceToArrayPointer _ x | .makeInterface _ x
  | .makeChan _ x | .fieldAddr _ x _ | .field _ x _ | .range _ x | .next x _ | .entry x | .typeAssert x _ _ _ | .extract x _ | .panic x | .recv _ x _ => [x]
  | .pick c a b => [c, a, b]
  | .build _ ps | .buildSlice _ _ ps => ps.toList.map (·.2)
  | .store _ a v | .binOp _ _ a v _ | .makeSlice _ a v | .indexAddr _ a v | .index _ a v | .lookup _ a v _ | .mapEntry _ a v | .send a v => [a, v]
  | .makeFunc _ first captured => first.toList ++ captured.toList
  | .makeMap _ r => r.toList
  | .slice _ x l h m => [x] ++ l.toList ++ h.toList ++ m.toList
  | .mapUpdate _ m k v | .entryStore _ m k v | .insert _ m k v => [m, k, v]
  | .call c | .go c | .defer c => (match c.callee with | .value f => [f] | .invoke r _ => [r] | .builtin _ => []) ++ c.args.toList
  | .select _ _ => []
def tmpIn (d : Nat) : List Operand → Bool
  | [] => false
  | .tmp t :: l => Nat.beq t d || tmpIn d l
  | _ :: l => tmpIn d l
def looksB (ops : List Oper) (o : Oper) (d : Nat) : Bool :=
  tmpIn d (opsOf o.op) || match o.guard with
    | some (g, _) => match ops[g]? with
      | some x => match x.dst with | some t => Nat.beq t d | none => false
      | none => false
    | none => false
def apartB (ops : List Oper) (x y : Oper) : Bool :=
  (match x.dst with
   | some d => !looksB ops y d && (match y.dst with | some t => !Nat.beq t d | none => true)
   | none => true) &&
  (match y.dst with
   | some d => !looksB ops x d
   | none => true)
/-- May number 'i' be taken first, as far as temporaries go? -/
def freeB (ops : List Oper) (x : Oper) (i L : Nat) : List Oper → List Nat → Nat → Bool
  | y :: l, m :: ms, j => (Nat.beq j i || tst L j || tst m i || apartB ops x y) && freeB ops x i L l ms (j + 1)
  | _, _, _ => true
def pickLoose (P : Program) (ops : List Oper) (ms : List Nat) (L : Nat) : List Nat → Option (Nat × Oper)
  | [] => none
  | i :: l => match ops[i]? with
    | some o => bif loose P o.op && freeB ops o i L ops ms 0 then some (i, o) else pickLoose P ops ms L l
    | none => pickLoose P ops ms L l
/-- Cells that were read ahead of an operation that need not come behind their loads: they hold what they held. -/
def chkW (m : Nat) : List (Nat × Facts) → W → W
  | [], k => k
  | (i, fs) :: l, k => bif tst m i then chkW m l k else chkF fs (chkW m l k)
where chkF : Facts → W → W
  | [], k => k
  | (a, v) :: fs, k => Chk1 a v (chkF fs k)
def allW : List (W) → W
  | [] => fun _ => True
  | [x] => x
  | x :: l => Both x (allW l)
def effL (P : Program) (n : Nat) (ops : List Oper) (ms : List Nat) (H : List (Nat × Facts)) (e : Env) (rec : Nat → Env → W) : List Nat → List W
  | [] => []
  | i :: l => (match ops[i]?, ms[i]? with
    | some o, some m => guardW ops o e (fun e => opW P o e fun e v _ => chkW m H (rec i (put n e o.dst (some v)))) (fun e => rec i (put n e o.dst (some (.val undef))))
    | _, _ => bot) :: effL P n ops ms H e rec l
def noSel : List Oper → Bool
  | [] => true
  | o :: l => (match o.op with | .select _ _ => false | _ => true) && noSel l
/-- A region that draws its order. -/
def drawW (P : Program) (n : Nat) (ops : List Oper) (ms : List Nat) (k : Env → W) : Nat → Nat → List (Nat × Facts) → Env → W
  | 0, L, _, e => match readyL ms 0 L with
    | [] => k e
    | _ => bot
  | f + 1, L, H, e => match readyL ms 0 L with
    | [] => k e
    | rs => match pickLoose P ops ms L rs with
      | some (i, o) => guardW ops o e (fun e => opW P o e fun e v fs => drawW P n ops ms k f (Nat.lor L (bitOf i)) (match fs with | [] => H | fs => (i, fs) :: H) (put n e o.dst (some v)))
          (fun e => drawW P n ops ms k f (Nat.lor L (bitOf i)) H (put n e o.dst (some (.val undef))))
      | none => allW (effL P n ops ms H e (fun i e => drawW P n ops ms k f (Nat.lor L (bitOf i)) H e) rs)

/-! ## Code -/
structure Ks where
  nrm : Env → W
  ret : Env → W
  ext : Nat → Env → W
/-- What a loop carries: by the number of its body's first region. -/
abbrev Ann := List (Nat × List (Tmp × Ty))
def annOf : Ann → Nat → List (Tmp × Ty)
  | [], _ => []
  | p :: l, i => bif Nat.beq p.1 i then p.2 else annOf l i
def tysOf : List (Tmp × Ty) → List Ty
  | [] => [] | p :: l => p.2 :: tysOf l
def bindE : List (Tmp × Ty) → List Value → List (Nat × EV)
  | p :: l, v :: vs => (p.1, mkE p.2 v) :: bindE l vs
  | _, _ => []
def appE {R : Type} : (t : Ty) → t.F R → EV → (R → W) → W
  | .int k, f, .val (.int k' n), g => bif kEq k k' then g (f n) else bot
  | .float k, f, .val (.float k' n), g => bif (decide (k = k')) then g (f n) else bot
  | .bool, f, .val (.bool b), g => g (f b)
  | .str, f, .val (.string s), g => g (f s)
  | .ptr, f, .val (.pointer p), g => g (f p)
  | .slice, f, .val (.slice a n c), g => g (f a n c)
  | .map, f, .val (.map r), g => g (f r)
  | .addr, f, .val (.pointer (some a)), g => g (f a)
  | .any, f, v, g => g (f v.v)
  | _, _, _, _ => bot
def applyE : (l : List (Tmp × Ty)) → Fn W (tysOf l) → Env → W
  | [], f, _ => f
  | (t, ty) :: l, f, e => match e t with
    | some v => appE ty (R := Fn W (tysOf l)) f v fun f' => applyE l f' e
    | none => bot
def fstR : Code → Nat
  | .region id _ _ => id
  | .seq x _ => fstR x
  | .block _ c => fstR c
  | .loop c => fstR c
  | _ => 0
def comp (P : Program) (n : Nat) (A : Ann) : Code → Ks → Env → W
  | .skip, K, e => K.nrm e
  | .region _ ops draw, K, e => bif draw then (bif noSel ops.toList then Drw (drawW P n ops.toList (masks ops.toList) K.nrm ops.toList.length 0 [] e) else bot) else seqW P n ops.toList ops.toList K.nrm e
  | .seq x y, K, e => comp P n A x { K with nrm := fun e => comp P n A y K e } e
  | .cond c x y, K, e => match ev e c with
    | some (.val (.bool b)) => BIf b (comp P n A x K e) (comp P n A y K e)
    | _ => bot
  | .block id c, K, e => comp P n A c { K with ext := fun i e => bif Nat.beq i id then K.nrm e else K.ext i e } e
  | .loop c, K, e =>
    applyE (annOf A (fstR c)) (Loop (tysOf (annOf A (fstR c))) fun again => abs _ fun vs =>
      comp P n A c { K with nrm := fun e => applyE (annOf A (fstR c)) again e } (mkEnv (bindE (annOf A (fstR c)) vs))) e
  | .exit id, K, e => K.ext id e
  | .ret, K, e => K.ret e
  | _, _, _ => bot
/-- What a function's results are. -/
def resW (P : Program) : List ResultVar → Env → (List Value → W) → W
  | [], _, k => k []
  | .tmp t :: l, e, k => match e t with
    | some v => resW P l e fun vs => k (v.v :: vs)
    | none => bot
  | .cell a t :: l, e, k => match e a with
    | some (.val (.pointer (some a))) => loadW P t a fun v _ => resW P l e fun vs => k (v.v :: vs)
    | _ => bot
def one? : List Value → Value
  | [v] => v
  | vs => .tuple vs.toArray
def argsE (P : Program) : Nat → List TypeId → List Value → List (Nat × EV)
  | i, t :: ts, v :: vs => (i, (s1 P t).mkE v) :: argsE P (i + 1) ts vs
  | i, [], v :: vs => (i, .val v) :: argsE P (i + 1) [] vs
  | _, _, [] => []
/-- A function's body, called with these arguments; 'k': what is asked of its result. -/
def compF (P : Program) (fn : Func) (A : Ann) (body : Code) (args : List Value) (k : Value → W) : W :=
  comp P fn.ntmps A body
    { nrm := fun e => resW P fn.results.toList e fun vs => k (one? vs), ret := fun e => resW P fn.results.toList e fun vs => k (one? vs), ext := fun _ _ => bot }
    (mkEnv (argsE P 0 fn.params.toList args))

section
/-- The temporaries hold what is told of them. -/
structure Agr (D : List Deferred) (n : Nat) (e : Env) (a : Act) : Prop where
  defers : a.defers = D
  size : a.tmps.size = n
  holds : ∀ t v, e t = some v → a.tmps.getD t undef = v.v

variable {P : Program} {D : List Deferred} {n : Nat} {e : Env} {a : Act}

theorem upd_some {e : Env} {t : Nat} {v : Option EV} {s : Nat} {x : EV} (h : upd e t v s = some x) : (s = t ∧ v = some x) ∨ (s ≠ t ∧ e s = some x) := by
  unfold upd at h
  cases hb : Nat.beq s t with
  | true => rw [hb] at h; exact .inl ⟨Nat.eq_of_beq_eq_true hb, h⟩
  | false => rw [hb] at h; exact .inr ⟨Nat.ne_of_beq_eq_false hb, h⟩

theorem Agr.upd (h : Agr D n e a) {t : Nat} {v : EV} (hv : a.tmps.getD t undef = v.v) : Agr D n (upd e t (some v)) a :=
  ⟨h.defers, h.size, fun s x hx => by
    rcases upd_some (e := e) (t := t) (v := some v) hx with ⟨h1, h2⟩ | ⟨_, h2⟩
    · cases h2; rw [h1]; exact hv
    · exact h.holds _ _ h2⟩

theorem getD_put (a : Act) (t : Nat) (v : Value) (s : Nat) (hs : s ≠ t) : (a.put (some t) v).tmps.getD s undef = a.tmps.getD s undef := by
  simp [Act.put, Array.getD_eq_getD_getElem?, hs.symm]

theorem getD_put_same (a : Act) (t : Nat) (v : Value) (ht : t < a.tmps.size) : (a.put (some t) v).tmps.getD t undef = v := by
  simp [Act.put, Array.getD_eq_getD_getElem?, ht]

theorem Agr.put (h : Agr D n e a) (d : Option Tmp) (v : Option EV) (u : Value) (hu : ∀ x, v = some x → u = x.v) : Agr D n (put n e d v) (a.put d u) := by
  cases d with
  | none => exact h
  | some t =>
    have hsz : (a.put (some t) u).tmps.size = n := by simp [Act.put, h.size]
    refine ⟨h.defers, hsz, fun s x hx => ?_⟩
    simp only [E.put] at hx
    cases hb : Nat.ble (t + 1) n with
    | true =>
      rw [hb] at hx
      have ht : t < a.tmps.size := by rw [h.size]; exact Nat.le_of_ble_eq_true hb
      rcases upd_some (e := e) (t := t) (v := v) hx with ⟨h1, h2⟩ | ⟨hne, h2⟩
      · rw [h1, getD_put_same a t u ht]; exact hu _ h2
      · rw [getD_put a t u s hne]; exact h.holds _ _ h2
    | false =>
      rw [hb] at hx
      have ht : ¬ t < a.tmps.size := by
        rw [h.size]; intro hlt
        have : Nat.ble (t + 1) n = true := Nat.ble_eq_true_of_le hlt
        rw [this] at hb; cases hb
      have : a.put (some t) u = a := by
        cases a; simp only [Act.put]; congr 1
        exact Array.setIfInBounds_eq_of_size_le (Nat.le_of_not_lt ht)
      rw [this]
      exact h.holds _ _ hx

theorem ev_agr (h : Agr D n e a) {x : Operand} {v : EV} (hx : ev e x = some v) : a.eval x = v.v := by
  cases x <;> simp only [ev] at hx
  · exact h.holds _ _ hx
  all_goals cases hx; rfl

theorem evs_agr (h : Agr D n e a) : ∀ {l : List Operand} {vs : List Value}, evs e l = some vs → l.map a.eval = vs
  | [], vs, hx => by simp only [evs] at hx; cases hx; rfl
  | x :: l, vs, hx => by
    simp only [evs] at hx
    split at hx
    · rename_i v vs' h1 h2
      cases hx
      simp [ev_agr h h1, evs_agr h h2]
    · cases hx

theorem Agr.refine (h : Agr D n e a) {x : Operand} {v : EV} (hv : a.eval x = v.v) : Agr D n (refine' e x v) a := by
  cases x <;> simp only [refine'] <;> first | exact h | skip
  exact h.upd hv

/-- In every world in which these cells hold what they held, the operation yields this value and leaves the world alone. -/
def Yld (P : Program) (o : Oper) (a : Act) (fs : Facts) (v : Value) : Prop :=
  ∀ w, (∀ p ∈ fs, w.cell? p.1 = some p.2) → (execOp a.eval o).run P w = .ok (.value v) w

theorem Yld.none {o : Oper} {v : Value} (h : ∀ w, (execOp a.eval o).run P w = .ok (.value v) w) : Yld P o a [] v := fun w _ => h w

/-- What is to be shown of a loose operation. -/
def Lo (P : Program) (D : List Deferred) (n : Nat) (o : Oper) (a : Act) (K : Kont) (w : World) : Prop :=
  ∃ e' v fs, Yld P o a fs v.v ∧ (∀ p ∈ fs, w.cell? p.1 = some p.2) ∧ Agr D n e' a ∧ K e' v fs w

theorem Lo.mk0 {o : Oper} {K : Kont} {w : World} {e' : Env} (v : EV) (hy : ∀ w, (execOp a.eval o).run P w = .ok (.value v.v) w) (ha : Agr D n e' a) (hk : K e' v [] w) : Lo P D n o a K w :=
  ⟨e', v, [], Yld.none hy, by simp, ha, hk⟩

theorem run_typeInfo {t : TypeId} {i : TypeInfo} (h : P.info? t = some i) (w : World) : (typeInfo t).run P w = .ok i w := by simp [typeInfo, h]
theorem run_sizeOf {t : TypeId} {i : TypeInfo} (h : P.info? t = some i) (w : World) : (sizeOf t).run P w = .ok (P.cellsOf t) w := by
  simp [sizeOf, run_typeInfo h, Program.cellsOf, h]
theorem info_of_cells {t : TypeId} (h : P.cellsOf t ≠ 0) : ∃ i, P.info? t = some i := by
  unfold Program.cellsOf at h
  cases hi : P.info? t with
  | none => simp [hi] at h
  | some i => exact ⟨i, rfl⟩
theorem info_of_underlying {t : TypeId} {d : TypeDesc} (h : P.underlying t = some d) : ∃ i, P.info? t = some i := by
  unfold Program.underlying at h
  cases hi : P.info? t with
  | none => simp [hi] at h
  | some i => exact ⟨i, rfl⟩
theorem run_underlying' {t : TypeId} {d : TypeDesc} (h : P.underlying t = some d) (w : World) : (underlying t).run P w = .ok d w := by simp [underlying, h]
theorem isAggT_iff {t : TypeId} : isAggT P t = true ↔ (∃ fs, P.underlying t = some (.struct fs)) ∨ ∃ m el, P.underlying t = some (.array m el) := by
  unfold isAggT
  split <;> simp_all
theorem run_isAgg {t : TypeId} (hi : (P.underlying t).isSome = true) (w : World) : (isAgg t).run P w = .ok (isAggT P t) w := by
  obtain ⟨d, hd⟩ := Option.isSome_iff_exists.1 hi
  unfold isAgg isAggT
  simp only [Sem.run_bind, run_underlying' hd, Result.andThen_ok, hd]
  cases d <;> simp
theorem add_zero' (a : Addr) : a.add 0 = a := by cases a; simp [Addr.add]
theorem addOff_eq (a : Addr) (o : Nat) : addOff a o = a.add o := by
  unfold addOff
  cases h : Nat.beq o 0 with
  | true => rw [Nat.eq_of_beq_eq_true h, add_zero']; rfl
  | false => rfl
theorem mulSz_eq (j s : Nat) : mulSz j s = j * s := by
  unfold mulSz
  cases h : Nat.beq s 1 with
  | true => rw [Nat.eq_of_beq_eq_true h, Nat.mul_one]; rfl
  | false => rfl
end

section
variable {P : Program} {D : List Deferred} {n : Nat} {e : Env} {a : Act}

theorem equal_eq (t : TypeId) (x y : Value) : Op.equal t x y = Op.equalIn (9999 + 1) t x y := rfl

theorem run_guard_int (op : BinOp) (t : TypeId) (x y : Operand) (j k : IntKind) (p q : Int) (w : World) : (eqGuard op t x y (.int j p) (.int k q)).run P w = .ok () w := by
  unfold eqGuard; cases op <;> simp
theorem run_guard_bool (op : BinOp) (t : TypeId) (x y : Operand) (p q : Bool) (w : World) : (eqGuard op t x y (.bool p) (.bool q)).run P w = .ok () w := by
  unfold eqGuard; cases op <;> simp
theorem run_guard_string (op : BinOp) (t : TypeId) (x y : Operand) (p q : ByteArray) (w : World) : (eqGuard op t x y (.string p) (.string q)).run P w = .ok () w := by
  unfold eqGuard; cases op <;> simp
theorem run_guard_ptr (op : BinOp) (t : TypeId) (x y : Operand) (p q : Option Addr) (w : World) : (eqGuard op t x y (.pointer p) (.pointer q)).run P w = .ok () w := by
  unfold eqGuard; cases op <;> simp
theorem run_guard_slice (op : BinOp) (t : TypeId) (x y : Operand) (p q : Option Addr) (l c l' c' : Nat) (w : World) : (eqGuard op t x y (.slice p l c) (.slice q l' c')).run P w = .ok () w := by
  unfold eqGuard; cases op <;> simp
theorem run_guard_map (op : BinOp) (t : TypeId) (x y : Operand) (p q : Option Nat) (w : World) : (eqGuard op t x y (.map p) (.map q)).run P w = .ok () w := by
  unfold eqGuard; cases op <;> simp

theorem run_arith {op : BinOp} {k : IntKind} {p q : Int} {v : Value} (t : TypeId) (h : arith op k p q = some v) (w : World) : (binOp op t (.int k p) (.int k q)).run P w = .ok v w := by
  cases op <;> simp only [arith, Option.some.injEq, reduceCtorEq] at h <;> subst h <;>
    simp [binOp, Op.intArith, Op.intBits, Op.intCmp, addI, subI, mulI_def, andI, orI, xorI, andNotI]

theorem kEq_true {j k : IntKind} (h : kEq j k = true) : j = k := by simpa [kEq] using h

theorem lo_sh {dst : Option Tmp} {left : Bool} {t ty' ty : TypeId} {x y : Operand} {pos : String} {af : Array Edge} {g : Option (Nat × Bool)} {K : EV → W} {w : World}
    {k k' : IntKind} {p q : Int} (ex : a.eval x = .int k p) (ey : a.eval y = .int k' q) (hy : ev e y = some (.val (.int k' q))) (h : shW k left p q y K w) :
    ∃ z, (∀ w, (execOp a.eval ⟨dst, .binOp (bif left then .shl else .shr) t x y ty', ty, pos, af, g⟩).run P w = .ok (.value z.v) w) ∧ K z w := by
  cases hm : countOf y with
  | some m =>
    simp only [shW, hm] at h
    refine ⟨_, fun w => ?_, h⟩
    have hq : q = (m : Int) := by
      unfold countOf at hm
      split at hm
      · cases hm; simp only [ev, Option.some.injEq, EV.val.injEq, Value.int.injEq] at hy; exact hy.2.symm
      · cases hm
    subst hq
    have hn : ¬ (m : Int) < 0 := by omega
    cases left <;> simp [execOp, ex, ey, run_guard_int, binOp, Op.shift, EV.v, hn, shlI_def, shrI]
  | none =>
    simp only [shW, hm] at h
    refine ⟨_, fun w => ?_, h.2⟩
    have hn : ¬ q < 0 := by have := h.1; omega
    cases left <;> simp [execOp, ex, ey, run_guard_int, binOp, Op.shift, EV.v, hn, shlI_def, shrI]

theorem lo_bin_int {dst : Option Tmp} {op : BinOp} {t ty' ty : TypeId} {x y : Operand} {pos : String} {af : Array Edge} {g : Option (Nat × Bool)} {K : EV → W} {w : World} {r : RTy}
    {u v : EV} {k0 : IntKind} (hu : P.underlying t = some (.int k0)) (hx : ev e x = some u) (hy : ev e y = some v) (ha : Agr D n e a) (h : binW P op t x y u v r K w) :
    ∃ z, (∀ w, (execOp a.eval ⟨dst, .binOp op t x y ty', ty, pos, af, g⟩).run P w = .ok (.value z.v) w) ∧ K z w := by
  have ex := ev_agr ha hx
  have ey := ev_agr ha hy
  unfold binW at h
  simp only [hu] at h
  split at h
  · rename_i k p k' q
    simp only [EV.v] at ex ey
    split at h
    · exact lo_sh (left := true) (dst := dst) (ty' := ty') (ty := ty) (pos := pos) (af := af) (g := g) (t := t) (x := x) (e := e) ex ey hy h
    · exact lo_sh (left := false) (dst := dst) (ty' := ty') (ty := ty) (pos := pos) (af := af) (g := g) (t := t) (x := x) (e := e) ex ey hy h
    · cases hk : kEq k k' with
      | false => rw [hk] at h; exact False.elim h
      | true =>
        rw [hk] at h
        have := kEq_true hk; subst this
        refine ⟨_, fun w => ?_, h.2⟩
        have hn : q ≠ 0 := h.1
        simp [execOp, ex, ey, run_guard_int, binOp, Op.intDiv, EV.v, hn, quoI]
    · cases hk : kEq k k' with
      | false => rw [hk] at h; exact False.elim h
      | true =>
        rw [hk] at h
        have := kEq_true hk; subst this
        refine ⟨_, fun w => ?_, h.2⟩
        have hn : q ≠ 0 := h.1
        simp [execOp, ex, ey, run_guard_int, binOp, Op.intDiv, EV.v, hn, remI]
    · cases hk : kEq k k' with
      | false => rw [hk] at h; exact False.elim h
      | true =>
        rw [hk] at h
        have := kEq_true hk; subst this
        dsimp only [cond_true] at h
        cases hz : arith op k p q with
        | none => simp only [hz] at h; exact False.elim h
        | some z =>
          simp only [hz] at h
          refine ⟨.val z, fun w => ?_, h⟩
          simp [execOp, ex, ey, run_guard_int, run_arith t hz, EV.v]
  · exact False.elim h

theorem eqW_some {op : BinOp} {b : Bool} {K : EV → W} {w : World} (h : eqW op b K w) : (op = .eql ∧ K (.val (.bool b)) w) ∨ (op = .neq ∧ K (.val (.bool !b)) w) := by
  cases op <;> first | exact .inl ⟨rfl, h⟩ | exact .inr ⟨rfl, h⟩ | exact False.elim h

/-- '==' and '!=' where the model's own '==' answers this. -/
theorem run_eqs {op : BinOp} {t : TypeId} {x y : Operand} {u v : Value} {b : Bool} (w : World) (hg : (eqGuard op t x y u v).run P w = .ok () w) (hq : (Op.equal t u v).run P w = .ok b w)
    (hb : op = .eql → binOp op t u v = (do pure (.bool (← Op.equal t u v)))) (hb' : op = .neq → binOp op t u v = (do pure (.bool (!(← Op.equal t u v))))) :
    (op = .eql → (do eqGuard op t x y u v; binOp op t u v : Sem Value).run P w = .ok (.bool b) w) ∧ (op = .neq → (do eqGuard op t x y u v; binOp op t u v : Sem Value).run P w = .ok (.bool !b) w) :=
  ⟨fun h => by rw [hb h]; simp [hg, hq], fun h => by rw [hb' h]; simp [hg, hq]⟩

theorem run_equal_ptr_nilD {t el : TypeId} (hu : P.underlying t = some (.pointer el)) (p : Option Addr) (w : World) (d : Nat) : (Op.equalIn (d + 1) t (.pointer p) (.pointer none)).run P w = .ok p.isNone w := by
  cases p <;> simp [Op.equalIn, run_underlying' hu]
theorem run_equal_ptr_nil {t el : TypeId} (hu : P.underlying t = some (.pointer el)) (p : Option Addr) (w : World) : (Op.equal t (.pointer p) (.pointer none)).run P w = .ok p.isNone w := by
  rw [equal_eq]; exact run_equal_ptr_nilD hu p w 9999
theorem run_equal_nil_ptrD {t el : TypeId} (hu : P.underlying t = some (.pointer el)) (p : Option Addr) (w : World) (d : Nat) : (Op.equalIn (d + 1) t (.pointer none) (.pointer p)).run P w = .ok p.isNone w := by
  cases p <;> simp [Op.equalIn, run_underlying' hu]
theorem run_equal_nil_ptr {t el : TypeId} (hu : P.underlying t = some (.pointer el)) (p : Option Addr) (w : World) : (Op.equal t (.pointer none) (.pointer p)).run P w = .ok p.isNone w := by
  rw [equal_eq]; exact run_equal_nil_ptrD hu p w 9999
theorem run_equal_slice_nil'D {t el : TypeId} (hu : P.underlying t = some (.slice el)) (p : Option Addr) (l c l' c' : Nat) (w : World) (d : Nat) : (Op.equalIn (d + 1) t (.slice p l c) (.slice none l' c')).run P w = .ok p.isNone w := by
  cases p <;> simp [Op.equalIn, run_underlying' hu]
theorem run_equal_slice_nil' {t el : TypeId} (hu : P.underlying t = some (.slice el)) (p : Option Addr) (l c l' c' : Nat) (w : World) : (Op.equal t (.slice p l c) (.slice none l' c')).run P w = .ok p.isNone w := by
  rw [equal_eq]; exact run_equal_slice_nil'D hu p l c l' c' w 9999
theorem run_equal_nil_slice'D {t el : TypeId} (hu : P.underlying t = some (.slice el)) (p : Option Addr) (l c l' c' : Nat) (w : World) (d : Nat) : (Op.equalIn (d + 1) t (.slice none l c) (.slice p l' c')).run P w = .ok p.isNone w := by
  cases p <;> simp [Op.equalIn, run_underlying' hu]
theorem run_equal_nil_slice' {t el : TypeId} (hu : P.underlying t = some (.slice el)) (p : Option Addr) (l c l' c' : Nat) (w : World) : (Op.equal t (.slice none l c) (.slice p l' c')).run P w = .ok p.isNone w := by
  rw [equal_eq]; exact run_equal_nil_slice'D hu p l c l' c' w 9999
theorem run_equal_map_nil'D {t kt el : TypeId} (hu : P.underlying t = some (.map kt el)) (p : Option Nat) (w : World) (d : Nat) : (Op.equalIn (d + 1) t (.map p) (.map none)).run P w = .ok p.isNone w := by
  cases p <;> simp [Op.equalIn, run_underlying' hu]
theorem run_equal_map_nil' {t kt el : TypeId} (hu : P.underlying t = some (.map kt el)) (p : Option Nat) (w : World) : (Op.equal t (.map p) (.map none)).run P w = .ok p.isNone w := by
  rw [equal_eq]; exact run_equal_map_nil'D hu p w 9999
theorem run_equal_nil_map'D {t kt el : TypeId} (hu : P.underlying t = some (.map kt el)) (p : Option Nat) (w : World) (d : Nat) : (Op.equalIn (d + 1) t (.map none) (.map p)).run P w = .ok p.isNone w := by
  cases p <;> simp [Op.equalIn, run_underlying' hu]
theorem run_equal_nil_map' {t kt el : TypeId} (hu : P.underlying t = some (.map kt el)) (p : Option Nat) (w : World) : (Op.equal t (.map none) (.map p)).run P w = .ok p.isNone w := by
  rw [equal_eq]; exact run_equal_nil_map'D hu p w 9999
end

section
variable {P : Program} {D : List Deferred} {n : Nat} {e : Env} {a : Act}

theorem lo_eqs {dst : Option Tmp} {op : BinOp} {t ty' ty : TypeId} {x y : Operand} {pos : String} {af : Array Edge} {g : Option (Nat × Bool)} {K : EV → W} {w : World} {u v : Value} {b : Bool}
    (ex : a.eval x = u) (ey : a.eval y = v)
    (hr : ∀ w, (op = .eql → (do eqGuard op t x y u v; binOp op t u v : Sem Value).run P w = .ok (.bool b) w) ∧ (op = .neq → (do eqGuard op t x y u v; binOp op t u v : Sem Value).run P w = .ok (.bool !b) w))
    (h : eqW op b K w) : ∃ z, (∀ w, (execOp a.eval ⟨dst, .binOp op t x y ty', ty, pos, af, g⟩).run P w = .ok (.value z.v) w) ∧ K z w := by
  rcases eqW_some h with ⟨rfl, h⟩ | ⟨rfl, h⟩
  · refine ⟨_, fun w => ?_, h⟩
    have := (hr w).1 rfl
    subst ex; subst ey
    simp only [execOp]
    rw [Sem.run_bind, this]; rfl
  · refine ⟨_, fun w => ?_, h⟩
    have := (hr w).2 rfl
    subst ex; subst ey
    simp only [execOp]
    rw [Sem.run_bind, this]; rfl

theorem run_equal_boolD {t : TypeId} (hu : P.underlying t = some .bool) (p q : Bool) (w : World) (d : Nat) : (Op.equalIn (d + 1) t (.bool p) (.bool q)).run P w = .ok (p == q) w := by
  simp [Op.equalIn, run_underlying' hu]

theorem lo_bin_bool {dst : Option Tmp} {op : BinOp} {t ty' ty : TypeId} {x y : Operand} {pos : String} {af : Array Edge} {g : Option (Nat × Bool)} {K : EV → W} {w : World} {r : RTy}
    {u v : EV} (hu : P.underlying t = some .bool) (hx : ev e x = some u) (hy : ev e y = some v) (ha : Agr D n e a) (h : binW P op t x y u v r K w) :
    ∃ z, (∀ w, (execOp a.eval ⟨dst, .binOp op t x y ty', ty, pos, af, g⟩).run P w = .ok (.value z.v) w) ∧ K z w := by
  have ex := ev_agr ha hx
  have ey := ev_agr ha hy
  unfold binW at h
  simp only [hu] at h
  split at h
  · exact lo_eqs ex ey (fun w => run_eqs w (run_guard_bool ..) (by rw [equal_eq]; exact run_equal_boolD hu _ _ w 9999) (fun h => by subst h; rfl) (fun h => by subst h; rfl)) h
  · exact False.elim h

theorem lo_bin_string {dst : Option Tmp} {op : BinOp} {t ty' ty : TypeId} {x y : Operand} {pos : String} {af : Array Edge} {g : Option (Nat × Bool)} {K : EV → W} {w : World} {r : RTy}
    {u v : EV} (hu : P.underlying t = some .string) (hx : ev e x = some u) (hy : ev e y = some v) (ha : Agr D n e a) (h : binW P op t x y u v r K w) :
    ∃ z, (∀ w, (execOp a.eval ⟨dst, .binOp op t x y ty', ty, pos, af, g⟩).run P w = .ok (.value z.v) w) ∧ K z w := by
  have ex := ev_agr ha hx
  have ey := ev_agr ha hy
  unfold binW at h
  simp only [hu] at h
  split at h
  · rename_i p q
    refine lo_eqs ex ey (fun w => ⟨fun ho => ?_, fun ho => ?_⟩) h
    · subst ho; simp [EV.v, run_guard_string, binOp, Op.stringOp]
    · subst ho; simp [EV.v, run_guard_string, binOp, Op.stringOp]
  · exact False.elim h

theorem ev_nilPtr {x : Operand} {v : EV} (h : nilPtr x = true) (hx : ev e x = some v) : v = .val (.pointer none) := by
  unfold nilPtr at h
  split at h
  · simpa [ev] using hx.symm
  · cases h
theorem ev_nilSl {x : Operand} {v : EV} (h : nilSl x = true) (hx : ev e x = some v) : ∃ l c, v = .val (.slice none l c) := by
  unfold nilSl at h
  split at h
  · exact ⟨_, _, by simpa [ev] using hx.symm⟩
  · cases h
theorem ev_nilMp {x : Operand} {v : EV} (h : nilMp x = true) (hx : ev e x = some v) : v = .val (.map none) := by
  unfold nilMp at h
  split at h
  · simpa [ev] using hx.symm
  · cases h
theorem ev_nilIf {x : Operand} {v : EV} (h : nilIf x = true) (hx : ev e x = some v) : v = .val .nilIface := by
  unfold nilIf at h
  split at h
  · simpa [ev] using hx.symm
  · cases h

section
variable {dst : Option Tmp} {op : BinOp} {t ty' ty : TypeId} {x y : Operand} {pos : String} {af : Array Edge} {g : Option (Nat × Bool)} {K : EV → W} {w : World} {r : RTy} {u v : EV}

theorem lo_bin_ptr {el : TypeId} (hu : P.underlying t = some (.pointer el)) (hl : (nilPtr x || nilPtr y) = true) (hx : ev e x = some u) (hy : ev e y = some v) (ha : Agr D n e a) (h : binW P op t x y u v r K w) :
    ∃ z, (∀ w, (execOp a.eval ⟨dst, .binOp op t x y ty', ty, pos, af, g⟩).run P w = .ok (.value z.v) w) ∧ K z w := by
  have ex := ev_agr ha hx
  have ey := ev_agr ha hy
  unfold binW at h
  simp only [hu] at h
  cases hn : nilPtr y with
  | true =>
    simp only [hn, cond_true] at h
    have := ev_nilPtr hn hy; subst this
    unfold ptrW at h
    split at h
    · exact lo_eqs ex ey (fun w => run_eqs w (run_guard_ptr ..) (run_equal_ptr_nil hu _ w) (fun h => by subst h; rfl) (fun h => by subst h; rfl)) h
    · exact False.elim h
  | false =>
    have hn' : nilPtr x = true := by simpa [hn] using hl
    simp only [hn, hn', cond_true, cond_false] at h
    have := ev_nilPtr hn' hx; subst this
    unfold ptrW at h
    split at h
    · exact lo_eqs ex ey (fun w => run_eqs w (run_guard_ptr ..) (run_equal_nil_ptr hu _ w) (fun h => by subst h; rfl) (fun h => by subst h; rfl)) h
    · exact False.elim h

theorem lo_bin_slice {el : TypeId} (hu : P.underlying t = some (.slice el)) (hx : ev e x = some u) (hy : ev e y = some v) (ha : Agr D n e a) (h : binW P op t x y u v r K w) :
    ∃ z, (∀ w, (execOp a.eval ⟨dst, .binOp op t x y ty', ty, pos, af, g⟩).run P w = .ok (.value z.v) w) ∧ K z w := by
  have ex := ev_agr ha hx
  have ey := ev_agr ha hy
  unfold binW at h
  simp only [hu] at h
  cases hn : nilSl y with
  | true =>
    simp only [hn, cond_true] at h
    obtain ⟨l, c, rfl⟩ := ev_nilSl hn hy
    unfold slW at h
    split at h
    · exact lo_eqs ex ey (fun w => run_eqs w (run_guard_slice ..) (run_equal_slice_nil' hu _ _ _ _ _ w) (fun h => by subst h; rfl) (fun h => by subst h; rfl)) h
    · exact False.elim h
  | false =>
    cases hn' : nilSl x with
    | false => simp only [hn, hn', cond_false] at h; exact False.elim h
    | true =>
      simp only [hn, hn', cond_true, cond_false] at h
      obtain ⟨l, c, rfl⟩ := ev_nilSl hn' hx
      unfold slW at h
      split at h
      · exact lo_eqs ex ey (fun w => run_eqs w (run_guard_slice ..) (run_equal_nil_slice' hu _ _ _ _ _ w) (fun h => by subst h; rfl) (fun h => by subst h; rfl)) h
      · exact False.elim h

theorem lo_bin_map {kt el : TypeId} (hu : P.underlying t = some (.map kt el)) (hx : ev e x = some u) (hy : ev e y = some v) (ha : Agr D n e a) (h : binW P op t x y u v r K w) :
    ∃ z, (∀ w, (execOp a.eval ⟨dst, .binOp op t x y ty', ty, pos, af, g⟩).run P w = .ok (.value z.v) w) ∧ K z w := by
  have ex := ev_agr ha hx
  have ey := ev_agr ha hy
  unfold binW at h
  simp only [hu] at h
  cases hn : nilMp y with
  | true =>
    simp only [hn, cond_true] at h
    have := ev_nilMp hn hy; subst this
    unfold mpW at h
    split at h
    · exact lo_eqs ex ey (fun w => run_eqs w (run_guard_map ..) (run_equal_map_nil' hu _ w) (fun h => by subst h; rfl) (fun h => by subst h; rfl)) h
    · exact False.elim h
  | false =>
    cases hn' : nilMp x with
    | false => simp only [hn, hn', cond_false] at h; exact False.elim h
    | true =>
      simp only [hn, hn', cond_true, cond_false] at h
      have := ev_nilMp hn' hx; subst this
      unfold mpW at h
      split at h
      · exact lo_eqs ex ey (fun w => run_eqs w (run_guard_map ..) (run_equal_nil_map' hu _ w) (fun h => by subst h; rfl) (fun h => by subst h; rfl)) h
      · exact False.elim h

theorem run_equal_nilIfD {ms : Array (String × TypeId)} (hu : P.underlying t = some (.interface ms)) (w : World) (d : Nat) : (Op.equalIn (d + 1) t .nilIface .nilIface).run P w = .ok true w := by
  simp [Op.equalIn, run_underlying' hu]
theorem run_equal_ifNilD {ms : Array (String × TypeId)} (hu : P.underlying t = some (.interface ms)) (s : TypeId) (z : Value) (w : World) (d : Nat) : (Op.equalIn (d + 1) t (.iface s z) .nilIface).run P w = .ok false w := by
  simp [Op.equalIn, run_underlying' hu]
theorem run_guard_nilIf (hn : nilIf y = true) (w : World) : (eqGuard op t x y .nilIface .nilIface).run P w = .ok () w := by
  have : y = .const .nilIface := by
    cases y with
    | const v => cases v <;> first | rfl | (simp [nilIf] at hn)
    | _ => simp [nilIf] at hn
  subst this
  unfold eqGuard; cases op <;> simp
theorem run_guard_ifNil (s : TypeId) (z : Value) (w : World) : (eqGuard op t x y (.iface s z) .nilIface).run P w = .ok () w := by
  unfold eqGuard; cases op <;> simp

theorem lo_bin_iface {ms : Array (String × TypeId)} (hu : P.underlying t = some (.interface ms)) (hl : nilIf y = true) (hx : ev e x = some u) (hy : ev e y = some v) (ha : Agr D n e a) (h : binW P op t x y u v r K w) :
    ∃ z, (∀ w, (execOp a.eval ⟨dst, .binOp op t x y ty', ty, pos, af, g⟩).run P w = .ok (.value z.v) w) ∧ K z w := by
  have ex := ev_agr ha hx
  have ey := ev_agr ha hy
  unfold binW at h
  simp only [hu, hl, cond_true] at h
  have := ev_nilIf hl hy; subst this
  unfold IfaceNil at h
  generalize u.v = z at h ex
  cases z with
  | nilIface => exact lo_eqs ex ey (fun w => run_eqs w (run_guard_nilIf hl w) (by rw [equal_eq]; exact run_equal_nilIfD hu w 9999) (fun h => by subst h; rfl) (fun h => by subst h; rfl)) h
  | iface s z => exact lo_eqs ex ey (fun w => run_eqs w (run_guard_ifNil s z w) (by rw [equal_eq]; exact run_equal_ifNilD hu s z w 9999) (fun h => by subst h; rfl) (fun h => by subst h; rfl)) h
  | _ => exact False.elim h

theorem lo_bin (hl : loose P (.binOp op t x y ty') = true) (hx : ev e x = some u) (hy : ev e y = some v) (ha : Agr D n e a) (h : binW P op t x y u v r K w) :
    ∃ z, (∀ w, (execOp a.eval ⟨dst, .binOp op t x y ty', ty, pos, af, g⟩).run P w = .ok (.value z.v) w) ∧ K z w := by
  unfold loose at hl
  dsimp only at hl
  split at hl
  · exact lo_bin_int ‹_› hx hy ha h
  · exact lo_bin_bool ‹_› hx hy ha h
  · exact lo_bin_string ‹_› hx hy ha h
  · exact lo_bin_slice ‹_› hx hy ha h
  · exact lo_bin_map ‹_› hx hy ha h
  · exact lo_bin_ptr ‹_› hl hx hy ha h
  · exact lo_bin_iface ‹_› hl hx hy ha h
  · cases hl

end
end

section
variable {P : Program} {D : List Deferred} {n : Nat} {e : Env} {a : Act}

theorem mkE_v (t : Ty) (v : Value) : (mkE t v).v = v := by cases t <;> rfl
theorem S1.mkE_v (s : S1) (v : Value) : (s.mkE v).v = v := by
  cases s with
  | one t => exact E.mkE_v t v
  | agg ts => rfl
theorem RTy.mkE_v (r : RTy) (v : Value) : (r.mkE v).v = v := by
  cases r with
  | s a => exact S1.mkE_v a v
  | tup l => rfl

theorem loadL_sound : ∀ (ts : List Ty) (p : Addr) (i : Nat) (k : List Value → Facts → W) (w : World), loadL ts p i k w →
    ∃ vs fs, vs.length = ts.length ∧ k vs fs w ∧ (∀ f ∈ fs, w.cell? f.1 = some f.2) ∧
      ∀ w' : World, (∀ f ∈ fs, w'.cell? f.1 = some f.2) → ∀ j v, vs[j]? = some v → w'.cell? (p.add (i + j)) = some v
  | [], p, i, k, w, h => ⟨[], [], rfl, h, by simp, by simp⟩
  | t :: ts, p, i, k, w, h => by
    simp only [loadL, LoadT] at h
    obtain ⟨d, hc, h⟩ := h
    rw [Ty.unc_cur] at h
    obtain ⟨vs, fs, hl, hk, hf, hw⟩ := loadL_sound ts p (i + 1) _ w h
    refine ⟨_, _, by simp [hl], hk, ?_, ?_⟩
    · intro f hm
      rcases List.mem_cons.1 hm with rfl | hm
      · exact hc
      · exact hf f hm
    · intro w' hw' j v hj
      cases j with
      | zero =>
        simp only [List.getElem?_cons_zero, Option.some.injEq] at hj
        subst hj
        exact hw' _ (List.mem_cons_self ..)
      | succ j =>
        have := hw w' (fun f hm => hw' f (List.mem_cons_of_mem _ hm)) j v (by simpa using hj)
        rwa [show i + 1 + j = i + (j + 1) by omega] at this

theorem loadW_sound {t : TypeId} {p : Addr} {K : EV → Facts → W} {w : World} (h : loadW P t p K w) :
    ∃ v fs, (∀ w', (∀ f ∈ fs, w'.cell? f.1 = some f.2) → (loadVar t p).run P w' = .ok v.v w') ∧ (∀ f ∈ fs, w.cell? f.1 = some f.2) ∧ K v fs w := by
  unfold loadW at h
  cases hu : (P.underlying t).isSome with
  | false => simp only [hu, cond_false] at h; exact False.elim h
  | true =>
    simp only [hu, cond_true] at h
    obtain ⟨d, hd⟩ := Option.isSome_iff_exists.1 hu
    obtain ⟨i, hi⟩ := info_of_underlying hd
    cases hg : isAggT P t with
    | true =>
      simp only [hg, cond_true] at h
      cases hb : Nat.beq (lvs P 30 t).length (P.cellsOf t) with
      | false => simp only [hb, cond_false] at h; exact False.elim h
      | true =>
        simp only [hb, cond_true] at h
        have hb' := Nat.eq_of_beq_eq_true hb
        obtain ⟨vs, fs, hl, hk, hf, hw⟩ := loadL_sound _ _ _ _ _ h
        refine ⟨_, fs, fun w' hw' => ?_, hf, hk⟩
        have hlc : (loadCells p (P.cellsOf t)).run P w' = .ok vs.toArray w' := by
          rw [← hb', ← hl]
          exact run_loadCells_list w' p vs (fun j v hj => by simpa using hw w' hw' j v hj)
        simp [loadVar, run_isAgg hu, hg, run_sizeOf hi, hlc, EV.v]
    | false =>
      simp only [hg, cond_false, LoadT] at h
      obtain ⟨x, hc, h⟩ := h
      rw [Ty.unc_cur] at h
      refine ⟨_, _, fun w' hw' => ?_, ?_, h⟩
      · have := hw' _ (List.mem_singleton.2 rfl)
        simp only at this
        simp [loadVar, run_isAgg hu, hg, this, mkE_v]
      · intro f hm
        rw [List.mem_singleton] at hm
        subst hm; exact hc

theorem evP_agr (h : Agr D n e a) : ∀ {l : List (Nat × Operand)} {vs : List (Nat × EV)}, evP e l = some vs → l.map (fun p => (p.1, a.eval p.2)) = unE vs
  | [], vs, hx => by simp only [evP] at hx; cases hx; rfl
  | (i, x) :: l, vs, hx => by
    simp only [evP] at hx
    split at hx
    · rename_i v vs' h1 h2
      cases hx
      simp [unE, ev_agr h h1, evP_agr h h2]
    · cases hx

theorem setL_array (vs : List Value) : ∀ (cs : List Value) (off j0 : Nat),
    ((vs.zipIdx j0).foldl (fun (cs : Array Value) (x : Value × Nat) => cs.setIfInBounds (off + x.2) x.1) cs.toArray) = (setL cs (off + j0) vs).toArray := by
  induction vs with
  | nil => intro cs off j0; rfl
  | cons v vs ih =>
    intro cs off j0
    simp only [List.zipIdx_cons, List.foldl_cons, setL, List.setIfInBounds_toArray]
    rw [ih]; rfl

theorem length_setL (vs : List Value) : ∀ (cs : List Value) (off : Nat), (setL cs off vs).length = cs.length := by
  induction vs with
  | nil => intro cs off; rfl
  | cons v vs ih => intro cs off; simp [setL, ih]

theorem oneC_cells {v : Value} (h : oneC v = true) : v.cells = #[v] := by cases v <;> first | rfl | cases h

theorem fillW_sound (pl : Nat → Option (Nat × Nat)) {w : World} {K : List Value → W} : ∀ (parts : List (Nat × EV)) (cs : List Value), fillW pl cs parts K w →
    ∃ cs', K cs' w ∧ Instr.fill pl cs.toArray (unE parts) = some cs'.toArray
  | [], cs, h => ⟨cs, h, rfl⟩
  | (i, v) :: r, cs, h => by
    unfold fillW at h
    cases hp : pl i with
    | none => simp only [hp] at h; exact False.elim h
    | some q =>
      obtain ⟨off, sz⟩ := q
      simp only [hp] at h
      cases v with
      | val v =>
        dsimp only at h
        cases hb : (Nat.beq v.cells.toList.length sz && Nat.ble (off + v.cells.toList.length) cs.length) with
        | false => simp only [hb, cond_false] at h; exact False.elim h
        | true =>
          simp only [hb, cond_true] at h
          obtain ⟨h1, h2⟩ := Bool.and_eq_true_iff.1 hb
          have h1' := Nat.eq_of_beq_eq_true h1
          have h2' := Nat.le_of_ble_eq_true h2
          obtain ⟨cs', hk, hf⟩ := fillW_sound pl r _ h
          refine ⟨cs', hk, ?_⟩
          have hs : v.cells.size = v.cells.toList.length := by simp
          simp only [unE, EV.v, Instr.fill, hp]
          rw [if_neg (by simp only [hs, List.size_toArray]; simp; exact ⟨h1', by simpa using h2'⟩)]
          have e1 : Array.foldl (fun (cs : Array Value) (x : Value × Nat) => cs.setIfInBounds (off + x.2) x.1) cs.toArray v.cells.zipIdx = (setL cs off v.cells.toList).toArray := by
            rw [← Array.foldl_toList, Array.toList_zipIdx]
            exact setL_array v.cells.toList cs off 0
          exact (congrArg (fun z => Instr.fill pl z (unE r)) e1).trans hf
      | any v =>
        dsimp only at h
        cases hb : (Nat.beq 1 sz && Nat.ble (off + 1) cs.length) with
        | false => simp only [hb, cond_false] at h; exact False.elim h
        | true =>
          simp only [hb, cond_true] at h
          obtain ⟨hone, h⟩ := h
          obtain ⟨h1, h2⟩ := Bool.and_eq_true_iff.1 hb
          have h1' := Nat.eq_of_beq_eq_true h1
          have h2' := Nat.le_of_ble_eq_true h2
          obtain ⟨cs', hk, hf⟩ := fillW_sound pl r _ h
          refine ⟨cs', hk, ?_⟩
          simp only [unE, EV.v, Instr.fill, hp, oneC_cells hone]
          rw [if_neg (by simp; exact ⟨h1', h2'⟩)]
          have e1 : Array.foldl (fun (cs : Array Value) (x : Value × Nat) => cs.setIfInBounds (off + x.2) x.1) cs.toArray (#[v] : Array Value).zipIdx = (setL cs off [v]).toArray := by
            rw [← Array.foldl_toList, Array.toList_zipIdx]
            exact setL_array [v] cs off 0
          exact (congrArg (fun z => Instr.fill pl z (unE r)) e1).trans hf

theorem run_places : ∀ (fs : List Field) (pl : List (Nat × Nat)) (w : World), places P fs = some pl → (fs.mapM fun f => do pure (f.offset, ← sizeOf f.type) : Sem (List (Nat × Nat))).run P w = .ok pl w
  | [], pl, w, h => by simp only [places] at h; cases h; simp
  | f :: l, pl, w, h => by
    simp only [places] at h
    split at h
    · rename_i i r h1 h2
      cases h
      have ih := run_places l r w h2
      simp only [List.mapM_cons, Sem.run_bind, run_sizeOf h1, Result.andThen_ok, Sem.run_pure, ih, Program.cellsOf, h1, Option.map_some, Option.getD_some]
    · cases h

theorem buildW_sound {t : TypeId} {parts : List (Nat × EV)} {K : EV → W} {w : World} (h : buildW P t parts K w) :
    ∃ v, (∀ w', (Instr.build t (unE parts).toArray).run P w' = .ok v.v w') ∧ K v w := by
  unfold buildW at h
  cases hi : P.info? t with
  | none => simp only [hi] at h; exact False.elim h
  | some i =>
    cases hu : P.underlying t with
    | none => simp only [hi, hu] at h; exact False.elim h
    | some d =>
      cases hz : i.zero with
      | none => cases d <;> simp only [hi, hu, hz] at h <;> exact False.elim h
      | some z =>
        cases d <;> simp only [hi, hu, hz] at h <;> try exact False.elim h
        case struct fs =>
          cases hp : places P fs.toList with
          | none => simp only [hp] at h; exact False.elim h
          | some pl =>
            simp only [hp] at h
            obtain ⟨cs', hk, hf⟩ := fillW_sound _ parts _ h
            refine ⟨_, fun w' => ?_, hk⟩
            have hm : (fs.mapM fun f => do pure (f.offset, ← sizeOf f.type) : Sem (Array (Nat × Nat))).run P w' = .ok pl.toArray w' := by
              rw [Array.mapM_eq_mapM_toList]
              simp only [Sem.run_map, run_places fs.toList pl w' hp, Result.andThen_ok]
            have hf' : Instr.fill (fun x => pl.toArray[x]?) z.cells (unE parts) = some cs'.toArray := by simpa using hf
            simp only [Instr.build, zeroValue, Sem.run_bind, run_typeInfo hi, Result.andThen_ok, hz, Sem.run_pure, run_underlying' hu]
            rw [hm]
            simp only [Result.andThen_ok]
            rw [hf']
            rfl
        case array n el =>
          cases he : P.info? el with
          | none => simp only [he] at h; exact False.elim h
          | some ie =>
            simp only [he] at h
            obtain ⟨cs', hk, hf⟩ := fillW_sound _ parts _ h
            refine ⟨_, fun w' => ?_, hk⟩
            have hf' : Instr.fill (fun i => some (i * ie.size, ie.size)) z.cells (unE parts) = some cs'.toArray := by simpa using hf
            simp only [Instr.build, zeroValue, Sem.run_bind, run_typeInfo hi, Result.andThen_ok, hz, Sem.run_pure, run_underlying' hu, run_sizeOf he, Program.cellsOf, he, Option.map_some, Option.getD_some]
            rw [hf']
            rfl
end

section
variable {P : Program} {D : List Deferred} {n : Nat} {e : Env} {a : Act}

theorem not_some_iface {t : TypeId} {K : W} {w : World} (h : (match P.underlying t with | some (.interface _) => bot | none => bot | _ => K) w) : (∃ d, P.underlying t = some d ∧ (∀ ms, d ≠ .interface ms)) ∧ K w := by
  cases hu : P.underlying t with
  | none => simp only [hu] at h; exact False.elim h
  | some d =>
    cases d <;> simp only [hu] at h <;> first | exact False.elim h | exact ⟨⟨_, rfl, by simp⟩, h⟩

theorem upW_sound {len cap : Nat} {hi mx : Option Int} {K : Nat → Nat → W} {w : World} (h : upW len cap hi mx K w) :
    ∃ hh m, K hh m w ∧ ((mx = none ∧ m = cap ∧ ((hi = none ∧ hh = len) ∨ ∃ i, hi = some i ∧ 0 ≤ i ∧ i ≤ (cap : Int) ∧ hh = i.toNat)) ∨
      ∃ j i, mx = some j ∧ hi = some i ∧ 0 ≤ j ∧ j ≤ (cap : Int) ∧ m = j.toNat ∧ 0 ≤ i ∧ i ≤ ((j.toNat : Nat) : Int) ∧ hh = i.toNat) := by
  unfold upW at h
  cases mx with
  | none =>
    cases hi with
    | none => exact ⟨_, _, h, .inl ⟨rfl, rfl, .inl ⟨rfl, rfl⟩⟩⟩
    | some i => exact ⟨_, _, h.2, .inl ⟨rfl, rfl, .inr ⟨i, rfl, h.1.1, h.1.2, rfl⟩⟩⟩
  | some j =>
    cases hi with
    | none => exact False.elim h
    | some i => exact ⟨_, _, h.2.2, .inr ⟨j, i, rfl, rfl, h.1.1, h.1.2, rfl, h.2.1.1, h.2.1.2, rfl⟩⟩

theorem loW_sound {lo : Option Int} {hh : Nat} {K : Nat → W} {w : World} (h : loW lo hh K w) :
    ∃ l, K l w ∧ ((lo = none ∧ l = 0) ∨ ∃ i, lo = some i ∧ 0 ≤ i ∧ i ≤ (hh : Int) ∧ l = i.toNat) := by
  unfold loW at h
  cases lo with
  | none => exact ⟨_, h, .inl ⟨rfl, rfl⟩⟩
  | some i => exact ⟨_, h.2, .inr ⟨i, rfl, h.1.1, h.1.2, rfl⟩⟩

theorem optI_agr (h : Agr D n e a) {x : Option Operand} {r : Option Int} (hx : optI e x = some r) : (x = none ∧ r = none) ∨ ∃ y k i, x = some y ∧ r = some i ∧ a.eval y = .int k i := by
  cases x with
  | none => simp only [optI, Option.some.injEq] at hx; exact .inl ⟨rfl, hx.symm⟩
  | some y =>
    simp only [optI] at hx
    split at hx
    · rename_i k i hy
      exact .inr ⟨y, k, i, rfl, by simpa using hx.symm, by rw [ev_agr h hy]; rfl⟩
    · cases hx

theorem run_sliceBound' (k : IntKind) (i : Int) (y : Nat) (c : BoundsCode) (h0 : 0 ≤ i) (h1 : i ≤ y) (w : World) : (Instr.sliceBound (.int k i) y c).run P w = .ok i.toNat w := by
  simp [Instr.sliceBound, asIntOf, h0, h1]

/-- A slice's three bounds. -/
theorem run_bounds {isSlice : Bool} {len cap : Nat} {lo hi mx : Option Operand} {rlo rhi rmx : Option Int} {hh m l : Nat} (ha : Agr D n e a)
    (h1 : optI e lo = some rlo) (h2 : optI e hi = some rhi) (h3 : optI e mx = some rmx)
    (hu : (rmx = none ∧ m = cap ∧ ((rhi = none ∧ hh = len) ∨ ∃ i, rhi = some i ∧ 0 ≤ i ∧ i ≤ (cap : Int) ∧ hh = i.toNat)) ∨
      ∃ j i, rmx = some j ∧ rhi = some i ∧ 0 ≤ j ∧ j ≤ (cap : Int) ∧ m = j.toNat ∧ 0 ≤ i ∧ i ≤ ((j.toNat : Nat) : Int) ∧ hh = i.toNat)
    (hl : (rlo = none ∧ l = 0) ∨ ∃ i, rlo = some i ∧ 0 ≤ i ∧ i ≤ (hh : Int) ∧ l = i.toNat) (w : World) :
    (Instr.sliceBounds isSlice len cap (lo.map a.eval) (hi.map a.eval) (mx.map a.eval)).run P w = .ok (l, hh, m) w := by
  have o1 := optI_agr ha h1
  have o2 := optI_agr ha h2
  have o3 := optI_agr ha h3
  unfold Instr.sliceBounds
  rcases hu with ⟨rfl, rfl, hu⟩ | ⟨j, i, rfl, rfl, hj0, hj1, rfl, hi0, hi1, rfl⟩
  · rcases o3 with ⟨rfl, _⟩ | ⟨y, k, i, rfl, h, _⟩
    · rcases hu with ⟨rfl, rfl⟩ | ⟨i, rfl, hi0, hi1, rfl⟩
      · rcases o2 with ⟨rfl, _⟩ | ⟨y, k, i, rfl, h, _⟩
        · rcases hl with ⟨rfl, rfl⟩ | ⟨q, rfl, hq0, hq1, rfl⟩
          · rcases o1 with ⟨rfl, _⟩ | ⟨y, k, i, rfl, h, _⟩
            · simp
            · cases h
          · rcases o1 with ⟨_, h⟩ | ⟨y, k, i', rfl, h, hy⟩
            · cases h
            · cases h; simp [hy, run_sliceBound' _ _ _ _ hq0 hq1]
        · cases h
      · rcases o2 with ⟨_, h⟩ | ⟨y2, k2, i2, rfl, h, hy2⟩
        · cases h
        · cases h
          rcases hl with ⟨rfl, rfl⟩ | ⟨q, rfl, hq0, hq1, rfl⟩
          · rcases o1 with ⟨rfl, _⟩ | ⟨y, k, i, rfl, h, _⟩
            · simp [hy2, run_sliceBound' _ _ _ _ hi0 hi1]
            · cases h
          · rcases o1 with ⟨_, h⟩ | ⟨y, k, i', rfl, h, hy⟩
            · cases h
            · cases h; simp [hy, hy2, run_sliceBound' _ _ _ _ hq0 hq1, run_sliceBound' _ _ _ _ hi0 hi1]
    · cases h
  · rcases o3 with ⟨_, h⟩ | ⟨y3, k3, i3, rfl, h, hy3⟩
    · cases h
    · cases h
      rcases o2 with ⟨_, h⟩ | ⟨y2, k2, i2, rfl, h, hy2⟩
      · cases h
      · cases h
        rcases hl with ⟨rfl, rfl⟩ | ⟨q, rfl, hq0, hq1, rfl⟩
        · rcases o1 with ⟨rfl, _⟩ | ⟨y, k, i, rfl, h, _⟩
          · simp [hy2, hy3, run_sliceBound' _ _ _ _ hi0 hi1, run_sliceBound' _ _ _ _ hj0 hj1]
          · cases h
        · rcases o1 with ⟨_, h⟩ | ⟨y, k, i', rfl, h, hy⟩
          · cases h
          · cases h; simp [hy, hy2, hy3, run_sliceBound' _ _ _ _ hq0 hq1, run_sliceBound' _ _ _ _ hi0 hi1, run_sliceBound' _ _ _ _ hj0 hj1]

theorem sliceW_sound {t : TypeId} {x : EV} {lo hi mx : Option Operand} {K : EV → W} {w : World} (ha : Agr D n e a) (h : sliceW P e t x lo hi mx K w) :
    ∃ v, (∀ w', (Instr.sliceAt t x.v (lo.map a.eval) (hi.map a.eval) (mx.map a.eval)).run P w' = .ok v.v w') ∧ K v w := by
  unfold sliceW at h
  cases h1 : optI e lo with
  | none => simp only [h1] at h; exact False.elim h
  | some rlo =>
  cases h2 : optI e hi with
  | none => simp only [h1, h2] at h; exact False.elim h
  | some rhi =>
  cases h3 : optI e mx with
  | none => simp only [h1, h2, h3] at h; exact False.elim h
  | some rmx =>
  simp only [h1, h2, h3] at h
  cases hu : P.underlying t with
  | none => simp only [hu] at h; exact False.elim h
  | some d =>
  simp only [hu] at h
  cases d with
  | slice el =>
    dsimp only at h
    split at h
    · rename_i p l c
      cases hi' : (P.info? el).isSome with
      | false => simp only [hi', cond_false] at h; exact False.elim h
      | true =>
        simp only [hi', cond_true] at h
        obtain ⟨i, hi''⟩ := Option.isSome_iff_exists.1 hi'
        obtain ⟨hh, m, h, hb⟩ := upW_sound h
        obtain ⟨q, h, hq⟩ := loW_sound h
        refine ⟨_, fun w' => ?_, h⟩
        simp [Instr.sliceAt, Instr.slice, run_underlying' hu, EV.v, run_bounds ha h1 h2 h3 hb hq, run_sizeOf hi'', sliceA]
    · exact False.elim h
  | array m' el =>
    dsimp only at h
    split at h
    · rename_i p
      cases hi' : (P.info? el).isSome with
      | false => simp only [hi', cond_false] at h; exact False.elim h
      | true =>
        simp only [hi', cond_true] at h
        obtain ⟨i, hi''⟩ := Option.isSome_iff_exists.1 hi'
        obtain ⟨hh, m, h, hb⟩ := upW_sound h
        obtain ⟨q, h, hq⟩ := loW_sound h
        refine ⟨_, fun w' => ?_, h⟩
        simp [Instr.sliceAt, run_underlying' hu, EV.v, run_bounds ha h1 h2 h3 hb hq, run_sizeOf hi'', sliceA, Instr.sureAddr]
        split <;> simp_all
    · exact False.elim h
  | string =>
    dsimp only at h
    split at h
    · rename_i s
      cases rmx with
      | some _ => exact False.elim h
      | none =>
        obtain ⟨hh, m, h, hb⟩ := upW_sound h
        obtain ⟨q, h, hq⟩ := loW_sound h
        refine ⟨_, fun w' => ?_, h⟩
        have hmx : mx = none := by
          rcases optI_agr ha h3 with ⟨h, _⟩ | ⟨y, k, i, h, h', _⟩
          · exact h
          · cases h'
        subst hmx
        have := run_bounds (P := P) (isSlice := false) ha h1 h2 h3 hb hq w'
        simp only [Option.map_none] at this
        simp [Instr.sliceAt, Instr.slice, run_underlying' hu, EV.v, this]
    · exact False.elim h
  | _ => exact False.elim h
end

section
variable {P : Program} {D : List Deferred} {n : Nat} {e : Env} {a : Act}

theorem run_callb (b : Builtin) (c : Call) (hc : c.callee = .builtin b) (ty : TypeId) (w : World) :
    (do let d ← resolve a.eval c ty; invoke d.target d.args : Sem Next).run P w = (builtin b c.argTypes ty (c.args.map fun | .const _ => true | _ => false) (c.args.map a.eval)).run P w := by
  simp [resolve, hc, invoke]; rfl

theorem args_agr (ha : Agr D n e a) {c : Call} {vs : List Value} (h : evs e c.args.toList = some vs) : c.args.map a.eval = vs.toArray := by
  have := evs_agr ha h
  rw [← this, ← Array.toList_map]

theorem lo_len {o : Oper} {c : Call} (ho : o.op = .call c) (hl : loose P o.op = true) {K : Kont} {w : World} (h : opW P o e K w) (ha : Agr D n e a) : Lo P D n o a K w := by
  obtain ⟨dst, op, ty, pos, af, g⟩ := o
  subst ho
  obtain ⟨callee, args, argTypes⟩ := c
  simp only [opW, callW] at h
  cases he : evs e args.toList with
  | none => simp only [he] at h; exact False.elim h
  | some vs =>
    simp only [he] at h
    have hargs := args_agr (c := ⟨callee, args, argTypes⟩) ha he
    simp only at hargs
    simp only [loose] at hl
    cases callee with
    | value f => cases hl
    | invoke r m => cases hl
    | builtin b =>
      simp only at hl
      simp only [hl, cond_true] at h
      have hr := run_callb (P := P) (a := a) b ⟨.builtin b, args, argTypes⟩ rfl ty
      simp only [hargs] at hr
      cases hv : lenV P b argTypes.toList vs with
      | none => simp only [hv] at h; exact False.elim h
      | some v =>
        simp only [hv] at h
        refine Lo.mk0 _ (fun w' => ?_) ha h
        simp only [execOp]
        rw [hr w']
        unfold lenV at hv
        split at hv
        · rename_i t hat
          have hat' : argTypes = #[t] := by
            have := congrArg List.toArray hat; simpa using this
          subst hat'
          split at hv
          · rename_i el hu
            split at hv
            · split at hv <;> cases hv
              · simp [builtin, Builtin.len_, run_underlying' hu, EV.v, goInt]
              · simp [builtin, Builtin.cap_, run_underlying' hu, EV.v, goInt]
            · cases hv
          · rename_i hu
            split at hv
            · split at hv <;> cases hv
              simp [builtin, Builtin.len_, run_underlying' hu, EV.v, goInt]
            · cases hv
          · cases hv
        · cases hv

theorem BIf_split {b : Bool} {x y : W} {w : World} (h : BIf b x y w) : (b = true ∧ x w) ∨ (b = false ∧ y w) := by
  cases b
  · exact .inr ⟨rfl, h⟩
  · exact .inl ⟨rfl, h⟩

theorem NN_some {p : Option Addr} {f : Addr → W} {w : World} (h : NN p f w) : ∃ q, p = some q ∧ f q w := by
  cases p with
  | none => exact False.elim h
  | some q => exact ⟨q, rfl, h⟩

theorem cond_bot {b : Bool} {x : W} {w : World} (h : (bif b then x else bot) w) : b = true ∧ x w := by
  cases b
  · exact False.elim h
  · exact ⟨rfl, h⟩
theorem cond_bot' {b : Bool} {x : W} {w : World} (h : (bif b then bot else x) w) : b = false ∧ x w := by
  cases b
  · exact ⟨rfl, h⟩
  · exact False.elim h

theorem loose_sound {o : Oper} (hl : loose P o.op = true) {K : Kont} {w : World} (h : opW P o e K w) (ha : Agr D n e a) : Lo P D n o a K w := by
  obtain ⟨dst, op, ty, pos, af, g⟩ := o
  cases op <;> try (cases hl; done)
  case call c => exact lo_len (c := c) rfl hl h ha
  case move x =>
    simp only [opW] at h
    cases hx : ev e x with
    | none => simp only [hx] at h; exact False.elim h
    | some v => simp only [hx] at h; exact Lo.mk0 v (fun w' => by simp [execOp, ev_agr ha hx]) ha h
  case assign x =>
    simp only [opW] at h
    cases hx : ev e x with
    | none => simp only [hx] at h; exact False.elim h
    | some v => simp only [hx] at h; exact Lo.mk0 v (fun w' => by simp [execOp, ev_agr ha hx]) ha h
  case pick c x y =>
    simp only [opW] at h
    generalize hc : ev e c = oc at h
    split at h
    · rename_i t
      have hc' := ev_agr ha hc
      rcases BIf_split h with ⟨rfl, h⟩ | ⟨rfl, h⟩
      · cases hx : ev e x with
        | none => simp only [hx] at h; exact False.elim h
        | some v => simp only [hx] at h; exact Lo.mk0 v (fun w' => by simp [execOp, ev_agr ha hx, hc', EV.v, asBool]) ha h
      · cases hx : ev e y with
        | none => simp only [hx] at h; exact False.elim h
        | some v => simp only [hx] at h; exact Lo.mk0 v (fun w' => by simp [execOp, ev_agr ha hx, hc', EV.v, asBool]) ha h
    · exact False.elim h
  case nilCheck x =>
    simp only [opW] at h
    generalize hx : ev e x = ox at h
    split at h
    · rename_i p
      have hx' := ev_agr ha hx
      obtain ⟨q, rfl, h⟩ := NN_some h
      exact Lo.mk0 _ (fun w' => by simp [execOp, hx', EV.v]) (ha.refine hx') h
    · rename_i v hv
      have hx' := ev_agr ha hx
      cases hn : nnv v with
      | true =>
        rw [hn] at h
        refine Lo.mk0 _ (fun w' => ?_) ha h
        simp only [execOp, hx', EV.v]
        unfold nnv at hn
        split at hn <;> first | rfl | cases hn
      | false =>
        rw [hn] at h
        obtain ⟨hm, h⟩ := h
        refine Lo.mk0 _ (fun w' => ?_) ha h
        have := hm w'
        simp only [execOp, hx', EV.v] at this ⊢
        exact this
    · rename_i v
      have hx' := ev_agr ha hx
      obtain ⟨hn, h⟩ := h
      refine Lo.mk0 _ (fun w' => ?_) ha h
      simp only [execOp, hx', EV.v]
      unfold nnv at hn
      split at hn <;> first | rfl | cases hn
    · exact False.elim h
  case load t x =>
    simp only [opW] at h
    generalize hx : ev e x = ox at h
    split at h
    · rename_i p
      have hx' := ev_agr ha hx
      obtain ⟨v, fs, h1, h2, h3⟩ := loadW_sound h
      exact ⟨e, v, fs, fun w' hw' => by simp [execOp, hx', EV.v, Instr.loadAt, Instr.sureAddr, h1 w' hw'], h2, ha, h3⟩
    · exact False.elim h
  case build t parts =>
    simp only [opW] at h
    cases hx : evP e parts.toList with
    | none => simp only [hx] at h; exact False.elim h
    | some ps =>
      simp only [hx] at h
      obtain ⟨v, h1, h2⟩ := buildW_sound h
      refine Lo.mk0 v (fun w' => ?_) ha h2
      have hp : (parts.map fun (i, x) => (i, a.eval x)) = (unE ps).toArray := by
        rw [← evP_agr ha hx, ← Array.toList_map]
      simp only [execOp]
      rw [hp]
      simp [h1 w']
  case binOp op t x y ty' =>
    simp only [opW] at h
    cases hx : ev e x with
    | none => simp only [hx] at h; exact False.elim h
    | some u =>
      cases hy : ev e y with
      | none => simp only [hx, hy] at h; exact False.elim h
      | some v =>
        simp only [hx, hy] at h
        obtain ⟨z, h1, h2⟩ := lo_bin (dst := dst) (pos := pos) (af := af) (g := g) hl hx hy ha h
        exact Lo.mk0 z h1 ha h2
  case unOp op t x =>
    simp only [opW] at h
    cases hx : ev e x with
    | none => simp only [hx] at h; exact False.elim h
    | some u =>
      have hx' := ev_agr ha hx
      simp only [hx] at h
      simp only [loose] at hl
      unfold unW at h
      split at hl
      · rename_i k hu
        simp only [hu] at h
        split at h
        · rename_i k p
          cases op with
          | neg => exact Lo.mk0 _ (fun w' => by simp [execOp, hx', EV.v, Op.unary, Op.intArith, subI]) ha h
          | xor =>
            refine Lo.mk0 _ (fun w' => ?_) ha h
            cases hs : k.signed <;> simp [execOp, hx', EV.v, Op.unary, Op.intBits, xorI, hs]
          | _ => exact False.elim h
        · exact False.elim h
      · rename_i hu
        simp only [hu] at h
        split at h
        · exact Lo.mk0 _ (fun w' => by simp [execOp, hx', EV.v, Op.unary]) ha h
        · exact False.elim h
      · cases hl
  case convert s d x =>
    simp only [opW] at h
    cases hx : ev e x with
    | none => simp only [hx] at h; exact False.elim h
    | some u =>
      have hx' := ev_agr ha hx
      simp only [hx] at h
      simp only [loose] at hl
      unfold convW at h
      split at hl
      · rename_i k k' hs hd
        simp only [hs, hd] at h
        split at h
        · exact Lo.mk0 _ (fun w' => by simp [execOp, hx', EV.v, convert, run_underlying' hs, run_underlying' hd, Conv.intToInt]) ha h
        · exact False.elim h
      · cases hl
  case makeInterface t x =>
    simp only [opW] at h
    cases hx : ev e x with
    | none => simp only [hx] at h; exact False.elim h
    | some u =>
      have hx' := ev_agr ha hx
      simp only [hx] at h
      obtain ⟨⟨d, hd, hn⟩, h⟩ := not_some_iface h
      refine Lo.mk0 _ (fun w' => ?_) ha h
      simp only [execOp, Instr.makeInterface, Sem.run_bind, run_underlying' hd, Result.andThen_ok, hx', EV.v]
      cases d <;> first | rfl | exact absurd rfl (hn _)
  case makeFunc fn first captured =>
    simp only [opW] at h
    cases hx : evs e first.toList with
    | none => simp only [hx] at h; exact False.elim h
    | some us =>
      cases hy : evs e captured.toList with
      | none => simp only [hx, hy] at h; exact False.elim h
      | some vs =>
        simp only [hx, hy] at h
        refine Lo.mk0 _ (fun w' => ?_) ha h
        have h1 : first.map a.eval = us.toArray := by rw [← evs_agr ha hx, ← Array.toList_map]
        have h2 : captured.map a.eval = vs.toArray := by rw [← evs_agr ha hy, ← Array.toList_map]
        simp [execOp, Instr.makeFunc, h1, h2, EV.v]
  case fieldAddr s x f =>
    simp only [opW] at h
    generalize hx : ev e x = ox at h
    generalize hu : P.underlying s = ou at h
    split at h
    · rename_i fs p
      have hx' := ev_agr ha hx
      generalize hf : fs.toList[f]? = ofl at h
      split at h
      · rename_i fl
        obtain ⟨hz, h⟩ := cond_bot' h
        have hz' := Nat.ne_of_beq_eq_false hz
        obtain ⟨i, hi⟩ := info_of_cells hz'
        have hf' : fs[f]? = some fl := by rw [← Array.getElem?_toList]; exact hf
        refine Lo.mk0 _ (fun w' => ?_) ha h
        simp [execOp, Instr.fieldAt, run_underlying' hu, hf', hx', EV.v, Instr.sureAddr, fieldPlace, run_sizeOf hi, hz', addOff_eq]
      · exact False.elim h
    · exact False.elim h
  case field s x f =>
    simp only [opW] at h
    generalize hx : ev e x = ox at h
    generalize hu : P.underlying s = ou at h
    split at h
    · rename_i fs cs
      have hx' := ev_agr ha hx
      generalize hf : fs.toList[f]? = ofl at h
      split at h
      · rename_i fl
        have hf' : fs[f]? = some fl := by rw [← Array.getElem?_toList]; exact hf
        cases hd : P.underlying fl.type with
        | none => simp only [hd] at h; exact False.elim h
        | some d =>
          simp only [hd] at h
          obtain ⟨i, hi⟩ := info_of_underlying hd
          cases hg : isAggT P fl.type with
          | true =>
            simp only [hg, cond_true] at h
            refine Lo.mk0 _ (fun w' => ?_) ha h
            simp [execOp, Instr.field, run_underlying' hu, hf', hx', EV.v, asAgg, part, run_isAgg (by simp [hd] : (P.underlying fl.type).isSome = true), hg, run_sizeOf hi]
            apply Array.ext'
            simp [List.take_drop]
          | false =>
            simp only [hg, cond_false] at h
            generalize hv : cs.toList[fl.offset]? = ov at h
            split at h
            · rename_i v
              have hv' : cs[fl.offset]? = some v := by rw [← Array.getElem?_toList]; exact hv
              refine Lo.mk0 _ (fun w' => ?_) ha h
              simp [execOp, Instr.field, run_underlying' hu, hf', (show a.eval x = .agg cs from hx'), asAgg, part, run_isAgg (by simp [hd] : (P.underlying fl.type).isSome = true), hg, hv', mkE_v]
            · exact False.elim h
      · exact False.elim h
    · exact False.elim h
  case indexAddr t x i =>
    simp only [opW] at h
    generalize hx : ev e x = ox at h
    generalize hi : ev e i = oi at h
    generalize hu : P.underlying t = ou at h
    split at h
    · rename_i el p l c k j
      have hx' := ev_agr ha hx
      have hi' := ev_agr ha hi
      obtain ⟨hs, h⟩ := cond_bot h
      obtain ⟨q, rfl, h⟩ := NN_some h
      obtain ⟨hb, h⟩ := h
      obtain ⟨info, hinfo⟩ := Option.isSome_iff_exists.1 hs
      refine Lo.mk0 _ (fun w' => ?_) ha h
      simp [execOp, Instr.indexAt, run_underlying' hu, hx', hi', EV.v, asIntOf, hb.1, hb.2, run_sizeOf hinfo, mulSz_eq]
    · rename_i m el p k j
      have hx' := ev_agr ha hx
      have hi' := ev_agr ha hi
      obtain ⟨hs, h⟩ := cond_bot h
      obtain ⟨hb, h⟩ := h
      obtain ⟨info, hinfo⟩ := Option.isSome_iff_exists.1 hs
      refine Lo.mk0 _ (fun w' => ?_) ha h
      simp [execOp, Instr.indexAt, run_underlying' hu, hx', hi', EV.v, asIntOf, hb.1, hb.2, run_sizeOf hinfo, mulSz_eq, Instr.sureAddr]
    · exact False.elim h
  case index t x i =>
    simp only [opW] at h
    simp only [loose] at hl
    cases hx : ev e x with
    | none => simp only [hx] at h; exact False.elim h
    | some u =>
      cases hy : ev e i with
      | none => simp only [hx, hy] at h; exact False.elim h
      | some v =>
        simp only [hx, hy] at h
        have hx' := ev_agr ha hx
        have hy' := ev_agr ha hy
        split at hl
        · rename_i hu
          simp only [hu] at h
          split at h
          · rename_i s k j
            obtain ⟨hb, h⟩ := h
            refine Lo.mk0 _ (fun w' => ?_) ha h
            have hlt : j.toNat < s.size := by have := hb.2; have := hb.1; omega
            have hg : s[j.toNat]? = some s[j.toNat] := getElem?_pos s j.toNat hlt
            simp [execOp, Instr.index, run_underlying' hu, hx', hy', EV.v, asIntOf, hb.1, hg, byteAt]
          · exact False.elim h
        · cases hl
  case slice t x lo hi mx =>
    simp only [opW] at h
    cases hx : ev e x with
    | none => simp only [hx] at h; exact False.elim h
    | some u =>
      have hx' := ev_agr ha hx
      simp only [hx] at h
      obtain ⟨v, h1, h2⟩ := sliceW_sound ha h
      exact Lo.mk0 v (fun w' => by simp [execOp, hx', h1 w']) ha h2
  case typeAssert x xt t ok =>
    simp only [opW] at h
    simp only [loose, Bool.and_eq_true, Bool.not_eq_true'] at hl
    obtain ⟨rfl, hl⟩ := hl
    cases hx : ev e x with
    | none => simp only [hx] at h; exact False.elim h
    | some u =>
      have hx' := ev_agr ha hx
      simp only [hx, cond_false] at h
      cases hu : P.underlying t with
      | none => simp only [hu] at h; exact False.elim h
      | some d =>
        have hd : ∀ ms, d ≠ .interface ms := by
          intro ms hms; subst hms; simp [hu] at hl
        have h' : TAs u.v t (.s (s1 P t)) (abs _ fun vs => K e ((s1 P t).mkE ((s1 P t).bld vs)) []) w := by
          cases d <;> simp only [hu] at h <;> first | exact h | exact absurd rfl (hd _)
        obtain ⟨z, hv, h⟩ := h'
        rw [unc_abs] at h
        refine Lo.mk0 _ (fun w' => ?_) ha h
        simp only [execOp, Instr.typeAssert, Sem.run_bind, run_underlying' hu, Result.andThen_ok, hx', hv, S1.mkE_v, RTy.bld]
        cases d <;> first | exact absurd rfl (hd _) | simp
  case extract x i =>
    simp only [opW] at h
    generalize hx : ev e x = ox at h
    split at h
    · rename_i vs
      have hx' := ev_agr ha hx
      generalize hv : vs.toList[i]? = ov at h
      split at h
      · rename_i v
        have hv' : vs[i]? = some v := by rw [← Array.getElem?_toList]; exact hv
        exact Lo.mk0 _ (fun w' => by simp [execOp, Instr.extract, (show a.eval x = .tuple vs from hx'), hv', S1.mkE_v]) ha h
      · exact False.elim h
    · rename_i v
      have hx' := ev_agr ha hx
      obtain ⟨d, ⟨vs, hv, hi⟩, hd⟩ := h
      rw [unc_abs] at hd
      exact Lo.mk0 _ (fun w' => by simp [execOp, Instr.extract, (show a.eval x = .tuple vs from hx'.trans hv), hi, S1.mkE_v]) ha hd
    · exact False.elim h
end

section
variable {P : Program} {D : List Deferred} {n : Nat} {e : Env} {a : Act}

/-- No function with a body is the runtime's own count of goroutines. -/
def NoNum (P : Program) : Prop := ∀ (g : FuncId) (fn : Func), P.funcs[g]? = some fn → fn.body.isSome = true → (fn.name == "runtime.NumGoroutine") = false

section
variable {o : Oper} {w w' : World} {next : Act → World → Prop} {Q : Exit → Act → World → Prop}
theorem wp_value {v : Value} (hr : (execOp a.eval o).run P w = .ok (.value v) w') (h : next (a.put o.dst v) w') : o.wp P a w next Q := by
  unfold Oper.wp; rw [hr]; exact h
theorem wp_skip' (hr : (execOp a.eval o).run P w = .ok .skip w') (h : next (a.put o.dst undef) w') : o.wp P a w next Q := by
  unfold Oper.wp; rw [hr]; exact h
theorem wp_enter {g : FuncId} {as : Array Value} {r : RTy} {f : Fn W r.leaves} (hr : (execOp a.eval o).run P w = .ok (.enter g as) w') (h : Calls P g as w' (Back r f))
    (hk : ∀ d w'', unc _ f d w'' → next (a.put o.dst (r.bld (vals _ d))) w'') : o.wp P a w next Q := by
  unfold Oper.wp; rw [hr]
  show Calls P g as w' _
  refine h.mono fun e w'' he => ?_
  obtain ⟨d, rfl, hd⟩ := he
  exact hk d w'' hd
theorem wp_next {s : Sem Next} {r : RTy} {f : Fn W r.leaves} (hs : (execOp a.eval o).run P w = s.run P w) (h : NextT P s r f w)
    (hk : ∀ d w'', unc _ f d w'' → next (a.put o.dst (r.bld (vals _ d))) w'') : o.wp P a w next Q := by
  unfold NextT at h
  cases hr : s.run P w with
  | halt x w' => simp only [hr] at h
  | ok x w' =>
    simp only [hr] at h
    cases x <;> simp only at h
    · obtain ⟨d, hd, h⟩ := h
      cases hd
      exact wp_value (hs.trans hr) (hk _ _ h)
    · exact wp_enter (hs.trans hr) h hk
end

theorem storeL_sound : ∀ (vs : List Value) (p : Addr) (i : Nat) (k : W) (w : World), storeL vs p i k w → ∃ w', (storeCells p vs i).run P w = .ok () w' ∧ k w'
  | [], p, i, k, w, h => ⟨w, rfl, h⟩
  | v :: vs, p, i, k, w, h => by
    simp only [storeL, Store1] at h
    obtain ⟨h1, ⟨old, h2⟩, h3, h4⟩ := h
    obtain ⟨w', hr, hk⟩ := storeL_sound vs p (i + 1) k _ h4
    refine ⟨w', ?_, hk⟩
    have hst : (store (p.add i) v).run P w = .ok () (w.setCell (p.add i) v) := by
      rw [run_store P w (p.add i) v _ (by cases v <;> first | rfl | cases h1)]
      simp [h2, h3]
    simp only [storeCells, Sem.run_bind, hst, Result.andThen_ok, hr]

theorem cellsW_sound {t : TypeId} {v : EV} {K : List Value → W} {w : World} (h : cellsW P t v K w) : v.v.cells.size = P.cellsOf t ∧ (P.info? t).isSome = true ∧ K v.v.cells.toList w := by
  unfold cellsW at h
  obtain ⟨hi, h⟩ := cond_bot h
  cases hg : isAggT P t with
  | true =>
    simp only [hg, cond_true] at h
    split at h
    · rename_i cs
      obtain ⟨hb, h⟩ := cond_bot h
      exact ⟨by simpa [EV.v, Value.cells] using Nat.eq_of_beq_eq_true hb, hi, h⟩
    · exact False.elim h
  | false =>
    simp only [hg, cond_false] at h
    obtain ⟨hb, h⟩ := cond_bot h
    have hb' := Nat.eq_of_beq_eq_true hb
    split at h
    · obtain ⟨h1, h⟩ := cond_bot h
      refine ⟨?_, hi, ?_⟩ <;> simp only [EV.v, oneC_cells h1]
      · simpa using hb'.symm
      · exact h
    · obtain ⟨h1, h⟩ := h
      refine ⟨?_, hi, ?_⟩ <;> simp only [EV.v, oneC_cells h1]
      · simpa using hb'.symm
      · exact h

theorem unc_one {R : Type} (t : Ty) (g : t.D → R) (s : Tup [t]) : unc [t] (t.cur fun d => g d) s = g s.1 := by
  simp [unc]

theorem op_sound (hN : NoNum P) {o : Oper} {K : Kont} {w : World} {next : Act → World → Prop} {Q : Exit → Act → World → Prop} (h : opW P o e K w) (ha : Agr D n e a)
    (hk : ∀ e' v fs w', K e' v fs w' → Agr D n e' a → next (a.put o.dst v.v) w') : o.wp P a w next Q := by
  cases hl : loose P o.op with
  | true =>
    obtain ⟨e', v, fs, h1, h2, h3, h4⟩ := loose_sound hl h ha
    exact wp_value (h1 w h2) (hk _ _ _ _ h4 h3)
  | false =>
  obtain ⟨dst, op, ty, pos, af, g⟩ := o
  cases op <;> try (cases hl; done)
  case alloc t =>
    simp only [opW] at h
    cases hi : P.info? t with
    | none => simp only [hi] at h; exact False.elim h
    | some i =>
      cases hz : i.zero with
      | none => simp only [hi, hz] at h; exact False.elim h
      | some z =>
        simp only [hi, hz] at h
        refine wp_value (v := .pointer (some ⟨w.heap.size, 0, none⟩)) (w' := w.alloc (.cells z.cells t)) ?_ (hk _ _ _ _ h ha)
        simp [execOp, Instr.alloc, zeroValue, run_typeInfo hi, hz, newVar, newRow]
  case box t x =>
    simp only [opW] at h
    cases hx : ev e x with
    | none => simp only [hx] at h; exact False.elim h
    | some v =>
      simp only [hx] at h
      obtain ⟨h1, h2, h3⟩ := cellsW_sound h
      refine wp_value (v := .pointer (some ⟨w.heap.size, 0, none⟩)) (w' := w.alloc (.cells v.v.cells t)) ?_ (hk _ _ _ _ h3 ha)
      simp [execOp, Instr.box, newVar, newRow, ev_agr ha hx]
  case store t p x =>
    simp only [opW] at h
    generalize hp : ev e p = op' at h
    generalize hx : ev e x = ox at h
    split at h
    · rename_i q v
      have hp' := ev_agr ha hp
      have hx' := ev_agr ha hx
      obtain ⟨h1, h2, h3⟩ := cellsW_sound h
      obtain ⟨i, hi⟩ := Option.isSome_iff_exists.1 h2
      have h4 : storeL v.v.cells.toList q 0 (K e (.val undef) []) w := by
        generalize v.v.cells.toList = cs at h3
        cases cs with
        | nil => exact h3
        | cons c r =>
          cases r with
          | cons c' r => exact h3
          | nil =>
            simp only at h3
            simp only [storeL]
            cases hg : isAggT P t with
            | true => simpa [hg] using h3
            | false => rw [hg] at h3; rw [add_zero']; exact h3
      obtain ⟨w', hr, hw'⟩ := storeL_sound (P := P) _ _ _ _ _ h4
      refine wp_skip' (w' := w') ?_ (hk _ _ _ _ hw' ha)
      have hp'' : a.eval p = .pointer (some q) := hp'
      simp only [execOp, Instr.storeAt, Instr.sureAddr, hp'', hx', storeVar, Sem.run_bind, Sem.run_pure, Result.andThen_ok, run_sizeOf hi, h1, ne_eq, not_true_eq_false, if_false, hr]
    · exact False.elim h
  case buildSlice t len parts =>
    simp only [opW] at h
    cases hx : evP e parts.toList with
    | none => simp only [hx] at h; exact False.elim h
    | some ps =>
      simp only [hx] at h
      obtain ⟨d, w', hr, hd⟩ := h
      have hp : (parts.map fun (i, x) => (i, a.eval x)) = (unE ps).toArray := by
        rw [← evP_agr ha hx, ← Array.toList_map]
      refine wp_value (v := .slice d.1.1 d.1.2.1 d.1.2.2) (w' := w') ?_ (hk _ _ _ _ hd ha)
      simp only [execOp]
      rw [hp]
      simp only [Sem.run_bind, hr, Result.andThen_ok, Sem.run_pure]
      rfl
  case binOp op t x y ty' =>
    simp only [opW] at h
    cases hx : ev e x with
    | none => simp only [hx] at h; exact False.elim h
    | some u =>
      cases hy : ev e y with
      | none => simp only [hx, hy] at h; exact False.elim h
      | some v =>
        simp only [hx, hy] at h
        have hx' := ev_agr ha hx
        have hy' := ev_agr ha hy
        have h' : RawS P (binS op t x y u.v v.v) (rty P ty) (abs _ fun vs => K e ((rty P ty).mkE ((rty P ty).bld vs)) []) w := by
          unfold binW at h
          simp only [loose] at hl
          cases hu : P.underlying t with
          | none => simp only [hu] at h; exact h
          | some d =>
            simp only [hu] at h hl
            cases d <;> simp only at h hl <;> first | exact h | cases hl | skip
            · simp only [Bool.or_eq_false_iff] at hl
              simp only [hl.1, hl.2, cond_false] at h
              exact h
            · simp only [hl, cond_false] at h
              exact h
        obtain ⟨d, hr, hd⟩ := h'
        rw [unc_abs] at hd
        refine wp_value (w' := w) ?_ (hk _ _ _ _ hd ha)
        simp only [execOp, hx', hy']
        unfold binS at hr
        rw [Sem.run_bind, hr, RTy.mkE_v]; rfl
  case unOp op t x =>
    simp only [opW] at h
    cases hx : ev e x with
    | none => simp only [hx] at h; exact False.elim h
    | some u =>
      simp only [hx] at h
      have hx' := ev_agr ha hx
      have h' : RawS P (Op.unary op u.v) (rty P ty) (abs _ fun vs => K e ((rty P ty).mkE ((rty P ty).bld vs)) []) w := by
        unfold unW at h
        simp only [loose] at hl
        cases hu : P.underlying t with
        | none => simp only [hu] at h; exact h
        | some d =>
          simp only [hu] at h hl
          cases d <;> simp only at h hl <;> first | exact h | cases hl
      obtain ⟨d, hr, hd⟩ := h'
      rw [unc_abs] at hd
      refine wp_value (w' := w) ?_ (hk _ _ _ _ hd ha)
      simp only [execOp, hx']
      rw [Sem.run_bind, hr, RTy.mkE_v]; rfl
  case convert s d x =>
    simp only [opW] at h
    cases hx : ev e x with
    | none => simp only [hx] at h; exact False.elim h
    | some u =>
      simp only [hx] at h
      have hx' := ev_agr ha hx
      have h' : RawT P (convert s d u.v) (rty P d) (abs _ fun vs => K e ((rty P d).mkE ((rty P d).bld vs)) []) w := by
        unfold convW at h
        simp only [loose] at hl
        generalize P.underlying s = us at h hl
        generalize P.underlying d = ud at h hl
        split at h
        · cases hl
        · exact h
      obtain ⟨z, w', hr, hd⟩ := h'
      rw [unc_abs] at hd
      refine wp_value (w' := w') ?_ (hk _ _ _ _ hd ha)
      simp only [execOp, hx']
      rw [Sem.run_bind, hr, RTy.mkE_v]; rfl
  case index t x i =>
    simp only [opW] at h
    cases hx : ev e x with
    | none => simp only [hx] at h; exact False.elim h
    | some u =>
      cases hy : ev e i with
      | none => simp only [hx, hy] at h; exact False.elim h
      | some v =>
        simp only [hx, hy] at h
        have hx' := ev_agr ha hx
        have hy' := ev_agr ha hy
        have h' : RawS P (Instr.index t u.v v.v) (rty P ty) (abs _ fun vs => K e ((rty P ty).mkE ((rty P ty).bld vs)) []) w := by
          simp only [loose] at hl
          cases hu : P.underlying t with
          | none => simp only [hu] at h; exact h
          | some d =>
            simp only [hu] at h hl
            cases d <;> simp only at h hl <;> first | exact h | cases hl
        obtain ⟨d, hr, hd⟩ := h'
        rw [unc_abs] at hd
        refine wp_value (w' := w) ?_ (hk _ _ _ _ hd ha)
        simp only [execOp, hx', hy']
        rw [Sem.run_bind, hr, RTy.mkE_v]; rfl
  case typeAssert x xt t ok =>
    simp only [opW] at h
    cases hx : ev e x with
    | none => simp only [hx] at h; exact False.elim h
    | some u =>
      simp only [hx] at h
      have hx' := ev_agr ha hx
      have h' : RawS P (Instr.typeAssert u.v xt t ok) (rtyA P ty) (abs _ fun vs => K e ((rtyA P ty).mkE ((rtyA P ty).bld vs)) []) w := by
        simp only [loose] at hl
        cases ok with
        | true => exact h
        | false =>
          simp only [Bool.not_false, Bool.true_and] at hl
          cases hu : P.underlying t with
          | none => simp only [hu, cond_false] at h; exact False.elim h
          | some d =>
            simp only [hu, cond_false] at h hl
            cases d <;> simp only at h hl <;> first | exact h | cases hl
      obtain ⟨d, hr, hd⟩ := h'
      rw [unc_abs] at hd
      refine wp_value (w' := w) ?_ (hk _ _ _ _ hd ha)
      simp only [execOp, hx']
      rw [Sem.run_bind, hr, RTy.mkE_v]; rfl
  case makeSlice t l c =>
    simp only [opW] at h
    cases hx : ev e l with
    | none => simp only [hx] at h; exact False.elim h
    | some u =>
      cases hy : ev e c with
      | none => simp only [hx, hy] at h; exact False.elim h
      | some v =>
        simp only [hx, hy] at h
        obtain ⟨d, w', hr, hd⟩ := h
        refine wp_value (v := .slice d.1.1 d.1.2.1 d.1.2.2) (w' := w') ?_ (hk _ _ _ _ hd ha)
        simp only [execOp, ev_agr ha hx, ev_agr ha hy, Sem.run_bind, hr, Result.andThen_ok, Sem.run_pure]
        rfl
  case makeMap t r =>
    simp only [opW] at h
    cases hx : evO e r with
    | none => simp only [hx] at h; exact False.elim h
    | some u =>
      simp only [hx] at h
      obtain ⟨d, w', hr, hd⟩ := h
      have hr' : r.map a.eval = u := by
        cases r with
        | none => simp only [evO, Option.some.injEq] at hx; exact hx
        | some y =>
          simp only [evO] at hx
          cases hy : ev e y with
          | none => simp [hy] at hx
          | some z => simp [hy] at hx; rw [← hx]; simp [ev_agr ha hy]
      refine wp_value (v := .map d.1) (w' := w') ?_ (hk _ _ _ _ hd ha)
      simp only [execOp, hr', Sem.run_bind, hr, Result.andThen_ok, Sem.run_pure]
      rfl
  case lookup t x i ok =>
    simp only [opW] at h
    cases hx : ev e x with
    | none => simp only [hx] at h; exact False.elim h
    | some u =>
      cases hy : ev e i with
      | none => simp only [hx, hy] at h; exact False.elim h
      | some v =>
        simp only [hx, hy] at h
        obtain ⟨d, hr, hd⟩ := h
        rw [unc_abs] at hd
        refine wp_value (w' := w) ?_ (hk _ _ _ _ hd ha)
        simp only [execOp, ev_agr ha hx, ev_agr ha hy]
        rw [Sem.run_bind, hr, RTy.mkE_v]; rfl
  case mapUpdate t m k x =>
    simp only [opW] at h
    cases hm : ev e m with
    | none => simp only [hm] at h; exact False.elim h
    | some u =>
      cases hk' : ev e k with
      | none => simp only [hm, hk'] at h; exact False.elim h
      | some v =>
        cases hx : ev e x with
        | none => simp only [hm, hk', hx] at h; exact False.elim h
        | some z =>
          simp only [hm, hk', hx] at h
          obtain ⟨w', hr, hd⟩ := h
          refine wp_skip' (w' := w') ?_ (hk _ _ _ _ hd ha)
          simp only [execOp, ev_agr ha hm, ev_agr ha hk', ev_agr ha hx, Sem.run_bind, hr, Result.andThen_ok, Sem.run_pure]
  case mapEntry t m k =>
    simp only [opW] at h
    cases hx : ev e m with
    | none => simp only [hx] at h; exact False.elim h
    | some u =>
      cases hy : ev e k with
      | none => simp only [hx, hy] at h; exact False.elim h
      | some v =>
        simp only [hx, hy] at h
        obtain ⟨d, w', hr, hd⟩ := h
        rw [unc_abs] at hd
        refine wp_value (w' := w') ?_ (hk _ _ _ _ hd ha)
        simp only [execOp, ev_agr ha hx, ev_agr ha hy]
        rw [Sem.run_bind, hr, RTy.mkE_v]; rfl
  case entryStore t m s x =>
    simp only [opW] at h
    cases hm : ev e m with
    | none => simp only [hm] at h; exact False.elim h
    | some u =>
      cases hk' : ev e s with
      | none => simp only [hm, hk'] at h; exact False.elim h
      | some v =>
        cases hx : ev e x with
        | none => simp only [hm, hk', hx] at h; exact False.elim h
        | some z =>
          simp only [hm, hk', hx] at h
          obtain ⟨w', hr, hd⟩ := h
          refine wp_skip' (w' := w') ?_ (hk _ _ _ _ hd ha)
          simp only [execOp, ev_agr ha hm, ev_agr ha hk', ev_agr ha hx, Sem.run_bind, hr, Result.andThen_ok, Sem.run_pure]
  case range t x =>
    simp only [opW] at h
    cases hx : ev e x with
    | none => simp only [hx] at h; exact False.elim h
    | some u =>
      simp only [hx] at h
      obtain ⟨d, w', hr, hd⟩ := h
      refine wp_value (v := d.1) (w' := w') ?_ (hk _ (.any d.1) _ _ hd ha)
      simp only [execOp, ev_agr ha hx, Sem.run_bind, hr, Result.andThen_ok, Sem.run_pure]
      rfl
  case next it s =>
    simp only [opW] at h
    cases hx : ev e it with
    | none => simp only [hx] at h; exact False.elim h
    | some u =>
      simp only [hx] at h
      obtain ⟨d, w', hr, hd⟩ := h
      refine wp_value (v := d.1) (w' := w') ?_ (hk _ (.any d.1) _ _ hd ha)
      simp only [execOp, ev_agr ha hx, Sem.run_bind, hr, Result.andThen_ok, Sem.run_pure]
      rfl
  case entry it =>
    simp only [opW] at h
    cases hx : ev e it with
    | none => simp only [hx] at h; exact False.elim h
    | some u =>
      simp only [hx] at h
      obtain ⟨d, w', hr, hd⟩ := h
      refine wp_value (v := d.1) (w' := w') ?_ (hk _ (.any d.1) _ _ hd ha)
      simp only [execOp, ev_agr ha hx, Sem.run_bind, hr, Result.andThen_ok, Sem.run_pure]
      rfl
  case waits gl =>
    simp only [opW] at h
    obtain ⟨d, w', hr, hd⟩ := h
    refine wp_value (v := d.1) (w' := w') ?_ (hk _ (.any d.1) _ _ hd ha)
    simp only [execOp, Sem.run_bind, hr, Result.andThen_ok, Sem.run_pure]
    rfl
  case call c =>
    simp only [opW, callW] at h
    obtain ⟨callee, args, argTypes⟩ := c
    cases he : evs e args.toList with
    | none => simp only [he] at h; exact False.elim h
    | some vs =>
      simp only [he] at h
      have hargs := args_agr (c := ⟨callee, args, argTypes⟩) ha he
      simp only at hargs
      have hback : ∀ (r : RTy) (d : Tup r.leaves) (w'' : World), unc _ (abs _ fun vs => K e (r.mkE (r.bld vs)) []) d w'' → next (a.put dst (r.bld (vals _ d))) w'' := fun r d w'' hd => by
        rw [unc_abs] at hd
        have := hk _ _ _ _ hd ha
        rwa [RTy.mkE_v] at this
      cases callee with
      | value f =>
        simp only at h
        generalize hf : ev e f = of at h
        have hexec : ∀ w, (execOp a.eval ⟨dst, .call ⟨.value f, args, argTypes⟩, ty, pos, af, g⟩).run P w = (callV (a.eval f) vs.toArray).run P w := fun w => by
          simp only [execOp, resolve, callV, hargs]
        split at h
        · rename_i g' first cap
          have hf' : a.eval f = .func (.func g') first cap := ev_agr ha hf
          have hrun : ∀ w, (callV (a.eval f) vs.toArray).run P w = (callFunc g' (first.toList ++ vs ++ cap.toList).toArray).run P w := fun w => by
            rw [hf']
            simp only [callV, Deferred.ofValue, Sem.run_bind, Sem.run_pure, Result.andThen_ok, invoke]
            congr 2
            apply Array.ext'
            simp
          generalize hg : P.funcs[g']? = og at h
          cases og with
          | none => simp only at h; exact False.elim h
          | some fn =>
            simp only at h
            cases hb : fn.body with
            | none =>
              simp only [hb] at h
              exact wp_next ((hexec w).trans (hrun w)) h (hback _)
            | some b =>
              simp only [hb] at h
              have hn := hN g' fn hg (by simp [hb])
              refine wp_enter (w' := w) (((hexec w).trans (hrun w)).trans ?_) h (hback _)
              simp only [callFunc, Sem.run_bind, run_program, Result.andThen_ok, hg, hn, hb, Option.isNone_some, Bool.false_eq_true, if_false, Sem.run_pure]
        · rename_i z hz
          have hf' := ev_agr ha hf
          exact wp_next (by rw [hexec, hf']) h (hback _)
        · exact False.elim h
      | invoke r m =>
        simp only at h
        cases hr : ev e r with
        | none => simp only [hr] at h; exact False.elim h
        | some u =>
          simp only [hr] at h
          refine wp_next ?_ h (hback _)
          simp only [execOp, resolve, hargs, invoke, Sem.run_bind, Sem.run_pure, Result.andThen_ok, ev_agr ha hr]
          simp
      | builtin b =>
        simp only at h
        simp only [loose] at hl
        simp only [hl, cond_false] at h
        refine wp_next ?_ h (hback _)
        have hr := run_callb (P := P) (a := a) b ⟨.builtin b, args, argTypes⟩ rfl ty w
        simp only [hargs] at hr
        simp only [execOp]
        rw [hr]
        congr 2
        apply Array.ext'
        simp
        generalize args.toList = l
        induction l with
        | nil => rfl
        | cons x l ih => simp only [List.map_cons, constsL, ih] <;> cases x <;> rfl
  all_goals exact False.elim h
end

section
variable {P : Program} {D : List Deferred} {n : Nat} {e : Env} {a : Act}

theorem tmps_some {d : Nat} {b : Bool} (h : a.tmps.getD d undef = .bool b) : a.tmps[d]? = some (.bool b) := by
  rw [Array.getD_eq_getD_getElem?] at h
  cases hx : a.tmps[d]? with
  | none => rw [hx] at h; cases h
  | some v => rw [hx] at h; exact congrArg some h

theorem guardW_sound {ops : List Oper} {o : Oper} {yes no : Env → W} {w : World} (h : guardW ops o e yes no w) (ha : Agr D n e a) :
    (Region.wanted o (yielded ops.toArray a.tmps) = true ∧ ∃ e', Agr D n e' a ∧ yes e' w) ∨ (Region.wanted o (yielded ops.toArray a.tmps) = false ∧ ∃ e', Agr D n e' a ∧ no e' w) := by
  unfold guardW at h
  generalize hg : guardT ops o = og at h
  unfold guardT at hg
  cases hgd : o.guard with
  | none =>
    simp only [hgd] at hg
    subst hg
    exact .inl ⟨by simp [Region.wanted, hgd], e, ha, h⟩
  | some q =>
    obtain ⟨j, want⟩ := q
    simp only [hgd] at hg
    cases hj : ops[j]? with
    | none => simp only [hj] at hg; subst hg; exact False.elim h
    | some x =>
      simp only [hj] at hg
      cases hd : x.dst with
      | none => simp only [hd] at hg; subst hg; exact False.elim h
      | some d =>
        simp only [hd] at hg
        subst hg
        simp only at h
        generalize hv : e d = ov at h
        split at h
        · rename_i b
          have hb := ha.holds _ _ hv
          simp only [EV.v] at hb
          have hw : Region.wanted o (yielded ops.toArray a.tmps) = (some b == some want) := by
            simp [Region.wanted, hgd, yielded, hj, hd, tmps_some hb]
          rw [hw]
          rcases BIf_split h with ⟨rfl, h⟩ | ⟨rfl, h⟩
          · have ha' := ha.upd (t := d) (v := .val (.bool true)) hb
            cases want with
            | true => exact .inl ⟨rfl, _, ha', h⟩
            | false => exact .inr ⟨rfl, _, ha', h⟩
          · have ha' := ha.upd (t := d) (v := .val (.bool false)) hb
            cases want with
            | true => exact .inr ⟨rfl, _, ha', h⟩
            | false => exact .inl ⟨rfl, _, ha', h⟩
        · have hb := ha.holds _ _ hv
          simp only [EV.v] at hb
          have hw : Region.wanted o (yielded ops.toArray a.tmps) = false := by
            simp only [Region.wanted, hgd, yielded, List.getElem?_toArray, hj, hd, Option.bind_some]
            rw [Array.getD_eq_getD_getElem?] at hb
            cases hx : a.tmps[d]? with
            | none => rfl
            | some v => rw [hx] at hb; simp only [Option.getD_some] at hb; rw [hb]; rfl
          exact .inr ⟨hw, e, ha, h⟩
        · exact False.elim h

theorem seqW_sound (hN : NoNum P) {ops : List Oper} {Q : Exit → Act → World → Prop} {k : Env → W} (hk : ∀ e a w, k e w → Agr D n e a → Q .normal a w) :
    ∀ (r : List Oper) (e : Env) (a : Act) (w : World), seqW P n ops r k e w → Agr D n e a → wpList P ops.toArray Q r a w
  | [], e, a, w, h, ha => hk e a w h ha
  | o :: r, e, a, w, h, ha => by
    unfold wpList
    simp only [seqW] at h
    rcases guardW_sound h ha with ⟨hw, e', ha', h⟩ | ⟨hw, e', ha', h⟩
    · rw [if_pos hw]
      exact .inl (op_sound hN h ha' fun e'' v fs w' h' ha'' => seqW_sound hN hk r _ _ _ h' (ha''.put o.dst (some v) v.v (fun x hx => by cases hx; rfl)))
    · rw [if_neg (by simp [hw])]
      exact seqW_sound hN hk r _ _ _ h (ha'.put o.dst (some (.val undef)) undef (fun x hx => by cases hx; rfl))

/-! ## Bits -/
theorem testBit_bitOf (i j : Nat) : (bitOf i).testBit j = decide (i = j) := by
  show (2 ^ i).testBit j = _
  rw [Nat.testBit_two_pow]
theorem tst_iff (m i : Nat) : tst m i = m.testBit i := by
  unfold tst
  have : Nat.land m (bitOf i) = m &&& bitOf i := rfl
  rw [this]
  cases hb : m.testBit i with
  | true =>
    have : m &&& bitOf i = bitOf i := by
      apply Nat.eq_of_testBit_eq
      intro j
      rw [Nat.testBit_and, testBit_bitOf]
      by_cases hij : i = j
      · subst hij; simp [hb]
      · simp [hij]
    rw [this]; simp
  | false =>
    have : m &&& bitOf i ≠ bitOf i := by
      intro h
      have := congrArg (fun x => x.testBit i) h
      simp [Nat.testBit_and, testBit_bitOf, hb] at this
    cases hq : Nat.beq (m &&& bitOf i) (bitOf i) with
    | false => rfl
    | true => exact absurd (Nat.eq_of_beq_eq_true hq) this
theorem sub_iff (m L : Nat) : sub m L = true ↔ ∀ i, m.testBit i = true → L.testBit i = true := by
  unfold sub
  have : Nat.land m L = m &&& L := rfl
  rw [this]
  constructor
  · intro h i hi
    have h := Nat.eq_of_beq_eq_true h
    rw [← h, Nat.testBit_and] at hi
    simp at hi; exact hi.2
  · intro h
    have : m &&& L = m := by
      apply Nat.eq_of_testBit_eq
      intro i
      rw [Nat.testBit_and]
      cases hm : m.testBit i with
      | false => rfl
      | true => simp [h i hm]
    rw [this]; simp
theorem testBit_predM (l : List Edge) (i : Nat) : (predM l).testBit i = true ↔ ∃ x ∈ l, Region.binds .any x = true ∧ x.on = i := by
  induction l with
  | nil => simp [predM]
  | cons x l ih =>
    unfold predM
    cases hb : Region.binds .any x with
    | false =>
      rw [cond_false, ih]
      constructor
      · rintro ⟨y, hy, h⟩; exact ⟨y, List.mem_cons_of_mem _ hy, h⟩
      · rintro ⟨y, hy, h1, h2⟩
        rcases List.mem_cons.1 hy with rfl | hy
        · rw [hb] at h1; cases h1
        · exact ⟨y, hy, h1, h2⟩
    | true =>
      have : Nat.lor (bitOf x.on) (predM l) = bitOf x.on ||| predM l := rfl
      rw [cond_true, this, Nat.testBit_or, testBit_bitOf, Bool.or_eq_true, ih]
      constructor
      · rintro (h | ⟨y, hy, h⟩)
        · exact ⟨x, List.mem_cons_self .., hb, by simpa using h⟩
        · exact ⟨y, List.mem_cons_of_mem _ hy, h⟩
      · rintro ⟨y, hy, h1, h2⟩
        rcases List.mem_cons.1 hy with rfl | hy
        · exact .inl (by simpa using h2)
        · exact .inr ⟨y, hy, h1, h2⟩
theorem masks_get (ops : List Oper) (i : Nat) : (masks ops)[i]? = ops[i]?.map fun o => predM o.after.toList := by
  induction ops generalizing i with
  | nil => simp [masks]
  | cons o l ih => cases i <;> simp [masks, ih]
theorem mem_readyL (ms : List Nat) (i0 L i : Nat) : i ∈ readyL ms i0 L ↔ ∃ k m, ms[k]? = some m ∧ i = i0 + k ∧ L.testBit i = false ∧ sub m L = true := by
  induction ms generalizing i0 with
  | nil => simp [readyL]
  | cons m ms ih =>
    have key : i ∈ readyL (m :: ms) i0 L ↔ (i = i0 ∧ L.testBit i0 = false ∧ sub m L = true) ∨ i ∈ readyL ms (i0 + 1) L := by
      have hun : readyL (m :: ms) i0 L = bif !tst L i0 && sub m L then i0 :: readyL ms (i0 + 1) L else readyL ms (i0 + 1) L := rfl
      rw [hun]
      cases hc : (!tst L i0 && sub m L) with
      | true =>
        rw [tst_iff] at hc
        simp only [Bool.and_eq_true, Bool.not_eq_true'] at hc
        simp [hc.1, hc.2]
      | false =>
        rw [tst_iff] at hc
        simp only [cond_false]
        constructor
        · exact .inr
        · rintro (⟨rfl, h1, h2⟩ | h)
          · rw [h1, h2] at hc; cases hc
          · exact h
    rw [key, ih]
    constructor
    · rintro (⟨rfl, h1, h2⟩ | ⟨k, m', hm, rfl, h1, h2⟩)
      · exact ⟨0, m, rfl, rfl, h1, h2⟩
      · exact ⟨k + 1, m', by simpa using hm, by omega, h1, h2⟩
    · rintro ⟨k, m', hm, rfl, h1, h2⟩
      cases k with
      | zero => simp at hm; subst hm; exact .inl ⟨rfl, h1, h2⟩
      | succ k => exact .inr ⟨k, m', by simpa using hm, by omega, h1, h2⟩

/-- The list of those that have come up, as the model keeps it and as bits. -/
structure Corr (ops : List Oper) (listed : Array Bool) (L : Nat) : Prop where
  size : listed.size = ops.length
  at_ : ∀ i, listed.getD i false = L.testBit i

theorem ready_iff {ops : List Oper} {listed : Array Bool} {L : Nat} (hc : Corr ops listed L) (i : Nat) : i ∈ Region.ready .any ops.toArray listed ↔ i ∈ readyL (masks ops) 0 L := by
  rw [mem_ready, mem_readyL]
  have hD : ∀ i, i < ops.length → listed.getD i true = L.testBit i := fun i hi => by
    have := hc.at_ i
    rw [← hc.size] at hi
    simpa [Array.getD, hi] using this
  constructor
  · rintro ⟨h1, o, ho, h2⟩
    have ho' : ops[i]? = some o := by simpa using ho
    have hi : i < ops.length := (List.getElem?_eq_some_iff.1 ho').1
    refine ⟨i, predM o.after.toList, by simp [masks_get, ho'], by omega, by rw [← hD i hi]; exact h1, (sub_iff _ _).2 fun j hj => ?_⟩
    obtain ⟨x, hx, hb, rfl⟩ := (testBit_predM _ _).1 hj
    rw [← hc.at_]; exact h2 x (by simpa using hx) hb
  · rintro ⟨k, m, hm, rfl, h1, h2⟩
    rw [Nat.zero_add] at *
    rw [masks_get] at hm
    cases ho : ops[k]? with
    | none => simp [ho] at hm
    | some o =>
      simp [ho] at hm
      have hi : k < ops.length := (List.getElem?_eq_some_iff.1 ho).1
      refine ⟨by rw [hD k hi]; exact h1, o, by simpa using ho, fun x hx hb => ?_⟩
      rw [hc.at_]
      exact (sub_iff _ _).1 h2 _ (by rw [← hm]; exact (testBit_predM _ _).2 ⟨x, by simpa using hx, hb, rfl⟩)

theorem ready_nil {ops : List Oper} {listed : Array Bool} {L : Nat} (hc : Corr ops listed L) : Region.ready .any ops.toArray listed = [] ↔ readyL (masks ops) 0 L = [] := by
  rw [List.eq_nil_iff_forall_not_mem, List.eq_nil_iff_forall_not_mem]
  exact ⟨fun h i hi => h i ((ready_iff hc i).2 hi), fun h i hi => h i ((ready_iff hc i).1 hi)⟩

theorem Corr.set {ops : List Oper} {listed : Array Bool} {L i : Nat} (hc : Corr ops listed L) (hi : i < ops.length) : Corr ops (listed.setIfInBounds i true) (Nat.lor L (bitOf i)) := by
  refine ⟨by simp [hc.size], fun j => ?_⟩
  have : Nat.lor L (bitOf i) = L ||| bitOf i := rfl
  rw [this, Nat.testBit_or, testBit_bitOf, ← hc.at_ j]
  by_cases hij : i = j
  · subst hij
    have : i < listed.size := by rw [hc.size]; exact hi
    simp [this]
  · simp [Array.getElem?_setIfInBounds_ne hij, hij]

theorem Corr.start (ops : List Oper) : Corr ops (Array.replicate ops.length false) 0 := by
  refine ⟨by simp, fun i => ?_⟩
  simp [Array.getElem?_replicate]
  split <;> rfl
end

section
variable {P : Program} {D : List Deferred} {n : Nat} {e : Env} {a : Act}

/-- Whatever order is picked from here on; behind an operation that has turned the world 'U' holds. -/
def wpAnyG (P : Program) (ops : Array Oper) (Q : Exit → Act → World → Prop) (U : Nat → World → Prop) : Nat → Array Bool → Act → World → Prop
  | 0, listed, a, w => Region.ready .any ops listed = [] ∧ Q .normal a w
  | fuel + 1, listed, a, w =>
    (Region.ready .any ops listed = [] → Q .normal a w) ∧
    ∀ i ∈ Region.ready .any ops listed, wpOp P ops Q i (fun a' w' => (w' = w ∨ U i w') ∧ wpAnyG P ops Q U fuel (listed.setIfInBounds i true) a' w') a w

section
variable {ops : Array Oper} {Q : Exit → Act → World → Prop}

theorem wpAny_of_G {U : Nat → World → Prop} : ∀ (fuel : Nat) (listed : Array Bool) (a : Act) (w : World), wpAnyG P ops Q U fuel listed a w → wpAny P .any ops Q fuel listed a w
  | 0, _, _, _, h => h
  | fuel + 1, _, _, _, h => ⟨h.1, fun i hi => wpOp_mono (fun a' w' h' => wpAny_of_G fuel _ a' w' h'.2) (h.2 i hi)⟩

theorem wpAnyG_mono {U U' : Nat → World → Prop} (hU : ∀ i w, U i w → U' i w) : ∀ (fuel : Nat) (listed : Array Bool) (a : Act) (w : World), wpAnyG P ops Q U fuel listed a w → wpAnyG P ops Q U' fuel listed a w
  | 0, _, _, _, h => h
  | fuel + 1, _, _, _, h => ⟨h.1, fun i hi => wpOp_mono (fun a' w' h' => ⟨h'.1.imp id (hU i w'), wpAnyG_mono hU fuel _ a' w' h'.2⟩) (h.2 i hi)⟩

theorem wpAnyG_done {U : Nat → World → Prop} {listed : Array Bool} {a : Act} {w : World} (hr : Region.ready .any ops listed = []) (h : Q .normal a w) : ∀ fuel, wpAnyG P ops Q U fuel listed a w
  | 0 => ⟨hr, h⟩
  | _ + 1 => ⟨fun _ => h, by rw [hr]; simp⟩

/-- An operation that may come up now may be taken first, if it yields its value in this world and in every one to which an operation that need not come behind it may lead. -/
theorem wpAnyG_first {U : Nat → World → Prop} {F : World → Prop} {i : Nat} {oi : Oper} {v : Value} (hi : ops[i]? = some oi) (hsel : ∀ (j : Nat) (o : Oper) cs b, ops[j]? = some o → o.op ≠ .select cs b)
    (hQ : ∀ c a w, Q (.panic c) (a.put oi.dst v) w → Q (.panic c) a w)
    (hU : ∀ j oj w, ops[j]? = some oj → (∀ e ∈ oj.after, Region.binds .any e = true → e.on ≠ i) → U j w → F w) :
    ∀ (fuel : Nat) (listed : Array Bool) (a : Act) (w : World),
      (∀ j oj, ops[j]? = some oj → j ≠ i → listed.getD j true = false → (∀ e ∈ oj.after, Region.binds .any e = true → e.on ≠ i) → oi.apart ops oj = true) →
      i ∈ Region.ready .any ops listed → YieldsIf P ops F oi v a → F w →
      wpAnyG P ops Q U fuel (listed.setIfInBounds i true) (a.put oi.dst v) w → wpAnyG P ops Q U (fuel + 1) listed a w := by
  intro fuel
  induction fuel with
  | zero =>
    intro listed a w _ hr hy hF H
    refine ⟨fun h => (by rw [h] at hr; cases hr), fun j hj => ?_⟩
    by_cases hji : j = i
    · subst hji; exact hy.wpOp hi hF ⟨.inl rfl, H⟩
    · have := ready_mono hj hji
      rw [H.1] at this
      cases this
  | succ fuel ih =>
    intro listed a w hfree hr hy hF H
    refine ⟨fun h => (by rw [h] at hr; cases hr), fun j hj => ?_⟩
    by_cases hji : j = i
    · subst hji; exact hy.wpOp hi hF ⟨.inl rfl, H⟩
    · have h1 := H.2 j (ready_mono hj hji)
      obtain ⟨hjun, oj, hoj, hall⟩ := mem_ready.1 hj
      have hnot : ∀ e ∈ oj.after, Region.binds .any e = true → e.on ≠ i := fun e he hb heq => by
        have h1 := hall e he hb
        have h0 := (mem_ready.1 hr).1
        rw [heq] at h1
        rcases Nat.lt_or_ge i listed.size with h' | h'
        · simp [h'] at h0 h1; rw [h0] at h1; cases h1
        · simp [Array.getElem?_eq_none h'] at h1
      have h2 := wpOp_putIf hoj (hfree j oj hoj hji hjun hnot) (fun cs b => hsel i oi cs b hi) (fun cs b => hsel j oj cs b hoj) hQ hy h1
      have hfree' : ∀ k ok, ops[k]? = some ok → k ≠ i → (listed.setIfInBounds j true).getD k true = false →
          (∀ e ∈ ok.after, Region.binds .any e = true → e.on ≠ i) → oi.apart ops ok = true := fun k ok hk hki hun hno => by
        refine hfree k ok hk hki ?_ hno
        by_cases hjk : j = k
        · subst hjk; exact hjun
        · rw [getD_set_ne true hjk] at hun; exact hun
      refine wpOp_mono (fun a' w' h3 => ⟨h3.2.1, ?_⟩) h2
      have hF' : F w' := by
        rcases h3.2.1 with rfl | hu
        · exact hF
        · exact hU j oj w' hoj hnot hu
      refine ih (listed.setIfInBounds j true) a' w' hfree' (ready_mono hr (Ne.symm hji)) h3.1 hF' ?_
      rw [Array.setIfInBounds_comm _ _ hji]
      exact h3.2.2
end

theorem noSel_spec : ∀ {l : List Oper}, noSel l = true → ∀ o ∈ l, ∀ cs b, o.op ≠ .select cs b
  | [], _, o, ho, _, _ => by cases ho
  | x :: l, h, o, ho, cs, b => by
    simp only [noSel, Bool.and_eq_true] at h
    rcases List.mem_cons.1 ho with rfl | ho
    · intro heq; rw [heq] at h; exact absurd h.1 (by simp)
    · exact noSel_spec h.2 o ho cs b

theorem opsOf_eq {o : Op} (hs : ∀ cs b, o ≠ .select cs b) : o.operands.toList = opsOf o := by
  cases o <;> simp only [Op.operands, opsOf] <;> first | rfl | skip
  all_goals try simp
  all_goals first
    | (rename_i c; obtain ⟨callee, args, tys⟩ := c; cases callee <;> simp [Call.operands])
    | exact absurd rfl (hs _ _)

theorem tmpIn_iff (d : Nat) (l : List Operand) : tmpIn d l = true ↔ .tmp d ∈ l := by
  induction l with
  | nil => simp [tmpIn]
  | cons x l ih =>
    cases x <;> simp [tmpIn, ih]
    · constructor
      · rintro (h | h)
        · exact .inl h.symm
        · exact .inr h
      · rintro (h | h)
        · exact .inl h.symm
        · exact .inr h

theorem looksB_iff {ops : List Oper} {o : Oper} (hs : ∀ cs b, o.op ≠ .select cs b) (d : Nat) : looksB ops o d = true ↔ d ∈ o.looksAt ops.toArray := by
  unfold looksB Oper.looksAt
  rw [List.mem_append, Bool.or_eq_true, tmpIn_iff, opsOf_eq hs, List.mem_filterMap]
  have h1 : (Operand.tmp d ∈ opsOf o.op) ↔ ∃ x ∈ opsOf o.op, (match x with | .tmp t => some t | _ => none) = some d := by
    constructor
    · exact fun h => ⟨_, h, rfl⟩
    · rintro ⟨x, hx, h⟩
      cases x <;> simp at h
      subst h; exact hx
  rw [h1]
  have h2 : ((match o.guard with
    | some (g, _) => match ops[g]? with
      | some x => match x.dst with | some t => Nat.beq t d | none => false
      | none => false
    | none => false) = true) ↔ d ∈ (match o.guard with | some (g, _) => ((ops.toArray[g]?).bind (·.dst)).toList | none => []) := by
    cases o.guard with
    | none => simp
    | some q =>
      obtain ⟨g, b⟩ := q
      simp only [List.getElem?_toArray]
      cases ops[g]? with
      | none => simp
      | some x =>
        cases hx : x.dst with
        | none => simp [hx]
        | some t =>
          simp only [Option.bind_some, hx, Option.toList_some, List.mem_singleton]
          constructor
          · exact fun h => (Nat.eq_of_beq_eq_true h).symm
          · rintro rfl; simp
  exact or_congr Iff.rfl h2

theorem apart_of_B {ops : List Oper} {x y : Oper} (hx : ∀ cs b, x.op ≠ .select cs b) (hy : ∀ cs b, y.op ≠ .select cs b) (h : apartB ops x y = true) : x.apart ops.toArray y = true := by
  unfold apartB at h
  unfold Oper.apart
  rw [Bool.and_eq_true] at h ⊢
  refine ⟨?_, ?_⟩
  · have h := h.1
    cases hd : x.dst with
    | none => rfl
    | some d =>
      simp only [hd, Bool.and_eq_true, Bool.not_eq_true'] at h ⊢
      refine ⟨?_, ?_⟩
      · have : ¬ d ∈ y.looksAt ops.toArray := fun hm => by rw [← looksB_iff hy] at hm; rw [hm] at h; exact absurd h.1 (by simp)
        simpa using this
      · cases hyd : y.dst with
        | none => simp
        | some t =>
          have h2 := h.2
          simp only [hyd, Bool.not_eq_true'] at h2
          simpa using Nat.ne_of_beq_eq_false h2
  · have h := h.2
    cases hd : y.dst with
    | none => rfl
    | some d =>
      simp only [hd, Bool.not_eq_true'] at h ⊢
      have : ¬ d ∈ x.looksAt ops.toArray := fun hm => by rw [← looksB_iff hx] at hm; rw [hm] at h; cases h
      simpa using this

theorem freeB_spec {ops : List Oper} {x : Oper} {i L : Nat} : ∀ (l : List Oper) (ms : List Nat) (j0 : Nat), ms.length = l.length → freeB ops x i L l ms j0 = true →
    ∀ k y m, l[k]? = some y → ms[k]? = some m → (j0 + k = i ∨ L.testBit (j0 + k) = true ∨ m.testBit i = true ∨ apartB ops x y = true)
  | [], _, _, _, _, k, y, m, hy, _ => by simp at hy
  | y0 :: l, [], _, hl, _, _, _, _, _, _ => by simp at hl
  | y0 :: l, m0 :: ms, j0, hl, h, k, y, m, hy, hm => by
    simp only [freeB, Bool.and_eq_true, Bool.or_eq_true, tst_iff] at h
    cases k with
    | zero =>
      simp at hy hm
      subst hy; subst hm
      rcases h.1 with ((h | h) | h) | h
      · exact .inl (by simpa using Nat.eq_of_beq_eq_true h)
      · exact .inr (.inl h)
      · exact .inr (.inr (.inl h))
      · exact .inr (.inr (.inr h))
    | succ k =>
      have := freeB_spec l ms (j0 + 1) (by simpa using hl) h.2 k y m (by simpa using hy) (by simpa using hm)
      rwa [show j0 + 1 + k = j0 + (k + 1) by omega] at this

theorem pickLoose_spec {ops : List Oper} {ms : List Nat} {L : Nat} : ∀ {l : List Nat} {i : Nat} {o : Oper}, pickLoose P ops ms L l = some (i, o) →
    i ∈ l ∧ ops[i]? = some o ∧ loose P o.op = true ∧ freeB ops o i L ops ms 0 = true
  | [], i, o, h => by cases h
  | j :: l, i, o, h => by
    unfold pickLoose at h
    cases hj : ops[j]? with
    | none =>
      simp only [hj] at h
      obtain ⟨h1, h2⟩ := pickLoose_spec h
      exact ⟨List.mem_cons_of_mem _ h1, h2⟩
    | some x =>
      simp only [hj] at h
      cases hc : (loose P x.op && freeB ops x j L ops ms 0) with
      | false =>
        rw [hc, cond_false] at h
        obtain ⟨h1, h2⟩ := pickLoose_spec h
        exact ⟨List.mem_cons_of_mem _ h1, h2⟩
      | true =>
        rw [hc, cond_true] at h
        cases h
        rw [Bool.and_eq_true] at hc
        exact ⟨List.mem_cons_self .., hj, hc.1, hc.2⟩

theorem chkF_sound {fs : Facts} {k : W} {w : World} (h : chkW.chkF fs k w) : (∀ p ∈ fs, w.cell? p.1 = some p.2) ∧ k w := by
  induction fs with
  | nil => exact ⟨by simp, h⟩
  | cons p fs ih =>
    obtain ⟨p1, p2⟩ := p
    simp only [chkW.chkF] at h
    obtain ⟨h1, h2⟩ := h
    obtain ⟨h3, h4⟩ := ih h2
    refine ⟨fun q hq => ?_, h4⟩
    rcases List.mem_cons.1 hq with rfl | hq
    · exact h1
    · exact h3 q hq

/-- What holds behind an operation with these predecessors. -/
def Held (H : List (Nat × Facts)) (m : Nat) (w : World) : Prop := ∀ q ∈ H, m.testBit q.1 = false → ∀ p ∈ q.2, w.cell? p.1 = some p.2
theorem chkW_sound {m : Nat} {H : List (Nat × Facts)} {k : W} {w : World} (h : chkW m H k w) : Held H m w ∧ k w := by
  induction H with
  | nil => exact ⟨fun q hq => (by cases hq), h⟩
  | cons q H ih =>
    obtain ⟨i, fs⟩ := q
    unfold chkW at h
    cases ht : tst m i with
    | true =>
      rw [ht, cond_true] at h
      obtain ⟨h1, h2⟩ := ih h
      refine ⟨fun q hq hm => ?_, h2⟩
      rcases List.mem_cons.1 hq with rfl | hq
      · rw [← tst_iff, ht] at hm; cases hm
      · exact h1 q hq hm
    | false =>
      rw [ht, cond_false] at h
      obtain ⟨h3, h⟩ := chkF_sound h
      obtain ⟨h1, h2⟩ := ih h
      refine ⟨fun q hq hm => ?_, h2⟩
      rcases List.mem_cons.1 hq with rfl | hq
      · exact h3
      · exact h1 q hq hm

theorem allW_sound {l : List W} {w : World} (h : allW l w) : ∀ x ∈ l, x w := by
  induction l with
  | nil => intro x hx; cases hx
  | cons y l ih =>
    cases l with
    | nil => intro x hx; rcases List.mem_cons.1 hx with rfl | hx
             · exact h
             · cases hx
    | cons z l =>
      intro x hx
      rcases List.mem_cons.1 hx with rfl | hx
      · exact h.1
      · exact ih h.2 x hx

theorem mem_effL {ops : List Oper} {ms : List Nat} {H : List (Nat × Facts)} {e : Env} {rec : Nat → Env → W} {l : List Nat} {i : Nat} (hi : i ∈ l) :
    (match ops[i]?, ms[i]? with
    | some o, some m => guardW ops o e (fun e => opW P o e fun e v _ => chkW m H (rec i (put n e o.dst (some v)))) (fun e => rec i (put n e o.dst (some (.val undef))))
    | _, _ => bot) ∈ effL P n ops ms H e rec l := by
  induction l with
  | nil => cases hi
  | cons j l ih =>
    unfold effL
    rcases List.mem_cons.1 hi with rfl | hi
    · exact List.mem_cons_self ..
    · exact List.mem_cons_of_mem _ (ih hi)

/-- What 'U' is, for these facts. -/
def UH (ops : List Oper) (H : List (Nat × Facts)) (j : Nat) (w : World) : Prop := ∀ m, (masks ops)[j]? = some m → Held H m w

theorem drawW_sound (hN : NoNum P) {ops : List Oper} (hs : noSel ops = true) {Q : Exit → Act → World → Prop} (hQ : ∀ c a a' w, Q (.panic c) a w → Q (.panic c) a' w) {k : Env → W}
    (hk : ∀ e a w, k e w → Agr D n e a → Q .normal a w) :
    ∀ (f : Nat) (L : Nat) (H : List (Nat × Facts)) (e : Env) (a : Act) (w : World) (listed : Array Bool), drawW P n ops (masks ops) k f L H e w → Agr D n e a → Corr ops listed L →
      wpAnyG P ops.toArray Q (UH ops H) f listed a w
  | 0, L, H, e, a, w, listed, h, ha, hc => by
    unfold drawW at h
    cases hr : readyL (masks ops) 0 L with
    | nil => simp only [hr] at h; exact ⟨(ready_nil hc).2 hr, hk e a w h ha⟩
    | cons x l => simp only [hr] at h; exact False.elim h
  | f + 1, L, H, e, a, w, listed, h, ha, hc => by
    unfold drawW at h
    cases hr : readyL (masks ops) 0 L with
    | nil => simp only [hr] at h; exact wpAnyG_done ((ready_nil hc).2 hr) (hk e a w h ha) _
    | cons x l =>
      simp only [hr] at h
      have hmem : ∀ i, i ∈ x :: l ↔ i ∈ Region.ready .any ops.toArray listed := fun i => by rw [ready_iff hc, hr]
      cases hp : pickLoose P ops (masks ops) L (x :: l) with
      | some q =>
        obtain ⟨i, o⟩ := q
        simp only [hp] at h
        obtain ⟨h1, h2, h3, h4⟩ := pickLoose_spec hp
        have hi : i < ops.length := (List.getElem?_eq_some_iff.1 h2).1
        have hoi : ops.toArray[i]? = some o := by simpa using h2
        have hsel : ∀ (j : Nat) (o : Oper) cs b, ops.toArray[j]? = some o → o.op ≠ .select cs b := fun j o cs b hj =>
          noSel_spec hs o (List.mem_of_getElem? (by simpa using hj)) cs b
        have hfree : ∀ j oj, ops.toArray[j]? = some oj → j ≠ i → listed.getD j true = false → (∀ e ∈ oj.after, Region.binds .any e = true → e.on ≠ i) → o.apart ops.toArray oj = true := by
          intro j oj hj hji hun hno
          have hj' : ops[j]? = some oj := by simpa using hj
          have hjlt : j < ops.length := (List.getElem?_eq_some_iff.1 hj').1
          have := freeB_spec ops (masks ops) 0 (by
            have : ∀ l : List Oper, (masks l).length = l.length := fun l => by induction l with
              | nil => rfl
              | cons x l ih => simp [masks, ih]
            exact this ops) h4 j oj (predM oj.after.toList) hj' (by simp [masks_get, hj'])
          rw [Nat.zero_add] at this
          rcases this with h | h | h | h
          · exact absurd h hji
          · rw [← hc.at_] at h
            have hjl : j < listed.size := by rw [hc.size]; exact hjlt
            simp [Array.getD, hjl] at h hun
            rw [hun] at h; cases h
          · obtain ⟨x, hx, hb, hon⟩ := (testBit_predM _ _).1 h
            exact absurd hon (hno x (by simpa using hx) hb)
          · exact apart_of_B (hsel i o · · hoi) (hsel j oj · · hj) h
        have hrd : i ∈ Region.ready .any ops.toArray listed := (hmem i).1 h1
        rcases guardW_sound h ha with ⟨hw, e', ha', h⟩ | ⟨hw, e', ha', h⟩
        · obtain ⟨e'', v, fs, hy, hf, ha'', h⟩ := loose_sound h3 h ha'
          have ih := drawW_sound hN hs hQ hk f _ _ _ _ w (listed.setIfInBounds i true) h (ha''.put o.dst (some v) v.v (fun x hx => by cases hx; rfl)) (hc.set hi)
          have ih' : wpAnyG P ops.toArray Q (UH ops ((i, fs) :: H)) f (listed.setIfInBounds i true) (a.put o.dst v.v) w := by
            cases fs with
            | nil => exact wpAnyG_mono (fun j w hu m hm q hq hqm => by
                rcases List.mem_cons.1 hq with rfl | hq
                · intro p hp; cases hp
                · exact hu m hm q hq hqm) _ _ _ _ ih
            | cons _ _ => exact ih
          have := wpAnyG_first (F := fun w => ∀ p ∈ fs, w.cell? p.1 = some p.2) (U := UH ops ((i, fs) :: H)) hoi hsel (fun c a w h => hQ c _ a w h)
            (fun j oj w hj hno hu => by
              have hj' : ops[j]? = some oj := by simpa using hj
              refine hu (predM oj.after.toList) (by simp [masks_get, hj']) (i, fs) (List.mem_cons_self ..) ?_
              cases hb : (predM oj.after.toList).testBit i with
              | false => rfl
              | true =>
                obtain ⟨x, hx, hb, hon⟩ := (testBit_predM _ _).1 hb
                exact absurd hon (hno x (by simpa using hx) hb))
            f listed a w hfree hrd (.inl ⟨hw, fun w hw => hy w hw⟩) hf ih'
          exact wpAnyG_mono (fun j w hu m hm q hq hqm => hu m hm q (List.mem_cons_of_mem _ hq) hqm) _ _ _ _ this
        · have ih := drawW_sound hN hs hQ hk f _ _ _ _ w (listed.setIfInBounds i true) h (ha'.put o.dst (some (.val undef)) undef (fun x hx => by cases hx; rfl)) (hc.set hi)
          exact wpAnyG_first (F := fun _ => True) (U := UH ops H) hoi hsel (fun c a w h => hQ c _ a w h) (fun _ _ _ _ _ _ => trivial) f listed a w hfree hrd (.inr ⟨hw, rfl⟩) trivial ih
      | none =>
        simp only [hp] at h
        have hall := allW_sound h
        refine ⟨fun h0 => ?_, fun i hi => ?_⟩
        · rw [(ready_nil hc)] at h0; rw [h0] at hr; cases hr
        · have hx := hall _ (mem_effL ((hmem i).2 hi))
          obtain ⟨_, o, ho, _⟩ := mem_ready.1 hi
          have ho' : ops[i]? = some o := by simpa using ho
          have hilt : i < ops.length := (List.getElem?_eq_some_iff.1 ho').1
          have hm : (masks ops)[i]? = some (predM o.after.toList) := by simp [masks_get, ho']
          simp only [ho', hm] at hx
          unfold wpOp
          simp only [ho]
          rcases guardW_sound hx ha with ⟨hw, e', ha', hx⟩ | ⟨hw, e', ha', hx⟩
          · rw [if_pos hw]
            refine .inl (op_sound hN hx ha' fun e'' v fs w' h' ha'' => ?_)
            obtain ⟨hh, h'⟩ := chkW_sound h'
            refine ⟨.inr fun m hm' => ?_, drawW_sound hN hs hQ hk f _ _ _ _ w' _ h' (ha''.put o.dst (some v) v.v (fun x hx => by cases hx; rfl)) (hc.set hilt)⟩
            rw [hm] at hm'; cases hm'; exact hh
          · rw [if_neg (by simp [hw])]
            exact ⟨by simp, drawW_sound hN hs hQ hk f _ _ _ _ w _ hx (ha'.put o.dst (some (.val undef)) undef (fun x hx => by cases hx; rfl)) (hc.set hilt)⟩
end

section
variable {P : Program} {D : List Deferred} {n : Nat}

/-- What a piece of code is to come to, for the model. -/
def KQ (D : List Deferred) (n : Nat) (K : Ks) : Exit → Act → World → Prop
  | .normal, a, w => ∃ e, Agr D n e a ∧ K.nrm e w
  | .ret, a, w => ∃ e, Agr D n e a ∧ K.ret e w
  | .exit i, a, w => ∃ e, Agr D n e a ∧ K.ext i e w
  | _, _, _ => False

theorem appE_sound {R : Type} {ty : Ty} {f : ty.F R} {v : EV} {g : R → W} {w : World} (h : appE ty f v g w) : ∃ d : ty.D, v.v = ty.mk d ∧ g (ty.unc f d) w := by
  unfold appE at h
  split at h
  · obtain ⟨hk, h'⟩ := cond_bot h
    have := kEq_true hk; subst this; exact ⟨_, rfl, h'⟩
  · obtain ⟨hk, h'⟩ := cond_bot h
    have := of_decide_eq_true hk; subst this; exact ⟨_, rfl, h'⟩
  · exact ⟨_, rfl, h⟩
  · exact ⟨_, rfl, h⟩
  · exact ⟨_, rfl, h⟩
  · exact ⟨(_, _, _), rfl, h⟩
  · exact ⟨_, rfl, h⟩
  · exact ⟨_, rfl, h⟩
  · exact ⟨_, rfl, h⟩
  · exact False.elim h

theorem agr_bind_aux (e : Env) : ∀ (l : List (Tmp × Ty)) (f : Fn W (tysOf l)) (w : World), applyE l f e w →
    ∃ s : Tup (tysOf l), unc _ f s w ∧ ∀ t v, mkEnv (bindE l (vals _ s)) t = some v → ∃ v', e t = some v' ∧ v'.v = v.v
  | [], f, w, h => ⟨(), h, fun t v hv => by simp [bindE, mkEnv] at hv⟩
  | (t0, ty) :: l, f, w, h => by
    simp only [applyE] at h
    cases he : e t0 with
    | none => simp only [he] at h; exact False.elim h
    | some v0 =>
      simp only [he] at h
      obtain ⟨d, hd, h⟩ := appE_sound h
      obtain ⟨s, hs, hb⟩ := agr_bind_aux e l _ w h
      refine ⟨(d, s), hs, fun t v hv => ?_⟩
      simp only [tysOf, vals, bindE, mkEnv] at hv
      cases hb' : Nat.beq t t0 with
      | true =>
        simp only [hb', cond_true, Option.some.injEq] at hv
        have := Nat.eq_of_beq_eq_true hb'; subst this
        refine ⟨v0, he, ?_⟩
        rw [← hv, mkE_v, hd]
      | false =>
        simp only [hb', cond_false] at hv
        exact hb t v hv

theorem agr_bind {e : Env} {a : Act} (ha : Agr D n e a) {l : List (Tmp × Ty)} {f : Fn W (tysOf l)} {w : World} (h : applyE l f e w) :
    ∃ s : Tup (tysOf l), unc _ f s w ∧ Agr D n (mkEnv (bindE l (vals _ s))) a := by
  obtain ⟨s, h1, h2⟩ := agr_bind_aux e l f w h
  refine ⟨s, h1, ha.defers, ha.size, fun t v hv => ?_⟩
  obtain ⟨v', h3, h4⟩ := h2 t v hv
  rw [ha.holds t v' h3, h4]

/-- A loop, by a relation with a number that goes down. -/
theorem wp_loop_rel {c : Code} {Q : Exit → Act → World → Prop} (R : Nat → Act → World → Prop)
    (round : ∀ m a w, R m a w → c.wp P (Exit.then (fun a' w' => ∃ m', m' < m ∧ R m' a' w') Q) a w) {m : Nat} {a : Act} {w : World} (h₀ : R m a w) : (Code.loop c).wp P Q a w := by
  intro b k cs
  have key : ∀ m a w, R m a w → ∃ e a' w', Q e a' w' ∧ Arrives P (lone (b.at a (.code c :: .inLoop c :: k)) cs w) b k cs e a' w' := by
    intro m
    induction m using Nat.strongRecOn with
    | _ m ih =>
      intro a w hI
      obtain ⟨e, a₁, w₁, hq, harr⟩ := round m a w hI b (.inLoop c :: k) cs
      cases e with
      | normal =>
        obtain ⟨m', hlt, hI₁⟩ := hq
        obtain ⟨e₂, a₂, w₂, hq₂, harr₂⟩ := ih m' hlt a₁ w₁ hI₁
        exact ⟨e₂, a₂, w₂, hq₂, .of_steps (Steps.trans harr (.one step_inLoop)) harr₂⟩
      | exit id => exact ⟨_, a₁, w₁, hq, .pass (x := .inLoop c) rfl (fun _ _ => .inl (by simp)) harr⟩
      | goto l => exact ⟨_, a₁, w₁, hq, .pass (x := .inLoop c) rfl (fun _ _ => .inl (by simp)) harr⟩
      | ret => exact ⟨_, a₁, w₁, hq, .pass (x := .inLoop c) rfl (fun _ _ => .inl (by simp)) harr⟩
      | panic ch => exact ⟨_, a₁, w₁, hq, .pass (x := .inLoop c) rfl (fun _ _ => .inl (by simp)) harr⟩
      | outgrown => exact ⟨_, a₁, w₁, hq, .pass (x := .inLoop c) rfl (fun _ _ => .inl (by simp)) harr⟩
  obtain ⟨e, a', w', hq, harr⟩ := key m a w h₀
  exact ⟨e, a', w', hq, .of_steps (.one step_loop) harr⟩

theorem comp_sound (hN : NoNum P) (hm : P.follows .mixedOrders = true) (A : Ann) : ∀ (c : Code) (K : Ks) (e : Env) (a : Act) (w : World), comp P n A c K e w → Agr D n e a → c.wp P (KQ D n K) a w := by
  intro c
  induction c with
  | skip => intro K e a w h ha; exact wp_skip ⟨e, ha, h⟩
  | ret => intro K e a w h ha; exact wp_ret ⟨e, ha, h⟩
  | exit i => intro K e a w h ha; exact wp_exit ⟨e, ha, h⟩
  | region id ops draw =>
    intro K e a w h ha
    simp only [comp] at h
    cases draw with
    | true =>
      rw [cond_true] at h
      obtain ⟨hs, h⟩ := cond_bot h
      refine wp_region_any hm ?_
      have := drawW_sound (Q := KQ D n K) hN hs (fun _ _ _ _ h => h) (fun e a w h ha => ⟨e, ha, h⟩) ops.toList.length 0 [] e a w.drew (Array.replicate ops.size false) h ha (by
        have := Corr.start ops.toList; simpa using this)
      have := wpAny_of_G _ _ _ _ this
      simpa using this
    | false =>
      rw [cond_false] at h
      refine wp_region_list ?_
      have := seqW_sound (Q := KQ D n K) hN (fun e a w h ha => ⟨e, ha, h⟩) ops.toList e a w h ha
      simpa using this
  | seq x y ihx ihy =>
    intro K e a w h ha
    refine wp_seq (wp_mono (ihx _ e a w h ha) fun ex a' w' q => ?_)
    cases ex <;> first | exact q | (obtain ⟨e', ha', h'⟩ := q; exact ihy K e' a' w' h' ha')
  | cond c x y ihx ihy =>
    intro K e a w h ha
    simp only [comp] at h
    generalize hc : ev e c = oc at h
    split at h
    · have hc' := ev_agr ha hc
      rcases BIf_split h with ⟨rfl, h⟩ | ⟨rfl, h⟩
      · exact wp_cond_true hc' (ihx K e a w h ha)
      · exact wp_cond_false hc' (ihy K e a w h ha)
    · exact False.elim h
  | block id c ih =>
    intro K e a w h ha
    refine wp_block (wp_mono (ih _ e a w h ha) fun ex a' w' q => ?_)
    cases ex <;> first | exact q | skip
    obtain ⟨e', ha', h'⟩ := q
    rename_i i
    simp only at h'
    cases hi : Nat.beq i id with
    | true =>
      rw [hi, cond_true] at h'
      have := Nat.eq_of_beq_eq_true hi
      simp only [Exit.inBlock, this, if_true]
      exact ⟨e', ha', h'⟩
    | false =>
      rw [hi, cond_false] at h'
      simp only [Exit.inBlock, Nat.ne_of_beq_eq_false hi, if_false]
      exact ⟨e', ha', h'⟩
  | loop c ih =>
    intro K e a w h ha
    simp only [comp] at h
    obtain ⟨s0, h, ha0⟩ := agr_bind ha h
    unfold Loop at h
    rw [unc_cur] at h
    obtain ⟨I, μ, hI, hround⟩ := h
    refine wp_loop_rel (fun m a w => ∃ s, I s w ∧ Agr D n (mkEnv (bindE (annOf A (fstR c)) (vals _ s))) a ∧ μ s w = m) ?_ ⟨s0, hI, ha0, rfl⟩
    rintro m a w ⟨s, hI', ha', rfl⟩
    have hr := hround s w hI'
    rw [unc_abs] at hr
    refine wp_mono (ih _ _ a w hr ha') fun ex a' w' q => ?_
    cases ex <;> first | exact q | skip
    obtain ⟨e', ha'', h'⟩ := q
    obtain ⟨s', hs', hag⟩ := agr_bind ha'' h'
    rw [unc_cur] at hs'
    exact ⟨_, hs'.2, s', hs'.1, hag, rfl⟩
  | _ => intro K e a w h ha; exact False.elim h

theorem mkEnv_args : ∀ (i : Nat) (ts : List TypeId) (vs : List Value) (t : Nat) (v : EV), mkEnv (argsE P i ts vs) t = some v → i ≤ t ∧ vs[t - i]? = some v.v
  | i, [], [], t, v, h => by simp [argsE, mkEnv] at h
  | i, [], u :: vs, t, v, h => by
    simp only [argsE, mkEnv] at h
    cases hb : Nat.beq t i with
    | true =>
      rw [hb, cond_true] at h
      have := Nat.eq_of_beq_eq_true hb; subst this
      cases h
      simp [EV.v]
    | false =>
      rw [hb, cond_false] at h
      have hne := Nat.ne_of_beq_eq_false hb
      obtain ⟨h1, h2⟩ := mkEnv_args (i + 1) [] vs t v h
      refine ⟨by omega, ?_⟩
      rw [show t - i = (t - (i + 1)) + 1 by omega]
      simpa using h2
  | i, x :: ts, [], t, v, h => by simp [argsE, mkEnv] at h
  | i, x :: ts, u :: vs, t, v, h => by
    simp only [argsE, mkEnv] at h
    cases hb : Nat.beq t i with
    | true =>
      rw [hb, cond_true] at h
      have := Nat.eq_of_beq_eq_true hb; subst this
      cases h
      simp [S1.mkE_v]
    | false =>
      rw [hb, cond_false] at h
      have hne := Nat.ne_of_beq_eq_false hb
      obtain ⟨h1, h2⟩ := mkEnv_args (i + 1) ts vs t v h
      refine ⟨by omega, ?_⟩
      rw [show t - i = (t - (i + 1)) + 1 by omega]
      simpa using h2

theorem resW_sound {e : Env} {a : Act} (ha : Agr D n e a) : ∀ (l : List ResultVar) (k : List Value → W) (w : World), resW P l e k w →
    ∃ vs, k vs w ∧ (l.mapM fun (r : ResultVar) => (match r with | .tmp t => pure (a.tmps.getD t undef) | .cell p t => do loadVar t (← asAddr (a.tmps.getD p undef)) : Sem Value)).run P w = .ok vs w
  | [], k, w, h => ⟨[], h, by simp⟩
  | .tmp t :: l, k, w, h => by
    simp only [resW] at h
    cases ht : e t with
    | none => simp only [ht] at h; exact False.elim h
    | some v =>
      simp only [ht] at h
      obtain ⟨vs, h1, h2⟩ := resW_sound ha l _ w h
      refine ⟨_, h1, ?_⟩
      simp only [List.mapM_cons, Sem.run_bind, Sem.run_pure, Result.andThen_ok]
      rw [h2]
      simp [ha.holds t v ht]
  | .cell p t :: l, k, w, h => by
    simp only [resW] at h
    generalize hp : e p = op at h
    split at h
    · rename_i q
      obtain ⟨v, fs, h1, h2, h3⟩ := loadW_sound h
      obtain ⟨vs, h4, h5⟩ := resW_sound ha l _ w h3
      refine ⟨_, h4, ?_⟩
      have hq : a.tmps.getD p undef = .pointer (some q) := ha.holds p _ hp
      have hq' : (asAddr (a.tmps.getD p undef)).run P w = .ok q w := by rw [hq]; rfl
      simp only [List.mapM_cons, Sem.run_bind, hq', Result.andThen_ok, h1 w h2]
      rw [h5]
      simp
    · exact False.elim h

theorem run_results {fn : Func} {e : Env} {a : Act} (ha : Agr D n e a) {k : List Value → W} {w : World} (h : resW P fn.results.toList e k w) : ∃ vs, k vs w ∧ (results fn a.tmps).run P w = .ok (one? vs) w := by
  obtain ⟨vs, h1, h2⟩ := resW_sound ha _ _ _ h
  refine ⟨vs, h1, ?_⟩
  unfold results
  rw [Array.mapM_eq_mapM_toList]
  simp only [Sem.run_bind, Sem.run_map]
  refine Eq.trans (congrArg (fun z => Result.andThen (Result.andThen z _) _) h2) ?_
  simp only [Result.andThen_ok, Sem.run_pure]
  congr 1
  cases vs with
  | nil => rfl
  | cons v vs => cases vs with
    | nil => rfl
    | cons u vs => simp [one?]

/-- **THE ENGINE's WORD**: what 'compF' asks is enough for a call. -/
theorem calls_of_compF (hN : NoNum P) (hm : P.follows .mixedOrders = true) (A : Ann) {f : FuncId} {fn : Func} {body : Code} {args : List Value} {w : World} {R : Ending → World → Prop}
    (hf : P.funcs[f]? = some fn) (hb : fn.body = some body) (hl : args.length ≤ fn.ntmps) (h : compF P fn A body args (fun v w => R (.returned v) w) w) : Calls P f args.toArray w R := by
  refine calls_of_wp hf hb (wp_mono (comp_sound (D := []) (n := fn.ntmps) hN hm A body _ _ _ w h ?_) fun ex a w' q => ?_)
  · refine ⟨rfl, by simp; omega, fun t v hv => ?_⟩
    obtain ⟨_, h2⟩ := mkEnv_args 0 _ _ t v hv
    rw [Nat.sub_zero] at h2
    have hlt : t < args.length := (List.getElem?_eq_some_iff.1 h2).1
    have h3 : args[t] = v.v := by rw [List.getElem?_eq_getElem hlt] at h2; exact Option.some.inj h2
    simp [Array.getElem?_append, hlt, h3]
  · cases ex <;> simp only [KQ] at q
    all_goals first
      | (obtain ⟨e, ha, q⟩ := q
         obtain ⟨vs, h1, h2⟩ := run_results ha q
         exact ⟨ha.defers, _, h2, h1⟩)
      | (obtain ⟨e, ha, q⟩ := q; exact False.elim q)
end

/-- A loop's rule. -/
theorem Loop_intro {w : World} {ts : List Ty} {body : Fn W ts → Fn W ts} (I : Tup ts → W) (μ : Tup ts → World → Nat) {s : Tup ts} (h : I s w)
    (hr : ∀ s w, I s w → unc ts (body (cur ts fun s' w' => I s' w' ∧ μ s' w' < μ s w)) s w) : unc ts (Loop ts body) s w := by
  unfold Loop
  rw [unc_cur]
  exact ⟨I, μ, h, hr⟩
/-- The program's own functions with a body, asked by their names. -/
def numB : List Func → Bool
  | [] => true
  | fn :: l => (match fn.body with | none => true | some _ => !(fn.name == "runtime.NumGoroutine")) && numB l
theorem noNum_of {P : Program} (h : numB P.funcs.toList = true) : NoNum P := by
  intro g fn hg hb
  have hm : fn ∈ P.funcs.toList := List.mem_of_getElem? (by rw [Array.getElem?_toList]; exact hg)
  generalize P.funcs.toList = l at h hm
  induction l with
  | nil => cases hm
  | cons x l ih =>
    simp only [numB, Bool.and_eq_true] at h
    rcases List.mem_cons.1 hm with rfl | hm
    · have h1 := h.1
      cases hbb : fn.body with
      | none => rw [hbb] at hb; cases hb
      | some c => rw [hbb] at h1; simpa using h1
    · exact ih h.2 hm

end
end Go.Proofs.YtfokodpnoiilbaaGreat.E
