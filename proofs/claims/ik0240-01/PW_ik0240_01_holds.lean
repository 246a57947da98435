import PyProof.Rows.All
import Wide.All
import OpenK.AllK
import Wide.FinOn
import Open.Tops
import PyProof.Walk
import PyProof.WalkLemmas
import KE.KRevIter
import KE.KSortTup
import Lean
import PySem.Challenge.RW_ik0240_01
set_option Elab.async false
set_option maxRecDepth 100000
set_option linter.all false
set_option maxHeartbeats 8000000
set_option compiler.extract_closed false
set_option tactic.hygienic false
namespace Mine.Internal
open PySem PySem.W PySem.Calls PyProof.Rows
theorem wB {α β : Type} {M : Model} {A : Around} {E : Value -> Shared -> Prop} {s : Shared} {m : Sem α} {f : α -> Sem β} {Q : β -> Shared -> Prop} (h : wpAny M A m (fun a s' => wpAny M A (f a) Q E s') E s) : wpAny M A (m >>= f) Q E s := PySem.wpAny_bind h
theorem wP {α : Type} {M : Model} {A : Around} {E : Value -> Shared -> Prop} {s : Shared} {a : α} {Q : α -> Shared -> Prop} (h : Q a s) : wpAny M A (pure a) Q E s := PySem.wpAny_pure h
theorem wM {α : Type} {M : Model} {A : Around} {E : Value -> Shared -> Prop} {s : Shared} {t : Sem α} {Q Q' : α -> Shared -> Prop} {E' : Value -> Shared -> Prop} (h : wpAny M A t Q E s) (hQ : ∀ a s, Q a s -> Q' a s) (hE : ∀ e s, E e s -> E' e s) : wpAny M A t Q' E' s := PySem.wpAny_mono h hQ hE
theorem aD (h : True := by decide) : True := h
theorem aI (h : True := by intro _; rfl) : True := h
theorem aJ (h : True := by intro _ _; rfl) : True := h
theorem aR (h : True := by rfl) : True := h
theorem aU (h : True := by intro _; with_unfolding_all rfl) : True := h
@[elab_as_elim] theorem gnl {α : Type} {P : α -> Prop} (a : α) (h : ∀ x, P x) : P a := h a
@[elab_as_elim] theorem gnlE {α : Type} {P : α -> Prop} (a : α) (h : ∀ x, a = x -> P x) : P a := h a rfl
theorem hid {P : Prop} (h : ∀ G : Prop, (P -> G) -> G) : P := h P id
section
variable {α : Type} {M : Model} {A : Around} {E : Value -> Shared -> Prop} {s : Shared} {c : Prop} {i : Decidable c} {x y : Sem α} {Q : α -> Shared -> Prop}
theorem wif (h : c) (q : wpAny M A x Q E s) : wpAny M A (@ite _ c i x y) Q E s := by rw [if_pos h]; exact q
theorem wifn (h : ¬c) (q : wpAny M A y Q E s) : wpAny M A (@ite _ c i x y) Q E s := by rw [if_neg h]; exact q
end
theorem half_lt {n : Nat} (h : 0 < n) : (n - 1) / 2 < n := Nat.lt_of_le_of_lt (Nat.div_le_self _ _) (Nat.sub_lt h Nat.one_pos)
theorem dec_lt {a b : Nat} (h : a < b) : decide ((a : Int) < (b : Int)) = true := decide_eq_true (Int.ofNat_lt.mpr h)
theorem dec_nlt {a b : Nat} (h : ¬a < b) : ¬decide ((a : Int) < (b : Int)) = true := fun q => h (Int.ofNat_lt.mp (of_decide_eq_true q))
theorem sub_next {n i : Nat} (h : i < n) : n - (i + 1) < n - i := Nat.sub_lt_sub_left h (Nat.lt_succ_self i)
theorem le_of_sub {L p k r : Nat} (h : L - p = k + r) (hp : p ≤ L) : p + k ≤ L := by
 have := Nat.add_le_add_left (Nat.le_add_right k r) p
 rw [← h, Nat.add_sub_cancel' hp] at this
 exact this
theorem lt_of_sub {L p r : Nat} (h : L - p = r + 1) : p < L := Nat.lt_of_sub_pos (h ▸ Nat.succ_pos r)
theorem sub_step {L i k : Nat} (h : L - i = k + 1) : L - (i + 1) = k := by rw [← Nat.sub_sub, h]; rfl
theorem fits_of {L p k : Nat} (h : k ≤ L - p) (h0 : 0 < k) : p + k ≤ L := by
 rw [Nat.add_comm]
 exact Nat.add_le_of_le_sub (Nat.le_of_lt (Nat.lt_of_sub_pos (Nat.lt_of_lt_of_le h0 h))) h
theorem drop_fits {α : Type} {l xs ys : List α} {p : Nat} (hp : p ≤ l.length) (h : l.drop p = xs ++ ys) : p + xs.length ≤ l.length := le_of_sub (by rw [← List.length_drop, h, List.length_append]) hp
abbrev QV := Value -> Shared -> Prop
abbrev QF := Flow -> Shared -> Prop
abbrev QL := List Value -> Shared -> Prop
abbrev QB := Bool -> Shared -> Prop
abbrev QU := Unit -> Shared -> Prop
@[reducible] def NoE : QV := fun _ _ => False
@[reducible] def NxQ (M : Model) (A : Around) (E : QV) (env : Env) (rest : List Stmt) (Q : QF) : QF := fun f s' => match f with
 | .next => wpAny M A (execs rest env) Q E s'
 | f => Q f s'
@[reducible] def KN (Q : QF) : QU := fun _ => Q .next
@[reducible] def AsgQ (M : Model) (A : Around) (E : QV) (env : Env) (x : Str) (Q : QF) : QV := fun v s₁ => wpAny M A (storeName env x v) (KN Q) E s₁
@[reducible] def BinQ2 (M : Model) (A : Around) (E : QV) (op : Operator) (Q : QV) (a : Value) : QV := fun b s₂ => wpAny M A (binaryOp op a b) Q E s₂
@[reducible] def BinQ (M : Model) (A : Around) (E : QV) (env : Env) (op : Operator) (r : Expr) (Q : QV) : QV := fun a s₁ => wpAny M A (eval r env) (BinQ2 M A E op Q a) E s₁
@[reducible] def ConsQ (Q : QL) (v : Value) : QL := fun vs s₂ => Q (v :: vs) s₂
@[reducible] def SplQ (M : Model) (A : Around) (E : QV) (env : Env) (rest : List Expr) (pos : Pos) (Q : QL) : QV := fun v s₁ => wpAny M A (spliced (backTo pos (starEach rest env))) (ConsQ Q v) E s₁
@[reducible] def SubQ2 (M : Model) (A : Around) (E : QV) (value slice : Expr) (Q : QV) (o : Value) : QV := fun i s₂ => wpAny M A (subscriptTail value slice o i) Q E s₂
@[reducible] def SubQ (M : Model) (A : Around) (E : QV) (env : Env) (value slice : Expr) (Q : QV) : QV := fun o s₁ => wpAny M A (eval slice env) (SubQ2 M A E value slice Q o) E s₁
@[reducible] def TruQ (M : Model) (A : Around) (E : QV) (Q : QB) : QV := fun c s₃ => wpAny M A (truthy c) Q E s₃
@[reducible] def CmpQ2 (M : Model) (A : Around) (E : QV) (op : CmpOp) (Q : QB) (a : Value) : QV := fun b s₂ => wpAny M A (compareOp op a b) (TruQ M A E Q) E s₂
@[reducible] def CmpQ (M : Model) (A : Around) (E : QV) (env : Env) (op : CmpOp) (r : Expr) (Q : QB) : QV := fun a s₁ => wpAny M A (eval r env) (CmpQ2 M A E op Q a) E s₁
@[reducible] def IfQ (M : Model) (A : Around) (E : QV) (env : Env) (body orelse : List Stmt) (Q : QF) : QB := fun b s₂ => if b = true then wpAny M A (execs body env) Q E s₂ else wpAny M A (execs orelse env) Q E s₂
@[reducible] def IfeQ (M : Model) (A : Around) (E : QV) (env : Env) (body orelse : Expr) (Q : QV) : QB := fun b s₂ => if b = true then wpAny M A (eval body env) Q E s₂ else wpAny M A (eval orelse env) Q E s₂
@[reducible] def AndQ (M : Model) (A : Around) (E : QV) (env : Env) (rest : List Expr) (pos : Pos) (whole : Sem Value) (Q : QB) : QB := fun c s' => if c = true then wpAny M A (isTrue (Expr.BoolOp BoolOp.And rest pos) env whole) Q E s' else Q false s'
@[reducible] def OrQ (M : Model) (A : Around) (E : QV) (env : Env) (rest : List Expr) (pos : Pos) (whole : Sem Value) (Q : QB) : QB := fun c s' => if c = true then Q true s' else wpAny M A (isTrue (Expr.BoolOp BoolOp.Or rest pos) env whole) Q E s'
@[reducible] def NotQ (Q : QB) : QB := fun c s' => Q (!c) s'
@[reducible] def RetQ (Q : QF) : QV := fun v => Q (.ret v)
@[reducible] def ExpQ (Q : QF) : QV := fun v s' => match v with
 | .ref _ => False
 | _ => Q .next s'
@[reducible] def UnQ (M : Model) (A : Around) (E : QV) (op : UnaryOp) (Q : QV) : QV := fun v s₁ => wpAny M A (unaryOp op v) Q E s₁
@[reducible] def AttQ (M : Model) (A : Around) (E : QV) (attr : Str) (Q : QV) : QV := fun o s₁ => wpAny M A (getAttr o attr true) Q E s₁
@[reducible] def SatQ2 (M : Model) (A : Around) (E : QV) (attr : Str) (Q : QF) (v : Value) : QV := fun ov s₂ => wpAny M A (setAttr ov attr v) (KN Q) E s₂
@[reducible] def SatQ (M : Model) (A : Around) (E : QV) (env : Env) (o : Expr) (attr : Str) (Q : QF) : QV := fun v s₁ => wpAny M A (eval o env) (SatQ2 M A E attr Q v) E s₁
@[reducible] def AsuQ3 (M : Model) (A : Around) (E : QV) (Q : QF) (v ov : Value) : QV := fun iv s₃ => wpAny M A (setItem ov iv v) (KN Q) E s₃
@[reducible] def AsuQ2 (M : Model) (A : Around) (E : QV) (env : Env) (i : Expr) (Q : QF) (v : Value) : QV := fun ov s₂ => wpAny M A (eval i env) (AsuQ3 M A E Q v ov) E s₂
@[reducible] def AsuQ (M : Model) (A : Around) (E : QV) (env : Env) (o i : Expr) (Q : QF) : QV := fun v s₁ => wpAny M A (eval o env) (AsuQ2 M A E env i Q v) E s₁
@[reducible] def AugQ2 (M : Model) (A : Around) (E : QV) (env : Env) (x : Str) (op : Operator) (Q : QF) (old : Value) : QV := fun v s₂ => wpAny M A (inplaceOp op old v) (AsgQ M A E env x Q) E s₂
@[reducible] def AugQ (M : Model) (A : Around) (E : QV) (env : Env) (x : Str) (op : Operator) (value : Expr) (Q : QF) : QV := fun old s₁ => wpAny M A (eval value env) (AugQ2 M A E env x op Q old) E s₁
@[reducible] def KwQ (M : Model) (A : Around) (E : QV) (env : Env) (pos : Pos) (rest : List Keyword) (Q : QL) : QV := fun v s₁ => wpAny M A (evalAll (List.map (fun x => x.2) (backToKw pos (keywordEach rest env)))) (ConsQ Q v) E s₁
@[reducible] def AtuQ (M : Model) (A : Around) (E : QV) (env : Env) (elts : List Expr) (k : Nat) (tpos : Pos) (Q : QF) : QV := fun v s₁ => wpAny M A (assign (Expr.Tuple elts k tpos) env v) (KN Q) E s₁
@[reducible] def AioQ (M : Model) (A : Around) (E : QV) (ts : List (Value -> Sem Unit)) (xs : List Value) (Q : QU) : QU := fun _ s₁ => wpAny M A (assignInOrder ts xs) Q E s₁
@[reducible] def BndQ {α β : Type} (M : Model) (A : Around) (E : QV) (f : α -> Sem β) (Q : β -> Shared -> Prop) : α -> Shared -> Prop := fun a s' => wpAny M A (f a) Q E s'
abbrev PE {x1 x2 x3 x4 x5 x6 x7} := wpAny x1 x2 (execs x3 x4) x5 x6 x7
abbrev PV {x1 x2 x3 x4 x5 x6 x7} := wpAny x1 x2 (eval x3 x4) x5 x6 x7
abbrev PT {x1 x2 x3 x4 x5 x6 x7 x8} := wpAny x1 x2 (isTrue x3 x4 x5) x6 x7 x8
abbrev P1 {x1 x2 x3 x4 x5 x6 x7 x8} := wpAny x1 x2 (execs (Stmt.Pass x3 :: x4) x5) x6 x7 x8
abbrev P2 {x1 x2 x3 x4 x5 x6 x7 x8 x9 x10 x11} := wpAny x1 x2 (execs (Stmt.Assign [Expr.Name x3 x4] x5 x6 :: x7) x8) x9 x10 x11
abbrev P3 {x1 x2 x3 x4 x5 x6 x7 x8 x9 x10 x11 x12} := wpAny x1 x2 (execs (Stmt.Assign [Expr.Subscript x3 x4 x5] x6 x7 :: x8) x9) x10 x11 x12
abbrev P4 {x1 x2 x3 x4 x5 x6 x7 x8 x9 x10 x11 x12} := wpAny x1 x2 (execs (Stmt.AugAssign (Expr.Name x3 x4) x5 x6 x7 :: x8) x9) x10 x11 x12
abbrev P5 {x1 x2 x3 x4 x5 x6 x7 x8 x9 x10 x11} := wpAny x1 x2 (execs (Stmt.If x3 x4 x5 x6 :: x7) x8) x9 x10 x11
abbrev P6 {x1 x2 x3 x4 x5 x6 x7 x8 x9} := wpAny x1 x2 (execs (Stmt.Return (some x3) x4 :: x5) x6) x7 x8 x9
abbrev P7 {x1 x2 x3 x4 x5 x6 x7 x8} := wpAny x1 x2 (execs (Stmt.Break x3 :: x4) x5) x6 x7 x8
abbrev P8 {x1 x2 x3 x4 x5 x6 x7 x8} := wpAny x1 x2 (execs (Stmt.Continue x3 :: x4) x5) x6 x7 x8
abbrev P9 {x1 x2 x3 x4 x5 x6 x7 x8} := wpAny x1 x2 (eval (Expr.Name x3 x4) x5) x6 x7 x8
abbrev P10 {x1 x2 x3 x4 x5 x6 x7 x8 x9} := wpAny x1 x2 (eval (Expr.Constant (Const.int x3) x4 x5) x6) x7 x8 x9
abbrev P11 {x1 x2 x3 x4 x5 x6 x7 x8 x9} := wpAny x1 x2 (eval (Expr.Constant (Const.str x3) x4 x5) x6) x7 x8 x9
abbrev P12 {x1 x2 x3 x4 x5 x6 x7 x8 x9 x10} := wpAny x1 x2 (eval (Expr.BinOp x3 x4 x5 x6) x7) x8 x9 x10
abbrev P13 {x1 x2 x3 x4 x5 x6 x7 x8 x9} := wpAny x1 x2 (binaryOp Operator.Add (Value.int x3 x4) (Value.int x5 x6)) x7 x8 x9
abbrev P14 {x1 x2 x3 x4 x5 x6 x7 x8 x9} := wpAny x1 x2 (inplaceOp Operator.Add (Value.int x3 x4) (Value.int x5 x6)) x7 x8 x9
abbrev P15 {x1 x2 x3 x4 x5 x6 x7 x8} := wpAny x1 x2 (storeName x3 x4 x5) x6 x7 x8
abbrev P16 {x1 x2 x3 x4 x5 x6 x7 x8 x9 x10 x11} := wpAny x1 x2 (isTrue (Expr.Compare x3 [x4] [x5] x6) x7 x8) x9 x10 x11
abbrev P17 {x1 x2 x3 x4 x5 x6} := wpAny x1 x2 (truthy (Value.bool x3)) x4 x5 x6
abbrev P18 {x1 x2 x3 x4 x5 x6 x7 x8 x9 x10} := wpAny x1 x2 (eval (Expr.Subscript x3 (Expr.Name x4 x5) x6) x7) x8 x9 x10
abbrev P19 {x1 x2 x3 x4 x5 x6 x7 x8 x9} := wpAny x1 x2 (compareOp CmpOp.Eq (Value.int x3 x4) (Value.int x5 x6)) x7 x8 x9
abbrev P20 {x1 x2 x3 x4 x5 x6 x7 x8 x9} := wpAny x1 x2 (compareOp CmpOp.Eq (Value.str x3 x4) (Value.str x5 x6)) x7 x8 x9
abbrev P21 {x1 x2 x3 x4 x5 x6 x7 x8 x9} := wpAny x1 x2 (eval (Expr.Constant (Const.bool x3) x4 x5) x6) x7 x8 x9
abbrev P22 {x1 x2 x3 x4 x5 x6 x7 x8} := wpAny x1 x2 (eval (Expr.Constant Const.none x3 x4) x5) x6 x7 x8
abbrev P23 {x1 x2 x3 x4 x5 x6 x7 x8 x9 x10 x11} := wpAny x1 x2 (eval (Expr.Call (Expr.Name x3 x4) (x5 :: x6) [] x7) x8) x9 x10 x11
abbrev P24 {x1 x2 x3 x4 x5 x6 x7 x8 x9 x10 x11 x12 x13} := wpAny x1 x2 (eval (Expr.Call (Expr.Name x3 x4) (x5 :: x6) (x7 :: x8) x9) x10) x11 x12 x13
abbrev P25 {x1 x2 x3 x4 x5 x6 x7 x8 x9} := wpAny x1 x2 (spliced (backTo x3 (starEach (x4 :: x5) x6))) x7 x8 x9
abbrev P26 {x1 x2 x3 x4 x5 x6 x7} := wpAny x1 x2 (spliced (backTo x3 (starEach [] x4))) x5 x6 x7
abbrev P27 {x1 x2 x3 x4 x5 x6 x7 x8 x9 x10} := wpAny x1 x2 (evalAll (List.map x3 (backToKw x4 (keywordEach (x5 :: x6) x7)))) x8 x9 x10
abbrev P28 {x1 x2 x3 x4 x5 x6 x7 x8} := wpAny x1 x2 (evalAll (List.map x3 (backToKw x4 (keywordEach [] x5)))) x6 x7 x8
abbrev P29 {x1 x2 x3 x4 x5 x6 x7 x8 x9 x10} := wpAny x1 x2 (isTrue (Expr.Constant (Const.bool x3) x4 x5) x6 x7) x8 x9 x10
abbrev P30 {x1 x2 x3 x4 x5 x6 x7 x8 x9 x10 x11 x12} := wpAny x1 x2 (execs (Stmt.Assign [Expr.Tuple x3 x4 x5] x6 x7 :: x8) x9) x10 x11 x12
abbrev P31 {x1 x2 x3 x4 x5 x6 x7} := wpAny x1 x2 (unpackItems (Value.ref x3) x4 none) x5 x6 x7
abbrev P32 {x1 x2 x3 x4 x5 x6 x7} := wpAny x1 x2 (assignInOrder x3 (List.reverse x4)) x5 x6 x7
abbrev P33 {x1 x2 x3 x4 x5 x6 x7 x8 x9 x10 x11} := wpAny x1 x2 (eval (Expr.IfExp (Expr.Name x3 x4) x5 x6 x7) x8) x9 x10 x11
abbrev P34 {x1 x2 x3 x4 x5 x6 x7 x8 x9 x10} := wpAny x1 x2 (assign (Expr.Tuple x3 x4 x5) x6 (Value.ref x7)) x8 x9 x10
abbrev P35 {x1 x2 x3 x4 x5 x6 x7 x8} := wpAny x1 x2 (assignInOrder x3 (x4 :: x5)) x6 x7 x8
abbrev P36 {x1 x2 x3 x4 x5 x6} := wpAny x1 x2 (assignInOrder x3 []) x4 x5 x6
abbrev P37 {x1 x2 x3 x4 x5 x6 x7 x8 x9} := wpAny x1 x2 (assign (Expr.Name x3 x4) x5 x6) x7 x8 x9
abbrev P38 {x1 x2 x3 x4 x5 x6 x7 x8 x9} := wpAny x1 x2 (eval (Expr.Attribute x3 x4 x5) x6) x7 x8 x9
abbrev P39 {x1 x2 x3 x4 x5 x6 x7} := wpAny x1 x2 (eval (Expr.Dict [] [] x3) x4) x5 x6 x7
abbrev P40 {x1 x2 x3 x4 x5 x6 x7 x8 x9 x10 x11 x12} := wpAny x1 x2 (execs (Stmt.Assign [Expr.Attribute x3 x4 x5] x6 x7 :: x8) x9) x10 x11 x12
abbrev P41 {x1 x2 x3 x4 x5 x6 x7 x8 x9 x10 x11} := wpAny x1 x2 (eval (Expr.Subscript (Expr.Name "src" x3) (Expr.Slice x4 x5 none x6) x7) x8) x9 x10 x11
abbrev P42 {x1 x2 x3 x4 x5 x6 x7 x8 x9 x10} := wpAny x1 x2 (eval (Expr.Subscript (Expr.Name "key" x3) (Expr.Slice none (some x4) none x5) x6) x7) x8 x9 x10
abbrev P43 {x1 x2 x3 x4 x5 x6 x7 x8} := wpAny x1 x2 (eval (Expr.UnaryOp UnaryOp.USub x3 x4) x5) x6 x7 x8
abbrev P44 {x1 x2 x3 x4 x5 x6 x7} := wpAny x1 x2 (unaryOp UnaryOp.USub (Value.int x3 x4)) x5 x6 x7
abbrev P45 {x1 x2 x3 x4 x5 x6 x7 x8 x9 x10 x11} := wpAny x1 x2 (eval (Expr.Subscript x3 (Expr.UnaryOp x4 x5 x6) x7) x8) x9 x10 x11
abbrev P46 {x1 x2 x3 x4 x5 x6 x7 x8 x9 x10 x11} := wpAny x1 x2 (eval (Expr.Subscript x3 (Expr.Constant x4 x5 x6) x7) x8) x9 x10 x11
abbrev P47 {x1 x2 x3 x4 x5 x6 x7} := wpAny x1 x2 (evalPart (some x3) x4) x5 x6 x7
abbrev P48 {x1 x2 x3 x4 x5 x6} := wpAny x1 x2 (evalPart none x3) x4 x5 x6
abbrev P49 {x1 x2 x3 x4 x5 x6 x7 x8 x9 x10 x11} := wpAny x1 x2 (isTrue (Expr.Call x3 x4 x5 x6) x7 x8) x9 x10 x11
abbrev P50 {x1 x2 x3 x4 x5 x6 x7 x8 x9} := wpAny x1 x2 (isTrue (Expr.Name x3 x4) x5 x6) x7 x8 x9
abbrev P51 {x1 x2 x3 x4 x5 x6 x7 x8 x9 x10 x11 x12} := wpAny x1 x2 (execs (Stmt.Expr (Expr.Call x3 x4 x5 x6) x7 :: x8) x9) x10 x11 x12
abbrev P52 {x1 x2 x3 x4 x5 x6 x7 x8 x9 x10} := wpAny x1 x2 (eval (Expr.Call (Expr.Attribute x3 "index" x4) x5 [] x6) x7) x8 x9 x10
abbrev P53 {x1 x2 x3 x4 x5 x6 x7 x8 x9 x10} := wpAny x1 x2 (eval (Expr.Call (Expr.Attribute x3 "startswith" x4) x5 [] x6) x7) x8 x9 x10
abbrev P54 {x1 x2 x3 x4 x5 x6 x7 x8 x9 x10} := wpAny x1 x2 (eval (Expr.Call (Expr.Attribute x3 "isdisjoint" x4) x5 [] x6) x7) x8 x9 x10
abbrev P55 {x1 x2 x3 x4 x5 x6 x7 x8 x9 x10} := wpAny x1 x2 (eval (Expr.Call (Expr.Attribute x3 "add" x4) [x5] [] x6) x7) x8 x9 x10
abbrev P56 {x1 x2 x3 x4 x5 x6 x7 x8 x9 x10 x11 x12} := wpAny x1 x2 (eval (Expr.Subscript x3 (Expr.IfExp x4 x5 x6 x7) x8) x9) x10 x11 x12
abbrev P58 {x1 x2 x3 x4 x5 x6 x7 x8 x9} := wpAny x1 x2 (compareOp CmpOp.NotEq (Value.str x3 x4) (Value.str x5 x6)) x7 x8 x9
theorem dlt1 {d n L : Nat} (h : d + n < L) : d < L := Nat.lt_of_le_of_lt (Nat.le_add_right _ _) h
theorem dlt2 {d a n L : Nat} (h : d + n < L) (e : Nat.ble a n = true) : d + a < L := Nat.lt_of_le_of_lt (Nat.add_le_add_left (Nat.le_of_ble_eq_true e) _) h
theorem dlt3 {d a b n L : Nat} (h : d + n < L) (e : Nat.ble (a + b) n = true) : d + a + b < L := Nat.add_assoc d a b ▸ dlt2 h e
theorem nle {a b : Nat} (e : Nat.ble a b = true) : a ≤ b := Nat.le_of_ble_eq_true e
theorem ifp {c P Q : Prop} {i : Decidable c} (h : c) (x : P) : @ite _ c i P Q := (if_pos h).mpr x
theorem ifn {c P Q : Prop} {i : Decidable c} (h : ¬c) (x : Q) : @ite _ c i P Q := (if_neg h).mpr x
section
variable {M : Model} {A : Around} {E : QV} {s : Shared} {env : Env}
theorem zC {st : Stmt} {rest : List Stmt} {Q : QF} (h : wpAny M A (exec st env) (NxQ M A E env rest Q) E s) : wpAny M A (execs (st :: rest) env) Q E s := PySem.wpAny_execs_cons h
theorem zN {x : Str} {pos' : Pos} {value : Expr} {pos : Pos} {Q : QF} (h : wpAny M A (eval value env) (AsgQ M A E env x Q) E s) (hs : autoParam (swapsWith value (some (Expr.Name x pos')) pos.line env = pure false) aR._auto_1) : wpAny M A (exec (Stmt.Assign [Expr.Name x pos'] value pos) env) Q E s := PySem.wpAny_Assign_Name h hs
theorem zB {l r : Expr} {op : Operator} {pos : Pos} {Q : QV} (h : wpAny M A (eval l env) (BinQ M A E env op r Q) E s) : wpAny M A (eval (l.BinOp op r pos) env) Q E s := PySem.wpAny_BinOp h
theorem zS {e : Expr} {rest : List Expr} {pos : Pos} {Q : QL} (h : wpAny M A (eval e env) (SplQ M A E env rest pos Q) E s) (he : autoParam (starEach (e :: rest) env = (false, eval e env) :: starEach rest env) aR._auto_1) : wpAny M A (spliced (backTo pos (starEach (e :: rest) env))) Q E s := PyProof.Rows.spliced_more h he
theorem zG {value slice : Expr} {pos : Pos} {Q : QV} (h : wpAny M A (eval value env) (SubQ M A E env value slice Q) E s) : wpAny M A (eval (value.Subscript slice pos) env) Q E s := PyProof.Rows.Subscript_ h
theorem zT {l r : Expr} {op : CmpOp} {pos : Pos} {whole : Sem Value} {Q : QB} (h : wpAny M A (eval l env) (CmpQ M A E env op r Q) E s) (hb : autoParam (behindInMarks op r = false) aR._auto_1) : wpAny M A (isTrue (l.Compare [op] [r] pos) env whole) Q E s := PySem.wpAny_isTrue_Compare1 h hb
theorem zI {test : Expr} {body orelse : List Stmt} {pos : Pos} {Q : QF} (h : wpAny M A (isTrue test env (eval test env)) (IfQ M A E env body orelse Q) E s) : wpAny M A (exec (Stmt.If test body orelse pos) env) Q E s := PySem.wpAny_If h
theorem IfExp_ {test body orelse : Expr} {pos : Pos} {Q : QV} (h : wpAny M A (isTrue test env (eval test env)) (IfeQ M A E env body orelse Q) E s) : wpAny M A (eval (test.IfExp body orelse pos) env) Q E s := PyProof.Rows.IfExp_ h
theorem isTrue_and {x : Expr} {rest : List Expr} {pos : Pos} {whole : Sem Value} {Q : QB} (h : wpAny M A (isTrue x env (eval x env)) (AndQ M A E env rest pos whole Q) E s) : wpAny M A (isTrue (Expr.BoolOp BoolOp.And (x :: rest) pos) env whole) Q E s := PyProof.Rows.isTrue_and h
theorem isTrue_or {x : Expr} {rest : List Expr} {pos : Pos} {whole : Sem Value} {Q : QB} (h : wpAny M A (isTrue x env (eval x env)) (OrQ M A E env rest pos whole Q) E s) : wpAny M A (isTrue (Expr.BoolOp BoolOp.Or (x :: rest) pos) env whole) Q E s := PyProof.Rows.isTrue_or h
theorem isTrue_not {x : Expr} {pos : Pos} {whole : Sem Value} {Q : QB} (h : wpAny M A (isTrue x env (eval x env)) (NotQ Q) E s) : wpAny M A (isTrue (Expr.UnaryOp UnaryOp.Not x pos) env whole) Q E s := PyProof.Rows.isTrue_not h
theorem zE {e : Expr} {pos : Pos} {Q : QF} (h : wpAny M A (eval e env) (ExpQ Q) E s) (hi : autoParam (interactive env = false) aR._auto_1) (hs : autoParam (swapsWith e none pos.line env = pure false) aR._auto_1) : wpAny M A (exec (Stmt.Expr e pos) env) Q E s := PySem.wpAny_Expr h hi hs
theorem zR {e : Expr} {pos : Pos} {Q : QF} (h : wpAny M A (eval e env) (RetQ Q) E s) : wpAny M A (exec (Stmt.Return (some e) pos) env) Q E s := PySem.wpAny_Return_some h
theorem wpAny_UnaryOp {op : UnaryOp} {x : Expr} {pos : Pos} {Q : QV} (h : wpAny M A (eval x env) (UnQ M A E op Q) E s) : wpAny M A (eval (Expr.UnaryOp op x pos) env) Q E s := PySem.wpAny_UnaryOp h
theorem wpAny_isTrue_value {e : Expr} {whole : Sem Value} {Q : QB} (h : wpAny M A whole (TruQ M A E Q) E s) (he : autoParam (isTrue e env whole = (do
 let v ← whole
 standAt e.pos
 holding [v] (truthy v))) aR._auto_1) : wpAny M A (isTrue e env whole) Q E s := PySem.wpAny_isTrue_value h he
theorem plainObj_wpAny_Assign_Attribute {o : Expr} {attr : Str} {pos' : Pos} {value : Expr} {pos : Pos} {Q : QF} (h : wpAny M A (eval value env) (SatQ M A E env o attr Q) E s) (hs : autoParam (swapsWith value (some (o.Attribute attr pos')) pos.line env = pure false) aR._auto_1) : wpAny M A (exec (Stmt.Assign [o.Attribute attr pos'] value pos) env) Q E s := PySem.plainObj_wpAny_Assign_Attribute h hs
theorem zQ {o i : Expr} {pos' : Pos} {value : Expr} {pos : Pos} {Q : QF} (h : wpAny M A (eval value env) (AsuQ M A E env o i Q) E s) (hs : autoParam (swapsWith value (some (o.Subscript i pos')) pos.line env = pure false) aR._auto_1) : wpAny M A (exec (Stmt.Assign [o.Subscript i pos'] value pos) env) Q E s := PySem.wpAny_Assign_Subscript h hs
theorem wpAny_AugAssign_Name {x : Str} {pos' : Pos} {op : Operator} {value : Expr} {pos : Pos} {Q : QF} (h : wpAny M A (loadName env x) (AugQ M A E env x op value Q) E s) : wpAny M A (exec (Stmt.AugAssign (Expr.Name x pos') op value pos) env) Q E s := PySem.wpAny_AugAssign_Name h
theorem kwAll_cons {pos p : Pos} {name : Str} {value : Expr} {rest : List Keyword} {Q : QL} (h : wpAny M A (eval value env) (KwQ M A E env pos rest Q) E s) : wpAny M A (evalAll (List.map (fun x => x.2) (backToKw pos (keywordEach ({ arg := some name, value := value, pos := p } :: rest) env)))) Q E s := PyProof.Rows.kwAll_cons h
theorem Assign_Tuple {elts : List Expr} {k : Nat} {tpos : Pos} {value : Expr} {pos : Pos} {Q : QF} (h : wpAny M A (eval value env) (AtuQ M A E env elts k tpos Q) E s) (h1 : autoParam (swapsWithSole [Expr.Tuple elts k tpos] value pos.line env = pure false) aR._auto_1) (h2 : autoParam (swappedStores [Expr.Tuple elts k tpos] value env = pure none) aR._auto_1) : wpAny M A (exec (Stmt.Assign [Expr.Tuple elts k tpos] value pos) env) Q E s := PyProof.Rows.Assign_Tuple h h1 h2
theorem zA {t : Value -> Sem Unit} {ts : List (Value -> Sem Unit)} {x : Value} {xs : List Value} {Q : QU} (h : wpAny M A (t x) (AioQ M A E ts xs Q) E s) : wpAny M A (assignInOrder (t :: ts) (x :: xs)) Q E s := PySem.wpAny_assignInOrder_more h
theorem wbind {α β : Type} {m : Sem α} {f : α -> Sem β} {Q : β -> Shared -> Prop} (h : wpAny M A m (BndQ M A E f Q) E s) : wpAny M A (m >>= f) Q E s := PySem.wpAny_bind h
theorem Attribute_any_ {prog : Program} {w : World} {value : Expr} {attr : Str} {pos : Pos} {Q : QV} (h : wpAny (model prog w) A (eval value env) (AttQ (model prog w) A E attr Q) E s) (he : autoParam (eval (value.Attribute attr pos) env = (do
 let o ← eval value env
 standAt pos.atName
 let r ← holding [o] (getAttr o attr true)
 letTemporaryGo value o r
 pure r)) aR._auto_1) : wpAny (model prog w) A (eval (value.Attribute attr pos) env) Q E s := PyProof.Rows.Attribute_any_ h he
theorem genq {α : Type} {x : Sem α} {Q : α -> Shared -> Prop} (h : ∀ Q' : α -> Shared -> Prop, (∀ f s, Q f s -> Q' f s) -> wpAny M A x Q' E s) : wpAny M A x Q E s := h Q fun _ _ q => q
theorem genb {α : Type} {x : Sem α} {body : List Stmt} {Q : QF} (h : ∀ Q' : QF, (∀ f s, Q f s -> Q' f s) -> wpAny M A x (fun _ s₂ => wpAny M A (execs body env) Q' E s₂) E s) : wpAny M A x (fun _ s₂ => wpAny M A (execs body env) Q E s₂) E s := h Q fun _ _ q => q
theorem genw {x : Sem Bool} {body : List Stmt} {T : QF} {P : Shared -> Prop} (h : ∀ (T' : QF) (P' : Shared -> Prop), (∀ f s, T f s -> T' f s) -> (∀ s, P s -> P' s) -> wpAny M A x (fun b s₂ => if b = true then wpAny M A (execs body env) T' E s₂ else P' s₂) E s) :
  wpAny M A x (fun b s₂ => if b = true then wpAny M A (execs body env) T E s₂ else P s₂) E s := h T P (fun _ _ q => q) fun _ q => q
end
@[reducible] noncomputable def pw : Program := PySem.Challenge.pw_ik0240_01
@[reducible] noncomputable def qs (x : String) (t : Nat) : Value := .str (Str.ofString x) t
noncomputable def qc (l : List String) (t : Nat) : Value := .str ⟨⟨(l.map fun x => (Str.ofString x).cps.toList).flatten⟩⟩ t
@[reducible] noncomputable def qi (n : Int) : Value := .int n 0
@[reducible] noncomputable def qj (n : Int) (t : Nat) : Value := .int n t
@[reducible] noncomputable def qr (a : Nat) : Value := .ref a
noncomputable def qm : Nat -> List Nat -> List Value
 | _, [] => []
 | t, n :: r => qj n t :: qm (t + 1) r
noncomputable def nD : Nat -> Nat -> List Nat
 | 0, _ => []
 | k + 1, x => (if x % 256 = 255 then 4294967295 else if x % 256 = 254 then 67043328 else if x % 256 = 253 then 1048576 else x % 256) :: nD k (x / 256)
noncomputable def reA : List Nat := nD 246 0x100020f0111121200393016050d015f1001000618ff00101700393016050d01002d102b10060d01000b180045106510060d01002e17121200393016050d015f1001000618ff00101700393016050d2e1001001d17001100020f1200393016050d015f1001000618ff00101700393116050d1b1d0f3010050701002d102b10060d01000b1884860f00020f1200373016050d015f1001000618ff00101700373016050d6f101d1f0f1200313016050d015f1001000618ff00101700313016050d62101d3c0f1200000000007e7efe00090b0d015f1001000618ff00161700000000007e7efe00090b0d7810290730106a07ff0100040e
noncomputable def reB : List Nat := nD 107 0x1120100393016050dff000a1807110100393016050d06010a1806112e1001001f17051100393016050d00353016050d04113a10031100393016050d00353016050d02113a10011100020f00333016050d32100b0d0f00393016050d00313016050d0f070011ff0800040e
noncomputable def reC : List Nat := nD 299 0x1121200020f151100393016050d00353016050d14113a10131100020f00333016050d32100b0d0f00393016050d00313016050d0f0712111111002d102b10060d101140420f0f11007a105a10060d0e110e0701005317120100393016050dff000a180d110100393016050d06010a180c112e1001001f170b1100393016050d00353016050d0a113a10091100393016050d00353016050d08113a10071100020f00333016050d32100b0d0f00393016050d00313016050d0f0706110000000000fdfd0100090b0d0100c917051100020f00313016050d33100b0d0f00393016050d00323116050d0f1c0f00393116050d30100b0704112d10031100020f00323016050d31100b0d0f00393116050d30100b0702112d1001110100393016050d04040a180011ff0a00040e
noncomputable def qe (P : Params) (x : String) (t : Nat) (v : Value) : DictEntry := { hash := PyData.keyHash P (Str.ofString x), key := .str (Str.ofString x) t, val := v }
noncomputable def qE (P : Params) : Nat -> List (String × Value) -> List DictEntry -> List DictEntry
 | _, [], e => e
 | t, (x, v) :: r, e => qe P x t v :: qE P (t + 1) r e
noncomputable def sA (i : Nat) : Stmt := pw.main.body.getD i default
noncomputable def sI (i j : Nat) : Stmt := match sA i with
 | .ClassDef _ _ _ b _ _ _ _ _ _ _ => b.getD j default
 | .FunctionDef _ _ b _ _ _ _ _ _ _ => b.getD j default
 | _ => default
noncomputable def fD (st : Stmt) (q : String) (g : Nat) (cl : List (Str × Addr)) (df kd dc md : Value) (an : Option Addr) (cd ct : Value) (bi : Nat) : FuncData := match st with
 | .FunctionDef name args body _ _ _ scope _ _ _ => ⟨name, Str.ofString q, args, .stmts body, scope, g, cl, df, kd, dc, md, an, cd, ct, bi⟩
 | _ => default
noncomputable def tO (l : List Value) : Obj := ⟨.type "tuple", none, .seq l.toArray 0, #[]⟩
noncomputable def lO (l : List Value) : Obj := ⟨.type "list", none, .seq l.toArray 0, #[]⟩
noncomputable def gO (c : Value) (l : List Value) : Obj := ⟨c, none, .fields l.toArray, #[]⟩
noncomputable def dO (l : List DictEntry) : Obj := ⟨.type "dict", none, .dict l.toArray l.length, #[]⟩
noncomputable def cO (n q : String) (t : Nat) (li a b c d : Int) (A : Nat) (x : Bool) (k : Int) (B : Nat) (v1 v2 v3 v4 v5 : Value) (t2 : Nat) : Obj :=
 gO (.type "code") [qs n t, qs q (t + 1), qs "/claim/cut.py" (t + 2), qi li, qi a, qi b, qi c, qi d, qr A, .bool x, qi k, qr B, v1, v2, v3, v4, v5, qi li, qs "/claim/cut.py" t2]
noncomputable def hF (f : FuncData) : Obj := ⟨.none, none, .func f, #[]⟩
noncomputable def hO (st : Stmt) (q : String) : Obj := hF (fD st q 0 [] .none .none .none .none none .none .none 0)
noncomputable def fO (f : FuncData) : Obj := ⟨.type "function", none, .func f, #[]⟩
noncomputable def kO (st : Stmt) (q : String) (dc md : Value) (cd : Nat) : Obj := fO (fD st q 3 [] .none .none dc md none (.ref cd) .none 0)
noncomputable def nmL : Nat -> List String -> List Value
 | _, [] => []
 | t, x :: r => qs x t :: nmL (t + 1) r
noncomputable def fnH (a : Nat) (st : Stmt) (n q : String) (t : Nat) (li x y z u : Int) (ns : List String) (r : Frag) : Frag :=
 (a, tO []) :: (a + 1, gO .none []) :: (a + 2, tO (nmL (t + 3) ns)) :: (a + 3, tO []) :: (a + 4, hO st q) ::
  (a + 5, cO n q t li x y z u a true 482 (a + 1) .none (qr (a + 2)) (qr (a + 3)) (qr (a + 4)) (qi (t + 3 + ns.length : Nat)) (t + 4 + ns.length)) :: r
noncomputable def fnG (a : Nat) (st : Stmt) (n q : String) (t : Nat) (li x y z u : Int) (ns : List String) (dc md : Value) (r : Frag) : Frag :=
 fnH a st n q t li x y z u ns ((a + 6, kO st q dc md (a + 5)) :: r)
noncomputable def fnN (a : Nat) (st : Stmt) (n : String) (t : Nat) (li x y z u : Int) (ns : List String) (r : Frag) : Frag := fnH a st n n t li x y z u ns r
noncomputable def fnM (a : Nat) (st : Stmt) (n : String) (t : Nat) (li x y z u : Int) (ns : List String) (dc md : Value) (r : Frag) : Frag := fnG a st n n t li x y z u ns dc md r
noncomputable def Kf (P : Params) : Frag :=
 %[(0, dO (qE P 1 [("__name__", qs "builtins" 160), ("__doc__", .builtin "builtins.__doc__:str#opaque"), ("__package__", .builtin "builtins.__package__:str#opaque"), ("__loader__", .builtin "builtins.__loader__:shared#opaque"), ("__spec__", .builtin "builtins.__spec__#opaque"), ("__build_class__", .builtin "__build_class__"), ("__import__", .builtin "__import__"), ("abs", .builtin "abs"), ("all", .builtin "all"), ("any", .builtin "any"), ("ascii", .builtin "ascii"), ("bin", .builtin "bin"), ("breakpoint", .builtin "breakpoint"), ("callable", .builtin "callable"), ("chr", .builtin "chr"), ("compile", .builtin "compile"), ("delattr", .builtin "delattr"), ("dir", .builtin "dir"), ("divmod", .builtin "divmod"), ("eval", .builtin "eval"), ("exec", .builtin "exec"), ("format", .builtin "format"), ("getattr", .builtin "getattr"), ("globals", .builtin "globals"), ("hasattr", .builtin "hasattr"), ("hash", .builtin "hash"), ("hex", .builtin "hex"), ("id", .builtin "id"), ("input", .builtin "input"), ("isinstance", .builtin "isinstance"), ("issubclass", .builtin "issubclass"), ("iter", .builtin "iter"), ("aiter", .builtin "aiter"), ("len", .builtin "len"), ("locals", .builtin "locals"), ("max", .builtin "max"), ("min", .builtin "min"), ("next", .builtin "next"), ("anext", .builtin "anext"), ("oct", .builtin "oct"), ("ord", .builtin "ord"), ("pow", .builtin "pow"), ("print", .builtin "print"), ("repr", .builtin "repr"), ("round", .builtin "round"), ("setattr", .builtin "setattr"), ("sorted", .builtin "sorted"), ("sum", .builtin "sum"), ("vars", .builtin "vars"), ("None", .none), ("Ellipsis", .ellipsis), ("NotImplemented", .notImplemented), ("False", .bool false), ("True", .bool true), ("bool", .type "bool"), ("memoryview", .type "memoryview"), ("bytearray", .type "bytearray"), ("bytes", .type "bytes"), ("classmethod", .type "classmethod"), ("complex", .type "complex"), ("dict", .type "dict"), ("enumerate", .type "enumerate"), ("filter", .type "filter"), ("float", .type "float"), ("frozenset", .type "frozenset"), ("property", .type "property"), ("int", .type "int"), ("list", .type "list"), ("map", .type "map"), ("object", .type "object"), ("range", .type "range"), ("reversed", .type "reversed"), ("set", .type "set"), ("slice", .type "slice"), ("staticmethod", .type "staticmethod"), ("str", .type "str"), ("super", .type "super"), ("tuple", .type "tuple"), ("type", .type "type"), ("zip", .type "zip"), ("__debug__", .bool true), ("BaseException", .type "BaseException"), ("BaseExceptionGroup", .type "BaseExceptionGroup"), ("Exception", .type "Exception"), ("GeneratorExit", .type "GeneratorExit"), ("KeyboardInterrupt", .type "KeyboardInterrupt"), ("SystemExit", .type "SystemExit"), ("ArithmeticError", .type "ArithmeticError"), ("AssertionError", .type "AssertionError"), ("AttributeError", .type "AttributeError"), ("BufferError", .type "BufferError"), ("EOFError", .type "EOFError"), ("ImportError", .type "ImportError"), ("LookupError", .type "LookupError"), ("MemoryError", .type "MemoryError"), ("NameError", .type "NameError"), ("OSError", .type "OSError"), ("ReferenceError", .type "ReferenceError"), ("RuntimeError", .type "RuntimeError"), ("StopAsyncIteration", .type "StopAsyncIteration"), ("StopIteration", .type "StopIteration"), ("SyntaxError", .type "SyntaxError"), ("SystemError", .type "SystemError"), ("TypeError", .type "TypeError"), ("ValueError", .type "ValueError"), ("Warning", .type "Warning"), ("FloatingPointError", .type "FloatingPointError"), ("OverflowError", .type "OverflowError"), ("ZeroDivisionError", .type "ZeroDivisionError"), ("BytesWarning", .type "BytesWarning"), ("DeprecationWarning", .type "DeprecationWarning"), ("EncodingWarning", .type "EncodingWarning"), ("FutureWarning", .type "FutureWarning"), ("ImportWarning", .type "ImportWarning"), ("PendingDeprecationWarning", .type "PendingDeprecationWarning"), ("ResourceWarning", .type "ResourceWarning"), ("RuntimeWarning", .type "RuntimeWarning"), ("SyntaxWarning", .type "SyntaxWarning"), ("UnicodeWarning", .type "UnicodeWarning"), ("UserWarning", .type "UserWarning"), ("BlockingIOError", .type "BlockingIOError"), ("ChildProcessError", .type "ChildProcessError"), ("ConnectionError", .type "ConnectionError"), ("FileExistsError", .type "FileExistsError"), ("FileNotFoundError", .type "FileNotFoundError"), ("InterruptedError", .type "InterruptedError"), ("IsADirectoryError", .type "IsADirectoryError"), ("NotADirectoryError", .type "NotADirectoryError"), ("PermissionError", .type "PermissionError"), ("ProcessLookupError", .type "ProcessLookupError"), ("TimeoutError", .type "TimeoutError"), ("IndentationError", .type "IndentationError"), ("_IncompleteInputError", .type "_IncompleteInputError"), ("IndexError", .type "IndexError"), ("KeyError", .type "KeyError"), ("ModuleNotFoundError", .type "ModuleNotFoundError"), ("NotImplementedError", .type "NotImplementedError"), ("PythonFinalizationError", .type "PythonFinalizationError"), ("RecursionError", .type "RecursionError"), ("UnboundLocalError", .type "UnboundLocalError"), ("UnicodeError", .type "UnicodeError"), ("BrokenPipeError", .type "BrokenPipeError"), ("ConnectionAbortedError", .type "ConnectionAbortedError"), ("ConnectionRefusedError", .type "ConnectionRefusedError"), ("ConnectionResetError", .type "ConnectionResetError"), ("TabError", .type "TabError"), ("UnicodeDecodeError", .type "UnicodeDecodeError"), ("UnicodeEncodeError", .type "UnicodeEncodeError"), ("UnicodeTranslateError", .type "UnicodeTranslateError"), ("ExceptionGroup", .type "ExceptionGroup"), ("EnvironmentError", .type "OSError"), ("IOError", .type "OSError"), ("open", .builtin "open"), ("quit", .builtin "builtins.quit#opaque"), ("exit", .builtin "builtins.exit#opaque"), ("copyright", .builtin "builtins.copyright#opaque"), ("credits", .builtin "builtins.credits#opaque"), ("license", .builtin "builtins.license#opaque"), ("help", .builtin "builtins.help#opaque")] [])), (1, dO [qe P "builtins" 162 (qr 4), qe P "__main__" 163 (qr 5), qe P "_sre" 244 (qr 12), qe P "_collections" 292 (qr 30), qe P "_datetime" 397 (qr 36), qe P "_functools" 458 (qr 59)]), (2, ⟨.none, none, (.dict [qe P "\x69mport.loaded._sre" 183 (.bool true), qe P "class._frozen_importlib.BuiltinImporter" 185 (qr 14), qe P "watched.\x69mport" 206 (qr 18), qe P "class._frozen_importlib.ModuleSpec" 216 (qr 22), qe P "sys.modules.booked-epoch" 245 (qi 6), qe P "\x69mport.later-laid._sre" 270 (.bool true), qe P "watched.library" 272 (qr 27), qe P "watched.library-objects" 0 (qs "\x0c\x1e$;" 0), qe P "watched.library-deep._sre" 273 (qs "\x04\x00\x00\x0b\x04\x00\x00\x0b\x04\x00\x00\x03\x04\x00\x00\x0b\x08\x04dict\x02" 0), qe P "\x69mport.loaded._collections" 280 (.bool true), qe P "sys.modules.landed._collections" 294 (.bool true), qe P "\x69mport.later-laid._collections" 309 (.bool true), qe P "watched.library-deep._collections" 311 (qs "\x04\x00\x00\x1d\x04\x00\x00\x1d\x04\x00\x00\x03\x04\x00\x00\x1d\x08\x04dict\x02" 0), qe P "\x69mport.loaded._datetime" 326 (.bool true), qe P "class._frozen_importlib_external._LoaderBasics" 331 (qr 39), qe P "class._frozen_importlib_external.FileLoader" 347 (qr 44), qe P "class._frozen_importlib_external.ExtensionFileLoader" 368 (qr 49), qe P "datetime.timedelta.zero" 418 (qr 55), qe P "datetime.timezone.utc" 419 (qr 56), qe P "\x69mport.later-laid._datetime" 422 (.bool true), qe P "\x69mport.loaded._functools" 446 (.bool true), qe P "sys.modules.landed._functools" 460 (.bool true), qe P "\x69mport.later-laid._functools" 473 (.bool true), qe P "watched.library-deep._functools" 475 (qs "\x04\x00\x00:\x04\x00\x00:\x04\x00\x00\x03\x04\x00\x00:\x08\x04dict\x02" 0)].toArray 24), #[]⟩), (3, dO (qE P 165 [("__name__", qs "law_ik0240_01" 2652), ("__doc__", .none), ("__package__", .none), ("__loader__", .builtin "__main__.__loader__#opaque"), ("__spec__", .none), ("__annotations__", qr 6), ("__builtins__", qr 4)] %[qe P "__file__" 173 (qs "/claim/cut.py" 172), qe P "__cached__" 174 .none, qe P "_sre" 275 (qr 12), qe P "tuplegetter_collections" 317 (.type "collections._tuplegetter"), qe P "date" 429 (.type "datetime.date"), qe P "datetime" 432 (.type "datetime.datetime"), qe P "time" 435 (.type "datetime.time"), qe P "timedelta" 438 (.type "datetime.timedelta"), qe P "timezone" 441 (.type "datetime.timezone"), qe P "_lru_cache_wrapper" 481 (.type "functools._lru_cache_wrapper"), qe P "_wall" 494 (qr 73), qe P "_WallAttr" 534 (qr 98), qe P "heappush" 545 (qr 109), qe P "heappop" 555 (qr 116), qe P "heapreplace" 565 (qr 123), qe P "heappushpop" 574 (qr 130), qe P "heapify" 584 (qr 137), qe P "_siftdown" 596 (qr 144), qe P "_siftup" 609 (qr 151), qe P "S_IMODE" 619 (qr 158), qe P "S_IFMT" 627 (qr 165), qe P "S_IFDIR" 629 (qj 16384 628), qe P "S_IFCHR" 631 (qj 8192 630), qe P "S_IFBLK" 633 (qj 24576 632), qe P "S_IFREG" 635 (qj 32768 634), qe P "S_IFIFO" 637 (qj 4096 636), qe P "S_IFLNK" 639 (qj 40960 638), qe P "S_IFSOCK" 641 (qj 49152 640), qe P "S_ISUID" 643 (qj 2048 642), qe P "S_ISGID" 645 (qj 1024 644), qe P "S_ISVTX" 647 (qj 512 646), qe P "S_IRUSR" 649 (qj 256 648), qe P "S_IWUSR" 651 (qj 128 650), qe P "S_IXUSR" 653 (qj 64 652), qe P "S_IRGRP" 655 (qj 32 654), qe P "S_IWGRP" 657 (qj 16 656), qe P "S_IXGRP" 659 (qj 8 658), qe P "S_IROTH" 661 (qj 4 660), qe P "S_IWOTH" 663 (qj 2 662), qe P "S_IXOTH" 665 (qj 1 664), qe P "_filemode_table" 691 (qr 198), qe P "filemode" 704 (qr 205), qe P "RE_NUMBER" 962 (qr 210), qe P "RE_LOCALTIME" 1075 (qr 215), qe P "RE_DATETIME" 1380 (qr 220), qe P "match_to_datetime" 1407 (qr 227), qe P "WRAPPER_ASSIGNMENTS" 1415 (qr 228), qe P "WRAPPER_UPDATES" 1417 (qr 229), qe P "update_wrapper" 1430 (qr 237), qe P "CacheInfo" 1541 (qr 301), qe P "_CacheInfo" 1542 (qr 301), qe P "lru_cache" 1556 (qr 312), qe P "cached_tz" 1625 (qr 335), qe P "match_to_localtime" 1637 (qr 355), qe P "match_to_number" 1645 (qr 362), qe P "_tuplegetter" 1704 (qr 401), qe P "tuplegetter_parser" 1705 (qr 401), qe P "MAX_KEY_PARTS" 1707 (qj 1000 1706), qe P "ASCII_CTRL" 1851 (qr 422), qe P "ILLEGAL_BASIC_STR_CHARS" 1855 (qr 427) | qE P 1861 [("ILLEGAL_MULTILINE_BASIC_STR_CHARS", qr 432), ("ILLEGAL_LITERAL_STR_CHARS", qr 427), ("ILLEGAL_MULTILINE_LITERAL_STR_CHARS", qr 432), ("ILLEGAL_COMMENT_CHARS", qr 427)] [qe P "TOML_WS" 1870 (qr 433), qe P "TOML_WS_AND_NEWLINE" 1874 (qr 441), qe P "ascii_lowercase" 1876 (qs "abcdefghijklmnopqrstuvwxyz" 1875), qe P "ascii_uppercase" 1878 (qs "ABCDEFGHIJKLMNOPQRSTUVWXYZ" 1877), qe P "ascii_letters" 1880 ((qc ["abcdefghijkl", "mnopqrstuvwx", "yzABCDEFGHIJ", "KLMNOPQRSTUV", "WXYZ"] 1879)), qe P "digits" 1882 (qs "0123456789" 1881), qe P "hexdigits" 1887 (qs "0123456789abcdefABCDEF" 1886), qe P "BARE_KEY_CHARS" 2019 (qr 442), qe P "KEY_INITIAL_CHARS" 2025 (qr 450), qe P "HEXDIGIT_CHARS" 2070 (qr 451), qe P "MappingProxyType" 2074 (.type "mappingproxy"), qe P "BASIC_STR_ESCAPE_REPLACEMENTS" 2098 (qr 457), qe P "TOMLDecodeError" 2118 (qr 467), qe P "loads" 2134 (qr 478), qe P "Flags" 2224 (qr 530), qe P "NestedDict" 2275 (qr 566), qe P "Output" 2390 (qr 638), qe P "skip_chars" 2399 (qr 648), qe P "skip_until" 2411 (qr 655), qe P "skip_comment" 2420 (qr 662), qe P "skip_comments_and_array_ws" 2429 (qr 669), qe P "create_dict_rule" 2439 (qr 676), qe P "create_list_rule" 2449 (qr 683), qe P "key_value_rule" 2469 (qr 690), qe P "parse_key_value_pair" 2481 (qr 697), qe P "parse_key" 2492 (qr 704), qe P "parse_key_part" 2502 (qr 711), qe P "parse_one_line_basic_str" 2510 (qr 718), qe P "parse_array" 2522 (qr 725), qe P "parse_inline_table" 2539 (qr 732), qe P "parse_basic_str_escape" 2551 (qr 740), qe P "parse_basic_str_escape_multiline" 2559 (qr 747), qe P "parse_hex_char" 2570 (qr 754), qe P "parse_literal_str" 2579 (qr 761), qe P "parse_multiline_str" 2591 (qr 768), qe P "parse_basic_str" 2606 (qr 775), qe P "parse_value" 2623 (qr 782), qe P "suffixed_err" 2634 (qr 789), qe P "is_unicode_scalar_value" 2641 (qr 796), qe P "make_safe_parse_float" 2651 (qr 803), qe P "_law_loaded" 2660 (qr 810), qe P "_law_rank" 2671 (qr 817), qe P "_law_written" 2685 (qr 824), qe P "_law_rows" 2694 (qr 831), qe P "_law_barred" 2703 (qr 838), qe P "_law_run" 2709 (qr 843), qe P "law" 2715 (qr 848)]])), (4, ⟨(.type "module"), (some 0), .plain, #[]⟩), (5, ⟨(.type "module"), (some 3), .plain, #[]⟩), (6, dO []), (7, tO []), (8, gO .none []), (9, cO "<module>" "<module>" 176 1 0 0 0 0 7 false 175 8 .none .none .none .none (qi 179) 180), (10, ⟨(.type "frame"), none, .plain, [some (qr 9), some (qr 3), some (qr 3), none, some (qs "__main__" 164), none, some (qr 0)].toArray⟩), (11, dO %[qe P "__name__" 247 (qs "_sre" 246), qe P "__doc__" 248 .none | qE P 250 [("__package__", qs "" 249), ("__loader__", .builtin "off-the-table:_sre.__loader__:shared#opaque"), ("__spec__", .builtin "off-the-table:_sre.__spec__:shared#opaque"), ("compile", .builtin "_sre.compile"), ("template", .builtin "off-the-table:_sre.template:shared#opaque"), ("getcodesize", .builtin "off-the-table:_sre.getcodesize:shared#opaque"), ("ascii_iscased", .builtin "off-the-table:_sre.ascii_iscased:shared#opaque"), ("unicode_iscased", .builtin "off-the-table:_sre.unicode_iscased:shared#opaque"), ("ascii_tolower", .builtin "off-the-table:_sre.ascii_tolower:shared#opaque"), ("unicode_tolower", .builtin "off-the-table:_sre.unicode_tolower:shared#opaque")] [qe P "MAGIC" 261 (qj 20230612 260), qe P "CODESIZE" 263 (qj 4 262), qe P "MAXREPEAT" 265 (qj 4294967295 264), qe P "MAXGROUPS" 267 (qj 1073741823 266), qe P "copyright" 269 ((qc [" SRE 2.2.2 C", "opyright (c)", " 1997-2002 b", "y Secret Lab", "s AB "] 268))]]), (12, ⟨(.type "module"), (some 11), .plain, #[]⟩), (13, dO (qE P 189 [("__module__", qs "_frozen_importlib" 186), ("__firstlineno__", qj 971 187), ("__doc__", .builtin "_frozen_importlib.BuiltinImporter.__doc__:str#opaque"), ("_ORIGIN", qs "built-in" 188), ("find_spec", .builtin "_frozen_importlib.BuiltinImporter.find_spec#opaque"), ("create_module", .builtin "_frozen_importlib.BuiltinImporter.create_module#opaque"), ("exec_module", .builtin "_frozen_importlib.BuiltinImporter.exec_module#opaque"), ("get_code", .builtin "_frozen_importlib.BuiltinImporter.get_code#opaque"), ("get_source", .builtin "_frozen_importlib.BuiltinImporter.get_source#opaque"), ("is_package", .builtin "_frozen_importlib.BuiltinImporter.is_package#opaque"), ("load_module", .builtin "_frozen_importlib.BuiltinImporter.load_module#opaque"), ("__static_attributes__", qr 15)] [qe P "__dict__" 202 (qr 16), qe P "__weakref__" 204 (qr 17)])), (14, ⟨(.type "type"), none, (.cls ⟨"BuiltinImporter", [.type "object"], [qr 14, .type "object"], 13, "BuiltinImporter", true, [], [], false, none, false⟩), #[]⟩), (15, tO []), (16, gO (.type "getset_descriptor") [qs "__dict__" 201, qr 14, .builtin "function.__dict__", .builtin "function.__dict__#set"]), (17, gO (.type "getset_descriptor") [qs "__weakref__" 203, qr 14, .builtin "ExceptionGroup.__weakref__", .none]), (18, ⟨.none, none, (.seq [qi 13, (qc ["\x06½\n__module_", "_\x06º\x11_frozen_", "importlib\x06¾\x0f", "__firstlinen", "o__\x04»\x00ϋ\x06¿\x07__", "doc__\t4_froz", "en_importlib", ".BuiltinImpo", "rter.__doc__", ":str#opaque\x06", "À\x07_ORIGIN\x06¼\x08", "built-in\x06Á\tf", "ind_spec\t2_f", "rozen_import", "lib.BuiltinI", "mporter.find", "_spec#opaque", "\x06Â\rcreate_mo", "dule\t6_froze", "n_importlib.", "BuiltinImpor", "ter.create_m", "odule#opaque", "\x06Ã\x0bexec_modu", "le\t4_frozen_", "importlib.Bu", "iltinImporte", "r.exec_modul", "e#opaque\x06Ä\x08g", "et_code\t1_fr", "ozen_importl", "ib.BuiltinIm", "porter.get_c", "ode#opaque\x06Å", "\nget_source\t", "3_frozen_imp", "ortlib.Built", "inImporter.g", "et_source#op", "aque\x06Æ\nis_pa", "ckage\t3_froz", "en_importlib", ".BuiltinImpo", "rter.is_pack", "age#opaque\x06Ç", "\x0bload_module", "\t4_frozen_im", "portlib.Buil", "tinImporter.", "load_module#", "opaque\x06È\x15__s", "tatic_attrib", "utes__\x04\x00\x00\x0f\x06Ê", "\x08__dict__\x04\x00\x00", "\x10\x06Ì\x0b__weakre", "f__\x04\x00\x00\x11"] 0), .bool true, .bool true, qs "" 205, qi 21, (qc ["\x06ã\n__module_", "_\x06Ù\x11_frozen_", "importlib\x06ä\x0f", "__firstlinen", "o__\x04Ú\x00Ȳ\x06å\x07__", "doc__\t/_froz", "en_importlib", ".ModuleSpec.", "__doc__:str#", "opaque\x06æ\x08__i", "nit__\t,_froz", "en_importlib", ".ModuleSpec.", "__init__#opa", "que\x06ç\x08__repr", "__\t,_frozen_", "importlib.Mo", "duleSpec.__r", "epr__#opaque", "\x06è\x06__eq__\t*_", "frozen_impor", "tlib.ModuleS", "pec.__eq__#o", "paque\x06é\x06cach", "ed\t*_frozen_", "importlib.Mo", "duleSpec.cac", "hed#opaque\x06ê", "\x06parent\t*_fr", "ozen_importl", "ib.ModuleSpe", "c.parent#opa", "que\x06ë\x0chas_lo", "cation\t0_fro", "zen_importli", "b.ModuleSpec", ".has_locatio", "n#opaque\x06ì\x15_", "_static_attr", "ibutes__\x04\x00\x00\x17", "\x06î\x08__dict__\x04", "\x00\x00\x18\x06ð\x0b__weak", "ref__\x04\x00\x00\x19\x06ñ\x08", "__hash__\x00"] 0), .bool true, .bool true, qs "" 242, qi 38, (qc ["\x06Ŏ\n__module_", "_\x06Ō\x1a_frozen_", "importlib_ex", "ternal\x06ŏ\x0f__f", "irstlineno__", "\x04ō\x00ϩ\x06Ő\x07__doc", "__\t;_frozen_", "importlib_ex", "ternal._Load", "erBasics.__d", "oc__:str#opa", "que\x06ő\nis_pac", "kage\t:_froze", "n_importlib_", "external._Lo", "aderBasics.i", "s_package#op", "aque\x06Œ\rcreat", "e_module\t=_f", "rozen_import", "lib_external", "._LoaderBasi", "cs.create_mo", "dule#opaque\x06", "œ\x0bexec_modul", "e\t;_frozen_i", "mportlib_ext", "ernal._Loade", "rBasics.exec", "_module#opaq", "ue\x06Ŕ\x0bload_mo", "dule\t;_froze", "n_importlib_", "external._Lo", "aderBasics.l", "oad_module#o", "paque\x06ŕ\x15__st", "atic_attribu", "tes__\x04\x00\x00(\x06ŗ\x08", "__dict__\x04\x00\x00)", "\x06ř\x0b__weakref", "__\x04\x00\x00*"] 0), .bool true, .bool true, qs "" 346, qi 43, (qc ["\x06Š\n__module_", "_\x06Ŝ\x1a_frozen_", "importlib_ex", "ternal\x06š\x0f__f", "irstlineno__", "\x04ŝ\x00Ҙ\x06Ţ\x07__doc", "__\t8_frozen_", "importlib_ex", "ternal.FileL", "oader.__doc_", "_:str#opaque", "\x06ţ\x08__init__\t", "5_frozen_imp", "ortlib_exter", "nal.FileLoad", "er.__init__#", "opaque\x06Ť\x06__e", "q__\t3_frozen", "_importlib_e", "xternal.File", "Loader.__eq_", "_#opaque\x06ť\x08_", "_hash__\t5_fr", "ozen_importl", "ib_external.", "FileLoader._", "_hash__#opaq", "ue\x06Ŧ\x0bload_mo", "dule\t8_froze", "n_importlib_", "external.Fil", "eLoader.load", "_module#opaq", "ue\x06ŧ\x0cget_fil", "ename\t9_froz", "en_importlib", "_external.Fi", "leLoader.get", "_filename#op", "aque\x06Ũ\x08get_d", "ata\t5_frozen", "_importlib_e", "xternal.File", "Loader.get_d", "ata#opaque\x06ũ", "\x13get_resourc", "e_reader\t@_f", "rozen_import", "lib_external", ".FileLoader.", "get_resource", "_reader#opaq", "ue\x06Ū\x15__stati", "c_attributes", "__\x04\x00\x00-\x06Ŭ\x08__d", "ict__\x04\x00\x00.\x06Ů\x0b", "__weakref__\x04", "\x00\x00/"] 0), .bool true, .bool true, qs "" 367, qi 48, (qc ["\x06ŵ\n__module_", "_\x06ű\x1a_frozen_", "importlib_ex", "ternal\x06Ŷ\x0f__f", "irstlineno__", "\x04Ų\x00Ԑ\x06ŷ\x07__doc", "__\tA_frozen_", "importlib_ex", "ternal.Exten", "sionFileLoad", "er.__doc__:s", "tr#opaque\x06Ÿ\x08", "__init__\t>_f", "rozen_import", "lib_external", ".ExtensionFi", "leLoader.__i", "nit__#opaque", "\x06Ź\x06__eq__\t<_", "frozen_impor", "tlib_externa", "l.ExtensionF", "ileLoader.__", "eq__#opaque\x06", "ź\x08__hash__\t>", "_frozen_impo", "rtlib_extern", "al.Extension", "FileLoader._", "_hash__#opaq", "ue\x06Ż\rcreate_", "module\tC_fro", "zen_importli", "b_external.E", "xtensionFile", "Loader.creat", "e_module#opa", "que\x06ż\x0bexec_m", "odule\tA_froz", "en_importlib", "_external.Ex", "tensionFileL", "oader.exec_m", "odule#opaque", "\x06Ž\nis_packag", "e\t@_frozen_i", "mportlib_ext", "ernal.Extens", "ionFileLoade", "r.is_package", "#opaque\x06ž\x08ge", "t_code\t>_fro", "zen_importli", "b_external.E", "xtensionFile", "Loader.get_c", "ode#opaque\x06ſ", "\nget_source\t", "@_frozen_imp", "ortlib_exter", "nal.Extensio", "nFileLoader.", "get_source#o", "paque\x06ƀ\x0cget_", "filename\tB_f", "rozen_import", "lib_external", ".ExtensionFi", "leLoader.get", "_filename#op", "aque\x06Ɓ\x15__sta", "tic_attribut", "es__\x04\x00\x002"] 0), .bool true, .bool true, qs "" 386].toArray 4), #[]⟩), (19, lO []), (20, dO (qE P 208 [("name", qs "_sre" 207), ("loader", qr 14), ("origin", qs "built-in" 184), ("loader_state", .none), ("submodule_search_locations", .none), ("_uninitialized_submodules", qr 19), ("_set_fileattr", .bool false), ("_cached", .none)] [qe P "_initializing" 243 (.bool false)])), (21, dO (qE P 227 [("__module__", qs "_frozen_importlib" 217), ("__firstlineno__", qj 562 218), ("__doc__", .builtin "_frozen_importlib.ModuleSpec.__doc__:str#opaque"), ("__init__", .builtin "_frozen_importlib.ModuleSpec.__init__#opaque"), ("__repr__", .builtin "_frozen_importlib.ModuleSpec.__repr__#opaque"), ("__eq__", .builtin "_frozen_importlib.ModuleSpec.__eq__#opaque"), ("cached", .builtin "_frozen_importlib.ModuleSpec.cached#opaque"), ("parent", .builtin "_frozen_importlib.ModuleSpec.parent#opaque"), ("has_location", .builtin "_frozen_importlib.ModuleSpec.has_location#opaque"), ("__static_attributes__", qr 23)] [qe P "__dict__" 238 (qr 24), qe P "__weakref__" 240 (qr 25), qe P "__hash__" 241 .none])), (22, ⟨(.type "type"), none, (.cls ⟨"ModuleSpec", [.type "object"], [qr 22, .type "object"], 21, "ModuleSpec", true, [], [], false, none, false⟩), #[]⟩), (23, tO (nmL 219 ["_cached", "_set_fileattr", "_uninitialized_submodules", "loader", "loader_state", "name", "origin", "submodule_search_locations"])), (24, gO (.type "getset_descriptor") [qs "__dict__" 237, qr 22, .builtin "function.__dict__", .builtin "function.__dict__#set"]), (25, gO (.type "getset_descriptor") [qs "__weakref__" 239, qr 22, .builtin "ExceptionGroup.__weakref__", .none]), (26, ⟨(qr 22), (some 20), .plain, #[]⟩), (27, ⟨.none, none, (.seq [qi 11, (.str ⟨⟨[6, 247, 8, 95, 95, 110, 97, 109, 101, 95, 95, 6, 246, 4, 95, 115, 114, 101, 6, 248, 7, 95, 95, 100, 111, 99, 95, 95, 0, 6, 250, 11, 95, 95, 112, 97, 99, 107, 97, 103, 101, 95, 95, 6, 249, 0, 6, 251, 10, 95, 95, 108, 111, 97, 100, 101, 114, 95, 95, 4, 0, 0, 14, 6, 252, 8, 95, 95, 115, 112, 101, 99, 95, 95, 4, 0, 0, 26, 6, 253, 7, 99, 111, 109, 112, 105, 108, 101, 9, 12, 95, 115, 114, 101, 46, 99, 111, 109, 112, 105, 108, 101, 6, 254, 8, 116, 101, 109, 112, 108, 97, 116, 101, 9, 13, 95, 115, 114, 101, 46, 116, 101, 109, 112, 108, 97, 116, 101, 6, 255, 11, 103, 101, 116, 99, 111, 100, 101, 115, 105, 122, 101, 9, 16, 95, 115, 114, 101, 46, 103, 101, 116, 99, 111, 100, 101, 115, 105, 122, 101, 6, 256, 13, 97, 115, 99, 105, 105, 95, 105, 115, 99, 97, 115, 101, 100, 9, 18, 95, 115, 114, 101, 46, 97, 115, 99, 105, 105, 95, 105, 115, 99, 97, 115, 101, 100, 6, 257, 15, 117, 110, 105, 99, 111, 100, 101, 95, 105, 115, 99, 97, 115, 101, 100, 9, 20, 95, 115, 114, 101, 46, 117, 110, 105, 99, 111, 100, 101, 95, 105, 115, 99, 97, 115, 101, 100, 6, 258, 13, 97, 115, 99, 105, 105, 95, 116, 111, 108, 111, 119, 101, 114, 9, 18, 95, 115, 114, 101, 46, 97, 115, 99, 105, 105, 95, 116, 111, 108, 111, 119, 101, 114, 6, 259, 15, 117, 110, 105, 99, 111, 100, 101, 95, 116, 111, 108, 111, 119, 101, 114, 9, 20, 95, 115, 114, 101, 46, 117, 110, 105, 99, 111, 100, 101, 95, 116, 111, 108, 111, 119, 101, 114, 6, 261, 5, 77, 65, 71, 73, 67, 4, 260, 0, 20230612, 6, 263, 8, 67, 79, 68, 69, 83, 73, 90, 69, 4, 262, 0, 4, 6, 265, 9, 77, 65, 88, 82, 69, 80, 69, 65, 84, 4, 264, 0, 4294967295, 6, 267, 9, 77, 65, 88, 71, 82, 79, 85, 80, 83, 4, 266, 0, 1073741823, 6, 269, 9, 99, 111, 112, 121, 114, 105, 103, 104, 116, 6, 268, 53, 32, 83, 82, 69, 32, 50, 46, 50, 46, 50, 32, 67, 111, 112, 121, 114, 105, 103, 104, 116, 32, 40, 99, 41, 32, 49, 57, 57, 55, 45, 50, 48, 48, 50, 32, 98, 121, 32, 83, 101, 99, 114, 101, 116, 32, 76, 97, 98, 115, 32, 65, 66, 32]⟩⟩ 0), .bool true, .bool false, qs "_sre" 271, qi 29, (qc ["\x06Ĩ\x08__name__\x06", "ħ\x0c_collectio", "ns\x06ĩ\x07__doc__", "\t\x1f_collectio", "ns.__doc__:s", "tr#opaque\x06ī\x0b", "__package__\x06", "Ī\x00\x06Ĭ\n__loade", "r__\x04\x00\x00\x0e\x06ĭ\x08__", "spec__\x04\x00\x00!\x06Į", "\x0f_count_elem", "ents\t\x1c_colle", "ctions._coun", "t_elements\x06į", "\x05deque\x08\x11coll", "ections.dequ", "e\x06İ\x0bdefaultd", "ict\x08\x17collect", "ions.default", "dict\x06ı\x0f_dequ", "e_iterator\x08\x1b", "collections.", "_deque_itera", "tor\x06Ĳ\x17_deque", "_reverse_ite", "rator\x08#colle", "ctions._dequ", "e_reverse_it", "erator\x06ĳ\x0c_tu", "plegetter\x08\x18c", "ollections._", "tuplegetter\x06", "Ĵ\x0bOrderedDic", "t\x08\x17collectio", "ns.OrderedDi", "ct"] 0), .bool true, .bool false, qs "_collections" 310, qi 35, (qc ["\x06Ɛ\x08__name__\x06", "Ə\t_datetime\x06", "ƒ\x07__doc__\x06Ƒ)", "Fast impleme", "ntation of t", "he datetime ", "type.\x06Ɣ\x0b__pa", "ckage__\x06Ɠ\x00\x06ƕ", "\n__loader__\x04", "\x00\x003\x06Ɩ\x08__spec", "__\x04\x00\x006\x06Ɨ\x08__f", "ile__\x06Ň/nix", "/store/wj1f5", "6qky4pmjc7l0", "r6b6l7whnnw7", "hp6-python3-", "3.13.15/lib/", "python3.13/l", "ib-dynload/_", "datetime.cpy", "thon-313-x86", "_64-linux-gn", "u.so\x06Ƙ\x04date\x08", "\rdatetime.da", "te\x06ƙ\x08datetim", "e\x08\x11datetime.", "datetime\x06ƚ\x04t", "ime\x08\rdatetim", "e.time\x06ƛ\ttim", "edelta\x08\x12date", "time.timedel", "ta\x06Ɯ\x06tzinfo\x08", "\x0fdatetime.tz", "info\x06Ɲ\x08timez", "one\x08\x11datetim", "e.timezone\x06Ɵ", "\x07MINYEAR\x04ƞ\x00\x01", "\x06ơ\x07MAXYEAR\x04Ơ", "\x00✏\x06Ƥ\x03UTC\x04\x00\x008", "\x06ƥ\rdatetime_", "CAPI\t\x1e_datet", "ime.datetime", "_CAPI#opaque"] 0), .bool true, .bool false, qs "_datetime" 423, qi 58, (qc ["\x06ǎ\x08__name__\x06", "Ǎ\n_functools", "\x06ǐ\x07__doc__\x06Ǐ", " Tools that ", "operate on f", "unctions.\x06ǒ\x0b", "__package__\x06", "Ǒ\x00\x06Ǔ\n__loade", "r__\x04\x00\x00\x0e\x06ǔ\x08__", "spec__\x04\x00\x00>\x06Ǖ", "\x06reduce\t\x11_fu", "nctools.redu", "ce\x06ǖ\ncmp_to_", "key\t\x15_functo", "ols.cmp_to_k", "ey\x06Ǘ\x07partial", "\x08\x11functools.", "partial\x06ǘ\x12_l", "ru_cache_wra", "pper\x08\x1cfuncto", "ols._lru_cac", "he_wrapper"] 0), .bool true, .bool false, qs "_functools" 474].toArray 3), #[]⟩), (28, tO [qs "_tuplegetter" 277]), (29, dO %[qe P "__name__" 296 (qs "_collections" 295), qe P "__doc__" 297 (.builtin "off-the-table:_collections.__doc__:shared#opaque") | qE P 299 [("__package__", qs "" 298), ("__loader__", .builtin "off-the-table:_collections.__loader__:shared#opaque"), ("__spec__", .builtin "off-the-table:_collections.__spec__:shared#opaque"), ("_count_elements", .builtin "_collections._count_elements"), ("deque", .type "collections.deque"), ("defaultdict", .type "collections.defaultdict"), ("_deque_iterator", .builtin "off-the-table:_collections._deque_iterator:shared#opaque"), ("_deque_reverse_iterator", .builtin "off-the-table:_collections._deque_reverse_iterator:shared#opaque"), ("_tuplegetter", .type "collections._tuplegetter"), ("OrderedDict", .type "collections.OrderedDict")] []]), (30, ⟨(.type "module"), (some 29), .plain, #[]⟩), (31, lO []), (32, dO (qE P 283 [("name", qs "_collections" 282), ("loader", qr 14), ("origin", qs "built-in" 281), ("loader_state", .none), ("submodule_search_locations", .none), ("_uninitialized_submodules", qr 31), ("_set_fileattr", .bool false), ("_cached", .none), ("_initializing", .bool false)] [])), (33, ⟨(qr 22), (some 32), .plain, #[]⟩), (34, tO (nmL 319 ["date", "datetime", "time", "timedelta", "timezone"])), (35, dO %[qe P "__name__" 400 (qs "_datetime" 399), qe P "__doc__" 402 ((qc ["Fast impleme", "ntation of t", "he datetime ", "type."] 401)) | qE P 404 [("__package__", qs "" 403), ("__loader__", .builtin "off-the-table:_datetime.__loader__:shared#opaque"), ("__spec__", .builtin "off-the-table:_datetime.__spec__:shared#opaque"), ("__file__", (qc ["/nix/store/w", "j1f56qky4pmj", "c7l0r6b6l7wh", "nnw7hp6-pyth", "on3-3.13.15/", "lib/python3.", "13/lib-dynlo", "ad/_datetime", ".cpython-313", "-x86_64-linu", "x-gnu.so"] 327)), ("date", .type "datetime.date"), ("datetime", .type "datetime.datetime"), ("time", .type "datetime.time"), ("timedelta", .type "datetime.timedelta"), ("tzinfo", .type "datetime.tzinfo"), ("timezone", .type "datetime.timezone")] [qe P "MINYEAR" 415 (qj 1 414), qe P "MAXYEAR" 417 (qj 9999 416), qe P "UTC" 420 (.builtin "off-the-table:_datetime.UTC:shared#opaque"), qe P "datetime_CAPI" 421 (.builtin "off-the-table:_datetime.datetime_CAPI:shared#opaque")]]), (36, ⟨(.type "module"), (some 35), .plain, #[]⟩), (37, dO [qe P "name" 329 (qs "_datetime" 328), qe P "path" 330 ((qc ["/nix/store/w", "j1f56qky4pmj", "c7l0r6b6l7wh", "nnw7hp6-pyth", "on3-3.13.15/", "lib/python3.", "13/lib-dynlo", "ad/_datetime", ".cpython-313", "-x86_64-linu", "x-gnu.so"] 327))]), (38, dO (qE P 334 [("__module__", qs "_frozen_importlib_external" 332), ("__firstlineno__", qj 1001 333), ("__doc__", .builtin "_frozen_importlib_external._LoaderBasics.__doc__:str#opaque"), ("is_package", .builtin "_frozen_importlib_external._LoaderBasics.is_package#opaque"), ("create_module", .builtin "_frozen_importlib_external._LoaderBasics.create_module#opaque"), ("exec_module", .builtin "_frozen_importlib_external._LoaderBasics.exec_module#opaque"), ("load_module", .builtin "_frozen_importlib_external._LoaderBasics.load_module#opaque"), ("__static_attributes__", qr 40)] [qe P "__dict__" 343 (qr 41), qe P "__weakref__" 345 (qr 42)])), (39, ⟨(.type "type"), none, (.cls ⟨"_LoaderBasics", [.type "object"], [qr 39, .type "object"], 38, "_LoaderBasics", true, [], [qr 49], false, none, false⟩), #[]⟩), (40, tO []), (41, gO (.type "getset_descriptor") [qs "__dict__" 342, qr 39, .builtin "function.__dict__", .builtin "function.__dict__#set"]), (42, gO (.type "getset_descriptor") [qs "__weakref__" 344, qr 39, .builtin "ExceptionGroup.__weakref__", .none]), (43, dO (qE P 352 [("__module__", qs "_frozen_importlib_external" 348), ("__firstlineno__", qj 1176 349), ("__doc__", .builtin "_frozen_importlib_external.FileLoader.__doc__:str#opaque"), ("__init__", .builtin "_frozen_importlib_external.FileLoader.__init__#opaque"), ("__eq__", .builtin "_frozen_importlib_external.FileLoader.__eq__#opaque"), ("__hash__", .builtin "_frozen_importlib_external.FileLoader.__hash__#opaque"), ("load_module", .builtin "_frozen_importlib_external.FileLoader.load_module#opaque"), ("get_filename", .builtin "_frozen_importlib_external.FileLoader.get_filename#opaque"), ("get_data", .builtin "_frozen_importlib_external.FileLoader.get_data#opaque"), ("get_resource_reader", .builtin "_frozen_importlib_external.FileLoader.get_resource_reader#opaque"), ("__static_attributes__", qr 45)] [qe P "__dict__" 364 (qr 46), qe P "__weakref__" 366 (qr 47)])), (44, ⟨(.type "type"), none, (.cls ⟨"FileLoader", [.type "object"], [qr 44, .type "object"], 43, "FileLoader", true, [], [qr 49], false, none, false⟩), #[]⟩), (45, tO (nmL 350 ["name", "path"])), (46, gO (.type "getset_descriptor") [qs "__dict__" 363, qr 44, .builtin "function.__dict__", .builtin "function.__dict__#set"]), (47, gO (.type "getset_descriptor") [qs "__weakref__" 365, qr 44, .builtin "ExceptionGroup.__weakref__", .none]), (48, dO (qE P 373 [("__module__", qs "_frozen_importlib_external" 369), ("__firstlineno__", qj 1296 370), ("__doc__", .builtin "_frozen_importlib_external.ExtensionFileLoader.__doc__:str#opaque"), ("__init__", .builtin "_frozen_importlib_external.ExtensionFileLoader.__init__#opaque"), ("__eq__", .builtin "_frozen_importlib_external.ExtensionFileLoader.__eq__#opaque"), ("__hash__", .builtin "_frozen_importlib_external.ExtensionFileLoader.__hash__#opaque"), ("create_module", .builtin "_frozen_importlib_external.ExtensionFileLoader.create_module#opaque"), ("exec_module", .builtin "_frozen_importlib_external.ExtensionFileLoader.exec_module#opaque"), ("is_package", .builtin "_frozen_importlib_external.ExtensionFileLoader.is_package#opaque"), ("get_code", .builtin "_frozen_importlib_external.ExtensionFileLoader.get_code#opaque"), ("get_source", .builtin "_frozen_importlib_external.ExtensionFileLoader.get_source#opaque"), ("get_filename", .builtin "_frozen_importlib_external.ExtensionFileLoader.get_filename#opaque"), ("__static_attributes__", qr 50)] [])), (49, ⟨(.type "type"), none, (.cls ⟨"ExtensionFileLoader", [qr 44, qr 39], [qr 49, qr 44, qr 39, .type "object"], 48, "ExtensionFileLoader", true, [], [], false, none, false⟩), #[]⟩), (50, tO (nmL 371 ["name", "path"])), (51, ⟨(qr 49), (some 37), .plain, #[]⟩), (52, lO []), (53, dO (qE P 388 [("name", qs "_datetime" 387), ("loader", qr 51), ("origin", (qc ["/nix/store/w", "j1f56qky4pmj", "c7l0r6b6l7wh", "nnw7hp6-pyth", "on3-3.13.15/", "lib/python3.", "13/lib-dynlo", "ad/_datetime", ".cpython-313", "-x86_64-linu", "x-gnu.so"] 327)), ("loader_state", .none), ("submodule_search_locations", .none), ("_uninitialized_submodules", qr 52), ("_set_fileattr", .bool true), ("_cached", .none), ("_initializing", .bool false)] [])), (54, ⟨(qr 22), (some 53), .plain, #[]⟩), (55, gO (.type "datetime.timedelta") [qi 0, qi 0, qi 0]), (56, gO (.type "datetime.timezone") [qr 55, .none]), (57, tO [qs "_lru_cache_wrapper" 443]), (58, dO %[qe P "__name__" 462 (qs "_functools" 461), qe P "__doc__" 464 (qs "Tools that operate on functions." 463) | qE P 466 [("__package__", qs "" 465), ("__loader__", .builtin "off-the-table:_functools.__loader__:shared#opaque"), ("__spec__", .builtin "off-the-table:_functools.__spec__:shared#opaque"), ("reduce", .builtin "_functools.reduce"), ("cmp_to_key", .builtin "_functools.cmp_to_key"), ("partial", .type "functools.partial"), ("_lru_cache_wrapper", .type "functools._lru_cache_wrapper")] []]), (59, ⟨(.type "module"), (some 58), .plain, #[]⟩), (60, lO []), (61, dO (qE P 449 [("name", qs "_functools" 448), ("loader", qr 14), ("origin", qs "built-in" 447), ("loader_state", .none), ("submodule_search_locations", .none), ("_uninitialized_submodules", qr 60), ("_set_fileattr", .bool false), ("_cached", .none), ("_initializing", .bool false)] [])), (62, ⟨(qr 22), (some 61), .plain, #[]⟩), (63, tO []), (64, gO .none [qi 5, qi 0, qr 72, qi 8, qi 0, qr 79, qi 15, qi 0, qr 108, qi 19, qi 0, qr 115, qi 28, qi 0, qr 122, qi 43, qi 0, qr 129, qi 49, qi 0, qr 136, qi 54, qi 0, qr 143, qi 65, qi 0, qr 150, qi 80, qi 0, qr 157, qi 85, qi 0, qr 164, qi 110, qi 0, qr 204, qi 132, qi 0, qr 226, qi 154, qi 0, qr 236, qi 210, qi 0, qr 243, qi 252, qi 0, qr 311, qi 271, qi 0, qr 329, qi 274, qi 0, qr 354, qi 278, qi 0, qr 361, qi 283, qi 0, qr 368, qi 303, qi 23, qr 410, qi 323, qi 0, qr 463, qi 325, qi 0, qr 477, qi 366, qi 0, qr 484, qi 418, qi 0, qr 540, qi 445, qi 0, qr 577, qi 487, qi 0, qr 647, qi 494, qi 0, qr 654, qi 506, qi 0, qr 661, qi 514, qi 0, qr 668, qi 521, qi 0, qr 675, qi 535, qi 0, qr 682, qi 550, qi 0, qr 689, qi 571, qi 0, qr 696, qi 583, qi 0, qr 703, qi 601, qi 0, qr 710, qi 615, qi 0, qr 717, qi 618, qi 0, qr 724, qi 637, qi 0, qr 731, qi 666, qi 0, qr 739, qi 689, qi 0, qr 746, qi 691, qi 0, qr 753, qi 700, qi 0, qr 760, qi 705, qi 0, qr 767, qi 724, qi 0, qr 774, qi 754, qi 0, qr 781, qi 797, qi 0, qr 788, qi 811, qi 0, qr 795, qi 813, qi 0, qr 802, qi 831, qi 0, qr 809, qi 836, qi 0, qr 816, qi 843, qi 0, qr 823, qi 853, qi 0, qr 830, qi 863, qi 0, qr 837, qi 872, qi 0, qr 842, qi 910, qi 0, qr 847]), (65, cO "<module>" "<module>" 483 1 0 0 0 0 63 false 482 64 .none .none .none .none (qi 486) 487), (66, ⟨(.type "frame"), none, .plain, [some (qr 65), some (qr 3), some (qr 3), none, some (qs "__main__" 164), none, some (qr 0)].toArray⟩) | 
 fnM 67 (sA 4) "_wall" 488 5 1 0 0 3 ["k"] .none (qs "__main__" 164) <| 
 %[(74, tO []), (75, gO (.type "builtin_function_or_method") [.builtin "type.__prepare__", .type "type"]), (76, dO %[qe P "__module__" 502 (qs "__main__" 164), qe P "__qualname__" 504 (qs "_WallAttr" 503), qe P "__firstlineno__" 506 (qj 8 505), qe P "__init__" 514 (qr 87) | qE P 523 [("__get__", qr 95), ("__set__", qr 95), ("__delete__", qr 95)] [qe P "__static_attributes__" 527 (qr 96)]]), (77, tO []), (78, gO .none [qi 9, qi 4, qr 86, qi 11, qi 4, qr 94]), (79, cO "_WallAttr" "_WallAttr" 497 8 0 0 0 0 77 false 482 78 .none .none .none .none (qi 500) 501), (80, ⟨(.type "frame"), none, .plain, [some (qr 79), some (qr 3), some (qr 76), none, some (qs "__main__" 164), none, some (qr 0)].toArray⟩) | 
 fnG 81 (sI 5 0) "__init__" "_WallAttr.__init__" 507 9 2 0 0 3 ["self", "k"] .none (qs "__main__" 164) <| 
 %[(88, tO [.none]) | 
 fnH 89 (sI 5 1) "__get__" "_WallAttr.__get__" 515 11 3 0 0 3 ["self", "o", "t"] <| 
 %[(95, fO (fD (sI 5 1) "_WallAttr.__get__" 3 [] (qr 88) .none .none (qs "__main__" 164) none (qr 94) .none 0)), (96, tO [qs "k" 526]), (97, ⟨(.type "dict"), none, (.dict %[qe P "__module__" 502 (qs "__main__" 164), qe P "__firstlineno__" 506 (qj 8 505), qe P "__init__" 514 (qr 87) | qE P 523 [("__get__", qr 95), ("__set__", qr 95), ("__delete__", qr 95)] [qe P "__static_attributes__" 527 (qr 96), qe P "__dict__" 529 (qr 99), qe P "__weakref__" 531 (qr 100), qe P "__doc__" 532 .none]].toArray 4), #[]⟩), (98, ⟨(.type "type"), none, (.cls ⟨"_WallAttr", [.type "object"], [qr 98, .type "object"], 97, "_WallAttr", true, [], [], false, none, false⟩), [none, none, some (qs "_WallAttr" 495), some (qs "_WallAttr" 503), some (.builtin "object.__new__"), some (.bool true)].toArray⟩), (99, gO (.type "getset_descriptor") [qs "__dict__" 528, qr 98, .builtin "function.__dict__", .builtin "function.__dict__#set"]), (100, gO (.type "getset_descriptor") [qs "__weakref__" 530, qr 98, .builtin "ExceptionGroup.__weakref__", .none]), (101, gO (.type "super") [qr 98, qr 98, qr 98]), (102, gO (.type "builtin_function_or_method") [.builtin "object.__init_subclass__", qr 98]) | 
 fnM 103 (sA 7) "heappush" 537 15 2 0 0 3 ["heap", "item"] (qs "Push item onto heap, maintaining the heap invariant." 544) (qs "cpy313.heapq" 535) <| 
 fnM 110 (sA 8) "heappop" 546 19 1 0 0 3 ["heap", "lastelt", "returnitem"] (qs "Pop the smallest item off the heap, maintaining the heap invariant." 554) (qs "cpy313.heapq" 535) <| 
 fnM 117 (sA 9) "heapreplace" 556 28 2 0 0 3 ["heap", "item", "returnitem"] (qs "Pop and return the current smallest value, and add the new item.\n\nThis is more efficient than heappop() followed by heappush(), and can be\nmore appropriate when using a fixed-size heap.  Note that the value\nreturned may be larger than item!  That constrains reasonable uses of\nthis routine unless written as part of a conditional replacement:\n\n    if item > heap[0]:\n        item = heapreplace(heap, item)\n" 564) (qs "cpy313.heapq" 535) <| 
 fnM 124 (sA 10) "heappushpop" 566 43 2 0 0 3 ["heap", "item"] (qs "Fast version of a heappush followed by a heappop." 573) (qs "cpy313.heapq" 535) <| 
 fnM 131 (sA 11) "heapify" 575 49 1 0 0 3 ["x", "n", "i"] (qs "Transform list into a heap, in-place, in O(len(x)) time." 583) (qs "cpy313.heapq" 535) <| 
 fnM 138 (sA 12) "_siftdown" 585 54 3 0 0 3 ["heap", "startpos", "pos", "newitem", "parentpos", "parent"] .none (qs "cpy313.heapq" 535) <| 
 fnM 145 (sA 13) "_siftup" 597 65 2 0 0 3 ["heap", "pos", "endpos", "startpos", "newitem", "childpos", "rightpos"] .none (qs "cpy313.heapq" 535) <| 
 fnM 152 (sA 15) "S_IMODE" 612 80 1 0 0 3 ["mode"] (qs "Return the portion of the file's mode that can be set by\nos.chmod().\n" 618) (qs "cpy313.stat" 610) <| 
 fnM 159 (sA 16) "S_IFMT" 620 85 1 0 0 3 ["mode"] (qs "Return the portion of the file's mode that describes the\nfile type.\n" 626) (qs "cpy313.stat" 610) <| 
 %[(166, tO [qj 40960 638, qs "l" 666]), (167, tO [qj 49152 640, qs "s" 667]), (168, tO [qj 32768 634, qs "-" 668]), (169, tO [qj 24576 632, qs "b" 669]), (170, tO [qj 16384 628, qs "d" 670]), (171, tO [qj 8192 630, qs "c" 671]), (172, tO [qj 4096 636, qs "p" 672]), (173, tO [qr 166, qr 167, qr 168, qr 169, qr 170, qr 171, qr 172]), (174, tO [qj 256 648, qs "r" 673]), (175, tO [qr 174]), (176, tO [qj 128 650, qs "w" 674]), (177, tO [qr 176]), (178, tO [qj 2112 675, qs "s" 676]), (179, tO [qj 2048 642, qs "S" 677]), (180, tO [qj 64 652, qs "x" 678]), (181, tO [qr 178, qr 179, qr 180]), (182, tO [qj 32 654, qs "r" 679]), (183, tO [qr 182]), (184, tO [qj 16 656, qs "w" 680]), (185, tO [qr 184]), (186, tO [qj 1032 681, qs "s" 682]), (187, tO [qj 1024 644, qs "S" 683]), (188, tO [qj 8 658, qs "x" 684]), (189, tO [qr 186, qr 187, qr 188]), (190, tO [qj 4 660, qs "r" 685]), (191, tO [qr 190]), (192, tO [qj 2 662, qs "w" 686]), (193, tO [qr 192]), (194, tO [qj 513 687, qs "t" 688]), (195, tO [qj 512 646, qs "T" 689]), (196, tO [qj 1 664, qs "x" 690]), (197, tO [qr 194, qr 195, qr 196]), (198, tO [qr 173, qr 175, qr 177, qr 181, qr 183, qr 185, qr 189, qr 191, qr 193, qr 197]) | 
 fnM 199 (sA 37) "filemode" 692 110 1 0 0 3 ["mode", "perm", "index", "table", "bit", "char"] (qs "Convert a file's mode to a string of the form '-rwxrwxrwx'." 703) (qs "cpy313.stat" 610) <| 
 %[(206, lO (qm 710 reA)), (207, dO [qe P "floatpart" 957 (qj 1 958)]), (208, tO [.none, qs "floatpart" 960]), (209, tO (reA.map fun (n : Nat) => qi n)), (210, gO (.type "re.Pattern") [qs "\n0\n(?:\n    x[0-9A-Fa-f](?:_?[0-9A-Fa-f])*   # hex\n    |\n    b[01](?:_?[01])*                 # bin\n    |\n    o[0-7](?:_?[0-7])*               # oct\n)\n|\n[+-]?(?:0|[1-9](?:_?[0-9])*)         # dec, integer part\n(?P<floatpart>\n    (?:\\.[0-9](?:_?[0-9])*)?         # optional fractional part\n    (?:[eE][+-]?[0-9](?:_?[0-9])*)?  # optional exponent part\n)\n" 708, qj 96 961, qi 1, qr 207, qr 208, qr 209, qi 0]), (211, lO (qm 966 reB)), (212, dO []), (213, tO [.none, .none, .none, .none, .none]), (214, tO (reB.map fun (n : Nat) => qi n)), (215, gO (.type "re.Pattern") [qs "([01][0-9]|2[0-3]):([0-5][0-9]):([0-5][0-9])(?:\\.([0-9]{1,6})[0-9]*)?" 964, qj 32 1074, qi 4, .none, .none, qr 214, qi 0]), (216, lO (qm 1079 reC)), (217, dO []), (218, tO [.none, .none, .none, .none, .none, .none, .none, .none, .none, .none, .none, .none]), (219, tO (reC.map fun (n : Nat) => qi n)), (220, gO (.type "re.Pattern") [qs "\n([0-9]{4})-(0[1-9]|1[0-2])-(0[1-9]|[12][0-9]|3[01])  # date, e.g. 1988-10-27\n(?:\n    [Tt ]\n    ([01][0-9]|2[0-3]):([0-5][0-9]):([0-5][0-9])(?:\\.([0-9]{1,6})[0-9]*)?\n    (?:([Zz])|([+-])([01][0-9]|2[0-3]):([0-5][0-9]))?  # optional time offset\n)?\n" 1077, qj 96 1379, qi 11, .none, .none, qr 219, qi 0]) | 
 fnM 221 (sA 42) "match_to_datetime" 1381 132 1 0 0 3 ["match", "year_str", "month_str", "day_str", "hour_str", "minute_str", "sec_str", "micros_str", "zulu_time", "offset_sign_str", "offset_hour_str", "offset_minute_str", "year", "month", "day", "hour", "minute", "sec", "micros", "tz"] (qs "Convert a `RE_DATETIME` match to `datetime.datetime` or `datetime.date`.\n\nRaises ValueError if the match does not correspond to a valid date\nor datetime.\n" 1406) (qs "cpy313.tomllib._re" 705) <| 
 %[(228, tO (nmL 1410 ["__module__", "__name__", "__qualname__", "__doc__", "__type_params__"])), (229, tO [qs "__dict__" 1416]), (230, tO [qr 228, qr 229]) | 
 fnN 231 (sA 46) "update_wrapper" 1418 154 4 0 0 3 ["wrapper", "wrapped", "assigned", "updated", "value", "update"] <| 
 %[(237, fO (fD (sA 46) "update_wrapper" 3 [] (qr 230) .none (qs "Update a wrapper function to look like the wrapped function\n\nwrapper is the function to be updated\nwrapped is the original function\nassigned is a tuple naming the attributes assigned directly\nfrom the wrapped function to the wrapper function (defaults to\nfunctools.WRAPPER_ASSIGNMENTS)\nupdated is a tuple naming the attributes of the wrapper that\nare updated with the corresponding attribute from the wrapped\nfunction (defaults to functools.WRAPPER_UPDATES)\n" 1429) (qs "functools" 1408) none (qr 236) .none 0)), (238, tO [.type "tuple"]), (239, gO (.type "builtin_function_or_method") [.builtin "type.__prepare__", .type "type"]), (240, dO [qe P "__module__" 1438 (qs "functools" 1408), qe P "__qualname__" 1440 (qs "CacheInfo" 1439), qe P "__firstlineno__" 1442 (qj 210 1441), qe P "__doc__" 1444 (qs "CacheInfo(hits, misses, maxsize, currsize)" 1443), qe P "__slots__" 1446 (qr 245), qe P "_fields" 1451 (qr 246), qe P "_field_defaults" 1452 (qr 247), qe P "__new__" 1464 (qr 254), qe P "_make" 1486 (qr 263), qe P "_replace" 1496 (qr 271), qe P "__replace__" 1497 (qr 271), qe P "__repr__" 1505 (qr 278), qe P "_asdict" 1512 (qr 285), qe P "__getnewargs__" 1520 (qr 292), qe P "__match_args__" 1525 (qr 293), qe P "hits" 1528 (qr 294), qe P "misses" 1531 (qr 295), qe P "maxsize" 1534 (qr 296), qe P "currsize" 1537 (qr 297), qe P "__static_attributes__" 1538 (qr 298)]), (241, tO []), (242, gO .none [qi 216, qi 4, qr 253, qi 221, qi 4, qr 260, qi 228, qi 4, qr 270, qi 236, qi 4, qr 277, qi 240, qi 4, qr 284, qi 243, qi 4, qr 291]), (243, cO "CacheInfo" "CacheInfo" 1433 210 0 0 0 0 241 false 482 242 .none .none .none .none (qi 1436) 1437), (244, ⟨(.type "frame"), none, .plain, [some (qr 243), some (qr 3), some (qr 240), none, some (qs "functools" 1408), none, some (qr 0)].toArray⟩), (245, tO []), (246, tO (nmL 1447 ["hits", "misses", "maxsize", "currsize"])), (247, dO []) | 
 fnG 248 (sI 47 4) "__new__" "CacheInfo.__new__" 1453 216 5 0 0 3 ["_cls", "hits", "misses", "maxsize", "currsize"] (qs "Create new instance of CacheInfo(hits, misses, maxsize, currsize)" 1463) (qs "functools" 1408) <| 
 fnH 255 (sI 47 5) "_make" "CacheInfo._make" 1465 220 2 0 0 3 ["cls", "iterable", "result"] <| 
 %[(261, fO (fD (sI 47 5) "CacheInfo._make" 3 [] .none .none (qs "Make a new CacheInfo object from a sequence or iterable" 1473) (qs "functools" 1408) (some 264) (qr 260) .none 0)), (262, dO [qe P "__module__" 1475 (qs "functools" 1408), qe P "__name__" 1478 (qs "_make" 1477), qe P "__qualname__" 1481 (qs "CacheInfo._make" 1480), qe P "__doc__" 1483 (qs "Make a new CacheInfo object from a sequence or iterable" 1473), qe P "__annotations__" 1485 (qr 264)]), (263, ⟨(.type "classmethod"), (some 262), (.fields [qr 261, .bool false].toArray), #[]⟩), (264, dO []) | 
 fnG 265 (sI 47 6) "_replace" "CacheInfo._replace" 1487 228 1 1 0 11 ["self", "kwds", "result"] (qs "Return a new CacheInfo object replacing specified fields with new values" 1495) (qs "functools" 1408) <| 
 fnG 272 (sI 47 8) "__repr__" "CacheInfo.__repr__" 1498 236 1 0 0 3 ["self"] (qs "Return a nicely formatted representation string" 1504) (qs "functools" 1408) <| 
 fnG 279 (sI 47 9) "_asdict" "CacheInfo._asdict" 1506 240 1 0 0 3 ["self"] .none (qs "functools" 1408) <| 
 fnG 286 (sI 47 10) "__getnewargs__" "CacheInfo.__getnewargs__" 1513 243 1 0 0 3 ["self"] (qs "Return self as a plain tuple.  Used by copy and pickle." 1519) (qs "functools" 1408) <| 
 %[(293, tO (nmL 1521 ["hits", "misses", "maxsize", "currsize"])), (294, gO (.type "collections._tuplegetter") [qi 0, qs "Alias for field number 0" 1527, .bool true]), (295, gO (.type "collections._tuplegetter") [qi 1, qs "Alias for field number 1" 1530, .bool true]), (296, gO (.type "collections._tuplegetter") [qi 2, qs "Alias for field number 2" 1533, .bool true]), (297, gO (.type "collections._tuplegetter") [qi 3, qs "Alias for field number 3" 1536, .bool true]), (298, tO []), (299, lO []), (300, ⟨(.type "dict"), none, (.dict [qe P "__module__" 1438 (qs "functools" 1408), qe P "__firstlineno__" 1442 (qj 210 1441), qe P "__doc__" 1444 (qs "CacheInfo(hits, misses, maxsize, currsize)" 1443), qe P "__slots__" 1446 (qr 245), qe P "_fields" 1451 (qr 246), qe P "_field_defaults" 1452 (qr 247), qe P "__new__" 1464 (qr 302), qe P "_make" 1486 (qr 263), qe P "_replace" 1496 (qr 271), qe P "__replace__" 1497 (qr 271), qe P "__repr__" 1505 (qr 278), qe P "_asdict" 1512 (qr 285), qe P "__getnewargs__" 1520 (qr 292), qe P "__match_args__" 1525 (qr 293), qe P "hits" 1528 (qr 294), qe P "misses" 1531 (qr 295), qe P "maxsize" 1534 (qr 296), qe P "currsize" 1537 (qr 297), qe P "__static_attributes__" 1538 (qr 298)].toArray 1), #[]⟩), (301, ⟨(.type "type"), none, (.cls ⟨"CacheInfo", [.type "tuple"], [qr 301, .type "tuple", .type "object"], 300, "CacheInfo", false, [], [], false, none, false⟩), [some (qr 238), none, some (qs "CacheInfo" 1431), some (qs "CacheInfo" 1439), some .none, some (.bool false)].toArray⟩), (302, gO (.type "staticmethod") [qr 254]), (303, gO (.type "super") [qr 301, qr 301, qr 301]), (304, gO (.type "builtin_function_or_method") [.builtin "object.__init_subclass__", qr 301]), (305, tO [qj 128 1543, .bool false]), (306, tO []), (307, gO .none [qi 264, qi 4, qr 322]), (308, tO (nmL 1547 ["maxsize", "typed", "user_function", "wrapper", "decorating_function"])), (309, tO (nmL 1552 ["maxsize", "typed"])), (310, hO (sA 49) "lru_cache"), (311, cO "lru_cache" "lru_cache" 1544 252 2 0 0 3 306 true 482 307 .none (qr 308) (qr 309) (qr 310) (qi 1554) 1555), (312, fO (fD (sA 49) "lru_cache" 3 [] (qr 305) .none .none (qs "functools" 1408) none (qr 311) .none 0)), (313, ⟨(.type "frame"), none, (.dict [qe P "decorating_function" 1569 (qr 323)].toArray 1), #[]⟩), (314, ⟨(.type "cell"), none, (.cell (some .none)), #[]⟩), (315, ⟨(.type "cell"), none, (.cell (some (.bool false))), #[]⟩), (316, tO [qr 314, qr 315]), (317, tO (nmL 1563 ["maxsize", "typed"])), (318, gO .none [qi 266, qi 35, qr 342]), (319, tO (nmL 1565 ["user_function", "wrapper"])), (320, tO []), (321, hO (sI 49 1) "lru_cache.<locals>.decorating_function"), (322, cO "decorating_function" "lru_cache.<locals>.decorating_function" 1560 264 1 0 0 19 317 true 482 318 .none (qr 319) (qr 320) (qr 321) (qi 1567) 1568), (323, fO (fD (sI 49 1) "lru_cache.<locals>.decorating_function" 3 [("typed", 315), ("maxsize", 314)] .none .none .none (qs "cpy313.tomllib._re" 1557) none (qr 322) (qr 316) 0)) | 
 fnN 324 (sA 51) "cached_tz" 1570 270 3 0 0 3 ["hour_str", "minute_str", "sign_str", "sign"] <| 
 %[(330, ⟨(.type "function"), (some 348), (.func (fD (sA 51) "cached_tz" 3 [] .none .none .none (qs "cpy313.tomllib._re" 1557) none (qr 329) .none 0)), #[]⟩), (331, ⟨(.type "frame"), none, (.dict [qe P "user_function" 1579 (qr 330), qe P "wrapper" 1580 (qr 335)].toArray 2), #[]⟩), (332, ⟨.none, none, (.dict #[] 0), #[]⟩), (333, gO .none [qi 0, qi 0]), (334, ⟨(.type "object"), none, .plain, #[]⟩), (335, ⟨(.type "functools._lru_cache_wrapper"), (some 344), (.fields [qr 330, qi (-1), .bool false, qr 301, qr 332, qr 333, .none, qr 334].toArray), #[]⟩), (336, tO [qr 314, qr 315]), (337, tO (nmL 1584 ["maxsize", "typed"])), (338, gO .none []), (339, tO []), (340, tO []), (341, hF (@PySem.FuncData.mk (@PySem.Str.ofString "<lambda>") (@PySem.Str.ofString "lru_cache.<locals>.decorating_function.<locals>.<lambda>") (@PySem.Arguments.mk (@List.nil @PySem.Arg) (@List.nil @PySem.Arg) (@Option.none @PySem.Arg) (@List.nil @PySem.Arg) (@List.nil (@Option @PySem.Expr)) (@Option.none @PySem.Arg) (@List.nil @PySem.Expr)) (@PySem.FuncBody.expr (@PySem.Expr.Dict (@List.cons (@Option @PySem.Expr) (@Option.some @PySem.Expr (@PySem.Expr.Constant (@PySem.Const.str (@PySem.Str.ofString "maxsize")) 0 (@PySem.Pos.mk 266 44 266 53))) (@List.cons (@Option @PySem.Expr) (@Option.some @PySem.Expr (@PySem.Expr.Constant (@PySem.Const.str (@PySem.Str.ofString "typed")) 0 (@PySem.Pos.mk 266 64 266 71))) (@List.nil (@Option @PySem.Expr)))) (@List.cons @PySem.Expr (@PySem.Expr.Name (@PySem.Str.ofString "maxsize") (@PySem.Pos.mk 266 55 266 62)) (@List.cons @PySem.Expr (@PySem.Expr.Name (@PySem.Str.ofString "typed") (@PySem.Pos.mk 266 73 266 78)) (@List.nil @PySem.Expr))) (@PySem.Pos.mk 266 43 266 79))) (@PySem.Scope.mk @PySem.ScopeKind.function (@List.cons (@Prod @PySem.Str @PySem.NameKind) (@Prod.mk @PySem.Str @PySem.NameKind (@PySem.Str.ofString "maxsize") @PySem.NameKind.free) (@List.cons (@Prod @PySem.Str @PySem.NameKind) (@Prod.mk @PySem.Str @PySem.NameKind (@PySem.Str.ofString "typed") @PySem.NameKind.free) (@List.nil (@Prod @PySem.Str @PySem.NameKind)))) @Bool.false @Bool.false (@List.nil (@Prod @PySem.Str @PySem.Const))) 0 (@List.nil (@Prod @PySem.Str @Nat)) @PySem.Value.none @PySem.Value.none @PySem.Value.none @PySem.Value.none (@Option.none @Nat) @PySem.Value.none @PySem.Value.none 0)), (342, cO "<lambda>" "lru_cache.<locals>.decorating_function.<locals>.<lambda>" 1581 266 0 0 0 19 337 true 482 338 .none (qr 339) (qr 340) (qr 341) (qi 1586) 1587), (343, fO (@PySem.FuncData.mk (@PySem.Str.ofString "<lambda>") (@PySem.Str.ofString "lru_cache.<locals>.decorating_function.<locals>.<lambda>") (@PySem.Arguments.mk (@List.nil @PySem.Arg) (@List.nil @PySem.Arg) (@Option.none @PySem.Arg) (@List.nil @PySem.Arg) (@List.nil (@Option @PySem.Expr)) (@Option.none @PySem.Arg) (@List.nil @PySem.Expr)) (@PySem.FuncBody.expr (@PySem.Expr.Dict (@List.cons (@Option @PySem.Expr) (@Option.some @PySem.Expr (@PySem.Expr.Constant (@PySem.Const.str (@PySem.Str.ofString "maxsize")) 0 (@PySem.Pos.mk 266 44 266 53))) (@List.cons (@Option @PySem.Expr) (@Option.some @PySem.Expr (@PySem.Expr.Constant (@PySem.Const.str (@PySem.Str.ofString "typed")) 0 (@PySem.Pos.mk 266 64 266 71))) (@List.nil (@Option @PySem.Expr)))) (@List.cons @PySem.Expr (@PySem.Expr.Name (@PySem.Str.ofString "maxsize") (@PySem.Pos.mk 266 55 266 62)) (@List.cons @PySem.Expr (@PySem.Expr.Name (@PySem.Str.ofString "typed") (@PySem.Pos.mk 266 73 266 78)) (@List.nil @PySem.Expr))) (@PySem.Pos.mk 266 43 266 79))) (@PySem.Scope.mk @PySem.ScopeKind.function (@List.cons (@Prod @PySem.Str @PySem.NameKind) (@Prod.mk @PySem.Str @PySem.NameKind (@PySem.Str.ofString "maxsize") @PySem.NameKind.free) (@List.cons (@Prod @PySem.Str @PySem.NameKind) (@Prod.mk @PySem.Str @PySem.NameKind (@PySem.Str.ofString "typed") @PySem.NameKind.free) (@List.nil (@Prod @PySem.Str @PySem.NameKind)))) @Bool.false @Bool.false (@List.nil (@Prod @PySem.Str @PySem.Const))) 3 (@List.cons (@Prod @PySem.Str @Nat) (@Prod.mk @PySem.Str @Nat (@PySem.Str.ofString "typed") 315) (@List.cons (@Prod @PySem.Str @Nat) (@Prod.mk @PySem.Str @Nat (@PySem.Str.ofString "maxsize") 314) (@List.nil (@Prod @PySem.Str @Nat)))) @PySem.Value.none @PySem.Value.none @PySem.Value.none (@PySem.Value.str (@PySem.Str.ofString "cpy313.tomllib._re") 1557) (@Option.none @Nat) (@PySem.Value.ref 342) (@PySem.Value.ref 336) 0)), (344, dO [qe P "cache_parameters" 1589 (qr 343), qe P "__module__" 1599 (qs "cpy313.tomllib._re" 1557), qe P "__name__" 1604 (qs "cached_tz" 1601), qe P "__qualname__" 1609 (qs "cached_tz" 1606), qe P "__doc__" 1613 .none, qe P "__type_params__" 1617 (qr 346), qe P "__wrapped__" 1624 (qr 330)]), (345, ⟨(.type "frame"), none, (.dict (qE P 1590 [("wrapper", qr 335), ("wrapped", qr 330), ("assigned", qr 228), ("updated", qr 229)] [qe P "value" 1596 (qr 348), qe P "update" 1620 (qr 347)]).toArray 6), #[]⟩), (346, tO []), (347, gO (.type "builtin_function_or_method") [.builtin "dict.update", qr 344]), (348, dO []) | 
 fnM 349 (sA 52) "match_to_localtime" 1626 274 1 0 0 3 ["match", "hour_str", "minute_str", "sec_str", "micros_str", "micros"] .none (qs "cpy313.tomllib._re" 1557) <| 
 fnM 356 (sA 53) "match_to_number" 1638 278 2 0 0 3 ["match", "parse_float"] .none (qs "cpy313.tomllib._re" 1557) <| 
 %[(363, tO []), (364, gO (.type "builtin_function_or_method") [.builtin "type.__prepare__", .type "type"]), (365, dO [qe P "__module__" 1655 (qs "cpy313.tomllib._parser" 1646), qe P "__qualname__" 1657 (qs "_tuplegetter" 1656), qe P "__firstlineno__" 1659 (qj 283 1658), qe P "__init__" 1668 (qr 376), qe P "__get__" 1677 (qr 384), qe P "__set__" 1686 (qr 391), qe P "__delete__" 1694 (qr 398), qe P "__static_attributes__" 1697 (qr 399)]), (366, tO []), (367, gO .none [qi 285, qi 4, qr 375, qi 289, qi 4, qr 383, qi 296, qi 4, qr 390, qi 299, qi 4, qr 397]), (368, cO "_tuplegetter" "_tuplegetter" 1650 283 0 0 0 0 366 false 482 367 .none .none .none .none (qi 1653) 1654), (369, ⟨(.type "frame"), none, .plain, [some (qr 368), some (qr 3), some (qr 365), none, some (qs "cpy313.tomllib._parser" 1646), none, some (qr 0)].toArray⟩) | 
 fnG 370 (sI 55 0) "__init__" "_tuplegetter.__init__" 1660 285 3 0 0 3 ["self", "index", "doc"] .none (qs "cpy313.tomllib._parser" 1646) <| 
 %[(377, tO [.none]) | 
 fnH 378 (sI 55 1) "__get__" "_tuplegetter.__get__" 1669 289 3 0 0 3 ["self", "obj", "objtype"] <| 
 %[(384, fO (fD (sI 55 1) "_tuplegetter.__get__" 3 [] (qr 377) .none .none (qs "cpy313.tomllib._parser" 1646) none (qr 383) .none 0)) | 
 fnG 385 (sI 55 2) "__set__" "_tuplegetter.__set__" 1678 296 3 0 0 3 ["self", "obj", "value"] .none (qs "cpy313.tomllib._parser" 1646) <| 
 fnG 392 (sI 55 3) "__delete__" "_tuplegetter.__delete__" 1687 299 2 0 0 3 ["self", "obj"] .none (qs "cpy313.tomllib._parser" 1646) <| 
 %[(399, tO (nmL 1695 ["__doc__", "index"])), (400, ⟨(.type "dict"), none, (.dict [qe P "__module__" 1655 (qs "cpy313.tomllib._parser" 1646), qe P "__firstlineno__" 1659 (qj 283 1658), qe P "__init__" 1668 (qr 376), qe P "__get__" 1677 (qr 384), qe P "__set__" 1686 (qr 391), qe P "__delete__" 1694 (qr 398), qe P "__static_attributes__" 1697 (qr 399), qe P "__dict__" 1699 (qr 402), qe P "__weakref__" 1701 (qr 403), qe P "__doc__" 1702 .none].toArray 4), #[]⟩), (401, ⟨(.type "type"), none, (.cls ⟨"_tuplegetter", [.type "object"], [qr 401, .type "object"], 400, "_tuplegetter", true, [], [], false, none, false⟩), [none, none, some (qs "_tuplegetter" 1648), some (qs "_tuplegetter" 1656), some (.builtin "object.__new__"), some (.bool true)].toArray⟩), (402, gO (.type "getset_descriptor") [qs "__dict__" 1698, qr 401, .builtin "function.__dict__", .builtin "function.__dict__#set"]), (403, gO (.type "getset_descriptor") [qs "__weakref__" 1700, qr 401, .builtin "ExceptionGroup.__weakref__", .none]), (404, gO (.type "super") [qr 401, qr 401, qr 401]), (405, gO (.type "builtin_function_or_method") [.builtin "object.__init_subclass__", qr 401]), (455, gO (.type "mappingproxy") [qr 97]), (456, dO [qe P "\\b" 2077 (qs "\x08" 2078), qe P "\\t" 2079 (qs "\t" 2080), qe P "\\n" 2081 (qs "\n" 2082), qe P "\\f" 2083 (qs "\x0c" 2084), qe P "\\r" 2085 (qs "\x0d" 2086), qe P "\\\"" 2087 (qs "\"" 2088), qe P "\\\\" 2089 (qs "\\" 2090)]), (457, gO (.type "mappingproxy") [qr 456]), (458, tO [.type "ValueError"]), (459, gO (.type "builtin_function_or_method") [.builtin "type.__prepare__", .type "type"]), (460, dO [qe P "__module__" 2106 (qs "cpy313.tomllib._parser" 2075), qe P "__qualname__" 2108 (qs "TOMLDecodeError" 2107), qe P "__firstlineno__" 2110 (qj 323 2109), qe P "__doc__" 2112 (qs "An error raised if a document is not valid TOML." 2111), qe P "__static_attributes__" 2114 (qr 465)]), (461, tO []), (462, gO .none []), (463, cO "TOMLDecodeError" "TOMLDecodeError" 2101 323 0 0 0 0 461 false 482 462 .none .none .none .none (qi 2104) 2105), (464, ⟨(.type "frame"), none, .plain, [some (qr 463), some (qr 3), some (qr 460), none, some (qs "cpy313.tomllib._parser" 2075), none, some (qr 0)].toArray⟩), (465, tO []), (466, ⟨(.type "dict"), none, (.dict [qe P "__module__" 2106 (qs "cpy313.tomllib._parser" 2075), qe P "__firstlineno__" 2110 (qj 323 2109), qe P "__doc__" 2112 (qs "An error raised if a document is not valid TOML." 2111), qe P "__static_attributes__" 2114 (qr 465), qe P "__weakref__" 2116 (qr 468)].toArray 2), #[]⟩), (467, ⟨(.type "type"), none, (.cls ⟨"TOMLDecodeError", [.type "ValueError"], [qr 467, .type "ValueError", .type "Exception", .type "BaseException", .type "object"], 466, "TOMLDecodeError", true, [], [], false, none, false⟩), [some (qr 458), none, some (qs "TOMLDecodeError" 2099), some (qs "TOMLDecodeError" 2107), some (.builtin "ValueError.__new__"), some (.bool true)].toArray⟩), (468, gO (.type "getset_descriptor") [qs "__weakref__" 2115, qr 467, .builtin "ExceptionGroup.__weakref__", .none]), (469, gO (.type "super") [qr 467, qr 467, qr 467]), (470, gO (.type "builtin_function_or_method") [.builtin "object.__init_subclass__", qr 467]), (471, dO [qe P "parse_float" 2119 (.type "float")]) | 
 fnN 472 (sA 79) "loads" 2120 325 1 1 1 3 ["s", "parse_float", "src", "pos", "out", "header", "char", "second_char"] <| 
 %[(478, fO (fD (sA 79) "loads" 3 [] .none (qr 471) (qs "Parse TOML from a string." 2133) (qs "cpy313.tomllib._parser" 2075) none (qr 477) .none 0)), (479, tO []), (480, gO (.type "builtin_function_or_method") [.builtin "type.__prepare__", .type "type"]), (481, dO [qe P "__module__" 2142 (qs "cpy313.tomllib._parser" 2075), qe P "__qualname__" 2144 (qs "Flags" 2143), qe P "__firstlineno__" 2146 (qj 366 2145), qe P "__doc__" 2148 (qs "Flags that map to parsed keys/namespaces." 2147), qe P "FROZEN" 2151 (qj 0 2150), qe P "EXPLICIT_NEST" 2153 (qj 1 2152), qe P "__init__" 2160 (qr 492), qe P "add_pending" 2169 (qr 499), qe P "finalize_pending" 2178 (qr 506), qe P "unset_all" 2188 (qr 513), qe P "set" 2202 (qr 520), qe P "is_" 2215 (qr 527), qe P "__static_attributes__" 2218 (qr 528)]), (482, tO []), (483, gO .none [qi 371, qi 4, qr 491, qi 375, qi 4, qr 498, qi 378, qi 4, qr 505, qi 383, qi 4, qr 512, qi 391, qi 4, qr 519, qi 402, qi 4, qr 526]), (484, cO "Flags" "Flags" 2137 366 0 0 0 0 482 false 482 483 .none .none .none .none (qi 2140) 2141), (485, ⟨(.type "frame"), none, .plain, [some (qr 484), some (qr 3), some (qr 481), none, some (qs "cpy313.tomllib._parser" 2075), none, some (qr 0)].toArray⟩) | 
 fnG 486 (sI 80 3) "__init__" "Flags.__init__" 2154 371 1 0 0 3 ["self"] .none (qs "cpy313.tomllib._parser" 2075) <| 
 fnG 493 (sI 80 4) "add_pending" "Flags.add_pending" 2161 375 3 0 0 3 ["self", "key", "flag"] .none (qs "cpy313.tomllib._parser" 2075) <| 
 fnG 500 (sI 80 5) "finalize_pending" "Flags.finalize_pending" 2170 378 1 0 0 3 ["self", "key", "flag"] .none (qs "cpy313.tomllib._parser" 2075) <| 
 fnG 507 (sI 80 6) "unset_all" "Flags.unset_all" 2179 383 2 0 0 3 ["self", "key", "cont", "k"] .none (qs "cpy313.tomllib._parser" 2075) <| 
 fnG 514 (sI 80 7) "set" "Flags.set" 2189 391 3 0 1 3 ["self", "key", "flag", "recursive", "cont", "key_parent", "key_stem", "k"] .none (qs "cpy313.tomllib._parser" 2075) <| 
 fnG 521 (sI 80 8) "is_" "Flags.is_" 2203 402 3 0 0 3 ["self", "key", "flag", "cont", "k", "inner_cont", "key_stem"] .none (qs "cpy313.tomllib._parser" 2075) <| 
 %[(528, tO (nmL 2216 ["_flags", "_pending_flags"])), (529, ⟨(.type "dict"), none, (.dict [qe P "__module__" 2142 (qs "cpy313.tomllib._parser" 2075), qe P "__firstlineno__" 2146 (qj 366 2145), qe P "__doc__" 2148 (qs "Flags that map to parsed keys/namespaces." 2147), qe P "FROZEN" 2151 (qj 0 2150), qe P "EXPLICIT_NEST" 2153 (qj 1 2152), qe P "__init__" 2160 (qr 492), qe P "add_pending" 2169 (qr 499), qe P "finalize_pending" 2178 (qr 506), qe P "unset_all" 2188 (qr 513), qe P "set" 2202 (qr 520), qe P "is_" 2215 (qr 527), qe P "__static_attributes__" 2218 (qr 528), qe P "__dict__" 2220 (qr 531), qe P "__weakref__" 2222 (qr 532)].toArray 3), #[]⟩), (530, ⟨(.type "type"), none, (.cls ⟨"Flags", [.type "object"], [qr 530, .type "object"], 529, "Flags", true, [], [], false, none, false⟩), [none, none, some (qs "Flags" 2135), some (qs "Flags" 2143), some (.builtin "object.__new__"), some (.bool true)].toArray⟩), (531, gO (.type "getset_descriptor") [qs "__dict__" 2219, qr 530, .builtin "function.__dict__", .builtin "function.__dict__#set"]), (532, gO (.type "getset_descriptor") [qs "__weakref__" 2221, qr 530, .builtin "ExceptionGroup.__weakref__", .none]), (533, gO (.type "super") [qr 530, qr 530, qr 530]), (534, gO (.type "builtin_function_or_method") [.builtin "object.__init_subclass__", qr 530]), (535, tO []), (536, gO (.type "builtin_function_or_method") [.builtin "type.__prepare__", .type "type"]), (537, dO [qe P "__module__" 2232 (qs "cpy313.tomllib._parser" 2075), qe P "__qualname__" 2234 (qs "NestedDict" 2233), qe P "__firstlineno__" 2236 (qj 418 2235), qe P "__init__" 2243 (qr 548), qe P "get_or_create_nest" 2255 (qr 556), qe P "append_nest_to_list" 2266 (qr 563), qe P "__static_attributes__" 2268 (qr 564)]), (538, tO []), (539, gO .none [qi 420, qi 4, qr 547, qi 423, qi 4, qr 555, qi 435, qi 4, qr 562]), (540, cO "NestedDict" "NestedDict" 2227 418 0 0 0 0 538 false 482 539 .none .none .none .none (qi 2230) 2231), (541, ⟨(.type "frame"), none, .plain, [some (qr 540), some (qr 3), some (qr 537), none, some (qs "cpy313.tomllib._parser" 2075), none, some (qr 0)].toArray⟩) | 
 fnG 542 (sI 81 0) "__init__" "NestedDict.__init__" 2237 420 1 0 0 3 ["self"] .none (qs "cpy313.tomllib._parser" 2075) <| 
 %[(549, dO [qe P "access_lists" 2244 (.bool true)]) | 
 fnH 550 (sI 81 1) "get_or_create_nest" "NestedDict.get_or_create_nest" 2245 423 2 0 1 3 ["self", "key", "access_lists", "cont", "k"] <| 
 %[(556, fO (fD (sI 81 1) "NestedDict.get_or_create_nest" 3 [] .none (qr 549) .none (qs "cpy313.tomllib._parser" 2075) none (qr 555) .none 0)) | 
 fnG 557 (sI 81 2) "append_nest_to_list" "NestedDict.append_nest_to_list" 2256 435 2 0 0 3 ["self", "key", "cont", "last_key", "list_"] .none (qs "cpy313.tomllib._parser" 2075) <| 
 %[(564, tO [qs "dict" 2267]), (565, ⟨(.type "dict"), none, (.dict [qe P "__module__" 2232 (qs "cpy313.tomllib._parser" 2075), qe P "__firstlineno__" 2236 (qj 418 2235), qe P "__init__" 2243 (qr 548), qe P "get_or_create_nest" 2255 (qr 556), qe P "append_nest_to_list" 2266 (qr 563), qe P "__static_attributes__" 2268 (qr 564), qe P "__dict__" 2270 (qr 567), qe P "__weakref__" 2272 (qr 568), qe P "__doc__" 2273 .none].toArray 4), #[]⟩), (566, ⟨(.type "type"), none, (.cls ⟨"NestedDict", [.type "object"], [qr 566, .type "object"], 565, "NestedDict", true, [], [], false, none, false⟩), [none, none, some (qs "NestedDict" 2225), some (qs "NestedDict" 2233), some (.builtin "object.__new__"), some (.bool true)].toArray⟩), (567, gO (.type "getset_descriptor") [qs "__dict__" 2269, qr 566, .builtin "function.__dict__", .builtin "function.__dict__#set"]), (568, gO (.type "getset_descriptor") [qs "__weakref__" 2271, qr 566, .builtin "ExceptionGroup.__weakref__", .none]), (569, gO (.type "super") [qr 566, qr 566, qr 566]), (570, gO (.type "builtin_function_or_method") [.builtin "object.__init_subclass__", qr 566]), (571, tO [.type "tuple"]), (572, gO (.type "builtin_function_or_method") [.builtin "type.__prepare__", .type "type"]), (573, dO %[qe P "__module__" 2283 (qs "cpy313.tomllib._parser" 2075), qe P "__qualname__" 2285 (qs "Output" 2284), qe P "__firstlineno__" 2287 (qj 445 2286), qe P "__doc__" 2289 (qs "Output(data, flags)" 2288), qe P "__slots__" 2291 (qr 579), qe P "_fields" 2294 (qr 580), qe P "_field_defaults" 2295 (qr 581), qe P "__new__" 2305 (qr 588), qe P "_make" 2327 (qr 597), qe P "_replace" 2338 (qr 606), qe P "__replace__" 2339 (qr 606), qe P "__repr__" 2347 (qr 613), qe P "_asdict" 2354 (qr 620), qe P "__getnewargs__" 2362 (qr 627), qe P "__match_args__" 2365 (qr 628), qe P "data" 2375 (qr 630) | qE P 2385 [("flags", qr 633), ("__static_attributes__", qr 635), ("__classcell__", qr 574)] []]), (574, ⟨(.type "cell"), none, (.cell (some (qr 638))), #[]⟩), (575, tO []), (576, gO .none [qi 451, qi 4, qr 587, qi 456, qi 4, qr 594, qi 463, qi 4, qr 605, qi 474, qi 4, qr 612, qi 478, qi 4, qr 619, qi 481, qi 4, qr 626]), (577, cO "Output" "Output" 2278 445 0 0 0 0 575 false 482 576 .none .none .none .none (qi 2281) 2282), (578, ⟨(.type "frame"), none, .plain, [some (qr 577), some (qr 3), some (qr 573), none, some (qs "cpy313.tomllib._parser" 2075), none, some (qr 0)].toArray⟩), (579, tO []), (580, tO (nmL 2292 ["data", "flags"])), (581, dO []) | 
 fnG 582 (sI 82 4) "__new__" "Output.__new__" 2296 451 3 0 0 3 ["_cls", "data", "flags"] (qs "Create new instance of Output(data, flags)" 2304) (qs "cpy313.tomllib._parser" 2075) <| 
 fnH 589 (sI 82 5) "_make" "Output._make" 2306 455 2 0 0 3 ["cls", "iterable", "result"] <| 
 %[(595, fO (fD (sI 82 5) "Output._make" 3 [] .none .none (qs "Make a new Output object from a sequence or iterable" 2314) (qs "cpy313.tomllib._parser" 2075) (some 598) (qr 594) .none 0)), (596, dO [qe P "__module__" 2316 (qs "cpy313.tomllib._parser" 2075), qe P "__name__" 2319 (qs "_make" 2318), qe P "__qualname__" 2322 (qs "Output._make" 2321), qe P "__doc__" 2324 (qs "Make a new Output object from a sequence or iterable" 2314), qe P "__annotations__" 2326 (qr 598)]), (597, ⟨(.type "classmethod"), (some 596), (.fields [qr 595, .bool false].toArray), #[]⟩), (598, dO []), (599, tO [qr 574]), (600, tO [qs "__class__" 2331]), (601, gO .none []), (602, tO (nmL 2332 ["self", "kwds", "result"])), (603, tO []), (604, hO (sI 82 6) "Output._replace"), (605, cO "_replace" "Output._replace" 2328 463 1 1 0 11 600 true 482 601 .none (qr 602) (qr 603) (qr 604) (qi 2335) 2336), (606, fO (fD (sI 82 6) "Output._replace" 3 [("__class__", 574)] .none .none (qs "Return a new Output object replacing specified fields with new values" 2337) (qs "cpy313.tomllib._parser" 2075) none (qr 605) (qr 599) 0)) | 
 fnG 607 (sI 82 8) "__repr__" "Output.__repr__" 2340 474 1 0 0 3 ["self"] (qs "Return a nicely formatted representation string" 2346) (qs "cpy313.tomllib._parser" 2075) <| 
 fnG 614 (sI 82 9) "_asdict" "Output._asdict" 2348 478 1 0 0 3 ["self"] .none (qs "cpy313.tomllib._parser" 2075) <| 
 fnG 621 (sI 82 10) "__getnewargs__" "Output.__getnewargs__" 2355 481 1 0 0 3 ["self"] (qs "Return self as a plain tuple.  Used by copy and pickle." 2361) (qs "cpy313.tomllib._parser" 2075) <| 
 %[(628, tO (nmL 2363 ["data", "flags"])), (629, dO [qe P "index" 2372 (qj 0 2366), qe P "__doc__" 2374 (qs "Alias for field number 0" 2367)]), (630, ⟨(qr 401), (some 629), .plain, #[]⟩), (631, ⟨(.type "frame"), none, (.dict (qE P 2368 [("self", qr 630), ("index", qj 0 2366), ("doc", qs "Alias for field number 0" 2367)] []).toArray 3), #[]⟩), (632, dO [qe P "index" 2382 (qj 1 2376), qe P "__doc__" 2384 (qs "Alias for field number 1" 2377)]), (633, ⟨(qr 401), (some 632), .plain, #[]⟩), (634, ⟨(.type "frame"), none, (.dict (qE P 2378 [("self", qr 633), ("index", qj 1 2376), ("doc", qs "Alias for field number 1" 2377)] []).toArray 3), #[]⟩), (635, tO []), (636, lO []), (637, ⟨(.type "dict"), none, (.dict [qe P "__module__" 2283 (qs "cpy313.tomllib._parser" 2075), qe P "__firstlineno__" 2287 (qj 445 2286), qe P "__doc__" 2289 (qs "Output(data, flags)" 2288), qe P "__slots__" 2291 (qr 579), qe P "_fields" 2294 (qr 580), qe P "_field_defaults" 2295 (qr 581), qe P "__new__" 2305 (qr 639), qe P "_make" 2327 (qr 597), qe P "_replace" 2338 (qr 606), qe P "__replace__" 2339 (qr 606), qe P "__repr__" 2347 (qr 613), qe P "_asdict" 2354 (qr 620), qe P "__getnewargs__" 2362 (qr 627), qe P "__match_args__" 2365 (qr 628), qe P "data" 2375 (qr 630), qe P "flags" 2385 (qr 633), qe P "__static_attributes__" 2386 (qr 635)].toArray 2), #[]⟩), (638, ⟨(.type "type"), none, (.cls ⟨"Output", [.type "tuple"], [qr 638, .type "tuple", .type "object"], 637, "Output", false, [], [], false, none, false⟩), [some (qr 571), none, some (qs "Output" 2276), some (qs "Output" 2284), some .none, some (.bool false)].toArray⟩), (639, gO (.type "staticmethod") [qr 588]), (640, gO (.type "super") [qr 638, qr 638, qr 638]), (641, gO (.type "builtin_function_or_method") [.builtin "object.__init_subclass__", qr 638]) | 
 fnM 642 (sA 83) "skip_chars" 2391 487 3 0 0 3 ["src", "pos", "chars"] .none (qs "cpy313.tomllib._parser" 2075) <| 
 fnM 649 (sA 84) "skip_until" 2400 494 3 0 2 3 ["src", "pos", "expect", "error_on", "error_on_eof", "new_pos"] .none (qs "cpy313.tomllib._parser" 2075) <| 
 fnM 656 (sA 85) "skip_comment" 2412 506 2 0 0 3 ["src", "pos", "char"] .none (qs "cpy313.tomllib._parser" 2075) <| 
 fnM 663 (sA 86) "skip_comments_and_array_ws" 2421 514 2 0 0 3 ["src", "pos", "pos_before_skip"] .none (qs "cpy313.tomllib._parser" 2075) <| 
 fnM 670 (sA 87) "create_dict_rule" 2430 521 3 0 0 3 ["src", "pos", "out", "key"] .none (qs "cpy313.tomllib._parser" 2075) <| 
 fnM 677 (sA 88) "create_list_rule" 2440 535 3 0 0 3 ["src", "pos", "out", "key"] .none (qs "cpy313.tomllib._parser" 2075) <| 
 %[(684, tO []), (686, tO (nmL 2453 ["src", "pos", "out", "header", "parse_float", "value", "key_parent", "key_stem", "abs_key_parent", "relative_path_cont_keys", "cont_key", "nest"])), (687, tO (nmL 2465 ["header", "key"])), (688, hO (sA 89) "key_value_rule"), (689, cO "key_value_rule" "key_value_rule" 2450 550 5 0 0 3 684 true 482 685 .none (qr 686) (qr 687) (qr 688) (qi 2467) 2468), (690, kO (sA 89) "key_value_rule" .none (qs "cpy313.tomllib._parser" 2075) 689) | 
 fnM 691 (sA 90) "parse_key_value_pair" 2470 571 3 0 0 3 ["src", "pos", "parse_float", "key", "char", "value"] .none (qs "cpy313.tomllib._parser" 2075) <| 
 fnM 698 (sA 91) "parse_key" 2482 583 2 0 0 3 ["src", "pos", "key_part", "key", "char"] .none (qs "cpy313.tomllib._parser" 2075) <| 
 fnM 705 (sA 92) "parse_key_part" 2493 601 2 0 0 3 ["src", "pos", "char", "start_pos"] .none (qs "cpy313.tomllib._parser" 2075) <| 
 fnM 712 (sA 93) "parse_one_line_basic_str" 2503 615 2 0 0 3 ["src", "pos"] .none (qs "cpy313.tomllib._parser" 2075) <| 
 fnM 719 (sA 94) "parse_array" 2511 618 3 0 0 3 ["src", "pos", "parse_float", "array", "val", "c"] .none (qs "cpy313.tomllib._parser" 2075) <| 
 fnM 726 (sA 95) "parse_inline_table" 2523 637 3 0 0 3 ["src", "pos", "parse_float", "nested_dict", "flags", "key", "value", "key_parent", "key_stem", "nest", "c"] .none (qs "cpy313.tomllib._parser" 2075) <| 
 %[(733, dO [qe P "multiline" 2540 (.bool false)]) | 
 fnN 734 (sA 96) "parse_basic_str_escape" 2541 666 2 0 1 3 ["src", "pos", "multiline", "escape_id", "char"] <| 
 %[(740, fO (fD (sA 96) "parse_basic_str_escape" 3 [] .none (qr 733) .none (qs "cpy313.tomllib._parser" 2075) none (qr 739) .none 0)) | 
 fnM 741 (sA 97) "parse_basic_str_escape_multiline" 2552 689 2 0 0 3 ["src", "pos"] .none (qs "cpy313.tomllib._parser" 2075) <| 
 fnM 748 (sA 98) "parse_hex_char" 2560 691 3 0 0 3 ["src", "pos", "hex_len", "hex_str", "hex_int"] .none (qs "cpy313.tomllib._parser" 2075) <| 
 fnM 755 (sA 99) "parse_literal_str" 2571 700 2 0 0 3 ["src", "pos", "start_pos"] .none (qs "cpy313.tomllib._parser" 2075) <| 
 fnM 762 (sA 100) "parse_multiline_str" 2580 705 2 0 1 3 ["src", "pos", "literal", "delim", "end_pos", "result"] .none (qs "cpy313.tomllib._parser" 2075) <| 
 fnM 769 (sA 101) "parse_basic_str" 2592 724 2 0 1 3 ["src", "pos", "multiline", "error_on", "parse_escapes", "result", "start_pos", "char", "parsed_escape"] .none (qs "cpy313.tomllib._parser" 2075) <| 
 fnM 776 (sA 102) "parse_value" 2607 754 3 0 0 3 ["src", "pos", "parse_float", "char", "datetime_match", "datetime_obj", "e", "localtime_match", "number_match", "first_three", "first_four"] .none (qs "cpy313.tomllib._parser" 2075) <| 
 fnM 783 (sA 103) "suffixed_err" 2624 797 3 0 0 3 ["src", "pos", "msg", "coord_repr"] (qs "Return a `TOMLDecodeError` where error message is suffixed with\ncoordinates in source." 2633) (qs "cpy313.tomllib._parser" 2075) <| 
 fnM 790 (sA 104) "is_unicode_scalar_value" 2635 811 1 0 0 3 ["codepoint"] .none (qs "cpy313.tomllib._parser" 2075) <| 
 %[(797, tO []), (798, gO .none []), (799, tO (nmL 2645 ["parse_float", "safe_parse_float"])), (800, tO [qs "parse_float" 2647]), (801, hO (sA 105) "make_safe_parse_float"), (802, cO "make_safe_parse_float" "make_safe_parse_float" 2642 813 1 0 0 3 797 true 482 798 .none (qr 799) (qr 800) (qr 801) (qi 2648) 2649), (803, kO (sA 105) "make_safe_parse_float" (qs "A decorator to make `parse_float` safe.\n\n`parse_float` must not return dicts or lists, because these types\nwould be mixed with parsed TOML tables and arrays, thus confusing\nthe parser. The returned decorated callable raises `ValueError`\ninstead of returning illegal types.\n" 2650) (qs "cpy313.tomllib._parser" 2075) 802) | 
 fnM 804 (sA 107) "_law_loaded" 2654 831 1 0 0 3 ["text_here"] .none (qs "law_ik0240_01" 2652) <| 
 fnM 811 (sA 108) "_law_rank" 2661 836 1 0 0 3 ["mode_bits", "rank", "third", "three", "over"] .none (qs "law_ik0240_01" 2652) <| 
 fnM 818 (sA 109) "_law_written" 2672 843 2 0 0 3 ["rows", "manner", "items", "told", "signs", "style", "comma", "last"] .none (qs "law_ik0240_01" 2652) <| 
 fnM 825 (sA 110) "_law_rows" 2686 853 1 0 0 3 ["things", "rows", "thing"] .none (qs "law_ik0240_01" 2652) <| 
 fnM 832 (sA 111) "_law_barred" 2695 863 3 0 0 3 ["heap_now", "which", "signs"] .none (qs "law_ik0240_01" 2652) <| 
 [(839, tO []), (840, gO .none []), (841, hO (sA 112) "_law_run"), (842, cO "_law_run" "_law_run" 2704 872 2 0 0 3 839 true 482 840 .none .none .none (qr 841) (qi 2707) 2708), (843, kO (sA 112) "_law_run" .none (qs "law_ik0240_01" 2652) 842), (844, tO []), (845, gO .none []), (846, hO (sA 113) "law"), (847, cO "law" "law" 2710 910 1 0 0 3 844 true 482 845 .none .none .none (qr 846) (qi 2713) 2714), (848, kO (sA 113) "law" .none (qs "law_ik0240_01" 2652) 847)]]]]]]]]]]]]]]]]]]]]]]]]]]]
theorem zV {x a b : Bool} (h : x = (a && b)) (p : a = true) (q : b = true) : x = true := by rw [h, p, q]; rfl
abbrev lwP := PySem.Challenge.rw_ik0240_01.row.prog
abbrev lwB := lwP.main.body
def lwL (t : Bool) (l : List Str) : Look := { strict := t, foot := none, bare := l }
theorem noRoad_app (k : Look) (a b : List Stmt) (p : noRoadLSs k a = true) (q : noRoadLSs k b = true) : noRoadLSs k (a ++ b) = true := by
 induction a with
 | nil => exact q
 | cons x r ih => exact zV rfl (Bool.and_eq_true_iff.mp p).1 (ih (Bool.and_eq_true_iff.mp p).2)
theorem lw1 : lwL (!(importedModules lwB).all cThrough.contains) ((["vars", "dir", "locals"] : List Str).filter (readsOut lwP lwB)) = lwL false [] := by kernel_rfl
theorem lw2 : noRoadLSs (lwL false []) (lwB.take 80) = true := by kernel_rfl
theorem lw3 : noRoadLSs (lwL false []) (lwB.drop 80) = true := by kernel_rfl
theorem lw4 : noRoadLSs (lwL (!(importedModules lwB).all cThrough.contains) ((["vars", "dir", "locals"] : List Str).filter (readsOut lwP lwB))) lwB = true := by
 rw [lw1, ← List.take_append_drop 80 lwB]
 exact noRoad_app _ _ _ lw2 lw3
theorem lw5 : namesResolve lwP = true := by kernel_rfl
theorem lw6 : (namesMeet lwP lwB fun _ n => attrL n) = true := by kernel_rfl
set_option hygiene false in
local macro_rules | `(tactic| walk_at "k") => `(tactic| refine zV (rfl : _ = (_ && _)) ?_ (by kernel_rfl))
theorem look_ok : looksOpen lwP = true := zV rfl (zV rfl (zV rfl (zV rfl (by kernel_rfl) lw5) (by kernel_rfl)) lw4) lw6
theorem row_ok : PySem.Challenge.rw_ik0240_01.row.wellSaid = true := by
 iterate 15 walk_at "k"
 exact look_ok
theorem law_said : PySem.Challenge.rw_ik0240_01.wellSaid = true := by
 iterate 18 walk_at "k"
 exact row_ok
noncomputable def lcg (N i : Nat) : Nat := (i * 5 + 1) % N
noncomputable def orbFrom (N : Nat) : Nat -> Nat -> List Nat
 | 0, _ => []
 | n + 1, x => x :: orbFrom N n (lcg N x)
noncomputable def iter (f : Nat -> Nat) : Nat -> Nat -> Nat
 | 0, x => x
 | n + 1, x => iter f n (f x)
theorem iter_add (f : Nat -> Nat) : ∀ (a b x : Nat), iter f (a + b) x = iter f b (iter f a x)
 | 0, b, x => by rw [Nat.zero_add]; rfl
 | a + 1, b, x => by rw [Nat.add_right_comm]; exact iter_add f a b (f x)
theorem mem_orbFrom {N j : Nat} : ∀ {n x : Nat}, j ∈ orbFrom N n x -> ∃ k, k < n ∧ iter (lcg N) k x = j
 | 0, x, h => by cases h
 | n + 1, x, h => by
  rcases List.mem_cons.mp h with rfl | h
  ·exact ⟨0, Nat.succ_pos _, rfl⟩
  ·obtain ⟨k, hk, e⟩ := mem_orbFrom h
   exact ⟨k + 1, Nat.succ_lt_succ hk, e⟩
noncomputable def zF (N : Nat) : Bool := (List.range N).all (fun j => (orbFrom N N 0).contains j) && iter (lcg N) N 0 == 0
theorem orbit {N : Nat} (h : zF N = true) {i j : Nat} (hi : i < N) (hj : j < N) : ∃ n, n < N ∧ iter (lcg N) n i = j := by
 obtain ⟨h1, h2⟩ := Bool.and_eq_true_iff.mp h
 have at_ : ∀ x, x < N -> ∃ k, k < N ∧ iter (lcg N) k 0 = x := fun x hx => by
  have := List.all_eq_true.mp h1 x (List.mem_range.mpr hx)
  exact mem_orbFrom (by simpa using this)
 obtain ⟨a, ha, ea⟩ := at_ i hi
 obtain ⟨b, hb, eb⟩ := at_ j hj
 by_cases c : a ≤ b
 ·refine ⟨b - a, by lia, ?_⟩
  rw [← ea, ← iter_add, show a + (b - a) = b by lia, eb]
 ·refine ⟨N + b - a, by lia, ?_⟩
  rw [← ea, ← iter_add, show a + (N + b - a) = N + b by lia, iter_add, beq_iff_eq.mp h2, eb]
theorem full8 : zF 8 = true := by decide +kernel
theorem full32 : zF 32 = true := by decide +kernel
theorem full128 : zF 128 = true := by decide +kernel
theorem full256 : zF 256 = true := by decide +kernel
noncomputable def posAt (mask : Nat) : Nat -> Nat × Nat -> Nat × Nat
 | 0, x => x
 | t + 1, x => posAt mask t (SetTable.leap mask x.1 x.2)
theorem posAt_add (mask : Nat) : ∀ (a b : Nat) (x : Nat × Nat), posAt mask (a + b) x = posAt mask b (posAt mask a x)
 | 0, b, x => by rw [Nat.zero_add]; rfl
 | a + 1, b, x => by rw [Nat.add_right_comm]; exact posAt_add mask a b _
theorem posAt_perturb (mask : Nat) : ∀ (t : Nat) (x : Nat × Nat), (posAt mask t x).2 = x.2 / 32 ^ t
 | 0, x => (Nat.div_one _).symm
 | t + 1, x => by
  show (posAt mask t (SetTable.leap mask x.1 x.2)).2 = _
  rw [posAt_perturb mask t, SetTable.leap, Nat.div_div_eq_div_mul, Nat.pow_succ, Nat.mul_comm]
theorem posAt_zero (mask : Nat) : ∀ (t i : Nat), (posAt mask t (i, 0)).1 = iter (lcg (mask + 1)) t i
 | 0, i => rfl
 | t + 1, i => by
  show (posAt mask t (SetTable.leap mask i 0)).1 = iter (lcg (mask + 1)) t (lcg (mask + 1) i)
  rw [show SetTable.leap mask i 0 = (lcg (mask + 1) i, 0) by simp [SetTable.leap, lcg]]
  exact posAt_zero mask t _
theorem posAt_lt (mask : Nat) : ∀ (t : Nat) (x : Nat × Nat), x.1 < mask + 1 -> (posAt mask t x).1 < mask + 1
 | 0, x, h => h
 | t + 1, x, h => posAt_lt mask t _ (Nat.mod_lt _ (Nat.succ_pos _))
theorem meets {mask : Nat} (hf : zF (mask + 1) = true) {i p j : Nat} (hi : i < mask + 1) (hp : p < 2 ^ 64) (hj : j < mask + 1) : ∃ t, t < mask + 14 ∧ (posAt mask t (i, p)).1 = j := by
 have h0 : posAt mask 13 (i, p) = ((posAt mask 13 (i, p)).1, 0) := by
  have := posAt_perturb mask 13 (i, p)
  have e : p / 32 ^ 13 = 0 := Nat.div_eq_of_lt (by lia)
  rw [e] at this
  exact Prod.ext rfl this
 obtain ⟨n, hn, e⟩ := orbit hf (posAt_lt mask 13 (i, p) hi) hj
 refine ⟨13 + n, by lia, ?_⟩
 rw [posAt_add, h0, posAt_zero]
 exact e
theorem free_none {mask : Nat} {owner : Array (Option Nat)} : ∀ (fuel i p : Nat), SetTable.layClean.free mask owner fuel i p = none -> ∀ t, t < fuel -> (owner.getD (posAt mask t (i, p)).1 (some 0)).isNone = false
 | 0, _, _, _, t, ht => absurd ht (Nat.not_lt_zero _)
 | fuel + 1, i, p, h, t, ht => by
  have h : (match (List.range (SetTable.runEnd mask i + 1 - i)).find? fun k => (owner.getD (i + k) (some 0)).isNone with
   | some k => some (i + k)
   | none => SetTable.layClean.free mask owner fuel (SetTable.leap mask i p).1 (SetTable.leap mask i p).2) = none := h
  cases hn : (List.range (SetTable.runEnd mask i + 1 - i)).find? fun k => (owner.getD (i + k) (some 0)).isNone with
  | some k => rw [hn] at h; cases h
  | none =>
   rw [hn] at h
   cases t with
   | zero =>
    have := List.find?_eq_none.mp hn 0 (List.mem_range.mpr (by unfold SetTable.runEnd; split <;> lia))
    exact Bool.eq_false_iff.mpr this
   | succ t => exact free_none fuel _ _ h t (Nat.lt_of_succ_lt_succ ht)
theorem free_some {mask : Nat} (hf : zF (mask + 1) = true) {owner : Array (Option Nat)} {i p j : Nat} (hi : i < mask + 1) (hp : p < 2 ^ 64) (hj : j < mask + 1) (he : (owner.getD j (some 0)).isNone = true) :
  ∃ r, SetTable.layClean.free mask owner (SetTable.turns mask) i p = some r := by
 cases h : SetTable.layClean.free mask owner (SetTable.turns mask) i p with
 | some r => exact ⟨r, rfl⟩
 | none =>
  obtain ⟨t, ht, e⟩ := meets hf hi hp hj
  have := free_none _ _ _ h t (by unfold SetTable.turns; lia)
  rw [e, he] at this
  cases this
noncomputable def kOf : Value -> Str
 | .str x _ => x
 | _ => default
@[reducible] noncomputable def frozO (es : Array (Int × Value)) (ep : Nat) (t : SetTable) : Obj := { cls := .type "frozenset", dict := none, data := .set es ep t, slots := #[] }
def Els (w : World) (l : List (Int × Value)) : Prop := ∀ e ∈ l, ∃ u, e = (hashStr w (kOf e.2), Value.str (kOf e.2) u)
inductive FSd (w : World) (h : Heap) (a : Addr) (l : List Str) (d : Nat) : Prop
 | mk (es : Array (Int × Value)) (ep : Nat) (t : SetTable) (_ : h.get? a = some (frozO es ep t)) (_ : Els w es.toList) (_ : (es.toList.map fun e => kOf e.2).Perm l) (_ : l.Nodup) (_ : l.length < 4096) (_ : t.fits es.size = true) (_ : t.dummies.size ≤ d)
inductive FS (w : World) (h : Heap) (a : Addr) (l : List Str) : Prop
 | mk (es : Array (Int × Value)) (ep : Nat) (t : SetTable) (_ : h.get? a = some (frozO es ep t)) (_ : Els w es.toList) (_ : (es.toList.map fun e => kOf e.2).Perm l) (_ : l.Nodup) (_ : l.length < 4096) (_ : t.fits es.size = true)
theorem FSd.fs {w : World} {h : Heap} {a : Addr} {l : List Str} {d : Nat} (x : FSd w h a l d) : FS w h a l := by cases x with | mk es ep t a b c e f g _ => exact ⟨es, ep, t, a, b, c, e, f, g⟩
theorem FS.at {w : World} {h h' : Heap} {a : Addr} {l : List Str} (x : FS w h a l) (k : ∀ o, h.get? a = some o -> h'.get? a = some o) : FS w h' a l := by cases x with | mk es ep t a b c e f g => exact ⟨es, ep, t, k _ a, b, c, e, f, g⟩
section
variable {prog : Program} {w : World} {A : Around} {E : QV} {s : Shared} {a : Addr} {l : List Str} {d : Nat}
theorem Els.elems {r : List (Int × Value)} (h : Els w r) : ElemsOf (PySem.strKind prog w) r := fun e he => by
 obtain ⟨u, q⟩ := h e he
 refine ⟨⟨kOf e.2, ?_, ?_⟩, ?_⟩
 ·rw [q]; exact beq_self_eq_true _
 ·rw [q]; rfl
 ·rw [q]; rfl
theorem Els.is {r : List (Int × Value)} (h : Els w r) {e : Int × Value} (he : e ∈ r) (x : Str) : (PySem.strKind prog w).is x e.2 = decide (x = kOf e.2) := by
 obtain ⟨u, q⟩ := h e he
 have e2 : e.2 = .str (kOf e.2) u := congrArg Prod.snd q
 revert e2
 refine gnl (kOf e.2) ?_
 intro y e2
 rw [e2, Bool.eq_iff_iff, decide_eq_true_eq]
 show (y == x) = true ↔ _
 rw [beq_iff_eq]
 exact eq_comm
theorem isx (x : Str) (u : Tok) : (PySem.strKind prog w).is x (.str x u) = true := by simp [PySem.strKind, Value.isStrOf]
theorem Els.perm {r r' : List (Int × Value)} (h : Els w r) (p : r'.Perm r) : Els w r' := fun e he => h e (p.mem_iff.mp he)
theorem Els.find_none {r : List (Int × Value)} (h : Els w r) {x : Str} (hn : r.findIdx? (fun e => (PySem.strKind prog w).is x e.2) = none) : x ∉ r.map fun e => kOf e.2 := fun q => by
 obtain ⟨e, he, rfl⟩ := List.mem_map.mp q
 have := List.findIdx?_eq_none_iff.mp hn e he
 rw [h.is he] at this
 simp at this
theorem Els.find_some {r : List (Int × Value)} (h : Els w r) {x : Str} {j : Nat} (hn : r.findIdx? (fun e => (PySem.strKind prog w).is x e.2) = some j) : ∃ hj : j < r.length, kOf r[j].2 = x := by
 obtain ⟨hj, hp, _⟩ := List.findIdx?_eq_some_iff_getElem.mp hn
 refine ⟨hj, ?_⟩
 rw [h.is (List.getElem_mem hj)] at hp
 exact (of_decide_eq_true hp).symm
theorem FS.froz (x : FS w s.heap a l) : FrozAt (PySem.strKind prog w) s.heap a (fun k => decide (k ∈ l)) l.length := by
 obtain ⟨es, ep, t, h1, h2, h3, h4, h5, h6⟩ := x
 refine ⟨es, ep, t, h1, h2.elems, fun k => ?_, ?_, h6⟩
 ·rw [decide_eq_true_eq, ← h3.mem_iff]
  refine ⟨fun q => ?_, fun ⟨e, he, q⟩ => ?_⟩
  ·obtain ⟨e, he, rfl⟩ := List.mem_map.mp q
   exact ⟨e, he, by rw [h2.is he]; simp⟩
  ·rw [h2.is he] at q
   exact List.mem_map.mpr ⟨e, he, (of_decide_eq_true q).symm⟩
 ·rw [← h3.length_eq, List.length_map, Array.length_toList]
theorem get_put {h : Heap} {es : Array (Int × Value)} {ep : Nat} {t : SetTable} (ho : h.get? a = some (frozO es ep t)) (es' : Array (Int × Value)) (t' : SetTable) : (h.update a (Obj.putSet es' t')).get? a = some (frozO es' (ep + 1) t') := by
 have := Heap.get?_update_self (Obj.putSet es' t') ho (by rw [putSet_of es' t' rfl]; rfl)
 rw [putSet_of es' t' rfl] at this
 exact this
theorem fs_add {x : Str} {u : Tok} {Q : QB} (S : FS w s.heap a l) (hz : l.length + 1 < 4096)
  (h : ∀ b h', Heap.SameBut a s.heap h' -> h'.objs.size = s.heap.objs.size -> FS w h' a (if x ∈ l then l else l ++ [x]) -> Q b { s with heap := h' }) :
  wpAny (model prog w) A (setAddHashed a (.str x u) (hashStr w x)) Q E s := by
 obtain ⟨es, ep, t, ho, hel, hp, hnd, hl, hf⟩ := id S
 have hn : es.size = l.length := by rw [← hp.length_eq, List.length_map, Array.length_toList]
 have hb : es.size < scanBound := by rw [hn]; exact hl
 unfold setAddHashed setAddHashedIn
 refine wpAny_holding (wB (wpAny_setState_of ho rfl hf ?_))
 dsimp only
 rw [byScan_of (prog := prog) (w := w) (knd := PySem.strKind prog w) rfl hb hel.elems]
 simp only [↓reduceIte]
 unfold setAddByScan
 refine wB (wB (wpAny_rule (wB ?_)))
 refine wpAny_setScan_of (knd := PySem.strKind prog w) (k := x) (isx x u) ho rfl hf hel.elems ?_
 cases hr : List.findIdx? (fun e => (PySem.strKind prog w).is x e.2) es.toList with
 | some j =>
  obtain ⟨hj, e⟩ := hel.find_some hr
  have hx : x ∈ l := hp.mem_iff.mp (e ▸ List.mem_map.mpr ⟨_, List.getElem_mem hj, rfl⟩)
  refine wP (wP ?_)
  have := h false s.heap (Heap.SameBut.refl a s.heap) rfl (by rw [if_pos hx]; exact S)
  exact this
 | none =>
  have hx : x ∉ l := fun q => hel.find_none hr (hp.mem_iff.mpr q)
  rw [if_neg hx] at h
  have hgw : ∀ (b : Bool) {s₁ : Shared} {Q' : QU}, Q' () s₁ -> wpAny (model prog w) A (match b with | true => rule "set.scan.the-table-gave-way" | false => pure ()) Q' E s₁ :=
   fun b s₁ Q' hq => by cases b <;> first | exact wP hq | exact wpAny_rule hq
  have hperm := layNew_perm t es (hashStr w x) (.str x u)
  have hfits := layNew_fits t es (hashStr w x) (.str x u)
  dsimp only
  show wpAny _ _ _ _ _ _
  refine gnlE (layNew t es (hashStr w x) (.str x u)) ?_
  intro L hL
  have hL' : layNew t es ((PySem.strKind prog w).hash x) (.str x u) = L := hL
  rw [hL] at hperm hfits
  obtain ⟨es1, t1, wasDummy, gave⟩ := L
  try rw [hL']
  dsimp only at hperm hfits ⊢
  rw [Array.toList_push] at hperm
  have hel1 : Els w es1.toList := Els.perm (fun e he => by
   rcases List.mem_append.mp he with q | q
   ·exact hel e q
   ·rw [List.mem_singleton.mp q]; exact ⟨u, rfl⟩) hperm
  have hp1 : (es1.toList.map fun e => kOf e.2).Perm (l ++ [x]) := by
   refine (hperm.map _).trans ?_
   rw [List.map_append]
   exact hp.append_right _
  have hnd1 : (l ++ [x]).Nodup := List.nodup_append.mpr ⟨hnd, by simp, fun y hy z hz' e => by rw [List.mem_singleton.mp hz'] at e; exact hx (e ▸ hy)⟩
  have hl1 : (l ++ [x]).length < 4096 := by rw [List.length_append, List.length_singleton]; exact hz
  have hn1 : es1.size = (l ++ [x]).length := by rw [← hp1.length_eq, List.length_map, Array.length_toList]
  have hz1 : es1.size ≤ sizeLine := fits_of_scanBound (by rw [hn1]; exact hl1)
  have fin : ∀ t2 : SetTable, t2.fits es1.size = true -> ∀ R : Option Bool -> Shared -> Prop, (∀ h', Heap.SameBut a s.heap h' -> h'.objs.size = s.heap.objs.size -> FS w h' a (l ++ [x]) -> R (some true) { s with heap := h' }) -> ∀ g : Bool -> Sem Unit,
    (∀ (b : Bool) (s₁ : Shared) (Q' : QU), Q' () s₁ -> wpAny (model prog w) A (g b) Q' E s₁) -> wpAny (model prog w) A (do
     storeSet a es1 t2
     if (!wasDummy && t2.tooFull) = true then do
       g (relayAll t2 es1 (SetTable.grown es1.size)).2.2
       storeSet a (relayAll t2 es1 (SetTable.grown es1.size)).1 (relayAll t2 es1 (SetTable.grown es1.size)).2.1
       pure (some true)
      else pure (some true)) R E s := fun t2 hf2 R hR g hg => by
   refine wB (wpAny_storeSet_of ho rfl ?_ hz1)
   have ho1 := get_put ho es1 t2
   have hsb1 := Heap.SameBut.update s.heap a (Obj.putSet es1 t2)
   split
   ·have hp2 := relayAll_perm t2 es1 (SetTable.grown es1.size)
    have hf3 := relayAll_fits t2 es1 (SetTable.grown es1.size)
    revert hp2 hf3
    refine gnl (relayAll t2 es1 (SetTable.grown es1.size)) ?_
    intro Rl hp2 hf3
    obtain ⟨es2, t3, gave2⟩ := Rl
    dsimp only at hp2 hf3 ⊢
    have hz2 : es2.size ≤ sizeLine := by rw [← Array.length_toList, hp2.length_eq, Array.length_toList]; exact hz1
    refine wB (hg _ _ _ (wB (wpAny_storeSet_of ho1 rfl ?_ hz2)))
    exact wP (hR _ (hsb1.trans (Heap.SameBut.update _ a _)) (by rw [Heap.size_update, Heap.size_update]) ⟨es2, _, t3, get_put ho1 es2 t3, hel1.perm hp2, (hp2.map _).trans hp1, hnd1, hl1, hf3⟩)
   ·exact wP (hR _ hsb1 (Heap.size_update ..) ⟨es1, _, t2, ho1, hel1, hp1, hnd1, hl1, hf2⟩)
  refine wB (hgw _ ?_)
  split
  ·refine wB ?_
   rw [hashByValue_scannable 8 (x := .str x u) rfl]
   refine wP ?_
   refine fin _ ?_ _ (fun h' hs hq hS => wP (h true h' hs hq hS)) _ (fun b s₁ Q' hq => by cases b <;> first | exact wP hq | exact wpAny_rule hq)
   split
   ·exact hfits
   ·exact SetTable.fits_plain_off hfits
  ·refine wB (wP ?_)
   simp only [↓reduceIte]
   exact fin _ hfits _ (fun h' hs hq hS => wP (h true h' hs hq hS)) _ (fun b s₁ Q' hq => by cases b <;> first | exact wP hq | exact wpAny_rule hq)
end
theorem free_spec {mask : Nat} {owner : Array (Option Nat)} : ∀ (fuel i p r : Nat), SetTable.layClean.free mask owner fuel i p = some r -> (owner.getD r (some 0)).isNone = true
 | 0, _, _, _, h => by cases h
 | fuel + 1, i, p, r, h => by
  have h : (match (List.range (SetTable.runEnd mask i + 1 - i)).find? fun k => (owner.getD (i + k) (some 0)).isNone with
   | some k => some (i + k)
   | none => SetTable.layClean.free mask owner fuel (SetTable.leap mask i p).1 (SetTable.leap mask i p).2) = some r := h
  cases hk : (List.range (SetTable.runEnd mask i + 1 - i)).find? fun k => (owner.getD (i + k) (some 0)).isNone with
  | some k =>
   rw [hk] at h
   have := List.find?_some hk
   rw [← Option.some.inj h]
   exact this
  | none =>
   rw [hk] at h
   exact free_spec fuel _ _ _ h
def Own (owner : Array (Option Nat)) (mask k : Nat) : Prop := owner.size = mask + 1 ∧ (owner.toList.filterMap id).Perm (List.range k)
theorem all_some {α : Type} : ∀ l : List (Option α), (∀ x ∈ l, x.isSome = true) -> (l.filterMap id).length = l.length
 | [], _ => rfl
 | x :: l, h => by
  obtain ⟨y, hy⟩ := Option.isSome_iff_exists.mp (h x (.head _))
  subst hy
  simp only [List.filterMap_cons, id]
  rw [List.length_cons, List.length_cons, all_some l fun x hx => h x (.tail _ hx)]
theorem Own.place {owner : Array (Option Nat)} {mask k : Nat} (o : Own owner mask k) (hk : k ≤ mask) : ∃ j, j < mask + 1 ∧ (owner.getD j (some 0)).isNone = true := by
 by_cases h : ∀ x ∈ owner.toList, x.isSome = true
 ·have e := all_some _ h
  rw [o.2.length_eq, List.length_range, Array.length_toList, o.1] at e
  lia
 ·have h : ∃ x, x ∈ owner.toList ∧ ¬ x.isSome = true := by
   apply Classical.byContradiction
   intro q
   exact h fun x hx => Classical.byContradiction fun y => q ⟨x, hx, y⟩
  obtain ⟨x, hx, hq⟩ := h
  obtain ⟨j, hj, e⟩ := List.mem_iff_getElem.mp hx
  rw [Array.length_toList] at hj
  refine ⟨j, o.1 ▸ hj, ?_⟩
  rw [Array.getElem_toList] at e
  have : x = none := by cases x <;> simp_all
  simp [Array.getD, hj, e, this]
theorem filterMap_set {k : Nat} : ∀ (l : List (Option Nat)) (j : Nat), l[j]? = some none -> ((l.set j (some k)).filterMap id).Perm (k :: l.filterMap id)
 | [], j, h => by simp at h
 | x :: l, 0, h => by
  simp at h
  subst h
  simp
 | x :: l, j + 1, h => by
  simp at h
  have ih := filterMap_set (k := k) l j h
  rw [List.set_cons_succ]
  cases x with
  | none => simpa using ih
  | some y => simpa using (ih.cons y).trans (List.Perm.swap k y _)
theorem Own.set {owner : Array (Option Nat)} {mask k j : Nat} (o : Own owner mask k) (hj : (owner.getD j (some 0)).isNone = true) : Own (owner.setIfInBounds j (some k)) mask (k + 1) := by
 have hl : j < owner.size := by
  apply Classical.byContradiction
  intro q
  simp [Array.getD, q] at hj
 have e : owner.toList[j]? = some none := by
  simp [Array.getD, hl] at hj
  simp [hl, hj]
 refine ⟨by rw [Array.size_setIfInBounds]; exact o.1, ?_⟩
 rw [Array.toList_setIfInBounds]
 refine (filterMap_set _ _ e).trans ?_
 rw [List.range_succ]
 exact (o.2.cons k).trans (List.perm_append_singleton k _).symm
theorem lay_fold {mask : Nat} (hf : zF (mask + 1) = true) : ∀ (hs : List Int) (owner : Array (Option Nat)) (k : Nat), Own owner mask k -> k + hs.length ≤ mask →
  ∃ o', hs.foldl (fun (acc : Option (Array (Option Nat) × Nat)) h => do
   let (owner, k) ← acc
   let j ← SetTable.layClean.free mask owner (SetTable.turns mask) (SetTable.bits h % (mask + 1)) (SetTable.bits h)
   pure (owner.setIfInBounds j (some k), k + 1)) (some (owner, k)) = some (o', k + hs.length) ∧ Own o' mask (k + hs.length)
 | [], owner, k, o, _ => ⟨owner, rfl, o⟩
 | h :: hs, owner, k, o, hk => by
  rw [List.length_cons] at hk
  obtain ⟨j, hj, he⟩ := o.place (by lia)
  obtain ⟨r, hr⟩ := free_some hf (i := SetTable.bits h % (mask + 1)) (p := SetTable.bits h) (Nat.mod_lt _ (Nat.succ_pos _)) (by unfold SetTable.bits; lia) hj he
  have hq := free_spec _ _ _ _ hr
  obtain ⟨o', e, q⟩ := lay_fold hf hs _ (k + 1) (o.set hq) (by lia)
  refine ⟨o', ?_, ?_⟩
  ·rw [List.foldl_cons, List.length_cons, show k + (hs.length + 1) = k + 1 + hs.length by lia, ← e]
   congr 1
   simp only [hr, Option.bind_eq_bind, Option.bind_some]
   rfl
  ·rw [List.length_cons, show k + (hs.length + 1) = k + 1 + hs.length by lia]; exact q
theorem lay_snd : ∀ (owner : List (Option Nat)) (f : Nat -> Nat), (((List.range owner.length).filterMap fun j => (owner[j]?.getD none).map (f j, ·)).map (·.2)) = owner.filterMap id := by
 intro owner
 induction owner with
 | nil => intro f; rfl
 | cons x l ih =>
  intro f
  rw [List.length_cons, List.range_succ_eq_map, List.filterMap_cons, List.filterMap_map]
  have := ih (f ∘ Nat.succ)
  cases x with
  | none =>
   simp only [List.getElem?_cons_zero, Option.getD_some, Option.map_none, List.filterMap_cons, id]
   rw [← this]
   rfl
  | some y =>
   simp only [List.getElem?_cons_zero, Option.getD_some, Option.map_some, List.filterMap_cons, id, List.map_cons]
   rw [← this]
   rfl
theorem laid_ok {mask : Nat} (hf : zF (mask + 1) = true) (hashes : Array Int) (hn : hashes.size ≤ mask) (finger moves : Nat) (led plain : Bool) :
  ∃ t order, SetTable.laid mask finger moves led plain hashes = some (t, order) ∧ order.toList.Perm (List.range hashes.size) ∧ t.place.size = hashes.size ∧ t.dummies = #[] ∧ t.mask = mask ∧ t.plain = plain := by
 have o0 : Own (Array.replicate (mask + 1) none) mask 0 := ⟨by simp, by simp⟩
 obtain ⟨o', e, o⟩ := lay_fold hf hashes.toList _ 0 o0 (by rw [Array.length_toList]; lia)
 rw [Nat.zero_add, Array.length_toList] at o e
 have e2 : SetTable.layClean mask hashes = some o' := by
  unfold SetTable.layClean
  rw [← Array.foldl_toList, e]
  rfl
 have e3 : ((List.range (mask + 1)).filterMap fun j => (o'.getD j none).map (j, ·)).map (·.2) = o'.toList.filterMap id := by
  rw [← lay_snd o'.toList id, Array.length_toList, o.1]
  congr 1
  congr 1
  funext j
  simp [Array.getD_eq_getD_getElem?]
 refine ⟨_, _, by unfold SetTable.laid; rw [e2]; rfl, ?_, ?_, rfl, rfl, rfl⟩
 ·rw [List.toList_toArray, e3]; exact o.2
 ·have := congrArg List.length e3
  rw [List.length_map, o.2.length_eq, List.length_range] at this
  simpa using this
def Grw (h h' : Heap) (n : Nat) : Prop := h'.objs.size = h.objs.size + n ∧ ∀ b o, h.get? b = some o -> h'.get? b = some o
theorem Grw.refl (h : Heap) : Grw h h 0 := ⟨rfl, fun _ _ e => e⟩
theorem Grw.push (h : Heap) (o : Obj) : Grw h (h.push o) 1 := ⟨Heap.size_push .., fun _ _ e => Heap.get?_push_of_some _ e⟩
theorem Grw.trans {h h₁ h₂ : Heap} {n m : Nat} (x : Grw h h₁ n) (y : Grw h₁ h₂ m) : Grw h h₂ (n + m) := ⟨by rw [y.1, x.1, Nat.add_assoc], fun b o e => y.2 b o (x.2 b o e)⟩
theorem Grw.same {h h₁ h₂ : Heap} {n : Nat} {a : Addr} (x : Grw h h₁ n) (y : Heap.SameBut a h₁ h₂) (ha : h.objs.size ≤ a) : Grw h h₂ n :=
 ⟨by rw [y.1, x.1], fun b o e => (y.2 b fun q => by rw [q] at e; exact absurd (Heap.lt_size e) (Nat.not_lt.mpr ha)).trans (x.2 b o e)⟩
section
variable {prog : Program} {w : World} {A : Around} {E : QV} {s : Shared} {a : Addr} {l : List Str} {d : Nat}
theorem fs_type {s : Shared} (S : FS w s.heap a l) : s.TypeIs (.ref a) "frozenset" := by obtain ⟨_, _, _, e⟩ := S; exact ⟨_, e, rfl⟩
theorem perm_size {es : Array (Int × Value)} {order : Array Nat} (hp : order.toList.Perm (List.range es.size)) : (order.filterMap (es[·]?)).toList.Perm es.toList := by
 rw [Array.toList_filterMap]
 exact (hp.filterMap _).trans (by rw [filterMap_getElem?_range])
theorem fs_relay {es : Array (Int × Value)} {ep : Nat} {t : SetTable} {wanted : Nat} {Q : QU} (ho : s.heap.get? a = some (frozO es ep t)) (hf : t.fits es.size = true) (hw : SetTable.sizeAbove wanted ≤ 4096) (hw0 : 0 < SetTable.sizeAbove wanted)
  (hper : zF (SetTable.sizeAbove wanted) = true) (hz : es.size < SetTable.sizeAbove wanted)
  (h : ∀ es' t', es'.toList.Perm es.toList -> t'.fits es'.size = true -> t'.dummies = #[] -> t'.mask = SetTable.sizeAbove wanted - 1 -> t'.plain = t.plain -> Q () { s with heap := s.heap.update a (Obj.putSet es' t') }) :
  wpAny (model prog w) A (setRelay a wanted) Q E s := by
 have e1 : SetTable.sizeAbove wanted - 1 + 1 = SetTable.sizeAbove wanted := by lia
 obtain ⟨t', order, hl, hp, hps, hd, hm, hpl⟩ := laid_ok (mask := SetTable.sizeAbove wanted - 1) (by rw [e1]; exact hper) (es.map (·.1)) (by rw [Array.size_map]; lia) t.finger (t.movedTo (SetTable.sizeAbove wanted - 1)) t.led t.plain
 rw [Array.size_map] at hp hps
 have hq := perm_size hp
 have hsz : (order.filterMap (es[·]?)).size = es.size := by rw [← Array.length_toList, hq.length_eq, Array.length_toList]
 have hR : t.relaid (es.map (·.1)) wanted = some (t', order) := hl
 unfold setRelay
 refine wB (wpAny_setState_of ho rfl hf ?_)
 dsimp only
 have hline : ¬ SetTable.sizeAbove wanted > sizeLine := by rw [sizeLine_eq]; lia
 refine wifn hline ?_
 refine wB (wpAny_of_eq (a := (order.filterMap (es[·]?), t')) ?_ ?_)
 ·rw [hR]
  show (ite (((order.filterMap (es[·]?)).size != es.size) = true) _ _) = _
  rw [hsz, if_neg (by simp)]
 ·refine wpAny_storeSet_of ho rfl (h _ t' hq ?_ hd hm hpl) ?_
  ·rw [hsz]
   unfold SetTable.fits SetTable.fill
   rw [hps, hd, hm]
   simp
   lia
  ·rw [hsz, sizeLine_eq]; lia
theorem fs_room {es : Array (Int × Value)} {ep : Nat} {t : SetTable} {more : Nat} {Q : QU} (ho : s.heap.get? a = some (frozO es ep t)) (hf : t.fits es.size = true) (hw : SetTable.sizeAbove ((es.size + more) * 2) ≤ 4096)
  (hw0 : 0 < SetTable.sizeAbove ((es.size + more) * 2)) (hper : zF (SetTable.sizeAbove ((es.size + more) * 2)) = true) (hz : es.size < SetTable.sizeAbove ((es.size + more) * 2))
  (h0 : (t.fill + more) * 5 < t.mask * 3 -> Q () s)
  (h : ∀ es' t', es'.toList.Perm es.toList -> t'.fits es'.size = true -> t'.dummies = #[] -> t'.mask = SetTable.sizeAbove ((es.size + more) * 2) - 1 -> t'.plain = t.plain -> Q () { s with heap := s.heap.update a (Obj.putSet es' t') }) :
  wpAny (model prog w) A (setRoomFor a more) Q E s := by
 have hps : t.place.size = es.size := by
  unfold SetTable.fits at hf
  simpa using (Bool.and_eq_true_iff.mp hf).1
 unfold setRoomFor
 refine wB (wpAny_setState_of ho rfl hf ?_)
 dsimp only
 cases hr : t.roomFor more with
 | none =>
  unfold SetTable.roomFor at hr
  split at hr
  ·cases hr
  ·exact wP (h0 (by lia))
 | some wanted =>
  unfold SetTable.roomFor at hr
  split at hr
  ·obtain rfl := Option.some.inj hr
   rw [hps]
   exact fs_relay ho hf hw hw0 hper hz h
  ·cases hr
theorem fresh_fits (led : Bool) : (SetTable.fresh 0 0 led).fits (#[] : Array (Int × Value)).size = true := rfl
theorem fs_room0 {r ep0 n : Nat} {t0 : SetTable} {Q : QU} (h0 : s.heap.get? r = some (frozO #[] ep0 t0)) (hf0 : t0.fits 0 = true) (hm0 : t0.mask = 7) (hd0 : t0.dummies = #[])
  (hper : zF (SetTable.sizeAbove (n * 2)) = true) (hlt : n < SetTable.sizeAbove (n * 2)) (hle : SetTable.sizeAbove (n * 2) ≤ 4096)
  (h : ∀ ep1 t1 h1, Heap.SameBut r s.heap h1 -> h1.get? r = some (frozO #[] ep1 t1) -> t1.fits 0 = true -> t1.fill = 0 -> zF (t1.mask + 1) = true -> n ≤ t1.mask -> Q () { s with heap := h1 }) : wpAny (model prog w) A (setRoomFor r n) Q E s := by
 have e0 : (#[] : Array (Int × Value)).size + n = n := by simp
 have hfill : ∀ t1 : SetTable, t1.fits 0 = true -> t1.dummies = #[] -> t1.fill = 0 := fun t1 h1 h2 => by
  unfold SetTable.fits at h1
  have := (Bool.and_eq_true_iff.mp h1).1
  unfold SetTable.fill
  rw [h2, beq_iff_eq.mp this]
  rfl
 refine fs_room (es := #[]) h0 hf0 (by rw [e0]; exact hle) (by rw [e0]; lia) (by rw [e0]; exact hper) (by rw [e0]; simp; lia) (fun q => ?_) fun es' t' hp hf hd hm _ => ?_
 ·rw [hfill t0 hf0 hd0, hm0] at q
  exact h ep0 t0 s.heap (Heap.SameBut.refl ..) h0 hf0 (hfill t0 hf0 hd0) (by rw [hm0]; exact full8) (by rw [hm0]; lia)
 ·have he : es' = #[] := by
   have := hp.length_eq
   simpa using this
  subst he
  rw [e0] at hm
  exact h _ t' _ (Heap.SameBut.update ..) (get_put h0 #[] t') hf (hfill t' hf hd) (by rw [hm, Nat.sub_add_cancel (by lia)]; exact hper) (by rw [hm]; lia)
theorem fs_merge0 {r ep0 : Nat} {t0 : SetTable} {each : Sem Unit} {Q : QU} (S : FS w s.heap a l) (h0 : s.heap.get? r = some (frozO #[] ep0 t0)) (hf0 : t0.fits 0 = true) (hm0 : t0.mask = 7) (hd0 : t0.dummies = #[]) (hne : r ≠ a) (hl0 : l ≠ [])
  (hper : zF (SetTable.sizeAbove (l.length * 2)) = true) (hlt : l.length < SetTable.sizeAbove (l.length * 2)) (hle : SetTable.sizeAbove (l.length * 2) ≤ 4096)
  (h : ∀ h', Heap.SameBut r s.heap h' -> FSd w h' r l 0 -> Q () { s with heap := h' }) : wpAny (model prog w) A (setMerge r a each) Q E s := by
 obtain ⟨es, ep, t, ho, hel, hp, hnd, hl, hf⟩ := id S
 have hn : es.size = l.length := by rw [← hp.length_eq, List.length_map, Array.length_toList]
 have hlpos : 0 < l.length := List.length_pos_iff.mpr hl0
 have end_ : ∀ (es1 : Array (Int × Value)) (ep1 : Nat) (t1 : SetTable) (h1 : Heap), Heap.SameBut r s.heap h1 -> h1.get? r = some (frozO es1 ep1 t1) -> ∀ (es2 : Array (Int × Value)) (t2 : SetTable), es2.toList.Perm es.toList -> t2.fits es2.size = true -> t2.dummies = #[] →
   wpAny (model prog w) A (storeSet r es2 t2) Q E { s with heap := h1 } := fun es1 ep1 t1 h1 hg h1r es2 t2 hp2 hf2 hd2 => by
  have hs2 : es2.size = l.length := by rw [← hn, ← Array.length_toList, hp2.length_eq, Array.length_toList]
  refine wpAny_storeSet_of (s := { s with heap := h1 }) h1r rfl ?_ (by rw [hs2, sizeLine_eq]; lia)
  exact h _ (hg.trans (Heap.SameBut.update h1 r _)) ⟨es2, _, t2, get_put h1r es2 t2, hel.perm hp2, (hp2.map _).trans hp, hnd, hl, hf2, by rw [hd2]; exact Nat.le_refl _⟩
 have hempty : ¬ es.isEmpty = true := fun q => by
  have := Array.isEmpty_iff_size_eq_zero.mp q
  lia
 unfold setMerge
 refine wifn (by simpa using hne) ?_
 refine wB (wpAny_setState_of ho rfl hf ?_)
 dsimp only
 rw [if_neg hempty, hn]
 refine wB (fs_room0 h0 hf0 hm0 hd0 hper hlt hle fun ep1 t1 h1 hs1 h1r hf1 hfill hper1 hle1 => ?_)
 refine wB (wpAny_setState_of (s := { s with heap := h1 }) h1r rfl hf1 ?_)
 dsimp only
 unfold SetTable.road
 rw [hfill, if_neg (by simp)]
 split
 ·rename_i q
  split at q
  ·rename_i q2
   refine end_ #[] ep1 t1 h1 hs1 h1r es _ (.refl _) hf ?_
   have := (Bool.and_eq_true_iff.mp q2).2
   exact Array.isEmpty_iff.mp this
  ·cases q
 ·obtain ⟨t', order, hl', hp', hps, hd, hm, hpl⟩ := laid_ok hper1 (es.map (·.1)) (by rw [Array.size_map, hn]; exact hle1) t1.finger t1.moves (t1.led && t.led) (t1.plain && t.plain)
  rw [Array.size_map] at hp' hps
  have hq := perm_size hp'
  have hsz : (order.filterMap (es[·]?)).size = es.size := by rw [← Array.length_toList, hq.length_eq, Array.length_toList]
  refine wB (wpAny_of_eq (a := (order.filterMap (es[·]?), t')) ?_ ?_)
  ·rw [hl']
   show (ite (((order.filterMap (es[·]?)).size != es.size) = true) _ _) = _
   rw [hsz, if_neg (by simp)]
  ·refine end_ #[] ep1 t1 h1 hs1 h1r _ t' hq ?_ hd
   rw [hsz]
   unfold SetTable.fits SetTable.fill
   rw [hps, hd, hm]
   simp
   lia
 ·rename_i q
  split at q <;> cases q
theorem fs_copy {Q : QV} (S : FS w s.heap a l) (hl0 : l ≠ []) (hper : zF (SetTable.sizeAbove (l.length * 2)) = true) (hlt : l.length < SetTable.sizeAbove (l.length * 2)) (hle : SetTable.sizeAbove (l.length * 2) ≤ 4096)
  (h : ∀ h', Grw s.heap h' 1 -> FSd w h' s.heap.objs.size l 0 -> Q (.ref s.heap.objs.size) { s with heap := h' }) : wpAny (model prog w) A (Builtin.Frozenset.copyOf a) Q E s := by
 obtain ⟨es, ep, t, ho⟩ := id S
 unfold Builtin.Frozenset.copyOf Builtin.Frozenset.baseOf
 refine wB (wB (wpAny_isInstance (fs_type S) PySem.F.sub_frozenset_set ?_))
 simp only [Bool.false_eq_true, if_false]
 refine wP ?_
 unfold newSet setsByText
 refine wB (wB (wB (wpAny_askSetting (wP ?_))))
 dsimp only
 simp only [newObj]
 refine wB (wpAny_alloc (wP ?_))
 refine gnl (!Params.followText (model prog w).w.params "set-order") ?_
 intro led
 have hr0 : (s.heap.push (frozO #[] 0 (.fresh 0 0 led))).get? s.heap.objs.size = some (frozO #[] 0 (.fresh 0 0 led)) := Heap.get?_push_size _ rfl
 have hg0 := Grw.push s.heap (frozO #[] 0 (.fresh 0 0 led))
 have hne : s.heap.objs.size ≠ a := fun q => absurd (Heap.lt_size ho) (by rw [q]; exact Nat.lt_irrefl _)
 unfold Builtin.Frozenset.addrOf
 refine wB (wP (wB ?_))
 exact fs_merge0 (s := { s with heap := s.heap.push (frozO #[] 0 (.fresh 0 0 led)) }) (S.at fun o e => Heap.get?_push_of_some _ e) hr0 rfl rfl rfl hne hl0 hper hlt hle fun h' hs hF => wP (h h' (hg0.same hs (Nat.le_refl _)) hF)
end
theorem FS.perm {w : World} {h : Heap} {a : Addr} {l l' : List Str} (x : FS w h a l) (p : l.Perm l') : FS w h a l' := by obtain ⟨es, ep, t, a, b, c, e, f, g⟩ := x; exact ⟨es, ep, t, a, b, c.trans p, p.nodup_iff.mp e, p.length_eq ▸ f, g⟩
theorem eraseIdx_perm {α : Type} : ∀ (l : List α) (i : Nat) (x : α), l[i]? = some x -> (x :: l.eraseIdx i).Perm l
 | [], i, x, h => by simp at h
 | y :: l, 0, x, h => by
  simp at h
  subst h
  exact .refl _
 | y :: l, i + 1, x, h => by
  simp at h
  exact (List.Perm.swap y x _).trans ((eraseIdx_perm l i x h).cons y)
theorem pick_go {α : Type} (next : Nat -> Nat) : ∀ (n k : Nat) (left : List α) (out : Array α), left.length = n -> (pickOrder.go next n k left out).toList.Perm (out.toList ++ left)
 | 0, k, left, out, h => by
  have : left = [] := List.length_eq_zero_iff.mp h
  subst this
  rw [List.append_nil]
  exact .refl _
 | n + 1, k, left, out, h => by
  have hlt : next k % left.length < left.length := Nat.mod_lt _ (by lia)
  have e : left[next k % left.length]? = some left[next k % left.length] := List.getElem?_eq_getElem hlt
  show (match left[next k % left.length]? with | some x => pickOrder.go next n (k + 1) (left.eraseIdx (next k % left.length)) (out.push x) | none => out).toList.Perm _
  rw [e]
  refine (pick_go next n (k + 1) _ _ (by rw [List.length_eraseIdx, if_pos hlt]; lia)).trans ?_
  rw [Array.toList_push, List.append_assoc]
  exact (eraseIdx_perm left _ _ e).append_left _
theorem pick_perm {α : Type} (next : Nat -> Nat) (xs : Array α) : (pickOrder next xs).toList.Perm xs.toList := by
 exact pick_go next xs.size 0 xs.toList #[] (Array.length_toList ..)
section
variable {prog : Program} {w : World} {A : Around} {E : QV} {s : Shared} {a : Addr} {l : List Str} {d : Nat}
theorem eraseAt_perm {α : Type} (xs : Array α) (i : Nat) (x : α) (h : xs[i]? = some x) : (x :: (SetTable.eraseAt xs i).toList).Perm xs.toList := by
 have e : (SetTable.eraseAt xs i).toList = xs.toList.eraseIdx i := by
  simp [SetTable.eraseAt, List.extract_eq_take_drop, List.eraseIdx_eq_take_drop_succ]
  exact List.take_of_length_le (by simp)
 rw [e]
 exact eraseIdx_perm _ _ _ (by simpa using h)
theorem eraseAt_size {α : Type} (xs : Array α) (i : Nat) (h : i < xs.size) : (SetTable.eraseAt xs i).size + 1 = xs.size := by
 have := (eraseAt_perm xs i xs[i] (Array.getElem?_eq_getElem h)).length_eq
 simpa using this
theorem insertAt_size {α : Type} (xs : Array α) (i : Nat) (x : α) : (SetTable.insertAt xs i x).size = xs.size + 1 := by
 have := (SetTable.insertAt_perm xs i x).length_eq
 simpa using this
theorem fs_discard {x : Str} {u : Tok} {Q : QB} (S : FSd w s.heap a l d) (hx : x ∈ l) (h : ∀ h', Heap.SameBut a s.heap h' -> FSd w h' a (l.erase x) (d + 1) -> Q true { s with heap := h' }) :
  wpAny (model prog w) A (setDiscardHashed a (.str x u) (hashStr w x)) Q E s := by
 obtain ⟨es, ep, t, ho, hel, hp, hnd, hl, hf, hd⟩ := id S
 have hn : es.size = l.length := by rw [← hp.length_eq, List.length_map, Array.length_toList]
 have hb : es.size < scanBound := by rw [hn]; exact hl
 unfold setDiscardHashed setFind setFindIn
 refine wB (wB (wpAny_setState_of ho rfl hf ?_))
 dsimp only
 rw [byScan_of (prog := prog) (w := w) (knd := PySem.strKind prog w) rfl hb hel.elems]
 simp only [↓reduceIte]
 refine wB (wpAny_rule (wB ?_))
 refine wpAny_setScan_of (knd := PySem.strKind prog w) (k := x) (isx x u) ho rfl hf hel.elems ?_
 cases hr : List.findIdx? (fun e => (PySem.strKind prog w).is x e.2) es.toList with
 | none => exact absurd (hp.mem_iff.mpr hx) (hel.find_none hr)
 | some j =>
  obtain ⟨hj, e⟩ := hel.find_some hr
  rw [Array.length_toList] at hj
  rw [Array.getElem_toList] at e
  have hps : t.place.size = es.size ∧ t.fill ≤ t.mask := by
   unfold SetTable.fits at hf
   simpa using hf
  have hg : t.place[j]? = some (t.place[j]'(by lia)) := Array.getElem?_eq_getElem _
  dsimp only
  rw [Nat.zero_add]
  refine wP (wB (wpAny_setState_of ho rfl hf ?_))
  dsimp only
  have hez := eraseAt_size es j hj
  have hdz : (t.drop j).place.size + 1 = t.place.size ∧ (t.drop j).dummies.size = t.dummies.size + 1 ∧ (t.drop j).mask = t.mask := by
   unfold SetTable.drop
   rw [hg]
   exact ⟨eraseAt_size t.place j (by lia), insertAt_size .., rfl⟩
  refine wB (wpAny_storeSet_of ho rfl (wB (wpAny_point (wP (h _ (Heap.SameBut.update ..) ?_)))) (by rw [sizeLine_eq]; lia))
  have hpe := eraseAt_perm es j es[j] (Array.getElem?_eq_getElem hj)
  refine ⟨_, _, _, get_put ho _ _, fun y hy => hel y (hpe.mem_iff.mp (.tail _ hy)), ?_, hnd.erase x, Nat.lt_of_le_of_lt (List.length_erase_le ..) hl, ?_, ?_⟩
  ·have q1 : (x :: ((SetTable.eraseAt es j).toList.map fun e => kOf e.2)).Perm l := by
    have := hpe.map (fun e => kOf e.2)
    rw [List.map_cons, e] at this
    exact this.trans hp
   have q2 : l.Perm (x :: l.erase x) := List.perm_cons_erase hx
   exact (q1.trans q2).cons_inv
  ·unfold SetTable.fits SetTable.fill
   unfold SetTable.fill at hps
   simp only [Bool.and_eq_true, beq_iff_eq, decide_eq_true_eq]
   lia
  ·lia
theorem setsQuiet_all {Q : QB} (sets : List Addr) (hS : ∀ b ∈ sets, ∃ lb, FS w s.heap b lb) (hQ : Q true s) : wpAny (model prog w) A (setsQuiet sets) Q E s := by
 unfold setsQuiet
 refine wB (wM (wpAny_forIn_list _ (fun rest b s' => s' = s ∧ b.1 = none ∧ ∀ c ∈ rest, c ∈ sets) (fun b s' => s' = s ∧ b.1 = none) (fun c rest b s' hI => ?_) (fun b s' hI => ⟨hI.1, hI.2.1⟩) _ _ ⟨rfl, rfl, fun _ h => h⟩) (fun b s' h => ?_) fun _ _ e => e)
 ·obtain ⟨rfl, hb, hc⟩ := hI
  obtain ⟨lb, es, ep, t, ho, hel, _, _, _, hf⟩ := hS c (hc c (.head _))
  refine wB (wpAny_setEntries_of ho rfl hf (wB (wM (wpAny_forIn_array' _ (fun rest b s₁ => s₁ = s' ∧ b.1 = none ∧ ∀ e ∈ rest, e ∈ es.toList) (fun b s₁ => s₁ = s' ∧ b.1 = none) (fun e rest b s₁ hI => ?_) (fun b s₁ hI => ⟨hI.1, hI.2.1⟩) _ _ ⟨rfl, rfl, fun _ h => h⟩)
   (fun b s₁ h => ?_) fun _ _ e => e)))
  ·obtain ⟨rfl, hb, hr⟩ := hI
   obtain ⟨u, q⟩ := hel e (hr e (.head _))
   rw [q]
   exact wP ⟨rfl, rfl, fun e he => hr e (.tail _ he)⟩
  ·obtain ⟨rfl, hb⟩ := h
   dsimp only
   rw [hb]
   exact wP ⟨rfl, rfl, fun c h => hc c (.tail _ h)⟩
 ·obtain ⟨rfl, hb⟩ := h
  dsimp only
  rw [hb]
  exact wP hQ
theorem fs_walk {b r : Addr} {lb lr : List Str} {fl : Option Addr} {Q : Array (Int × Value) -> Shared -> Prop} (S : FS w s.heap b lb) (R : FSd w s.heap r lr d) (hne : r ≠ b) (hfl : fl = none ∨ fl = some r)
  (h : ∀ es' h', Els w es'.toList -> (es'.toList.map fun e => kOf e.2).Perm lb -> Heap.SameBut r s.heap h' -> FSd w h' r lr d -> Q es' { s with heap := h' }) :
  wpAny (model prog w) A (setWalkUnseen b [r] fl) Q E s := by
 obtain ⟨es, ep, t, ho, hel, hp, hnd, hl, hf⟩ := id S
 have same : ∀ es' : Array (Int × Value), es'.toList.Perm es.toList -> Q es' s := fun es' q => h es' s.heap (hel.perm q) ((q.map _).trans hp) (Heap.SameBut.refl ..) R
 unfold setWalkUnseen setsByText
 refine wB (wpAny_setState_of ho rfl hf (wB (wB (wpAny_askSetting (wP ?_)))))
 dsimp only
 have walk : (w.params.followText "set-order" || t.led && t.plain || decide (es.size ≤ 1)) = true -> wpAny (model prog w) A (setWalk b) Q E s := fun hq => by
  unfold setWalk setsByText
  refine wB (wpAny_setState_of ho rfl hf (wB (wB (wpAny_askSetting (wP ?_)))))
  dsimp only
  split
  ·exact wB (wpAny_askSetting (wP (same _ (pick_perm _ _))))
  ·rename_i hbt
   have hbt : w.params.followText "set-order" = false := Bool.eq_false_iff.mpr hbt
   rw [hbt, Bool.false_or] at hq
   show wpAny _ _ (if (!t.plain && decide (es.size > 1)) = true then _ else _) _ _ _
   rw [if_neg]
   ·refine wB (wpAny_of_eq (a := ()) ?_ (wP (same _ (.refl _))))
    show (if (!t.led && decide (es.size > 1)) = true then _ else _) = _
    rw [if_neg]
    rcases Bool.or_eq_true_iff.mp hq with q | q
    ·simp [(Bool.and_eq_true_iff.mp q).1]
    ·have := of_decide_eq_true q
     simp; lia
   ·rcases Bool.or_eq_true_iff.mp hq with q | q
    ·simp [(Bool.and_eq_true_iff.mp q).2]
    ·have := of_decide_eq_true q
     simp; lia
 split
 ·rename_i hq
  exact walk hq
 ·refine wB (setsQuiet_all _ (fun c hc => ?_) ?_)
  ·rcases List.mem_cons.mp hc with rfl | hc
   ·exact ⟨_, S⟩
   ·rw [List.mem_singleton.mp hc]; exact ⟨_, R.fs⟩
  ·simp only [Bool.not_true, Bool.false_eq_true, if_false]
   refine wB (wpAny_rule ?_)
   rcases hfl with rfl | rfl
   ·exact wP (same _ (.refl _))
   ·obtain ⟨er, epr, tr, hor, helr, hpr, hndr, hlr, hfr, hdr⟩ := id R
    refine wB (wpAny_setState_of hor rfl hfr ?_)
    dsimp only
    split
    ·refine wB (wpAny_storeSet_of hor rfl (wP (h es _ hel hp (Heap.SameBut.update ..) ?_)) (by rw [← Array.length_toList, ← List.length_map (f := fun e => kOf e.2), hpr.length_eq, sizeLine_eq]; lia))
     exact ⟨er, _, _, get_put hor _ _, helr, hpr, hndr, hlr, hfr, hdr⟩
    ·exact wP (same _ (.refl _))
end
section
variable {prog : Program} {w : World} {A : Around} {E : QV} {s : Shared} {a : Addr} {l : List Str} {d : Nat}
theorem FS.withD {h : Heap} (S : FS w h a l) : ∃ d, FSd w h a l d := by obtain ⟨es, ep, t, a, b, c, e, f, g⟩ := S; exact ⟨_, es, ep, t, a, b, c, e, f, g, Nat.le_refl _⟩
theorem fs_merge {r b : Addr} {lr lb : List Str} {nm : String} {Q : QU} (S : FS w s.heap b lb) (R : FS w s.heap r lr) (hne : r ≠ b) (hr0 : lr ≠ []) (hb0 : lb ≠ []) (hdis : ∀ x ∈ lb, x ∉ lr)
  (hw : SetTable.sizeAbove ((lr.length + lb.length) * 2) ≤ 4096) (hper : zF (SetTable.sizeAbove ((lr.length + lb.length) * 2)) = true) (hz : lr.length < SetTable.sizeAbove ((lr.length + lb.length) * 2)) (hsum : lr.length + lb.length < 4096)
  (h : ∀ h', Heap.SameBut r s.heap h' -> FS w h' r (lr ++ lb) -> Q () { s with heap := h' }) : wpAny (model prog w) A (Builtin.Frozenset.merge nm r b) Q E s := by
 obtain ⟨es, ep, t, ho, hel, hp, hnd, hl, hf⟩ := id S
 have hn : es.size = lb.length := by rw [← hp.length_eq, List.length_map, Array.length_toList]
 have hbpos : 0 < lb.length := List.length_pos_iff.mpr hb0
 have hrpos : 0 < lr.length := List.length_pos_iff.mpr hr0
 unfold Builtin.Frozenset.merge
 refine wB (wpAny_setEpoch_of ho rfl hf ?_)
 unfold setMerge
 refine wifn (by simpa using hne) ?_
 refine wB (wpAny_setState_of ho rfl hf ?_)
 dsimp only
 rw [if_neg (fun q => by have := Array.isEmpty_iff_size_eq_zero.mp q; lia), hn]
 obtain ⟨er, epr, tr, hor, helr, hpr, hndr, hlr, hfr⟩ := id R
 have hnr : er.size = lr.length := by rw [← hpr.length_eq, List.length_map, Array.length_toList]
 have after : ∀ (es1 : Array (Int × Value)) (ep1 : Nat) (t1 : SetTable) (h1 : Heap), Heap.SameBut r s.heap h1 -> h1.get? r = some (frozO es1 ep1 t1) -> t1.fits es1.size = true -> es1.toList.Perm er.toList →
   ∀ k : Unit -> Sem Unit, (∀ s' : Shared, wpAny (model prog w) A (k ()) Q E s' -> wpAny (model prog w) A (k ()) Q E s') -> t1.fill ≠ 0 ∧ FS w h1 r lr := fun es1 ep1 t1 h1 hs h1r hf1 hp1 k _ => by
  refine ⟨fun q => ?_, es1, ep1, t1, h1r, helr.perm hp1, (hp1.map _).trans hpr, hndr, hlr, hf1⟩
  have hps : t1.place.size = es1.size := by
   unfold SetTable.fits at hf1
   simpa using (Bool.and_eq_true_iff.mp hf1).1
  have := hp1.length_eq
  rw [Array.length_toList, Array.length_toList] at this
  unfold SetTable.fill at q
  lia
 have loop : ∀ h1 : Heap, Heap.SameBut r s.heap h1 -> FS w h1 r lr -> ∀ (es' : Array (Int × Value)), Els w es'.toList -> (es'.toList.map fun e => kOf e.2).Perm lb →
   wpAny (model prog w) A (forIn es' PUnit.unit fun x __s => match x with
    | (h, x) => do
     let _ ← holding [x] (setAddHashed r x h)
     Builtin.Frozenset.unchanged nm b ep
     let __do_lift ← setState b
     if (__do_lift.snd.fst != ep) = true then do
       unsupported "set.changed-during-merge"
       pure (ForInStep.yield PUnit.unit)
      else pure (ForInStep.yield PUnit.unit)) (fun _ s' => Q () s') E { s with heap := h1 } := fun h1 hs1 R1 es' hel' hp' => by
  have hnd' := hp'.nodup_iff.mpr hnd
  refine wpAny_forIn_array' _ (fun rest _ s' => ∃ done h', es'.toList = done ++ rest ∧ s' = { s with heap := h' } ∧ Heap.SameBut r s.heap h' ∧ FS w h' r (lr ++ done.map fun e => kOf e.2)) _ (fun e rest _ s' hI => ?_) (fun _ s' hI => ?_) _ _ ⟨[], h1, rfl, rfl, hs1, by simpa using R1⟩
  ·obtain ⟨done, h', hd, rfl, hs', R'⟩ := hI
   have he : e ∈ es'.toList := by rw [hd]; exact List.mem_append_right _ (.head _)
   obtain ⟨u, q⟩ := hel' e he
   have hx : kOf e.2 ∉ lr ++ done.map fun e => kOf e.2 := fun q => by
    rcases List.mem_append.mp q with q | q
    ·exact hdis _ (hp'.mem_iff.mp (List.mem_map_of_mem (f := fun e : Int × Value => kOf e.2) he)) q
    ·rw [hd, List.map_append, List.map_cons] at hnd'
     exact (List.nodup_append.mp hnd').2.2 _ q _ (.head _) rfl
   have hlen : (lr ++ done.map fun e => kOf e.2).length + 1 < 4096 := by
    have := hp'.length_eq
    rw [hd] at this
    simp at this ⊢
    lia
   have hk : ∀ b' o, b' ≠ r -> s.heap.get? b' = some o -> h'.get? b' = some o := fun b' o q e => (hs'.2 b' q).trans e
   revert q hx
   refine gnlE (kOf e.2) ?_
   intro y hy q hx
   rw [q]
   dsimp only
   refine wB (wpAny_holding (fs_add (s := { s with heap := h' }) R' hlen fun bb h2 hs2 hsz2 R2 => ?_))
   rw [if_neg hx] at R2
   have hob : h2.get? b = some (frozO es ep t) := (hs2.2 b (Ne.symm hne)).trans (hk b _ (Ne.symm hne) ho)
   unfold Builtin.Frozenset.unchanged
   refine wB (wB (wpAny_setEpoch_of (s := { s with heap := h2 }) hob rfl hf ?_))
   refine wifn (by simp) ?_
   refine wP (wB (wpAny_setState_of (s := { s with heap := h2 }) hob rfl hf ?_))
   dsimp only
   refine wifn (by simp) ?_
   refine wP ⟨done ++ [e], h2, by rw [hd, List.append_assoc]; rfl, rfl, hs'.trans hs2, ?_⟩
   rw [List.map_append, List.map_cons, List.map_nil, ← List.append_assoc, hy]
   exact R2
  ·obtain ⟨done, h', hd, rfl, hs', R'⟩ := hI
   rw [List.append_nil] at hd
   exact h h' hs' (R'.perm (by rw [← hd]; exact hp'.append_left _))
 refine wB (fs_room hor hfr (by rw [hnr]; exact hw) (by rw [hnr]; lia) (by rw [hnr]; exact hper) (by rw [hnr]; exact hz) (fun _ => ?_) fun es' t' hp' hf' hd' _ _ => ?_)
 ·obtain ⟨hfill, R1⟩ := after er epr tr s.heap (Heap.SameBut.refl ..) hor hfr (.refl _) pure (fun _ h => h)
  refine wB (wpAny_setState_of hor rfl hfr ?_)
  dsimp only
  unfold SetTable.road
  rw [if_pos (by simpa using hfill)]
  obtain ⟨dd, RD⟩ := R1.withD
  refine wB (fs_walk S RD hne (.inr rfl) fun es' h' he' hp' hs' R' => ?_)
  exact wB (wM (loop h' hs' R'.fs es' he' hp') (fun _ _ q => wP q) fun _ _ e => e)
 ·have hsb := Heap.SameBut.update s.heap r (Obj.putSet es' t')
  have h1r := get_put hor es' t'
  obtain ⟨hfill, R1⟩ := after es' _ t' _ hsb h1r hf' hp' pure (fun _ h => h)
  refine wB (wpAny_setState_of (s := { s with heap := s.heap.update r (Obj.putSet es' t') }) h1r rfl hf' ?_)
  dsimp only
  unfold SetTable.road
  rw [if_pos (by simpa using hfill)]
  obtain ⟨dd, RD⟩ := R1.withD
  refine wB (fs_walk (s := { s with heap := s.heap.update r (Obj.putSet es' t') }) (S.at fun o e => (hsb.2 b (Ne.symm hne)).trans e) RD hne (.inr rfl) fun es2 h' he' hp' hs' R' => ?_)
  exact wB (wM (loop h' (hsb.trans hs') R'.fs es2 he' hp') (fun _ _ q => wP q) fun _ _ e => e)
end
section
variable {prog : Program} {w : World} {A : Around} {E : QV} {s : Shared} {a : Addr} {l : List Str} {d : Nat}
theorem anySet {Q : QB} (S : FS w s.heap a l) (h : Q true s) : wpAny (model prog w) A (Builtin.Frozenset.isAnySet (.ref a)) Q E s := by
 unfold Builtin.Frozenset.isAnySet
 refine wB (wpAny_isInstance (fs_type S) PySem.F.sub_frozenset_set ?_)
 show wpAny _ _ (isInstance _ _) _ _ _
 exact wpAny_isInstance (fs_type S) (by rw [isSubtype_type]; kernel_rfl) h
theorem fs_size {Q : Nat -> Shared -> Prop} (S : FS w s.heap a l) (h : Q l.length s) : wpAny (model prog w) A (Builtin.Frozenset.sizeOf a) Q E s := by
 obtain ⟨es, ep, t, ho, hel, hp, hnd, hl, hf⟩ := S
 unfold Builtin.Frozenset.sizeOf
 refine wB (wpAny_setEntries_of ho rfl hf (wP ?_))
 rw [← Array.length_toList, ← List.length_map (f := fun e : Int × Value => kOf e.2), hp.length_eq]
 exact h
theorem filter_step {p : Str -> Bool} {x : Str} (hnd : l.Nodup) : (l.filter p).erase x = l.filter fun y => p y && !(y == x) := by
 rw [List.Nodup.erase_eq_filter (hnd.filter p), List.filter_filter]
 congr 1
 funext y
 rw [Bool.and_comm]
 rfl
theorem fs_minus {b : Addr} {lb : List Str} {nm : String} {Q : QV} (S : FS w s.heap a l) (B : FS w s.heap b lb) (hne : a ≠ b) (hb0 : lb ≠ []) (hsub : ∀ x ∈ lb, x ∈ l) (h4 : lb.length < l.length / 4) (h8 : lb.length / 8 ≤ l.length)
  (hdm : lb.length ≤ (l.filter fun y => !(lb.contains y)).length / 4)
  (hper : zF (SetTable.sizeAbove (l.length * 2)) = true) (hlt : l.length < SetTable.sizeAbove (l.length * 2)) (hle : SetTable.sizeAbove (l.length * 2) ≤ 4096)
  (h : ∀ h', Grw s.heap h' 1 -> FS w h' s.heap.objs.size (l.filter fun y => !(lb.contains y)) -> Q (.ref s.heap.objs.size) { s with heap := h' }) : wpAny (model prog w) A (Builtin.Frozenset.difference nm a (.ref b)) Q E s := by
 obtain ⟨es, ep, t, ho, hel, hp, hnd, hl, hf⟩ := id B
 have hlnd : l.Nodup := by obtain ⟨_, _, _, _, _, _, q⟩ := id S; exact q
 have hl0 : l ≠ [] := fun q => by rw [q] at h4; simp at h4
 unfold Builtin.Frozenset.difference
 refine wB (anySet B ?_)
 refine wifn Bool.false_ne_true ?_
 unfold Builtin.Frozenset.addrOf
 refine wB (wP (wifn Bool.false_ne_true (wif rfl (wB (fs_size B (wB (fs_size S ?_)))))))
 refine wif (by lia) ?_
 refine wB (wpAny_rule (wB (fs_copy S hl0 hper hlt hle fun h1 hg1 R1 => ?_)))
 revert h R1
 refine gnlE s.heap.objs.size ?_
 intro r hr h R1
 have hrb : r ≠ b := fun q => absurd (Heap.lt_size ho) (by rw [hr, q]; exact Nat.lt_irrefl _)
 have B1 : FS w h1 b lb := B.at fun o e => hg1.2 _ o e
 have hob1 : h1.get? b = some (frozO es ep t) := hg1.2 _ _ ho
 refine wB (wP (wB (wpAny_holding ?_)))
 unfold Builtin.Frozenset.differenceUpdate
 refine wifn (by simpa using Ne.symm hrb) ?_
 refine wB (anySet (s := { s with heap := h1 }) B1 ?_)
 refine wif rfl ?_
 unfold Builtin.Frozenset.addrOf
 refine wB (wP (wB (fs_size (s := { s with heap := h1 }) B1 (wB (fs_size (s := { s with heap := h1 }) R1.fs ?_)))))
 refine wifn (by lia) ?_
 refine wB (wpAny_setEpoch_of (s := { s with heap := h1 }) hob1 rfl hf ?_)
 refine wB (wpAny_holding (wB (fs_walk (s := { s with heap := h1 }) B1 R1 hrb (.inl rfl) fun es' h2 hel' hp' hs2 R2 => ?_)))
 have hnd' := hp'.nodup_iff.mpr hnd
 refine wB (wM (wpAny_forIn_array' _ (fun rest _ s' => ∃ done h', es'.toList = done ++ rest ∧ s' = { s with heap := h' } ∧ Heap.SameBut r h1 h' ∧ FSd w h' r (l.filter fun y => !((done.map fun e => kOf e.2).contains y)) done.length)
  (fun _ s' => ∃ h', s' = { s with heap := h' } ∧ Heap.SameBut r h1 h' ∧ FSd w h' r (l.filter fun y => !(lb.contains y)) lb.length) (fun e rest _ s' hI => ?_) (fun _ s' hI => ?_) _ _ ⟨[], h2, rfl, rfl, hs2, ?_⟩) (fun _ s' hI => ?_) fun _ _ e => e)
 ·obtain ⟨done, h', hd, rfl, hs', R'⟩ := hI
  have he : e ∈ es'.toList := by rw [hd]; exact List.mem_append_right _ (.head _)
  obtain ⟨u, q⟩ := hel' e he
  have hk : kOf e.2 ∈ lb := hp'.mem_iff.mp (List.mem_map_of_mem (f := fun e : Int × Value => kOf e.2) he)
  have hnew : kOf e.2 ∉ done.map fun e => kOf e.2 := fun q => by
   rw [hd, List.map_append, List.map_cons] at hnd'
   exact (List.nodup_append.mp hnd').2.2 _ q _ (.head _) rfl
  have hx : kOf e.2 ∈ l.filter fun y => !((done.map fun e => kOf e.2).contains y) := List.mem_filter.mpr ⟨hsub _ hk, by simpa using hnew⟩
  revert q hx
  refine gnlE (kOf e.2) ?_
  intro y hy q hx
  rw [q]
  dsimp only
  refine wB (wpAny_holding (fs_discard (s := { s with heap := h' }) R' hx fun h3 hs3 R3 => ?_))
  have hob : h3.get? b = some (frozO es ep t) := (hs3.2 b (Ne.symm hrb)).trans ((hs'.2 b (Ne.symm hrb)).trans hob1)
  unfold Builtin.Frozenset.unchanged
  refine wB (wB (wpAny_setEpoch_of (s := { s with heap := h3 }) hob rfl hf ?_))
  refine wifn (by simp) ?_
  refine wP (wP ⟨done ++ [e], h3, by rw [hd, List.append_assoc]; rfl, rfl, hs'.trans hs3, ?_⟩)
  rw [filter_step hlnd] at R3
  rw [List.length_append, List.length_singleton]
  have e2 : (fun z => !((done ++ [e]).map fun e => kOf e.2).contains z) = fun z => !((done.map fun e => kOf e.2).contains z) && !(z == y) := by
   funext z
   rw [List.map_append, List.map_cons, List.map_nil, hy, Bool.eq_iff_iff]
   simp
  rw [e2]
  exact R3
 ·obtain ⟨done, h', hd, rfl, hs', R'⟩ := hI
  rw [List.append_nil] at hd
  subst hd
  refine ⟨h', rfl, hs', ?_⟩
  have e2 : (fun z => !((es'.toList.map fun e => kOf e.2).contains z)) = fun z => !(lb.contains z) := by
   funext z
   rw [Bool.eq_iff_iff]
   simp only [Bool.not_eq_true', ← Bool.not_eq_true, List.contains_iff_mem, hp'.mem_iff]
  rw [e2] at R'
  have e3 : es'.toList.length = lb.length := by rw [← hp'.length_eq, List.length_map]
  rw [e3] at R'
  exact R'
 ·have e2 : (l.filter fun y => !((([] : List (Int × Value)).map fun e => kOf e.2).contains y)) = l := by simp
  rw [e2]
  exact R2
 ·obtain ⟨h', rfl, hs', R'⟩ := hI
  refine wP ?_
  obtain ⟨er, epr, tr, hor, helr, hpr, hndr, hlr, hfr, hdr⟩ := id R'
  have hnr : er.size = (l.filter fun y => !(lb.contains y)).length := by rw [← hpr.length_eq, List.length_map, Array.length_toList]
  unfold setTidy
  refine wB (wpAny_setState_of (s := { s with heap := h' }) hor rfl hfr ?_)
  dsimp only
  have hnot : ¬ tr.tooManyDummies = true := by
   unfold SetTable.tooManyDummies
   have hps : tr.place.size = er.size ∧ tr.fill ≤ tr.mask := by
    unfold SetTable.fits at hfr
    simpa using hfr
   unfold SetTable.fill at hps
   have : (l.filter fun y => !(lb.contains y)).length / 4 ≤ tr.mask / 4 := Nat.div_le_div_right (by lia)
   simp only [decide_eq_true_eq]
   lia
  refine wifn hnot ?_
  exact wP (wP (h h' (hg1.same hs' (Nat.le_of_eq hr)) R'.fs))
end
theorem fz_slot_or : Slot "frozenset" (dunder "or") "frozenset.__or__" :=
 .of (owner := "frozenset") (n := "__or__") (by rw [typeLookup_type, builtinLookup_eq_fast]; kernel_rfl) (by decide +kernel) (by decide +kernel) (by decide +kernel)
  (by first | exact .inl (by decide +kernel) | exact .inr (by decide +kernel)) (by rw [isSubtype_type]; kernel_rfl)
theorem fz_fills_or : fillsNumberSlot (.type "frozenset") "or" = pure true :=
 fillsNumberSlot_of (id := "frozenset.__or__") (r := some (.builtin "frozenset.__ror__")) (by rw [typeLookup_type, builtinLookup_eq_fast]; kernel_rfl) (by decide +kernel) (by rw [typeLookup_type, builtinLookup_eq_fast]; kernel_rfl)
theorem fz_args_or (a b : Value) : argsOk "frozenset.__or__" ⟨[a, b], []⟩ := by
 unfold argsOk; rw [signature?_of (id := "frozenset.__or__") (n := ['_', '_', 'r', 'o', '_', '_']) (o := ['t', 'e', 's', 'n', 'e', 'z', 'o', 'r', 'f']) (by kernel_rfl) PySem.W.FB.owner_frozenset]; kernel_rfl
theorem fz_entry_or : entryFor table "frozenset.__or__" = some Builtin.«frozenset.__or__» := entryFor_of_tree (by kernel_rfl)
theorem fz_slot_sub : Slot "frozenset" (dunder "sub") "frozenset.__sub__" :=
 .of (owner := "frozenset") (n := "__sub__") (by rw [typeLookup_type, builtinLookup_eq_fast]; kernel_rfl) (by decide +kernel) (by decide +kernel) (by decide +kernel)
  (by first | exact .inl (by decide +kernel) | exact .inr (by decide +kernel)) (by rw [isSubtype_type]; kernel_rfl)
theorem fz_fills_sub : fillsNumberSlot (.type "frozenset") "sub" = pure true :=
 fillsNumberSlot_of (id := "frozenset.__sub__") (r := some (.builtin "frozenset.__rsub__")) (by rw [typeLookup_type, builtinLookup_eq_fast]; kernel_rfl) (by decide +kernel) (by rw [typeLookup_type, builtinLookup_eq_fast]; kernel_rfl)
theorem fz_args_sub (a b : Value) : argsOk "frozenset.__sub__" ⟨[a, b], []⟩ := by
 unfold argsOk; rw [signature?_of (id := "frozenset.__sub__") (n := ['_', '_', 'b', 'u', 's', '_', '_']) (o := ['t', 'e', 's', 'n', 'e', 'z', 'o', 'r', 'f']) (by kernel_rfl) PySem.W.FB.owner_frozenset]; kernel_rfl
theorem fz_entry_sub : entryFor table "frozenset.__sub__" = some Builtin.«frozenset.__sub__» := entryFor_of_tree (by kernel_rfl)
section
variable {prog : Program} {w : World} {A : Around} {E : QV} {s : Shared} {a : Addr} {l : List Str} {d : Nat}
theorem slot1_two {nm : String} {x y : Value} {Q : Value × Value -> Shared -> Prop} (h : Q (x, y) s) : wpAny (model prog w) A (Builtin.Frozenset.slot1 nm ⟨[x, y], []⟩) Q E s := by
 exact wB (m := slotArgs nm 1 ⟨[x, y], []⟩) (wP (wP h))
theorem anyBoth {b : Addr} {lb : List Str} {Q : QB} (S : FS w s.heap a l) (B : FS w s.heap b lb) (h : Q true s) : wpAny (model prog w) A (Builtin.Frozenset.isAnySet (.ref a) <&&> Builtin.Frozenset.isAnySet (.ref b)) Q E s :=
 wB (anySet S (anySet B h))
theorem fs_sub {b : Addr} {lb : List Str} {Q : QV} (S : FS w s.heap a l) (B : FS w s.heap b lb) (hne : a ≠ b) (hb0 : lb ≠ []) (hsub : ∀ x ∈ lb, x ∈ l) (h4 : lb.length < l.length / 4) (h8 : lb.length / 8 ≤ l.length)
  (hdm : lb.length ≤ (l.filter fun y => !(lb.contains y)).length / 4)
  (hper : zF (SetTable.sizeAbove (l.length * 2)) = true) (hlt : l.length < SetTable.sizeAbove (l.length * 2)) (hle : SetTable.sizeAbove (l.length * 2) ≤ 4096)
  (h : ∀ h', Grw s.heap h' 1 -> FS w h' s.heap.objs.size (l.filter fun y => !(lb.contains y)) -> Q (.ref s.heap.objs.size) { s with heap := h' }) : wpAny (model prog w) A (binaryOp .Sub (.ref a) (.ref b)) Q E s := by
 refine wpAny_binaryOp_same (fs_type S) (fs_type B) fz_fills_sub fz_slot_sub (wpAny_call_entry fz_slot_sub (fs_type S) fz_entry_sub ?_ (fz_args_sub _ _))
 show wpAny _ _ (Builtin.Frozenset.slot1 "__sub__" ⟨[.ref a, .ref b], []⟩ >>= _) _ _ _
 refine wB (slot1_two ?_)
 show wpAny _ _ ((Builtin.Frozenset.isAnySet (.ref a) <&&> Builtin.Frozenset.isAnySet (.ref b)) >>= _) _ _ _
 refine wB (anyBoth S B ?_)
 simp only [Bool.not_true, Bool.false_eq_true, if_false]
 unfold Builtin.Frozenset.addrOf
 refine wB (wP (wB (fs_minus S B hne hb0 hsub h4 h8 hdm hper hlt hle fun h' hg R => wP ⟨_, rfl, (fun q => by cases q), h h' hg R⟩)))
theorem fs_or {b : Addr} {lb : List Str} {Q : QV} (S : FS w s.heap a l) (B : FS w s.heap b lb) (hne : a ≠ b) (hl0 : l ≠ []) (hb0 : lb ≠ []) (hdis : ∀ x ∈ lb, x ∉ l)
  (hper : zF (SetTable.sizeAbove (l.length * 2)) = true) (hlt : l.length < SetTable.sizeAbove (l.length * 2)) (hle : SetTable.sizeAbove (l.length * 2) ≤ 4096)
  (hw : SetTable.sizeAbove ((l.length + lb.length) * 2) ≤ 4096) (hper2 : zF (SetTable.sizeAbove ((l.length + lb.length) * 2)) = true) (hz : l.length < SetTable.sizeAbove ((l.length + lb.length) * 2)) (hsum : l.length + lb.length < 4096)
  (h : ∀ h', Grw s.heap h' 1 -> FS w h' s.heap.objs.size (l ++ lb) -> Q (.ref s.heap.objs.size) { s with heap := h' }) : wpAny (model prog w) A (binaryOp .BitOr (.ref a) (.ref b)) Q E s := by
 refine wpAny_binaryOp_same (fs_type S) (fs_type B) fz_fills_or fz_slot_or (wpAny_call_entry fz_slot_or (fs_type S) fz_entry_or ?_ (fz_args_or _ _))
 show wpAny _ _ (Builtin.Frozenset.slot1 "__or__" ⟨[.ref a, .ref b], []⟩ >>= _) _ _ _
 refine wB (slot1_two ?_)
 show wpAny _ _ ((Builtin.Frozenset.isAnySet (.ref a) <&&> Builtin.Frozenset.isAnySet (.ref b)) >>= _) _ _ _
 refine wB (anyBoth S B ?_)
 simp only [Bool.not_true, Bool.false_eq_true, if_false]
 unfold Builtin.Frozenset.addrOf
 refine wB (wP (wB ?_))
 show wpAny _ _ (Builtin.Frozenset.copyOf a >>= _) _ _ _
 refine wB (fs_copy S hl0 hper hlt hle fun h1 hg1 R1 => ?_)
 have hob : s.heap.objs.size ≠ b := fun q => by
  obtain ⟨_, _, _, e, _⟩ := B
  exact absurd (Heap.lt_size e) (by rw [← q]; exact Nat.lt_irrefl _)
 rw [if_pos (by simpa using Ne.symm hne)]
 unfold Builtin.Frozenset.addrOf
 refine wB (wP (wB (wpAny_holding ?_)))
 have B1 : FS w h1 b lb := B.at fun o e => hg1.2 _ o e
 refine wB (anySet (s := { s with heap := h1 }) B1 ?_)
 simp only [if_true]
 unfold Builtin.Frozenset.addrOf
 refine wB (wP ?_)
 refine fs_merge (s := { s with heap := h1 }) B1 R1.fs hob hl0 hb0 hdis hw hper2 hz hsum fun h2 hs2 R2 => ?_
 exact wP (wP ⟨_, rfl, (fun q => by cases q), h h2 (hg1.same hs2 (Nat.le_refl _)) R2⟩)
end
theorem fz_slot_init : Slot "frozenset" "__init__" "object.__init__" :=
 .of (owner := "object") (n := "__init__") (by rw [typeLookup_type, builtinLookup_eq_fast]; kernel_rfl) (by decide +kernel) (by decide +kernel) (by decide +kernel)
  (by first | exact .inl (by decide +kernel) | exact .inr (by decide +kernel)) (by rw [isSubtype_type]; kernel_rfl)
theorem fz_mro : mroOf (.type "frozenset") = pure [.type "frozenset", .type "object"] := by rw [mroOf_type]; kernel_rfl
theorem fz_lookup_new : typeLookup (.type "frozenset") "__new__" = pure (some (.builtin "frozenset.__new__")) := by rw [typeLookup_type, builtinLookup_eq_fast]; kernel_rfl
theorem fz_called : TypeCalled "frozenset" "frozenset.__new__" "object.__init__" :=
 ⟨by decide +kernel, by decide +kernel, ⟨_, _, fz_mro⟩, madeBy_type fz_mro fz_lookup_new (by decide +kernel), by decide +kernel, by rw [isSubtype_type]; kernel_rfl, fz_slot_init⟩
theorem fz_typeCall (a : Value) : checkTypeCall "frozenset" ⟨[a], []⟩ = pure () := by kernel_rfl
theorem fz_newCall (a : Value) : checkBuiltinCall "frozenset.__new__" ⟨[.type "frozenset", a], []⟩ = pure () := by kernel_rfl
theorem fz_entry_new : entryFor table "frozenset.__new__" = some Builtin.«frozenset.__new__» := entryFor_of_tree (by kernel_rfl)
theorem fz_plain_new : plainId "frozenset.__new__" = true := by decide +kernel
theorem fz_sub_self : isSubtype (.type "frozenset") (.type "frozenset") = pure true := by rw [isSubtype_type]; kernel_rfl
section
variable {prog : Program} {w : World} {A : Around} {E : QV} {s : Shared} {a : Addr} {l : List Str} {d : Nat}
theorem code_fz_new {x : Value} {T : String} {Q₁ : QV} (hT : ∀ s' : Shared, (∀ b o, s.heap.get? b = some o -> s'.heap.get? b = some o) -> s'.TypeIs x T) (hS : isSubtype (.type T) (.type "set") = pure false) (hF : isSubtype (.type T) (.type "frozenset") = pure false)
  (hd : (Value.type T == .type "dict") = false) (hz : (Value.type T == .type "frozenset") = false)
  (h : ∀ led, FS w (s.heap.push (frozO #[] 0 (.fresh 0 0 led))) s.heap.objs.size [] -> wpAny (model prog w) A.in1 (pyIter x) (fun it s' => codeAny (model prog w) A.in1 (.builtin "set.update.loop" ⟨[.ref s.heap.objs.size, it], []⟩) (wants (fun _ s'' => Q₁ (.ref s.heap.objs.size) s'') E) s')
   E { s with heap := s.heap.push (frozO #[] 0 (.fresh 0 0 led)) }) :
  codeAny (model prog w) A (.call (.builtin "frozenset.__new__") ⟨[.type "frozenset", x], []⟩) (wants Q₁ E) s := by
 refine codeAny_of_tree ?_
 show wpAny _ A.in1 (do checkBuiltinCall "frozenset.__new__" ⟨[.type "frozenset", x], []⟩; again (.builtin "frozenset.__new__" ⟨[.type "frozenset", x], []⟩)) _ _ s
 refine wB (wpAny_of_eq (fz_newCall x) (wP ⟨plainId_quiet fz_plain_new _, codeAny_builtin fz_entry_new ?_⟩))
 rw [Around.under_plainId fz_plain_new _]
 unfold Builtin.«frozenset.__new__» Builtin.Frozenset.newClass
 have hsub := fz_sub_self
 have hinit := fz_slot_init.lookup
 have hTx := hT s fun _ _ e => e
 generalize hNF : Builtin.Frozenset.newFrom = NF
 wp_walk using wpAny_typeOf hTx
 subst hNF
 unfold Builtin.Frozenset.newFrom newSet setsByText
 refine wB (wB (wB (wpAny_askSetting (wP ?_))))
 dsimp only
 simp only [newObj]
 refine wB (wpAny_alloc (wP ?_))
 refine gnl (!Params.followText (model prog w).w.params "set-order") ?_
 intro led
 have hr0 : (s.heap.push (frozO #[] 0 (.fresh 0 0 led))).get? s.heap.objs.size = some (frozO #[] 0 (.fresh 0 0 led)) := Heap.get?_push_size _ rfl
 have hT1 : Shared.TypeIs { s with heap := s.heap.push (frozO #[] 0 (.fresh 0 0 led)) } x T := hT _ fun b o e => Heap.get?_push_of_some _ e
 have h1 := h led ⟨#[], 0, .fresh 0 0 led, hr0, fun e he => by simp at he, .refl _, List.nodup_nil, by decide, rfl⟩
 unfold Builtin.Frozenset.addrOf
 refine wB (wP (wB (wpAny_holding ?_)))
 unfold Builtin.Frozenset.updateFrom Builtin.Frozenset.isAnySet
 refine wB (wB (wpAny_isInstance hT1 hS ?_))
 refine wpAny_isInstance hT1 hF ?_
 simp only [Bool.false_eq_true, if_false]
 refine wB (wpAny_typeOf hT1 ?_)
 rw [hd]
 simp only [Bool.false_eq_true, if_false]
 refine wB (wM h1 (fun it s' h2 => ?_) fun _ _ e => e)
 refine wB (wpAny_runValue (codeAny_mono h2 fun r s'' hr => ?_))
 cases r with
 | error e => exact hr
 | ok fl =>
  cases fl with
  | ret v => exact wP (wP (wP hr))
  | _ => exact hr.elim
theorem call_fz {x : Value} {T : String} {Q : QV} (hT : ∀ s' : Shared, (∀ b o, s.heap.get? b = some o -> s'.heap.get? b = some o) -> s'.TypeIs x T) (hS : isSubtype (.type T) (.type "set") = pure false) (hF : isSubtype (.type T) (.type "frozenset") = pure false)
  (hd : (Value.type T == .type "dict") = false) (hz : (Value.type T == .type "frozenset") = false)
  (h : ∀ led, FS w (s.heap.push (frozO #[] 0 (.fresh 0 0 led))) s.heap.objs.size [] -> wpAny (model prog w) A.in1.in1 (pyIter x) (fun it s' => codeAny (model prog w) A.in1.in1 (.builtin "set.update.loop" ⟨[.ref s.heap.objs.size, it], []⟩)
   (wants (fun _ s'' => s''.TypeIs (.ref s.heap.objs.size) "frozenset" ∧ Q (.ref s.heap.objs.size) s'') E) s') E { s with heap := s.heap.push (frozO #[] 0 (.fresh 0 0 led)) }) :
  wpAny (model prog w) A (call (.type "frozenset") [x]) Q E s := by
 refine callType_codes (Q₁ := fun obj s₁ => s₁.TypeIs obj "frozenset" ∧ Q obj s₁) fz_called (fz_typeCall _) PySem.F.entry_object_init (code_fz_new hT hS hF hd hz h) fun obj s₁ h₁ => ?_
 refine ⟨h₁.1, ?_, object_init_meets fz_called.init.lookup fz_called.made (by decide) prog w A.in1 _ s₁ ⟨h₁.1, rfl, h₁.2⟩⟩
 exact PySem.F.args_object_init_2 obj _
end
section
variable {prog : Program} {w : World} {A : Around} {E : QV} {s : Shared} {a : Addr} {l : List Str} {d : Nat}
theorem str_end {it : Addr} {x : Str} {t : Tok} {i : Nat} {Q : Option Value -> Shared -> Prop} (hh : A.handled = none) (hit : s.heap.IsStrIter it "str_ascii_iterator" x t i) (hx : x.cps[i]? = none)
  (hQ : ∀ h', h'.objs.size = s.heap.objs.size + 2 -> Heap.ExtBut it s.heap h' -> Q none { s with heap := h' }) : wpAny (model prog w) A (pyNext (.ref it)) Q E s := by
 obtain ⟨o, ho, hc, hd⟩ := id hit
 unfold pyNext
 refine wB (wpAny_attempt (wpAny_callSpecial?_slot (name := Str.ofString "__next__") hit.typeIs PySem.F.slot_str_ascii_iterator_next
  (wpAny_call_entry PySem.F.slot_str_ascii_iterator_next hit.typeIs PySem.F.entry_str_ascii_iterator_next ?_ (PySem.F.args_str_ascii_iterator_next_1 _))))
 show wpAny _ _ (field (.ref it) 0 >>= _) _ _ s
 refine wB (wpAny_field ho hd (x := .str x t) rfl ?_)
 show wpAny _ _ (field (.ref it) 1 >>= _) _ _ s
 refine wB (wpAny_field ho hd (x := .int i 0) rfl ?_)
 simp only [Int.toNat_natCast, hx]
 refine wB (wpAny_rule (wB (wpAny_setField ho hd (by simp) (wB (wpAny_letGo ?_)))))
 show wpAny _ _ (newExc (.type "StopIteration") [] >>= _) _ _ _
 refine wB ?_
 simp only [newExc, newTuple]
 refine wB (wpAny_newObj_type ?_ (by size_fits))
 refine wB (m := firstArgMember _ _) (wpAny_of_eq (a := Value.none) (by first | rfl | (simp only [firstArgMember]; rfl)) ?_)
 refine wpAny_newObj_type ?_ (by size_fits)
 refine wB (wpAny_handled ?_)
 rw [show A.in1.handled = none from hh]
 refine wB (wP (wpAny_throw ?_))
 refine wB (wpAny_isInstance (T := "StopIteration") (b := true) ⟨_, Heap.get?_push_size _ rfl, rfl⟩ isSubtype_stop ?_)
 exact wP (hQ _ (by rw [Heap.size_push, Heap.size_push, Heap.size_update]) (((Heap.SameBut.update ..).extBut.push _).push _))
@[reducible] noncomputable def sg (c : Nat) : Str := ⟨#[c]⟩
theorem loop_str {S I : Addr} {x : Str} {t : Tok} {R : Result -> Shared -> Prop} (hh : A.handled = none) (hSI : S ≠ I) (hnd : (x.cps.toList.map sg).Nodup) (hz : x.cps.size < 4000) : ∀ (k i : Nat) (s : Shared), x.cps.size - i = k -> i ≤ x.cps.size -> s.heap.IsStrIter I "str_ascii_iterator" x t i →
  FS w s.heap S ((x.cps.toList.map sg).take i) →
  (∀ h', h'.objs.size = s.heap.objs.size + 2 -> (∀ b o, b ≠ S -> b ≠ I -> s.heap.get? b = some o -> h'.get? b = some o) -> FS w h' S (x.cps.toList.map sg) -> R (.ok (.ret .none)) { s with heap := h', toks := s.toks + 2 * k }) →
  codeAny (model prog w) A (.builtin "set.update.loop" ⟨[.ref S, .ref I], []⟩) R s := by
 intro k
 induction k with
 | zero =>
  intro i s hk hi hit hS hR
  obtain rfl : i = x.cps.size := by lia
  refine codeAny_builtin PyProof.Rows.F.entry_set_update_loop ?_
  rw [Around.under_plainId PyProof.Rows.F.plain_set_update_loop _]
  show wpAny _ A.in1 (pyNext (.ref I) >>= _) _ _ s
  refine wB (str_end (A := A.in1) hh hit (by simp) fun h' hsz he => ?_)
  show wpAny _ A.in1 (ret Value.none) _ _ _
  rw [List.take_of_length_le (by simp)] at hS
  exact wP (hR h' hsz (fun b o _ hb e => he b o hb e) (hS.at fun o e => he S o hSI e))
 | succ k ih =>
  intro i s hk hi hit hS hR
  have hlt : i < x.cps.size := by lia
  refine codeAny_builtin PyProof.Rows.F.entry_set_update_loop ?_
  rw [Around.under_plainId PyProof.Rows.F.plain_set_update_loop _]
  show wpAny _ A.in1 (pyNext (.ref I) >>= _) _ _ s
  refine wB (wpAny_pyNext_ascii_item hit (c := x.cps[i]) (by simp [hlt]) fun h1 hit1 hs1 => ?_)
  show wpAny _ A.in1 (holding [Value.str (sg x.cps[i]) s.toks] (setAdd S (.str (sg x.cps[i]) s.toks)) >>= _) _ _ _
  refine wB (wpAny_holding ?_)
  unfold setAdd
  refine wpAny_holding (wB ((PySem.strKind prog w).pyHash (k := sg x.cps[i]) (isx _ _) ?_))
  have hS1 : FS w h1 S ((x.cps.toList.map sg).take i) := hS.at fun o e => (hs1.2 S hSI).trans e
  have hnew : sg x.cps[i] ∉ (x.cps.toList.map sg).take i := fun q => by
   have e : (x.cps.toList.map sg) = (x.cps.toList.map sg).take i ++ sg x.cps[i] :: (x.cps.toList.map sg).drop (i + 1) := by
    have h1 : i < (x.cps.toList.map sg).length := by simpa using hlt
    have h2 : (x.cps.toList.map sg)[i] = sg x.cps[i] := by simp
    rw [← h2, ← List.drop_eq_getElem_cons h1, List.take_append_drop]
   rw [e] at hnd
   exact (List.nodup_append.mp hnd).2.2 _ q _ (.head _) rfl
  refine fs_add (s := { s with heap := h1, toks := s.toks + 1 + 1 }) hS1 (by rw [List.length_take]; simp; lia) fun bb h2 hs2 hsz2 hS2 => ?_
  rw [if_neg hnew] at hS2
  have htk : (x.cps.toList.map sg).take i ++ [sg x.cps[i]] = (x.cps.toList.map sg).take (i + 1) := by
   rw [List.take_add_one]
   simp [hlt]
  rw [htk] at hS2
  have hit2 : h2.IsStrIter I "str_ascii_iterator" x t (i + 1) := let ⟨o, e, r⟩ := hit1; ⟨o, (hs2.2 I (Ne.symm hSI)).trans e, r⟩
  refine wP ⟨plainId_quiet PyProof.Rows.F.plain_set_update_loop _, ih (i + 1) _ (by lia) hlt hit2 hS2 fun h' hsz' hk' hS' => ?_⟩
  have := hR h' (by rw [hsz', hsz2]; show h1.objs.size + 2 = _; rw [hs1.1]) (fun b o hb1 hb2 e => hk' b o hb1 hb2 ((hs2.2 b hb1).trans ((hs1.2 b hb2).trans e))) hS'
  have e : s.toks + 2 * (k + 1) = s.toks + 1 + 1 + 2 * k := by lia
  rw [e] at this
  exact this
end
section
variable {prog : Program} {w : World} {A : Around} {E : QV} {s : Shared} {a : Addr} {l : List Str} {d : Nat}
theorem str_not_set : isSubtype (.type "str") (.type "set") = pure false := by rw [isSubtype_type]; kernel_rfl
theorem str_not_frozenset : isSubtype (.type "str") (.type "frozenset") = pure false := by rw [isSubtype_type]; kernel_rfl
theorem fz_str {x : Str} {t : Tok} {Q : QV} (hh : A.handled = none) (ha : x.cps.all (· < 128) = true) (hnd : (x.cps.toList.map sg).Nodup) (hz : x.cps.size < 4000)
  (h : ∀ h', Grw s.heap h' 4 -> FS w h' s.heap.objs.size (x.cps.toList.map sg) -> Q (.ref s.heap.objs.size) { s with heap := h', toks := s.toks + 2 * x.cps.size }) :
  wpAny (model prog w) A (call (.type "frozenset") [.str x t]) Q E s := by
 refine call_fz (T := "str") (fun s' _ => (rfl : Shared.TypeIs s' (.str x t) "str")) str_not_set str_not_frozenset rfl rfl fun led hF => ?_
 refine wpAny_pyIter_strU ?_
 have e : strIterType x = "str_ascii_iterator" := by unfold strIterType; rw [ha]; rfl
 rw [e]
 have hne : s.heap.objs.size ≠ (s.heap.push (frozO #[] 0 (.fresh 0 0 led))).objs.size := by rw [Heap.size_push]; exact Nat.ne_of_lt (Nat.lt_succ_self _)
 refine loop_str (x := x) (t := t) (A := A.in1.in1) hh hne hnd hz x.cps.size 0 _ (Nat.sub_zero _) (Nat.zero_le _) ⟨_, Heap.get?_push_size _ rfl, rfl, rfl⟩ (by simpa using hF.at fun o e => Heap.get?_push_of_some _ e) fun h' hsz hk hS => ?_
 have hb : ∀ b o, s.heap.get? b = some o -> b ≠ s.heap.objs.size ∧ b ≠ (s.heap.push (frozO #[] 0 (.fresh 0 0 led))).objs.size := fun b o e => by
  have := Heap.lt_size e
  have e2 : (s.heap.push (frozO #[] 0 (.fresh 0 0 led))).objs.size = s.heap.objs.size + 1 := Heap.size_push ..
  exact ⟨Nat.ne_of_lt this, by rw [e2]; exact Nat.ne_of_lt (Nat.lt_succ_of_lt this)⟩
 refine ⟨fs_type (s := { s with heap := h', toks := _ }) hS, h h' ⟨?_, fun b o e => hk b o (hb b o e).1 (hb b o e).2 (Heap.get?_push_of_some _ (Heap.get?_push_of_some _ e))⟩ hS⟩
 rw [hsz]
 simp only [Heap.size_push]
end
noncomputable def upB (mg : Str -> Option Value) (x : Str) (v : Value) : Str -> Option Value := fun y => if y = x then some v else mg y
structure Blk (w : World) (h0 : Heap) (mg : Str -> Option Value) (M X : Obj) (Fs : List (Addr × List Str)) (n t : Nat) (g : Array GenState) (dr : Drawn) (os : OsState) (s : Shared) : Prop where
 size : s.heap.objs.size = n
 toks : s.toks = t
 ns : s.heap.Ns 3 mg
 main : s.heap.get? 3 = some M
 c64 : s.heap.get? 64 = some X
 keep : ∀ b o, b ≠ 3 -> b ≠ 64 -> h0.get? b = some o -> s.heap.get? b = some o
 sets : ∀ p ∈ Fs, FS w s.heap p.1 p.2 ∧ 64 < p.1
 gens : s.gens = g
 drawn : s.drawn = dr
 os : s.os = os
section
variable {prog : Program} {w : World} {h0 : Heap} {mg : Str -> Option Value} {M X : Obj} {Fs : List (Addr × List Str)} {n t : Nat} {g : Array GenState} {dr : Drawn} {os : OsState} {s : Shared} {A : Around} {E : QV} {env : Env}
theorem Blk.tok (S : Blk w h0 mg M X Fs n t g dr os s) (k : Nat) : Blk w h0 mg M X Fs n (t + k) g dr os { s with toks := s.toks + k } := ⟨S.size, by rw [← S.toks], S.ns, S.main, S.c64, S.keep, S.sets, S.gens, S.drawn, S.os⟩
theorem Blk.grow {h' : Heap} {k j : Nat} (S : Blk w h0 mg M X Fs n t g dr os s) (G : Grw s.heap h' k) : Blk w h0 mg M X Fs (n + k) (t + j) g dr os { s with heap := h', toks := s.toks + j } :=
 ⟨by rw [← S.size]; exact G.1, by rw [← S.toks], S.ns.keeps G.2, G.2 _ _ S.main, G.2 _ _ S.c64, fun b o h1 h2 e => G.2 _ _ (S.keep b o h1 h2 e), fun p hp => ⟨(S.sets p hp).1.at fun o e => G.2 _ _ e, (S.sets p hp).2⟩, S.gens, S.drawn, S.os⟩
theorem Blk.put {a : Addr} {l : List Str} (S : Blk w h0 mg M X Fs n t g dr os s) (F : FS w s.heap a l) (ha : 64 < a) : Blk w h0 mg M X ((a, l) :: Fs) n t g dr os s :=
 ⟨S.size, S.toks, S.ns, S.main, S.c64, S.keep, fun p hp => by
  rcases List.mem_cons.mp hp with rfl | hp
  ·exact ⟨F, ha⟩
  ·exact S.sets p hp, S.gens, S.drawn, S.os⟩
theorem b_str {x : Str} {kd : Nat} {pos : Pos} {Q : QV} (S : Blk w h0 mg M X Fs n t g dr os s) (h : ∀ s', Blk w h0 mg M X Fs n (t + 1) g dr os s' -> Q (.str x t) s') : wpAny (model prog w) A (PySem.eval (.Constant (.str x) kd pos) env) Q E s :=
 by have e := S.toks; subst e; exact wpAny_Constant_str (h _ (S.tok 1))
theorem b_int {i : Int} {kd : Nat} {pos : Pos} {Q : QV} (S : Blk w h0 mg M X Fs n t g dr os s) (h : ∀ s', Blk w h0 mg M X Fs n (t + 1) g dr os s' -> Q (.int i t) s') : wpAny (model prog w) A (PySem.eval (.Constant (.int i) kd pos) env) Q E s :=
 by have e := S.toks; subst e; exact wpAny_Constant_int (h _ (S.tok 1))
theorem b_name {x : Str} {pos : Pos} {v : Value} {Q : QV} (S : Blk w h0 mg M X Fs n t g dr os s) (hv : mg x = some v) (h : Q v s) (hl : loadName env x = loadGlobal env x) (hG : env.globals = 3) (hd : autoParam ((x == ("__debug__" : Str)) = false) aD._auto_1) :
  wpAny (model prog w) A (PySem.eval (.Name x pos) env) Q E s :=
 wpAny_Name (by rw [hl]; exact loadGlobal_global (hG ▸ S.ns) hv h) hd
theorem b_builtin {x : Str} {pos : Pos} {v : Value} {mb : Str -> Option Value} {Q : QV} (S : Blk w h0 mg M X Fs n t g dr os s) (hv : mg x = none) (hb : h0.Ns builtinsNs mb) (hbv : mb x = some v) (h : Q v s) (hl : loadName env x = loadGlobal env x) (hG : env.globals = 3) (hB : env.builtins = builtinsNs)
  (hd : autoParam ((x == ("__debug__" : Str)) = false) aD._auto_1) : wpAny (model prog w) A (PySem.eval (.Name x pos) env) Q E s :=
 wpAny_Name (by
  rw [hl]
  exact loadGlobal_builtin (hG ▸ S.ns) hv (hB ▸ (let ⟨o, es, ep, e, r⟩ := hb; ⟨o, es, ep, S.keep _ _ (by decide) (by decide) e, r⟩)) hbv h) hd
theorem nsSet_exact {x : Str} {v : Value} {Q : QU} (S : Blk w h0 mg M X Fs n t g dr os s)
  (h : ∀ s', Blk w h0 (fun y => if y = x then some v else mg y) (Obj.putName x (hashStr w x) (.str x t) v M) X Fs n (t + 1) g dr os s' -> Q () s') : wpAny (model prog w) A (nsSet 3 x v) Q E s := by
 obtain ⟨o, es, ep, ho, hd, hk, hm⟩ := S.ns
 have hoM : o = M := Option.some.inj (ho.symm.trans S.main)
 have hany : es.any (·.refKey) = false := by
  rw [Array.any_eq_false']; intro e he; obtain ⟨n, t, h⟩ := hk e he; simp [DictEntry.refKey, h]
 refine fun Γ p hΓ => ?_
 have key := Sem.wp_nsSet (model prog w) Γ (fun _ _ _ => False) p s S.ns x v (fun _ _ s' => s'.heap.Ns 3 (fun y => if y = x then some v else mg y)) (fun h' hn' hs' => hn')
 simp only [nsSet, strHash, Sem.wp_bind', Sem.wp_cmd_ask, Sem.wp_pure', Sem.wp_cmd_mkText] at key ⊢
 replace key := key
 rw [Sem.wp_loadPart_of _ Γ _ p { s with toks := s.toks + 1 } (o := o) _ ho] at key ⊢
 replace key := key
 simp only [hd, aRefKeyMayBeTheName_eq, aRefKeyMayBeTheNameByArray, hany, Bool.and_false, Bool.false_eq_true, if_false, Sem.wp_cmd_updatePart] at key ⊢
 refine ⟨key.1, ?_⟩
 have hsb := Heap.SameBut.update s.heap 3 (Obj.putName x (hashStr w x) (.str x s.toks) v)
 have et := S.toks
 subst et
 subst hoM
 refine h _ ⟨(Heap.size_update ..).trans S.size, rfl, key.2, ?_, (hsb.2 64 (by decide)).trans S.c64, fun b ob h1 h2 e => (hsb.2 b h1).trans (S.keep b ob h1 h2 e), fun p hp => ⟨(S.sets p hp).1.at fun o e => (hsb.2 _ fun q => absurd (S.sets p hp).2 (by rw [q]; decide)).trans e, (S.sets p hp).2⟩, S.gens, S.drawn, S.os⟩
 refine Heap.get?_update_self _ ho ?_
 obtain ⟨c, d, dt, sl⟩ := o
 subst hd
 rw [Obj.putName_eq]
 unfold Obj.putNameByArray
 dsimp only
 cases hi : es.findIdx? (·.key.isStr x) <;> rfl
theorem b_store {x : Str} {v : Value} {Q : QU} (S : Blk w h0 mg M X Fs n t g dr os s)
  (h : ∀ s', Blk w h0 (upB mg x v) (Obj.putName x (hashStr w x) (.str x t) v M) X Fs n (t + 1) g dr os s' -> Q () s') (hs : storeName env x v = nsSet 3 x v) : wpAny (model prog w) A (storeName env x v) Q E s := by
 rw [hs]; exact nsSet_exact S h
theorem b_callG {x : Str} {np pos : Pos} {e : Expr} {rest : List Expr} {v : Value} {mb : Str -> Option Value} {Q : QV} (S : Blk w h0 mg M X Fs n t g dr os s) (hv : mg x = none) (hb : h0.Ns builtinsNs mb) (hbv : mb x = some v) (hk : keeperOf v = pure .machine)
  (h : wpAny (model prog w) A (spliced (backTo pos (starEach (e :: rest) env))) (fun vs s₁ => wpAny (model prog w) A (call v vs) Q E s₁) E s)
  (hl : loadName env x = loadGlobal env x) (hG : env.globals = 3) (hB : env.builtins = builtinsNs)
  (he : autoParam (starEach (e :: rest) env = (false, PySem.eval e env) :: starEach rest env) aR._auto_1) (hplain : autoParam ((backTo pos (starEach rest env)).any (·.1) = false) aR._auto_1) (hd : autoParam ((x == ("__debug__" : Str)) = false) aD._auto_1) :
  wpAny (model prog w) A (PySem.eval (.Call (.Name x np) (e :: rest) [] pos) env) Q E s := by
 refine wpAny_Call_NameR (b_builtin S hv hb hbv ?_ hl hG hB hd)
 rw [he] at h ⊢
 exact callWith_of (P := fun _ => True) (by show ((false || (backTo pos (starEach rest env)).any (·.1)) || false) = false; rw [hplain]; rfl)
  (fun _ _ => ⟨.machine, .inr (.inl rfl), Looks.of_pure hk⟩) (evalArgs_plain (wM h (fun vs s₁ h₁ => ⟨trivial, h₁⟩) fun _ _ q => q))
theorem b_call {x : Str} {np pos : Pos} {e : Expr} {v : Value} {mb : Str -> Option Value} {Q : QV} (S : Blk w h0 mg M X Fs n t g dr os s) (hv : mg x = none) (hb : h0.Ns builtinsNs mb) (hbv : mb x = some v) (hk : keeperOf v = pure .machine)
  (h : wpAny (model prog w) A (PySem.eval e env) (fun a s₁ => wpAny (model prog w) A (call v [a]) Q E s₁) E s)
  (hl : loadName env x = loadGlobal env x) (hG : env.globals = 3) (hB : env.builtins = builtinsNs)
  (he : autoParam (starEach [e] env = (false, PySem.eval e env) :: starEach [] env) aR._auto_1) (hd : autoParam ((x == ("__debug__" : Str)) = false) aD._auto_1) :
  wpAny (model prog w) A (PySem.eval (.Call (.Name x np) [e] [] pos) env) Q E s :=
 b_callG S hv hb hbv hk (zS (wM h (fun a s₁ h₁ => spliced_none h₁) fun _ _ q => q) he) hl hG hB he rfl hd
theorem b_fz {x : Str} {u : Tok} {Q : QV} (S : Blk w h0 mg M X Fs n t g dr os s) (hh : A.handled = none) (ha : x.cps.all (· < 128) = true) (hnd : (x.cps.toList.map sg).Nodup) (hz : x.cps.size < 4000) (hn : 64 < n)
  (h : ∀ s', Blk w h0 mg M X ((n, x.cps.toList.map sg) :: Fs) (n + 4) (t + 2 * x.cps.size) g dr os s' -> Q (.ref n) s') : wpAny (model prog w) A (call (.type "frozenset") [.str x u]) Q E s := by
 have e := S.size
 subst e
 exact fz_str hh ha hnd hz fun h' G F => h _ ((S.grow G).put F hn)
theorem b_or {a b : Addr} {l lb : List Str} {Q : QV} (S : Blk w h0 mg M X Fs n t g dr os s) (ha : (a, l) ∈ Fs) (hb : (b, lb) ∈ Fs) (hne : a ≠ b) (hl0 : l ≠ []) (hb0 : lb ≠ []) (hdis : ∀ x ∈ lb, x ∉ l)
  (hper : zF (SetTable.sizeAbove (l.length * 2)) = true) (hlt : l.length < SetTable.sizeAbove (l.length * 2)) (hle : SetTable.sizeAbove (l.length * 2) ≤ 4096)
  (hw : SetTable.sizeAbove ((l.length + lb.length) * 2) ≤ 4096) (hper2 : zF (SetTable.sizeAbove ((l.length + lb.length) * 2)) = true) (hz : l.length < SetTable.sizeAbove ((l.length + lb.length) * 2)) (hsum : l.length + lb.length < 4096) (hn : 64 < n)
  (h : ∀ s', Blk w h0 mg M X ((n, l ++ lb) :: Fs) (n + 1) t g dr os s' -> Q (.ref n) s') : wpAny (model prog w) A (binaryOp .BitOr (.ref a) (.ref b)) Q E s := by
 have e := S.size
 subst e
 exact fs_or (S.sets _ ha).1 (S.sets _ hb).1 hne hl0 hb0 hdis hper hlt hle hw hper2 hz hsum fun h' G F => h _ ((S.grow (j := 0) G).put F hn)
theorem b_sub {a b : Addr} {l lb : List Str} {Q : QV} (S : Blk w h0 mg M X Fs n t g dr os s) (ha : (a, l) ∈ Fs) (hb : (b, lb) ∈ Fs) (hne : a ≠ b) (hb0 : lb ≠ []) (hsub : ∀ x ∈ lb, x ∈ l) (h4 : lb.length < l.length / 4) (h8 : lb.length / 8 ≤ l.length)
  (hdm : lb.length ≤ (l.filter fun y => !(lb.contains y)).length / 4)
  (hper : zF (SetTable.sizeAbove (l.length * 2)) = true) (hlt : l.length < SetTable.sizeAbove (l.length * 2)) (hle : SetTable.sizeAbove (l.length * 2) ≤ 4096) (hn : 64 < n)
  (h : ∀ s', Blk w h0 mg M X ((n, l.filter fun y => !(lb.contains y)) :: Fs) (n + 1) t g dr os s' -> Q (.ref n) s') : wpAny (model prog w) A (binaryOp .Sub (.ref a) (.ref b)) Q E s := by
 have e := S.size
 subst e
 exact fs_sub (S.sets _ ha).1 (S.sets _ hb).1 hne hb0 hsub h4 h8 hdm hper hlt hle fun h' G F => h _ ((S.grow (j := 0) G).put F hn)
theorem b_add {x y : Str} {u v : Tok} {Q : QV} (S : Blk w h0 mg M X Fs n t g dr os s) (hx : (x.length == 0) = false) (hy : (y.length == 0) = false) (hz : x.length + y.length ≤ 100000)
  (h : ∀ s', Blk w h0 mg M X Fs n (t + 1) g dr os s' -> Q (.str (x ++ y) t) s') : wpAny (model prog w) A (binaryOp .Add (.str x u) (.str y v)) Q E s := by
 refine binaryOp_concat (typeIs_str s x u) (typeIs_str s y v) PyProof.Rows.noFill_str_add PyProof.Rows.seq_str_add (wpAny_call_entry PyProof.Rows.slot_str_add (typeIs_str s x u) PyProof.Rows.entry_str_add ?_ (PyProof.Rows.args_str_add _ _))
 show wpAny _ _ (do
  if (true && x.length == 0) = true then (do rule "str.__add__.left-empty"; ret (.str y v)) else
  if (true && y.length == 0) = true then (do rule "str.__add__.right-empty"; ret (.str x u)) else
  retStr (x ++ y)) _ _ s
 rw [hx, hy]
 have e := S.toks
 subst e
 exact wB (wpAny_mkStr (wP ⟨_, rfl, h _ (S.tok 1)⟩) (by rw [strLen_append, sizeLine_eq]; lia))
end
section
variable {prog : Program} {w : World} {h0 : Heap} {mg mb : Str -> Option Value} {M X : Obj} {Fs : List (Addr × List Str)} {n t : Nat} {g : Array GenState} {dr : Drawn} {os : OsState} {s : Shared} {A : Around} {E : QV} {env : Env}
@[reducible] noncomputable def codeX (X : Obj) (pos : Pos) (c : Value) : Obj := { X with data := match X.data with | .fields ps => .fields (ps ++ #[rawInt pos.line, rawInt pos.col, c]) | d => d }
theorem b_gencode {c : Addr} {o : Obj} {vs ps : Array Value} {pos : Pos} {qn : Str} {scope : Scope} {file : Str} {tf tg tt : Tok} {flags text : Int} {inF : Bool} {Q : QV} (S : Blk w h0 mg M X Fs n t g dr os s)
  (hc : env.code = .ref c) (ho : h0.get? c = some o) (h3 : c ≠ 3) (h64 : c ≠ 64) (hd : o.data = .fields vs) (h11 : vs.getD 11 .none = .ref 64) (h18 : vs.getD 18 .none = .str file tf) (h7 : vs.getD 7 .none = .int flags tg) (h9 : vs.getD 9 .none = .bool inF) (h10 : vs.getD 10 .none = .int text tt)
  (hX : X.data = .fields ps) (hnone : codeAmong pos ps.toList = none) (hok : TriplesOk ps.toList) (hfree : scope.freeNames = []) (hn : 64 < n)
  (h : ∀ s', Blk w h0 mg M (codeX X pos (.ref (n + 2))) Fs (n + 3) (t + 5) g dr os s' -> Q (.ref (n + 2)) s') :
  wpAny (model prog w) A (genexprCode env pos qn scope) Q E s := by
 have en := S.size
 have et := S.toks
 subst en
 subst et
 unfold genexprCode codeAt
 rw [hc, if_neg (show ¬ ((Value.ref c == Value.none) = true) from Bool.false_ne_true)]
 refine wB (wpAny_fieldsOf (S.keep _ _ h3 h64 ho) hd ?_)
 rw [h11]
 refine wB (wpAny_fieldsOf S.c64 hX ?_)
 rw [hnone, h18, h7, h9, h10]
 dsimp only
 refine wB ?_
 unfold newCode
 rw [hfree]
 refine wB (wpAny_mkText (wB (wpAny_mkText (wB (wpAny_mkText (wB (wpAny_mkStrs fun fs => wB (wpAny_newObjAsIs_type (wB (wpAny_alloc ?_))))))))))
 refine wB (wP (wB (wP (wB (wP (wB (wpAny_fresh (wB (wpAny_mkText (wpAny_newObj_type ?_ (by size_fits)))))))))))
 have hG : ∀ o1 o2 o3 : Obj, Grw s.heap (((s.heap.push o1).push o2).push o3) 3 := fun o1 o2 o3 => ((Grw.push s.heap o1).trans (Grw.push _ o2)).trans (Grw.push _ o3)
 have hsz : ((s.heap.push { cls := .type "tuple", dict := none, data := .seq fs.toArray }).push { cls := .none, data := .fields #[] }).objs.size = s.heap.objs.size + 2 := by rw [Heap.size_push, Heap.size_push]
 dsimp only at hsz ⊢
 rw [hsz]
 have G := fun o3 => hG { cls := .type "tuple", dict := none, data := .seq fs.toArray } { cls := .none, data := .fields #[] } o3
 revert G
 refine gnl ((s.heap.push { cls := .type "tuple", dict := none, data := .seq fs.toArray }).push { cls := .none, data := .fields #[] }) ?_
 intro H2 G
 refine wB (wpAny_updateFieldsOfTheText ((G _).2 _ _ S.c64) hX ?_)
 generalize hH3 : H2.push { cls := .type "code", dict := none, data := _ } = H3
 have G3 : Grw s.heap H3 3 := hH3 ▸ G _
 obtain ⟨xc, xd, xdt, xs⟩ := X
 simp only at hX
 subst hX
 have hm : Obj.mapFields (fun vs => if (codeAmong pos vs.toList).isSome = true then vs else vs ++ #[rawInt pos.line, rawInt pos.col, .ref (s.heap.objs.size + 2)]) { cls := xc, dict := xd, data := .fields ps, slots := xs } =
   { cls := xc, dict := xd, data := .fields (ps ++ #[rawInt pos.line, rawInt pos.col, .ref (s.heap.objs.size + 2)]), slots := xs } := by
  show ({ cls := xc, dict := xd, data := .fields (if (codeAmong pos ps.toList).isSome = true then ps else ps ++ #[rawInt pos.line, rawInt pos.col, .ref (s.heap.objs.size + 2)]), slots := xs } : Obj) = _
  rw [hnone]
  rfl
 have hget := Heap.get?_update_self (fun o => Obj.mapFields (fun vs => if (codeAmong pos vs.toList).isSome = true then vs else vs ++ #[rawInt pos.line, rawInt pos.col, .ref (s.heap.objs.size + 2)]) o) (G3.2 _ _ S.c64) (by rw [hm]; rfl)
 rw [hm] at hget
 replace hget := hget
 have hsb := Heap.SameBut.update H3 64 (Obj.mapFields (fun vs => if (codeAmong pos vs.toList).isSome = true then vs else vs ++ #[rawInt pos.line, rawInt pos.col, .ref (s.heap.objs.size + 2)]))
 dsimp only at hget ⊢
 refine wB (wpAny_fieldsOf hget rfl ?_)
 have hl : (ps ++ #[rawInt pos.line, rawInt pos.col, Value.ref (s.heap.objs.size + 2)]).toList = ps.toList ++ [rawInt pos.line, rawInt pos.col, .ref (s.heap.objs.size + 2)] := by simp
 rw [hl, codeAmong_snoc _ hok hnone]
 refine wP (h _ ⟨(hsb.1).trans G3.1, ?_, (S.ns.keeps G3.2).sameBut hsb (by decide), (hsb.2 3 (by decide)).trans (G3.2 _ _ S.main), hget, fun b ob h1 h2 e => (hsb.2 b h2).trans (G3.2 _ _ (S.keep b ob h1 h2 e)), fun p hp => ⟨(S.sets p hp).1.at fun o e => (hsb.2 _ fun q => absurd (S.sets p hp).2 (by rw [q]; decide)).trans (G3.2 _ _ e), (S.sets p hp).2⟩, S.gens, S.drawn, S.os⟩)
 show s.toks + 1 + 1 + 1 + 0 + 1 + 1 = s.toks + 5
 lia
theorem range_end {it : Addr} {x left step : Int} {Q : Option Value -> Shared -> Prop} (hh : A.handled = none) (hit : IsRangeIter s.heap it x left step) (hleft : left ≤ 0)
  (hQ : ∀ h', h'.objs.size = s.heap.objs.size + 2 -> Heap.ExtBut it s.heap h' -> Q none { s with heap := h' }) : wpAny (model prog w) A (pyNext (.ref it)) Q E s := by
 have hT : s.TypeIs (.ref it) "range_iterator" := ⟨_, hit, rfl⟩
 unfold pyNext
 refine wB (wpAny_attempt (wpAny_callSpecial?_slot (name := Str.ofString "__next__") hT PySem.F.slot_range_iterator_next
  (wpAny_call_entry PySem.F.slot_range_iterator_next hT PySem.F.entry_range_iterator_next ?_ (PySem.F.args_range_iterator_next_1 _))))
 show wpAny _ _ (field (.ref it) 0 >>= _) _ _ s
 refine wB (wpAny_field hit rfl (x := rawInt x) rfl ?_)
 show wpAny _ _ (field (.ref it) 1 >>= _) _ _ s
 refine wB (wpAny_field hit rfl (x := rawInt left) rfl ?_)
 show wpAny _ _ (field (.ref it) 2 >>= _) _ _ s
 refine wB (wpAny_field hit rfl (x := rawInt step) rfl ?_)
 show wpAny _ _ (if left ≤ 0 then _ else _) _ _ s
 refine wif hleft ?_
 refine wB (wpAny_rule (wB ?_))
 show wpAny _ _ (newExc (.type "StopIteration") [] >>= _) _ _ _
 refine wB ?_
 simp only [newExc, newTuple]
 refine wB (wpAny_newObj_type ?_ (by size_fits))
 refine wB (m := firstArgMember _ _) (wpAny_of_eq (a := Value.none) (by first | rfl | (simp only [firstArgMember]; rfl)) ?_)
 refine wpAny_newObj_type ?_ (by size_fits)
 simp only [raiseNew]
 refine wB (wpAny_handled ?_)
 rw [show A.in1.handled = none from hh]
 refine wB (wP (wpAny_throw ?_))
 refine wB (wpAny_isInstance (T := "StopIteration") (b := true) ⟨_, Heap.get?_push_size _ rfl, rfl⟩ isSubtype_stop ?_)
 exact wP (hQ _ (by rw [Heap.size_push, Heap.size_push]) (((Heap.ExtBut.refl it s.heap).push _).push _))
theorem next_gen {a : Addr} {gi k : Nat} {gs : GenState} {P : Nat -> Shared -> Shared -> Prop} {Y : Protocol} {Q : Option Value -> Shared -> Prop} (hh : A.handled = none)
  (hl : s.heap.NoLimit) (hroom : A.depth < recursionLimit) (hg : s.heap.IsGen a gi) (hgs : s.gens[gi]? = some gs)
  (hgo : gs.Goes (model prog w) A.in1 (fun n s₀ r s₁ => r = .ok .next ∧ P n s₀ s₁) Y k (.send .none) (s.setGen gi .running))
  (hY : ∀ v s₁ gs', Y (k - 1) (s.setGen gi .running) v s₁ (fun r' s'' => match k with
    | 0 => False
    | m + 1 => gs'.Goes (model prog w) A.in1 (fun n s₀ r s₁ => r = .ok .next ∧ P n s₀ s₁) Y m r' s'') -> Q (some v) (s₁.setGen gi gs'))
  (hP : ∀ s₁, P k (s.setGen gi .running) s₁ -> ∀ h', Grw s₁.heap h' 2 -> Q none { s₁.setGen gi .finished with heap := h' }) :
  wpAny (model prog w) A (pyNext (.ref a)) Q E s := by
 unfold pyNext
 refine wB (wpAny_attempt (wpAny_callSpecial?_slot (name := Str.ofString "__next__") hg.typeIs slot_gen_next
  (wpAny_call_entry slot_gen_next hg.typeIs entry_gen_next ?_ (args_gen_next _))))
 show wpAny _ A.in1 (Builtin.Generator.genWake (.ref a) (.send .none)) _ _ s
 unfold Builtin.Generator.genWake
 refine wB (wpAny_holding (wpAny_genNumber hg (wB (wpAny_genState hgs ?_))))
 cases gs with
 | running => exact hgo.elim
 | finished => exact hgo.elim
 | _ =>
  refine wB (wpAny_roomToWake hl hroom ?_)
  show wpAny _ A.in1 (.resume gi (.send .none) [] _) _ _ s
  refine wpAny_resume hgs hgo (fun x s₁ hx => ?_) (fun v s₁ gs' hv => ?_)
  ·obtain ⟨rfl, hp⟩ := hx
   show wpAny _ A.in1 (newExc (.type "StopIteration") [] >>= _) _ _ _
   refine wB ?_
   simp only [newExc, newTuple]
   refine wB (wpAny_newObj_type ?_ (by size_fits))
   refine wB (m := firstArgMember _ _) (wpAny_of_eq (a := Value.none) (by first | rfl | (simp only [firstArgMember]; rfl)) ?_)
   refine wpAny_newObj_type ?_ (by size_fits)
   simp only [raiseNew]
   refine wB (wB (wpAny_handled ?_))
   first | rw [show A.in1.handled = none from hh] | rw [hh]
   refine wpAny_throw ?_
   refine wB (wpAny_isInstance (T := "StopIteration") (b := true) ⟨_, Heap.get?_push_size _ rfl, rfl⟩ isSubtype_stop ?_)
   exact wP (hP s₁ hp _ ((Grw.push _ _).trans (Grw.push _ _)))
  ·exact wP ⟨v, rfl, wP (hY v s₁ gs' hv)⟩
structure GI (mg mb : Str -> Option Value) (C I : Addr) (h : Heap) (k : Nat) : Prop where
 it : IsRangeIter h I ((32 - k : Nat) : Int) ((k : Nat) : Int) 1
 ns : ∃ m, h.Ns C m
 g : h.Ns 3 mg
 b : h.Ns builtinsNs mb
def GY (mg mb : Str -> Option Value) (C I : Addr) : Protocol := fun m s₀ v s kap => m < 32 ∧ (∃ t, v = .str (sg (31 - m)) t) ∧
 (∃ h', s = { s₀ with heap := h', toks := s₀.toks + 3 } ∧ h'.objs.size = s₀.heap.objs.size ∧ (∀ b o, b ≠ C -> b ≠ I -> s₀.heap.get? b = some o -> h'.get? b = some o) ∧ GI mg mb C I h' m) ∧
 ∀ s'' : Shared, GI mg mb C I s''.heap m -> kap (.send .none) s''
def GP (C I : Addr) (n : Nat) (s₀ s₁ : Shared) : Prop := n = 0 ∧ ∃ h', s₁ = { s₀ with heap := h' } ∧ h'.objs.size = s₀.heap.objs.size + 2 ∧ ∀ b o, b ≠ C -> b ≠ I -> s₀.heap.get? b = some o -> h'.get? b = some o
@[reducible] noncomputable def genSc : Scope := { kind := .function, names := [(Str.ofString ".0", .local), (Str.ofString "i", .local), (Str.ofString "chr", .globalImplicit)], isGenerator := true, isCoroutine := false, more := [] }
end
section
variable {prog : Program} {w : World} {mg mb : Str -> Option Value} {A : Around} {s : Shared} {env : Env} {C I : Addr} {E : QV}
theorem g_call {x : Str} {np pos : Pos} {e : Expr} {v : Value} {Q : QV} (hg : s.heap.Ns env.globals mg) (hv : mg x = none) (hb : s.heap.Ns env.builtins mb) (hbv : mb x = some v) (hk : keeperOf v = pure .machine)
  (h : wpAny (model prog w) A (PySem.eval e env) (fun a s₁ => wpAny (model prog w) A (call v [a]) Q E s₁) E s)
  (hl : loadName env x = loadGlobal env x) (he : autoParam (starEach [e] env = (false, PySem.eval e env) :: starEach [] env) aR._auto_1) (hd : autoParam ((x == ("__debug__" : Str)) = false) aD._auto_1) :
  wpAny (model prog w) A (PySem.eval (.Call (.Name x np) [e] [] pos) env) Q E s := by
 refine wpAny_Call_NameR (wpAny_Name ?_ hd)
 rw [hl]
 refine loadGlobal_builtin hg hv hb hbv ?_
 have h2 : wpAny (model prog w) A (spliced (backTo pos (starEach [e] env))) (fun vs s₁ => wpAny (model prog w) A (call v vs) Q E s₁) E s := zS (wM h (fun a s₁ h₁ => spliced_none h₁) fun _ _ q => q) he
 rw [he] at h2 ⊢
 exact callWith_of (P := fun _ => True) rfl (fun _ _ => ⟨.machine, .inr (.inl rfl), Looks.of_pure hk⟩) (evalArgs_plain (wM h2 (fun vs s₁ h₁ => ⟨trivial, h₁⟩) fun _ _ q => q))
@[reducible] noncomputable def gexp (iter : Expr) (p1 p2 p3 px pos : Pos) : Expr := .GeneratorExp (.Call (.Name "chr" p1) [.Name "i" p2] [] p3) [⟨.Name "i" px, iter, [], 0⟩] genSc pos
theorem GI.cut {h h' : Heap} {k : Nat} (x : GI mg mb C I h k) (e : ∀ b o, h.get? b = some o -> h'.get? b = some o) : GI mg mb C I h' k := ⟨e _ _ x.it, let ⟨m, q⟩ := x.ns; ⟨m, q.keeps e⟩, x.g.keeps e, x.b.keeps e⟩
theorem seg_loop {iter : Expr} {p1 p2 p3 px pos : Pos} {code : Value} (hh : A.handled = none) (hchr : mg "chr" = none) (hbc : mb "chr" = some (.builtin "chr")) (hG : env.globals = 3) (hCI : C ≠ I) (hC3 : C ≠ 3) (hC0 : C ≠ builtinsNs) (hI3 : I ≠ 3) (hI0 : I ≠ builtinsNs) :
  ∀ (k : Nat) (s : Shared), k ≤ 32 -> GI mg mb C I s.heap k →
  Seg (model prog w) A (fun n s₀ r s₁ => r = .ok .next ∧ GP C I n s₀ s₁) (GY mg mb C I) k s (.compLoop (gexp iter p1 p2 p3 px pos) 0 (.ref I) .none (genEnv genSc [] C code builtinsNs env))
   ((model prog w).den (.compLoop (gexp iter p1 p2 p3 px pos) 0 (.ref I) .none (genEnv genSc [] C code builtinsNs env))) [] s := by
 have hh' : (A.over (.compLoop (gexp iter p1 p2 p3 px pos) 0 (.ref I) .none (genEnv genSc [] C code builtinsNs env)) []).handled = none := hh
 intro k
 induction k with
 | zero =>
  intro s _ hi
  show Seg _ A _ _ _ s _ ((compTurn (gexp iter p1 p2 p3 px pos) 0 (.ref I) .none (genEnv genSc [] C code builtinsNs env)).onRaise («leaving» (genEnv genSc [] C code builtinsNs env))) [] s
  rw [compTurn_gen, Sem.onRaise_eq_wrap]
  refine seg_bind_wrap (wpAny_standAt ?_)
  refine seg_bind_wrap (range_end hh' hi.it (by simp) fun h' hsz he => ?_)
  exact seg_end (.ok .next) ⟨rfl, rfl, h', rfl, hsz, fun b o _ hb e => he b o hb e⟩
 | succ k ih =>
  intro s hk hi
  show Seg _ A _ _ _ s _ ((compTurn (gexp iter p1 p2 p3 px pos) 0 (.ref I) .none (genEnv genSc [] C code builtinsNs env)).onRaise («leaving» (genEnv genSc [] C code builtinsNs env))) [] s
  rw [compTurn_gen, Sem.onRaise_eq_wrap]
  refine seg_bind_wrap (wpAny_standAt ?_)
  refine seg_bind_wrap (wpAny_pyNext_range_item hi.it (by lia) fun h1 hit1 hs1 => ?_)
  refine seg_bind_wrap (wpAny_of_eq (rfl : letOwnedTupleGo (.Name "i" px) (.ref I) _ = pure ()) ?_)
  obtain ⟨m, hn⟩ := hi.ns
  have hn1 : h1.Ns C m := hn.sameBut hs1 hCI
  refine seg_bind_wrap (wpAny_assign_Name (wpAny_storeName_local (by rfl) hn1 (fun h2 hn2 hs2 => ?_) (by rfl)))
  refine seg_bind_wrap (wpAny_tests_nil ?_)
  simp only [if_true]
  have hg2 : h2.Ns 3 mg := (hi.g.sameBut hs1 (Ne.symm hI3)).sameBut hs2 (Ne.symm hC3)
  have hb2 : h2.Ns builtinsNs mb := (hi.b.sameBut hs1 (Ne.symm hI0)).sameBut hs2 (Ne.symm hC0)
  have hy : ∀ v, yieldOut (genEnv genSc [] C code builtinsNs env) v = yieldValue v := fun v => rfl
  simp only [hy]
  rw [Sem.bind_eq_wrap', Sem.bind_eq_wrap', Sem.wrap_wrap, Sem.wrap_wrap]
  refine seg_wrap (g_call (env := genEnv genSc [] C code builtinsNs env) (by show h2.Ns env.globals mg; rw [hG]; exact hg2) hchr hb2 hbc (by rfl)
   (wpAny_Name (wpAny_loadName_local (m := fun y => if y = Str.ofString "i" then some (Value.int ((32 - (k + 1) : Nat) : Int) s.toks) else m y) (by rfl) (by rfl) hn2 (if_pos rfl) ?_)) (by rfl))
  refine chr_of_range (by lia) (by lia) ?_
  have hit2 : IsRangeIter h2 I ((32 - k : Nat) : Int) ((k : Nat) : Int) 1 := by
   have e1 : (((32 - (k + 1) : Nat) : Int) + 1) = ((32 - k : Nat) : Int) := by lia
   have e2 : (((k + 1 : Nat) : Int) - 1) = ((k : Nat) : Int) := by lia
   rw [e1, e2] at hit1
   exact (hs2.2 I (Ne.symm hCI)).trans hit1
  have ec : (((32 - (k + 1) : Nat) : Int)).toNat = 31 - k := by lia
  rw [ec]
  refine seg_at (seg_yield rfl rfl rfl ⟨by lia, ⟨_, rfl⟩, ⟨h2, rfl, hs2.1.trans hs1.1, fun b o hb1 hb2 e => (hs2.2 b hb1).trans ((hs1.2 b hb2).trans e), ⟨hit2, ⟨_, hn2⟩, hg2, hb2⟩⟩, fun s'' hal => ?_⟩)
  exact seg_again rfl (ih s'' (by lia) hal)
theorem seg_start {iter : Expr} {p1 p2 p3 px pos : Pos} {code : Value} (hh : A.handled = none) (hchr : mg "chr" = none) (hbc : mb "chr" = some (.builtin "chr")) (hG : env.globals = 3) (hCI : C ≠ I) (hC3 : C ≠ 3) (hC0 : C ≠ builtinsNs) (hI3 : I ≠ 3) (hI0 : I ≠ builtinsNs)
  (s : Shared) (hi : GI mg mb C I s.heap 32) :
  Seg (model prog w) A (fun n s₀ r s₁ => r = .ok .next ∧ GP C I n s₀ s₁) (GY mg mb C I) 32 s (.compStart (gexp iter p1 p2 p3 px pos) 0 (.ref I) .none (genEnv genSc [] C code builtinsNs env))
   ((model prog w).den (.compStart (gexp iter p1 p2 p3 px pos) 0 (.ref I) .none (genEnv genSc [] C code builtinsNs env))) [] s := by
 have loop := seg_loop (prog := prog) (w := w) (A := A) (iter := iter) (p1 := p1) (p2 := p2) (p3 := p3) (px := px) (pos := pos) (code := code) hh hchr hbc hG hCI hC3 hC0 hI3 hI0 32 s (Nat.le_refl _) hi
 show Seg _ A _ _ _ s _ ((compStart (gexp iter p1 p2 p3 px pos) 0 (.ref I) .none (genEnv genSc [] C code builtinsNs env)).onRaise («leaving» (genEnv genSc [] C code builtinsNs env))) [] s
 unfold compStart
 rw [Sem.onRaise_eq_wrap]
 show Seg _ A _ _ _ s _ ((ask >>= _).wrap _ _ _ _) [] s
 refine seg_bind_wrap (wpAny_askSetting ?_)
 split
 ·exact seg_again rfl loop
 ·refine seg_bind_wrap (wpAny_rule ?_)
  show Seg _ A _ _ _ s _ ((standAt iter.pos >>= _).wrap _ _ _ _) [] s
  exact seg_bind_wrap (wpAny_standAt (seg_bind_wrap (wpAny_pyIter_rangeiter hi.it (seg_again rfl loop))))
end
section
variable {prog : Program} {w : World} {mg mb : Str -> Option Value} {A : Around} {env : Env} {C I : Addr} {E : QV}
theorem set_one {x y : GenState} : (#[x] : Array GenState).setIfInBounds 0 y = #[y] := rfl
abbrev goesOn (prog : Program) (w : World) (A : Around) (mg mb : Str -> Option Value) (C I : Addr) (gs : GenState) (k : Nat) : Prop :=
 ∀ s'' : Shared, GI mg mb C I s''.heap k -> gs.Goes (model prog w) A (fun n s₀ r s₁ => r = .ok .next ∧ GP C I n s₀ s₁) (GY mg mb C I) k (.send .none) s''
theorem loop_gen {S a : Addr} {R : Result -> Shared -> Prop} (hh : A.handled = none) (hroom : A.depth < recursionLimit) (hSC : S ≠ C) (hSI : S ≠ I) (hSa : S ≠ a) (haC : a ≠ C) (haI : a ≠ I) (hcC : cStatics ≠ C) (hcI : cStatics ≠ I) (hcS : cStatics ≠ S) (h3S : 3 ≠ S) (h0S : builtinsNs ≠ S) :
  ∀ (k : Nat) (s : Shared) (gs : GenState), k ≤ 32 -> s.gens = #[gs] -> goesOn prog w A.in1.in1 mg mb C I gs k -> s.heap.IsGen a 0 -> s.heap.NoLimit -> GI mg mb C I s.heap k -> FS w s.heap S ((List.range (32 - k)).map sg) →
  (∀ h', h'.objs.size = s.heap.objs.size + 4 -> (∀ b o, b ≠ S -> b ≠ C -> b ≠ I -> s.heap.get? b = some o -> h'.get? b = some o) -> FS w h' S ((List.range 32).map sg) -> R (.ok (.ret .none)) { s with heap := h', gens := #[.finished], toks := s.toks + 4 * k }) →
  codeAny (model prog w) A (.builtin "set.update.loop" ⟨[.ref S, .ref a], []⟩) R s := by
 intro k
 induction k with
 | zero =>
  intro s gs hk hg hgo hgen hl hi hS hR
  refine codeAny_builtin PyProof.Rows.F.entry_set_update_loop ?_
  rw [Around.under_plainId PyProof.Rows.F.plain_set_update_loop _]
  show wpAny _ A.in1 (pyNext (.ref a) >>= _) _ _ s
  refine wB (next_gen (A := A.in1) (gi := 0) (k := 0) (P := GP C I) hh hl hroom hgen (by rw [hg]; rfl) (hgo _ hi) (fun v s₁ gs' hv => ?_) fun s₁ hp h' hG => ?_)
  ·obtain ⟨_, _, ⟨h1, _, _, _, hi1⟩, hkap⟩ := hv
   exact (hkap { s₁ with heap := h1 } hi1).elim
  ·obtain ⟨_, h1, rfl, hsz, hk1⟩ := hp
   show wpAny _ A.in1 (ret Value.none) _ _ _
   have e : ((({ s.setGen 0 .running with heap := h1 } : Shared).setGen 0 .finished).gens) = #[.finished] := by
    show (s.gens.setIfInBounds 0 _).setIfInBounds 0 _ = _
    rw [hg]; rfl
   have := hR h' (by rw [hG.1, hsz]; rfl) (fun b o _ h2 h3 e => hG.2 _ _ (hk1 b o h2 h3 e)) (by simpa using hS.at fun o e => hG.2 _ _ (hk1 S o hSC hSI e))
   rw [← e] at this
   exact wP this
 | succ k ih =>
  intro s gs hk hg hgo hgen hl hi hS hR
  refine codeAny_builtin PyProof.Rows.F.entry_set_update_loop ?_
  rw [Around.under_plainId PyProof.Rows.F.plain_set_update_loop _]
  show wpAny _ A.in1 (pyNext (.ref a) >>= _) _ _ s
  refine wB (next_gen (A := A.in1) (gi := 0) (k := k + 1) (P := GP C I) hh hl hroom hgen (by rw [hg]; rfl) (hgo _ hi) (fun v s₁ gs' hv => ?_) fun s₁ hp h' hG => absurd hp.1 (Nat.succ_ne_zero k))
  obtain ⟨_, ⟨tv, rfl⟩, ⟨h1, rfl, hsz1, hk1, hi1⟩, hkap⟩ := hv
  rw [Nat.add_sub_cancel] at hi1 hkap
  show wpAny _ A.in1 (holding [Value.str (sg (31 - k)) tv] (setAdd S (.str (sg (31 - k)) tv)) >>= _) _ _ _
  refine wB (wpAny_holding ?_)
  unfold setAdd
  refine wpAny_holding (wB ((PySem.strKind prog w).pyHash (k := sg (31 - k)) (isx _ _) ?_))
  have hS1 : FS w h1 S ((List.range (32 - (k + 1))).map sg) := hS.at fun o e => hk1 S o hSC hSI e
  have hnew : sg (31 - k) ∉ (List.range (32 - (k + 1))).map sg := fun q => by
   obtain ⟨j, hj, e⟩ := List.mem_map.mp q
   have e2 : j = 31 - k := by
    have := congrArg Str.cps e
    simpa [sg] using this
   have := List.mem_range.mp hj
   lia
  have eg : ((({ s.setGen 0 .running with heap := h1, toks := (s.setGen 0 .running).toks + 3 } : Shared).setGen 0 gs').gens) = #[gs'] := by
   show (s.gens.setIfInBounds 0 _).setIfInBounds 0 _ = _
   rw [hg]; rfl
  refine fs_add (s := { (({ s.setGen 0 .running with heap := h1, toks := (s.setGen 0 .running).toks + 3 } : Shared).setGen 0 gs') with toks := s.toks + 3 + 1 }) hS1 (by rw [List.length_map, List.length_range]; lia) fun bb h2 hs2 hsz2 hS2 => ?_
  rw [if_neg hnew] at hS2
  have htk : (List.range (32 - (k + 1))).map sg ++ [sg (31 - k)] = (List.range (32 - k)).map sg := by
   rw [show 32 - k = (32 - (k + 1)) + 1 by lia, List.range_succ, List.map_append, show 31 - k = 32 - (k + 1) by lia]
   rfl
  rw [htk] at hS2
  have keep2 : ∀ b o, b ≠ S -> b ≠ C -> b ≠ I -> s.heap.get? b = some o -> h2.get? b = some o := fun b o q1 q2 q3 e => (hs2.2 b q1).trans (hk1 b o q2 q3 e)
  have hi2 : GI mg mb C I h2 k := ⟨(hs2.2 I (Ne.symm hSI)).trans hi1.it, let ⟨m, q⟩ := hi1.ns; ⟨m, q.sameBut hs2 (Ne.symm hSC)⟩, hi1.g.sameBut hs2 h3S, hi1.b.sameBut hs2 h0S⟩
  refine wP ⟨plainId_quiet PyProof.Rows.F.plain_set_update_loop _, ?_⟩
  refine ih _ gs' (by lia) eg (fun s'' hi'' => hkap s'' hi'') (let ⟨o, nm, qn, ho, r⟩ := hgen; ⟨o, nm, qn, keep2 a o (Ne.symm hSa) haC haI ho, r⟩)
   (let ⟨mc, hns, hnn⟩ := hl; ⟨mc, hns.at' fun o e => keep2 cStatics o hcS hcC hcI e, hnn⟩) hi2 hS2 fun h' hsz' hk' hS' => ?_
  have := hR h' (by rw [hsz', hsz2]; show h1.objs.size + 4 = _; rw [hsz1]; rfl) (fun b o q1 q2 q3 e => hk' b o q1 q2 q3 (keep2 b o q1 q2 q3 e)) hS'
  have e : s.toks + 4 * (k + 1) = s.toks + 3 + 1 + 4 * k := by lia
  rw [e] at this
  exact this
end
section
variable {prog : Program} {w : World} {h0 : Heap} {mg mb : Str -> Option Value} {M X : Obj} {Fs : List (Addr × List Str)} {n t : Nat} {g : Array GenState} {dr : Drawn} {os : OsState} {s : Shared} {A : Around} {E : QV} {env : Env}
theorem gen_not_set : isSubtype (.type "generator") (.type "set") = pure false := by rw [isSubtype_type]; kernel_rfl
theorem gen_not_frozenset : isSubtype (.type "generator") (.type "frozenset") = pure false := by rw [isSubtype_type]; kernel_rfl
inductive RecOk (h0 : Heap) (c : Addr) : Prop
 | mk (o : Obj) (vs : Array Value) (file : Str) (tf : Tok) (flags : Int) (tg : Tok) (inF : Bool) (text : Int) (tt : Tok) (_ : h0.get? c = some o) (_ : c ≠ 3) (_ : c ≠ 64) (_ : o.data = .fields vs) (_ : vs.getD 11 .none = .ref 64)
  (_ : vs.getD 18 .none = .str file tf) (_ : vs.getD 7 .none = .int flags tg) (_ : vs.getD 9 .none = .bool inF) (_ : vs.getD 10 .none = .int text tt)
structure GenOk (h0 : Heap) (mg mb : Str -> Option Value) (X : Obj) (ps : Array Value) (env : Env) (pos : Pos) (c bm : Addr) : Prop where
 code : env.code = .ref c
 rec_ : RecOk h0 c
 tab : X.data = .fields ps
 none_ : codeAmong pos ps.toList = none
 ok : TriplesOk ps.toList
 nl : h0.NoLimit
 bmod : mg "__builtins__" = some (.ref bm) ∧ bm ≠ builtinsNs ∧ bm ≠ 3 ∧ bm ≠ 64 ∧ ∃ o, h0.get? bm = some o ∧ o.cls = .type "module" ∧ o.dict = some builtinsNs ∧ o.data = .plain
 globals : env.globals = 3
 builtins : env.builtins = builtinsNs
 b : h0.Ns builtinsNs mb
 free : mg "chr" = none ∧ mg "range" = none ∧ mg "frozenset" = none
 bound : mb "chr" = some (.builtin "chr") ∧ mb "range" = some (.type "range") ∧ mb "frozenset" = some (.type "frozenset")
theorem ns_keep {a : Addr} {m : Str -> Option Value} (S : Blk w h0 mg M X Fs n t g dr os s) (h : h0.Ns a m) (h3 : a ≠ 3) (h64 : a ≠ 64) : s.heap.Ns a m := let ⟨o, es, ep, e, r⟩ := h; ⟨o, es, ep, S.keep _ _ h3 h64 e, r⟩
theorem Blk.rebase (S : Blk w h0 mg M X Fs n t g dr os s) : Blk w s.heap mg M X Fs n t g dr os s := ⟨S.size, S.toks, S.ns, S.main, S.c64, fun _ _ _ _ e => e, S.sets, S.gens, S.drawn, S.os⟩
theorem Blk.back {h1 : Heap} (S : Blk w h1 mg M X Fs n t g dr os s) (k : ∀ b o, b ≠ 3 -> b ≠ 64 -> h0.get? b = some o -> h1.get? b = some o) : Blk w h0 mg M X Fs n t g dr os s := ⟨S.size, S.toks, S.ns, S.main, S.c64, fun b o q1 q2 e => S.keep b o q1 q2 (k b o q1 q2 e), S.sets, S.gens, S.drawn, S.os⟩
theorem b_genexp {ps : Array Value} {c bm : Addr} {p1 p2 p3 p4 p5 p6 px pos : Pos} {kd : Nat} {Q : QV} (S : Blk w h0 mg M X Fs n t g dr os s) (K : GenOk h0 mg mb X ps env pos c bm) (hroom : A.depth < recursionLimit) (hn : 64 < n) (hg : g = #[])
  (hclos : closureFor genSc env = pure []) (hlr : loadName env "range" = loadGlobal env "range")
  (h : ∀ s', Blk w h0 mg M (codeX X pos (.ref (n + 2 + 2))) Fs (n + 7) (t + 11) #[.fresh (.compStart (gexp (.Call (.Name "range" p4) [.Constant (.int 32) kd p5] [] p6) p1 p2 p3 px pos) 0 (.ref (n + 1)) .none (genEnv genSc [] (n + 5) (.ref (n + 2 + 2)) builtinsNs env))] dr os s' →
   s'.heap.IsGen (n + 6) 0 -> GI mg mb (n + 5) (n + 1) s'.heap 32 -> Q (.ref (n + 6)) s') :
  wpAny (model prog w) A (PySem.eval (gexp (.Call (.Name "range" p4) [.Constant (.int 32) kd p5] [] p6) p1 p2 p3 px pos) env) Q E s := by
 refine wpAny_GeneratorExp_make (cl := []) rfl hclos (by decide) rfl rfl hroom (b_call S K.free.2.1 K.b K.bound.2.1 (by rfl) (b_int S fun s S => call_range_1 ?_) hlr K.globals K.builtins) (by intro x; rfl)
 have S2 := S.grow (j := 2) (Grw.push s.heap { cls := .type "range", data := .fields #[.int 0 s.toks, .int 32 t, .int 1 (s.toks + 1)] })
 have hr : IsRange (s.heap.push { cls := .type "range", data := .fields #[.int 0 s.toks, .int 32 t, .int 1 (s.toks + 1)] }) s.heap.objs.size 0 32 1 s.toks t (s.toks + 1) := Heap.get?_push_size _ rfl
 refine wpAny_pyIter_range hr (by decide) ?_
 have S3 := S2.grow (j := 0) (Grw.push (s.heap.push { cls := .type "range", data := .fields #[.int 0 s.toks, .int 32 t, .int 1 (s.toks + 1)] }) { cls := .type "range_iterator", data := .fields #[rawInt 0, rawInt (Builtin.Range.rangeSize 0 32 1), rawInt 1] })
 have hI : IsRangeIter ((s.heap.push { cls := .type "range", data := .fields #[.int 0 s.toks, .int 32 t, .int 1 (s.toks + 1)] }).push { cls := .type "range_iterator", data := .fields #[rawInt 0, rawInt (Builtin.Range.rangeSize 0 32 1), rawInt 1] }) (n + 1) ((32 - 32 : Nat) : Int) ((32 : Nat) : Int) 1 := by
  have := Heap.get?_push_size (s.heap.push { cls := .type "range", data := .fields #[.int 0 s.toks, .int 32 t, .int 1 (s.toks + 1)] }) (o := { cls := .type "range_iterator", data := .fields #[rawInt 0, rawInt (Builtin.Range.rangeSize 0 32 1), rawInt 1] }) rfl
  rw [Heap.size_push, S.size] at this
  exact this
 have hIa : (s.heap.push { cls := .type "range", data := .fields #[.int 0 s.toks, .int 32 t, .int 1 (s.toks + 1)] }).objs.size = n + 1 := by rw [Heap.size_push, S.size]
 dsimp only at S3 ⊢
 rw [hIa]
 revert S3 hI
 refine gnl ((s.heap.push { cls := .type "range", data := .fields #[.int 0 s.toks, .int 32 t, .int 1 (s.toks + 1)] }).push { cls := .type "range_iterator", data := .fields #[rawInt 0, rawInt (Builtin.Range.rangeSize 0 32 1), rawInt 1] }) ?_
 intro H3 S3 hI
 have e3 : ({ heap := H3, gens := s.gens, drawn := s.drawn, toks := s.toks + 2 + 0, os := s.os } : Shared) = { heap := H3, gens := s.gens, drawn := s.drawn, toks := s.toks + 1 + 1, os := s.os } := rfl
 rw [e3] at S3
 revert S3
 refine gnlE ({ heap := H3, gens := s.gens, drawn := s.drawn, toks := s.toks + 1 + 1, os := s.os } : Shared) ?_
 intro s3 hs3 S3
 have hH3 : s3.heap = H3 := by rw [← hs3]
 rw [← hH3] at hI
 obtain ⟨o, vs, file, tf, flags, tg, inF, text, tt, ho, h3, h64, hd, h11, h18, h7, h9, h10⟩ := K.rec_
 obtain ⟨hbm, hb0, hb3, hb64, ob, hob, hcls, hdict, hdata⟩ := K.bmod
 have hnl3 : s3.heap.NoLimit := let ⟨mc, q, r⟩ := K.nl; ⟨mc, ns_keep S3 q (by decide) (by decide), r⟩
 refine ⟨hH3 ▸ hnl3, b_gencode S3.rebase K.code (S3.keep _ _ h3 h64 ho) h3 h64 hd h11 h18 h7 h9 h10 K.tab K.none_ K.ok (by decide +kernel) (by lia) fun s4 S4 => ?_⟩
 refine wpAny_builtinsFor (by rw [K.globals]; exact S4.ns) hbm hb0 (S4.keep _ _ hb3 hb64 (S3.keep _ _ hb3 hb64 hob)) hcls hdict hdata ?_
 intro h' hn' hs'
 have hC : s4.heap.objs.size = n + 5 := S4.size
 rw [hC] at hn' hs' ⊢
 have hsz' : h'.objs.size = n + 6 := by rw [hs'.1, Heap.size_push, hC]
 have G5 : Grw s4.heap h' 1 := ⟨by rw [hsz', hC], fun b o e => (hs'.2 b (by have := Heap.lt_size e; rw [hC] at this; exact Nat.ne_of_lt this)).trans (Heap.get?_push_of_some _ e)⟩
 rw [hsz']
 have G6 := G5.trans (Grw.push h' { cls := .type "generator", data := .fields #[.int s4.gens.size 0, .str "<genexpr>" (s4.toks + 1), .str (env.qual ++ "<genexpr>") (s4.toks + 1 + 1)] })
 have S6 := S4.grow (j := 3) G6
 have hgz : s4.gens = #[] := S4.gens.trans hg
 rw [hgz] at G6 S6 ⊢
 have hI3 : (n + 1 : Nat) ≠ 3 := by lia
 have hI64 : (n + 1 : Nat) ≠ 64 := by lia
 have hb6 := ns_keep S6 (ns_keep S3 K.b (by decide) (by decide)) (by decide) (by decide)
 refine h _ ⟨S6.size, (S6.toks : _), S6.ns, S6.main, S6.c64, fun b o q1 q2 e => S6.keep b o q1 q2 (S3.keep b o q1 q2 e), S6.sets, rfl, S6.drawn, S6.os⟩ ?_ ⟨G6.2 _ _ (S4.keep _ _ hI3 hI64 hI), ⟨_, hn'.push _⟩, S6.ns, hb6⟩
 ·have := Heap.get?_push_size h' (o := { cls := .type "generator", data := .fields #[.int (#[] : Array GenState).size 0, .str "<genexpr>" (s4.toks + 1), .str (env.qual ++ "<genexpr>") (s4.toks + 1 + 1)] }) rfl
  rw [hsz'] at this
  exact ⟨_, _, _, this, rfl, rfl, rfl⟩
end
section
variable {prog : Program} {w : World} {h0 : Heap} {mg mb : Str -> Option Value} {M X : Obj} {Fs : List (Addr × List Str)} {n t : Nat} {g : Array GenState} {dr : Drawn} {os : OsState} {s : Shared} {A : Around} {E : QV} {env : Env}
theorem b_fzgen {a C I : Addr} {iter : Expr} {p1 p2 p3 px pos : Pos} {code : Value} {Q : QV}
  (S : Blk w h0 mg M X [] n t #[.fresh (.compStart (gexp iter p1 p2 p3 px pos) 0 (.ref I) .none (genEnv genSc [] C code builtinsNs env))] dr os s) (hh : A.handled = none) (hroom : A.depth < recursionLimit) (hnl : h0.NoLimit) (hG : env.globals = 3) (hchr : mg "chr" = none) (hbc : mb "chr" = some (.builtin "chr"))
  (hgen : s.heap.IsGen a 0) (hi : GI mg mb C I s.heap 32) (haC : a ≠ C) (haI : a ≠ I) (hCI : C ≠ I) (hC : 64 < C) (hI : 64 < I) (hn : 64 < n) (hlC : h0.objs.size ≤ C) (hlI : h0.objs.size ≤ I)
  (h : ∀ s', Blk w h0 mg M X [(n, (List.range 32).map sg)] (n + 5) (t + 128) #[.finished] dr os s' -> Q (.ref n) s') : wpAny (model prog w) A (call (.type "frozenset") [.ref a]) Q E s := by
 have en := S.size
 subst en
 have hCn : C < s.heap.objs.size := let ⟨_, q⟩ := hi.ns; q.lt
 have hIn : I < s.heap.objs.size := Heap.lt_size hi.it
 have han : a < s.heap.objs.size := let ⟨_, _, _, e, _⟩ := hgen; Heap.lt_size e
 refine call_fz (T := "generator") (fun s' k => (hgen.keeps k).typeIs) gen_not_set gen_not_frozenset rfl rfl fun led hF => ?_
 have G1 := Grw.push s.heap (frozO #[] 0 (.fresh 0 0 led))
 refine wpAny_pyIter_gen (hgen.keeps G1.2) ?_
 have hl1 : (s.heap.push (frozO #[] 0 (.fresh 0 0 led))).NoLimit := let ⟨mc, q, r⟩ := hnl; ⟨mc, (ns_keep S q (by decide) (by decide)).keeps G1.2, r⟩
 have d3 : ∀ b : Addr, b ≤ 64 -> b ≠ C ∧ b ≠ I ∧ b ≠ s.heap.objs.size := fun b hb => ⟨Nat.ne_of_lt (Nat.lt_of_le_of_lt hb hC), Nat.ne_of_lt (Nat.lt_of_le_of_lt hb hI), Nat.ne_of_lt (Nat.lt_of_le_of_lt hb hn)⟩
 have goes : goesOn prog w A.in1.in1.in1.in1 mg mb C I (.fresh (.compStart (gexp iter p1 p2 p3 px pos) 0 (.ref I) .none (genEnv genSc [] C code builtinsNs env))) 32 := fun s'' hi'' =>
  ⟨rfl, seg_start (A := A.in1.in1.in1.in1) hh hchr hbc hG hCI (d3 3 (by decide)).1.symm (d3 0 (by decide)).1.symm (d3 3 (by decide)).2.1.symm (d3 0 (by decide)).2.1.symm s'' hi''⟩
 refine loop_gen (A := A.in1.in1) (mg := mg) (mb := mb) (C := C) (I := I) hh hroom (Nat.ne_of_gt hCn) (Nat.ne_of_gt hIn) (Nat.ne_of_gt han) haC haI (d3 2 (by decide)).1 (d3 2 (by decide)).2.1 (d3 2 (by decide)).2.2 (d3 3 (by decide)).2.2 (d3 0 (by decide)).2.2
  32 _ _ (Nat.le_refl _) S.gens goes (hgen.keeps G1.2) hl1 (hi.cut G1.2) hF fun h' hsz hk hS => ?_
 have lowb : ∀ b o, h0.get? b = some o -> b ≠ s.heap.objs.size ∧ b ≠ C ∧ b ≠ I := fun b o e => by
  have h1 := Heap.lt_size e
  exact ⟨Nat.ne_of_lt (Nat.lt_trans (Nat.lt_of_lt_of_le h1 hlC) hCn), Nat.ne_of_lt (Nat.lt_of_lt_of_le h1 hlC), Nat.ne_of_lt (Nat.lt_of_lt_of_le h1 hlI)⟩
 have k3 : ∀ b o, b ≤ 64 -> s.heap.get? b = some o -> h'.get? b = some o := fun b o hb e => hk b o (d3 b hb).2.2 (d3 b hb).1 (d3 b hb).2.1 (G1.2 _ _ e)
 have et := S.toks
 subst et
 refine ⟨fs_type (s := { s with heap := h', gens := #[.finished], toks := _ }) hS, h _ ⟨?_, rfl, S.ns.at' fun o e => k3 3 o (by decide) e, k3 _ _ (by decide) S.main, k3 _ _ (by decide) S.c64, fun b o q1 q2 e => ?_, fun p hp => ?_, rfl, S.drawn, S.os⟩⟩
 ·rw [hsz, Heap.size_push]
 ·obtain ⟨l1, l2, l3⟩ := lowb b o e
  exact hk b o l1 l2 l3 (G1.2 _ _ (S.keep b o q1 q2 e))
 ·obtain rfl := List.mem_singleton.mp hp
  exact ⟨hS, hn⟩
end
theorem stepOk_calm {n₀ : Nat} {ann : Option Value} {t : Thread} (h : stepOk n₀ ann t = true) : t.calm = true := (Bool.and_eq_true_iff.mp h).1
theorem bcs (b : Bool) {P : Prop} (h1 : b = true -> P) (h0 : b = false -> P) : P := by
 cases b with
 | true => exact h1 rfl
 | false => exact h0 rfl
theorem ffQ {P : Prop} (h : false = true) : P := nomatch h
def DnQ (c : Sem Fin) : Prop := ∃ f, c = .pure (.done f)
theorem dn_of {c : Code} {p : Pos} (m : Sem Fin) : through ⟨m, c, p, []⟩ = true -> DnQ m := by
 apply Sem.casesOn (motive := fun m => through ⟨m, c, p, []⟩ = true -> DnQ m) m
 case pure =>
  intro v
  cases v with
  | done f => exact fun _ => ⟨_, rfl⟩
  | _ => exact ffQ
 all_goals first | exact fun _ => ffQ | exact fun _ _ => ffQ | exact fun _ _ _ => ffQ | exact fun _ _ _ _ => ffQ | exact fun _ _ _ _ _ => ffQ
theorem through_cur {t : Thread} (h : through t = true) : ∃ f c p, t = ⟨.pure (.done f), c, p, []⟩ := by
 obtain ⟨cur, code, pos, stack⟩ := t
 cases stack with
 | nil =>
  obtain ⟨f, e⟩ := dn_of cur h
  exact ⟨f, code, pos, by rw [e]⟩
 | cons => cases h
theorem runN_zero {tb : Code -> Sem Fin} {p : Program} {w : World} {s s₁ : Shared} {t t₁ : Thread} (h : PySem.runN tb p w 0 s t = .running s₁ t₁) : t₁ = t := by cases h; rfl
theorem step_done {tb : Code -> Sem Fin} {p : Program} {w : World} {s : Shared} {f : Flow} {c : Code} {pos : Pos} (h : leftWithCleanup s.gens = false) : step tb p w s ⟨.pure (.done f), c, pos, []⟩ = .halt (.done f) s := by
 show finish (.done f) s = _
 unfold finish
 rw [h]
 rfl
theorem halted_of_topRun {tb : String -> Option Builtin} {p : Program} {w : World} {n₀ : Nat} {ann : Option Value} : ∀ (n : Nat) (s : Shared) (t : Thread) (s' : Shared), topRun tb p w n₀ ann n s t = some s' -> leftWithCleanup s'.gens = false →
  ∃ m f, PySem.runN (denote tb) p w m s t = .halted (.done f) s' ∧ ∀ k s₁ t₁, PySem.runN (denote tb) p w k s t = .running s₁ t₁ -> t₁.calm = true
 | 0, _, _, _, h, _ => nomatch h
 | n + 1, s, t, s', h, hl => by
  unfold topRun at h
  refine bcs (through t) (fun ht => ?_) fun ht => bcs (stepOk n₀ ann t) (fun hk => ?_) fun hk => ?_
  ·rw [ht] at h
   obtain rfl : s = s' := Option.some.inj h
   obtain ⟨f, c, pos, rfl⟩ := through_cur ht
   have hs := step_done (tb := denote tb) (p := p) (w := w) (f := f) (c := c) (pos := pos) hl
   refine ⟨1, f, by unfold PySem.runN; rw [hs], fun k s₁ t₁ hk => ?_⟩
   cases k with
   | zero => rw [runN_zero hk]; rfl
   | succ k => unfold PySem.runN at hk; rw [hs] at hk; cases hk
  ·rw [ht] at h; replace h := h; rw [hk] at h
   replace h := h
   cases hs : step (denote tb) p w s t with
   | halt o s₂ => rw [hs] at h; cases h
   | go s₂ t₂ =>
    rw [hs] at h
    obtain ⟨m, f, hm, hc⟩ := halted_of_topRun n s₂ t₂ s' h hl
    refine ⟨m + 1, f, by unfold PySem.runN; rw [hs]; exact hm, fun k s₁ t₁ hk' => ?_⟩
    cases k with
    | zero => rw [runN_zero hk']; exact stepOk_calm hk
    | succ k => unfold PySem.runN at hk'; rw [hs] at hk'; exact hc k s₁ t₁ hk'
  ·rw [ht] at h; replace h := h; rw [hk] at h; cases h
theorem wp_wrap {α : Type} {M : Model} {Γ : Ctx} {K : α -> Sem Fin} {H : Value -> Sem Fin} {gd : Bool -> Bool} {lv : List Value -> List Value} {Q : Fin -> Pos -> Shared -> Prop} {E : Value -> Pos -> Shared -> Prop} :
  ∀ (x : Sem α) (p : Pos) (s : Shared), Sem.wp M Γ (x.wrap K H gd lv) Q E p s -> Sem.wp M Γ x (fun a p' s' => Sem.wp M Γ (K a) Q E p' s') (fun e p' s' => Sem.wp M Γ (H e) Q E p' s') p s := by
 intro x
 induction x with
 | pure a => intro p s h; simpa only [Sem.wrap, Sem.wp] using h
 | raise e => intro p s h; simpa only [Sem.wrap, Sem.wp] using h
 | unsupported | finish | yield | fork | await | register => intro p s h; simp only [Sem.wrap, Sem.wp] at h
 | rule tag k ih => intro p s h; simp only [Sem.wrap, Sem.wp] at h ⊢; exact ih _ _ _ h
 | «at» p' k ih => intro p s h; simp only [Sem.wrap, Sem.wp] at h ⊢; exact ih _ _ _ h
 | load a part k ih => intro p s h; simp only [Sem.wrap, Sem.wp] at h ⊢; obtain ⟨o, ho, h⟩ := h; exact ⟨o, ho, ih _ _ _ h⟩
 | update a part f k ih => intro p s h; simp only [Sem.wrap, Sem.wp] at h ⊢; exact ⟨h.1, ih _ _ _ h.2⟩
 | loadIfAlive a k ih => intro p s h; simp only [Sem.wrap, Sem.wp] at h ⊢; exact ih _ _ _ h
 | point l k ih => intro p s h; simp only [Sem.wrap, Sem.wp] at h ⊢; exact ih _ _ _ h
 | alloc o k ih => intro p s h; simp only [Sem.wrap, Sem.wp] at h ⊢; exact ih _ _ _ h
 | fresh k ih => intro p s h; simp only [Sem.wrap, Sem.wp] at h ⊢; exact ih _ _ _ h
 | ask k ih => intro p s h; simp only [Sem.wrap, Sem.wp] at h ⊢; exact ih _ _ _ h
 | choose src n k ih => intro p s h; simp only [Sem.wrap, Sem.wp] at h ⊢; exact ⟨h.1, ih _ _ _ h.2⟩
 | os q l k ih => intro p s h; simp only [Sem.wrap, Sem.wp] at h ⊢; exact ih _ _ _ h
 | call c h₀ g l k ih =>
  intro p s h
  simp only [Sem.wrap, Sem.wp] at h ⊢
  exact wpCode_mono (fun r s' q => ih _ _ _ q) h
 | handled own k ih => intro p s h; simp only [Sem.wrap, Sem.wp] at h ⊢; exact ih _ _ _ h
 | genState g k ih => intro p s h; simp only [Sem.wrap, Sem.wp] at h ⊢; obtain ⟨st, e, h⟩ := h; exact ⟨st, e, ih _ _ _ h⟩
 | newGen c k ih => intro p s h; simp only [Sem.wrap, Sem.wp] at h ⊢; exact ih _ _ _ h
 | resume g r l k ih => intro p s h; simp only [Sem.wrap, Sem.wp] at h ⊢; obtain ⟨res, s', hw, h⟩ := h; exact ⟨res, s', hw, ih _ _ _ h⟩
 | stack k ih => intro p s h; simp only [Sem.wrap, Sem.wp] at h ⊢; exact ih _ _ _ h
 | thread k ih => intro p s h; simp only [Sem.wrap, Sem.wp] at h ⊢; exact ih _ _ _ h
def TopInv2 (M : Model) (Γ : Ctx) (p : Pos) (x : Sem Fin) (s s' : Shared) (r : Result) (F : Frame) : List Frame -> Prop
 | [] => match F with
  | .ret k _ _ _ c₁ p₁ _ => ∃ r1 s1, Runs M (Γ.over [F]) p x [] s (.ret r1) s1 ∧ Runs M (Γ.goto c₁) p₁ (k r1) [] s1 (.ret r) s'
  | _ => True
 | _ => True
def TopInv1 (M : Model) (Γ : Ctx) (p : Pos) (x : Sem Fin) (s s' : Shared) (F : Frame) (fs : List Frame) : End -> Prop
 | .ret r => TopInv2 M Γ p x s s' r F fs
 | _ => True
def TopInv (M : Model) (Γ : Ctx) (p : Pos) (x : Sem Fin) (s s' : Shared) (e : End) : List Frame -> Prop
 | [] => True
 | F :: fs => TopInv1 M Γ p x s s' F fs e
theorem runs_top_inv {M : Model} {Γ : Ctx} {p : Pos} {x : Sem Fin} {fs : List Frame} {s s' : Shared} {e : End} (H : Runs M Γ p x fs s e s') : TopInv M Γ p x s s' e fs := by
 refine Runs.casesOn (motive := fun Γ p x fs s e s' _ => TopInv M Γ p x s s' e fs) H ?_ ?_ ?_ ?_ ?_ ?_ ?_ ?_ ?_ ?_ ?_ ?_ ?_ ?_ ?_ ?_ ?_ ?_ ?_ ?_ ?_ ?_ ?_ ?_ ?_ ?_ ?_ ?_ ?_ ?_ ?_ ?_
 case refine_29 =>
  intro Γ p t k h g l c₁ p₁ kp fs s r s₁ e s' a b
  cases e with
  | ret r => cases fs with | nil => exact ⟨_, _, a, b⟩ | cons => trivial
  | susp => trivial
 case refine_30 => intro Γ p t g k l c₁ p₁ fs s r s₁ e s' a b; clear a b; cases e <;> cases fs <;> trivial
 case refine_32 =>
  intro Γ p t F fs pre g k c₁ p₁ rest s v g₀ l₀ k₀ c₀ p₀ fs₀ s₁ e s' h a b c
  clear a b c
  cases e with
  | ret r => cases fs with
   | nil => cases F with
    | ret => cases h
    | gen => trivial
   | cons => trivial
  | susp => trivial
 all_goals intros; trivial
theorem wp_of_seg {p : Program} {w : World} {n₀ : Nat} {ann : Option Value} {n : Nat} {s s' : Shared} {l : List Stmt} {env : Env} {c : Code} {pos q c' p'} (h : segRun treeTable p w n₀ ann 1 n s (piecesOf l env c pos [topFrame q]) = some (.next, s', c', p'))
  (hg : s'.NoSusp) : Sem.wp (model p w) (Ctx.of c [topFrame q]) (execs l env) (fun f _ s₁ => f = .next ∧ s₁ = s') (fun _ _ _ => False) pos s := by
 let K' : Flow -> Sem Fin := fun f => match f with | .next => doneF .next | _ => .unsupported ""
 obtain ⟨a, ha, hN⟩ := seg_top (res := id) (K' := K') (H' := deadEnd) (B := [topFrame q]) rfl n s (piecesOf l env c pos [topFrame q])
  ⟨(execs l env).wrap K' deadEnd id id, c, pos, [topFrame q]⟩ _ _ _ _ ⟨rfl, rfl, .inl ⟨rfl, rfl, _, rfl, rfl⟩⟩ h
 obtain rfl : a = .next := ha
 have hfin : topRun treeTable p w n₀ ann 2 s' ⟨K' .next, c', p', [topFrame q]⟩ = some s' := by
  obtain ⟨heap, gens, drawn, toks, os⟩ := s'
  rfl
 have hl : leftWithCleanup s'.gens = false := hg.noCleanup
 obtain ⟨m, f, hm, hc⟩ := halted_of_topRun _ _ _ _ (hN _ _ hfin) hl
 rw [← table_eq_tree] at hm hc
 obtain ⟨s2, hi, hf⟩ := runN_calm_runNI (denote table) p w hm hc
 have e2 : s2 = s' := Shared.eq_of_forget_eq' hf.symm hg
 subst e2
 obtain ⟨hr, _⟩ := halted_reach (M := model p w) (r := .ok f) m _ _ _ _ _ hi
 have runs := reach_runs hr
 have inner : ∃ r1, Runs (model p w) (Ctx.of c [topFrame q]) pos ((execs l env).wrap K' deadEnd id id) [] s (.ret r1) s2 := by
  obtain ⟨r1, s1, a, b⟩ := runs_top_inv runs
  have hb := (Sem.wp_iff_runs (model p w) _ (topAfter r1) (fun r' s'' => s'' = s2 ∧ ∃ f', r' = .ok f') q s1).mpr ⟨_, s2, b, rfl, _, rfl⟩
  cases r1 with
  | ok f1 =>
   have e1 : s1 = s2 := by simpa [topAfter, ret, Sem.bind, Sem.wp, Sem.finPost] using hb
   rw [← Ctx.of_append] at a
   exact ⟨_, e1 ▸ a⟩
  | error e => simp [topAfter, ret, Sem.bind, Sem.wp, Sem.finPost] at hb
 obtain ⟨r1, hruns⟩ := inner
 have hw := (Sem.wp_iff_runs (model p w) (Ctx.of c [topFrame q]) ((execs l env).wrap K' deadEnd id id) (fun _ s₁ => s₁ = s2) pos s).mpr ⟨r1, s2, hruns, rfl⟩
 refine Sem.wp_mono _ _ _ (fun a p1 s1 h1 => ?_) (fun e p1 s1 h1 => ?_) _ _ (wp_wrap _ _ _ hw)
 ·cases a with
  | next => exact ⟨rfl, by simpa [K', Sem.wp, Sem.finPost] using h1⟩
  | _ => simp [K', Sem.wp] at h1
 ·simp [Sem.wp] at h1
theorem wp_execs_app {M : Model} {Γ : Ctx} {env : Env} {Q : Flow -> Pos -> Shared -> Prop} {E : Value -> Pos -> Shared -> Prop} {rest : List Stmt} : ∀ (l : List Stmt) (p : Pos) (s : Shared),
  Sem.wp M Γ (execs l env) (fun f p' s' => match f with | .next => Sem.wp M Γ (execs rest env) Q E p' s' | f => Q f p' s') E p s -> Sem.wp M Γ (execs (l ++ rest) env) Q E p s
 | [], p, s, h => by
  rw [execs_nil] at h
  simpa only [Sem.wp_pure', List.nil_append] using h
 | st :: l, p, s, h => by
  rw [List.cons_append, execs_cons, Sem.wp_bind']
  rw [execs_cons, Sem.wp_bind'] at h
  refine Sem.wp_mono _ _ _ (fun f p' s' h' => ?_) (fun _ _ _ x => x) _ _ h
  cases f with
  | next => exact wp_execs_app l p' s' h'
  | _ => simpa only [Sem.wp_pure'] using h'
theorem step_halt_done {p : Program} {w : World} {s s' : Shared} {t : Thread} {f : Flow} (h : step (denote table) p w s t = .halt (.done f) s') (hc : t.calm = true) : s' = s ∧ through t = true := by
 refine ⟨step_halt_same _ _ _ _ _ _ _ h, ?_⟩
 have h1 : PySem.runN (denote table) p w 1 s t = .halted (.done f) s' := by simp only [PySem.runN, h]
 obtain ⟨s2, hi, _⟩ := runN_calm_runNI (denote table) p w h1 (fun k s₁ t₁ q => by
  cases k with
  | zero => simp only [PySem.runN, Run.running.injEq] at q; rw [← q.2]; exact hc
  | succ k => simp only [PySem.runN, h] at q; cases q)
 obtain ⟨cur, code, pos, stack⟩ := t
 have hi' : (model p w).runN 1 s ⟨cur, code, pos, stack⟩ = .halted (outcomeOf (.ok f)) s2 := hi
 rw [runN_succ] at hi'
 replace hi' := hi'
 cases hs : (model p w).step s ⟨cur, code, pos, stack⟩ with
 | go a b => rw [hs] at hi'; cases hi'
 | halt o s1 =>
  rw [hs] at hi'
  injection hi' with e1 e2
  subst e1
  obtain ⟨rfl, rfl, _⟩ := step_halt_result hs
  rfl
theorem sched_of_runN {p : Program} {w : World} {f : Flow} {s'' : Shared} : ∀ (n : Nat) (s : Shared) (t : Thread), PySem.runN (denote table) p w n s t = .halted (.done f) s'' →
  (∀ k s₁ t₁, PySem.runN (denote table) p w k s t = .running s₁ t₁ -> t₁.calm = true) -> s.asleep -> ∃ k t₁, schedN (denote table) p w k (.single s t) = .running (.single s'' t₁) ∧ through t₁ = true
 | 0, s, t, h, _, _ => by simp [PySem.runN] at h
 | n + 1, s, t, h, hc, hr => by
  have hcalm := hc 0 s t rfl
  simp only [PySem.runN] at h
  replace h := h
  cases hs : step (denote table) p w s t with
  | halt o s₂ =>
   rw [hs] at h
   obtain ⟨rfl, rfl⟩ : o = .done f ∧ s₂ = s'' := by simpa using h
   obtain ⟨rfl, ht⟩ := step_halt_done hs hcalm
   exact ⟨0, t, rfl, ht⟩
  | go s₂ t₂ =>
   rw [hs] at h
   have hl := step_life (denote table) p w s s₂ t t₂ hs
   obtain ⟨k, t₁, hk, ht⟩ := sched_of_runN n s₂ t₂ h (fun k s₁ t₁ q => hc (k + 1) s₁ t₁ (by simp only [PySem.runN, hs]; exact q)) (Shared.asleep_of_life hl hr)
   have e : sstep (denote table) p w (.single s t) = .go (.single s₂ t₂) := by
    rcases sstep_single (denote table) p w s t hcalm hr with e | e
    ·rw [e, hs]; rfl
    ·rw [hs] at e; cases e
   exact ⟨k + 1, t₁, by simp only [schedN, e]; exact hk, ht⟩
theorem sched_of_topGo {p : Program} {w : World} {n₀ : Nat} {ann : Option Value} {s' : Shared} {t' : Thread} : ∀ (n : Nat) (s : Shared) (t : Thread), topGo table p w n₀ ann n s t = some (s', t') -> s.asleep →
  s'.asleep ∧ s'.heap.life = s.heap.life ∧ s'.os = s.os ∧ ∀ k, schedN (denote table) p w (n + k) (.single s t) = schedN (denote table) p w k (.single s' t')
 | 0, s, t, h, hr => by
  obtain ⟨rfl, rfl⟩ : s = s' ∧ t = t' := by simpa [topGo] using h
  exact ⟨hr, rfl, rfl, fun k => by rw [Nat.zero_add]⟩
 | n + 1, s, t, h, hr => by
  unfold topGo at h
  refine bcs (through t) (fun ht => ?_) fun ht => bcs (stepOk n₀ ann t) (fun hk => ?_) fun hk => ?_
  ·rw [ht] at h; cases h
  ·rw [ht] at h; replace h := h; rw [hk] at h
   replace h := h
   cases hs : step (denote table) p w s t with
   | halt o s₂ => rw [hs] at h; cases h
   | go s₂ t₂ =>
    rw [hs] at h
    have hl := step_life (denote table) p w s s₂ t t₂ hs
    obtain ⟨a1, a2, a3, a4⟩ := sched_of_topGo n s₂ t₂ h (Shared.asleep_of_life hl hr)
    have e : sstep (denote table) p w (.single s t) = .go (.single s₂ t₂) := by
     rcases sstep_single (denote table) p w s t (stepOk_calm hk) hr with e | e
     ·rw [e, hs]; rfl
     ·rw [hs] at e; cases e
    refine ⟨a1, a2.trans hl, a3.trans (step_os_same hs ?_), fun k => ?_⟩
    ·have := (Bool.and_eq_true_iff.mp hk).2
     revert this; cases t.cur <;> simp
    ·rw [show n + 1 + k = n + k + 1 by lia]
     simp only [schedN, e]
     exact a4 k
  ·rw [ht] at h; replace h := h; rw [hk] at h; cases h
theorem top_of_wp {p : Program} {w : World} {n₀ : Nat} {ann : Option Value} {n : Nat} {s₀ Sa S' : Shared} {b : List Stmt} {env : Env} {pos q : Pos}
  (pre : topGo table p w n₀ ann n s₀ (topStub p) = some (Sa, ⟨denote table (.body b env), .body b env, pos, [topFrame q]⟩))
  (body : Sem.wp (model p w) (Ctx.of (.body b env) [topFrame q]) (denote table (.body b env)) (Sem.finPost (model p w) (Ctx.of (.body b env) [topFrame q]) (fun r s => (∃ f, r = .ok f) ∧ s = S')) (fun _ _ _ => False) pos Sa)
  (hg : S'.NoSusp) (hr : s₀.asleep) : ∃ k t, schedN (denote table) p w k (.single s₀ (topStub p)) = .running (.single S' t) ∧ through t = true := by
 obtain ⟨ha, _, _, hk⟩ := sched_of_topGo n s₀ _ pre hr
 have body' := Sem.wp_mono (model p w) _ _ (post' := Sem.finPost (model p w) (Ctx.of (.body b env) [topFrame q]) (fun r s => (∃ f, r = .ok f) ∧ s = S')) (exc' := fun e _ s' => (fun (r : Result) (s : Shared) => (∃ f, r = .ok f) ∧ s = S') (.error e) s') (fun _ _ _ x => x) (fun _ _ _ x => x.elim) _ _ body
 obtain ⟨m, r, s1, c1, p1, hm, ⟨f, rfl⟩, rfl⟩ := wp_runN body'
 have hhalt : (model p w).runN (m + 2) Sa ⟨denote table (.body b env), .body b env, pos, [topFrame q]⟩ = .halted (outcomeOf (.ok (.ret .none))) s1 := by
  have h1 : (model p w).runN (m + 1) Sa ⟨denote table (.body b env), .body b env, pos, [topFrame q]⟩ = .running s1 ⟨topAfter (.ok f), .builtin "claim.caller" {}, q, []⟩ := by
   rw [runN_snoc hm, step_leaf_ret]
  rw [show m + 2 = m + 1 + 1 from rfl, runN_snoc h1]
  have h2 : (model p w).step s1 ⟨topAfter (.ok f), .builtin "claim.caller" {}, q, []⟩ = .halt (.done (.ret .none)) s1 := by
   show (model p w).step s1 ⟨leafOf (.ok (.ret .none)), .builtin "claim.caller" {}, q, []⟩ = _
   rw [step_leaf_nil]
   simp only [finish, hg.noCleanup]
   rfl
  rw [h2]
  rfl
 obtain ⟨s2, h2, hf, hc⟩ := runNI_real (denote table) p w hhalt rfl
 have e2 : s2 = s1 := Shared.eq_of_forget_eq' hf hg
 subst e2
 obtain ⟨k, t1, h3, ht⟩ := sched_of_runN _ _ _ h2 hc ha
 exact ⟨n + k, t1, (hk k).trans h3, ht⟩
theorem wp_body {p : Program} {w : World} {Γ : Ctx} {b : List Stmt} {env : Env} {R : Result -> Shared -> Prop} {pos : Pos} {s : Shared}
  (h : Sem.wp (model p w) Γ (blockStart b env) (fun _ p' s' => Sem.wp (model p w) Γ (execs b env) (fun f _ s₂ => R (.ok f) s₂) (fun _ _ _ => False) p' s') (fun _ _ _ => False) pos s) :
  Sem.wp (model p w) Γ (denote table (.body b env)) (Sem.finPost (model p w) Γ R) (fun _ _ _ => False) pos s := by
 show Sem.wp (model p w) Γ ((blockStart b env) >>= fun _ => ((execs b env).onRaise («leaving» env)) >>= fun f => (pure (Fin.done f) : Sem Fin)) _ _ pos s
 rw [Sem.wp_bind']
 refine Sem.wp_mono _ _ _ (fun _ p' s' h' => ?_) (fun _ _ _ x => x) _ _ h
 rw [Sem.wp_bind', Sem.wp_onRaise]
 refine Sem.wp_mono _ _ _ (fun f p2 s2 h2 => ?_) (fun _ _ _ x => x.elim) _ _ h'
 rw [Sem.wp_pure']
 exact h2
theorem wp_life {p : Program} {w : World} {c : Code} {q : Pos} {x : Sem Flow} {Q : QF} {pos : Pos} {s : Shared} (hg : ∀ f s', Q f s' -> s'.NoSusp)
  (h : Sem.wp (model p w) (Ctx.of c [topFrame q]) x (fun f _ s' => Q f s') (fun _ _ _ => False) pos s) :
  Sem.wp (model p w) (Ctx.of c [topFrame q]) x (fun f _ s' => Q f s' ∧ s'.heap.life = s.heap.life) (fun _ _ _ => False) pos s := by
 let y : Sem Fin := x >>= fun f => pure (.done f)
 have hy : ∀ R : Result -> Shared -> Prop, Sem.wp (model p w) (Ctx.of c [topFrame q]) x (fun f _ s' => R (.ok f) s') (fun e _ s' => R (.error e) s') pos s ↔
   Sem.wp (model p w) (Ctx.of c [topFrame q]) y (Sem.finPost (model p w) (Ctx.of c [topFrame q]) R) (fun e _ s' => R (.error e) s') pos s := fun R => by
  show _ ↔ Sem.wp _ _ (x >>= fun f => (pure (Fin.done f) : Sem Fin)) _ _ pos s
  rw [Sem.wp_bind']
  simp only [Sem.wp_pure']
  rfl
 let R0 : Result -> Shared -> Prop := fun r s' => match r with | .ok f => Q f s' | .error _ => False
 obtain ⟨r, s1, hruns, hR⟩ := (Sem.wp_iff_runs (model p w) (Ctx.of c [topFrame q]) y R0 pos s).mp ((hy R0).mp h)
 have h2 := (Sem.wp_iff_runs (model p w) (Ctx.of c [topFrame q]) y (fun r' s' => r' = r ∧ s' = s1) pos s).mpr ⟨r, s1, hruns, rfl, rfl⟩
 have hl : s1.heap.life = s.heap.life := by
  obtain ⟨m, r', s', c1, p1, hm, ⟨rfl, rfl⟩⟩ := wp_runN h2
  cases r' with
  | error e => exact hR.elim
  | ok f =>
   have hhalt : (model p w).runN (m + 2) s ⟨y, c, pos, [topFrame q]⟩ = .halted (outcomeOf (.ok (.ret .none))) s' := by
    have h1 : (model p w).runN (m + 1) s ⟨y, c, pos, [topFrame q]⟩ = .running s' ⟨topAfter (.ok f), .builtin "claim.caller" {}, q, []⟩ := by
     rw [runN_snoc hm, step_leaf_ret]
    rw [show m + 2 = m + 1 + 1 from rfl, runN_snoc h1]
    have h2 : (model p w).step s' ⟨topAfter (.ok f), .builtin "claim.caller" {}, q, []⟩ = .halt (.done (.ret .none)) s' := by
     show (model p w).step s' ⟨leafOf (.ok (.ret .none)), .builtin "claim.caller" {}, q, []⟩ = _
     rw [step_leaf_nil]
     simp only [finish, (hg f s' hR).noCleanup]
     rfl
    rw [h2]
    rfl
   obtain ⟨s2, h2', hf, hc⟩ := runNI_real (denote table) p w hhalt rfl
   have e2 : s2 = s' := Shared.eq_of_forget_eq' hf (hg f s' hR)
   subst e2
   exact runN_life _ _ _ h2'
 refine Sem.wp_mono _ _ _ (fun f _ s' q => ?_) (fun _ _ _ q => ?_) _ _ ((hy (fun r' s' => r' = r ∧ s' = s1)).mpr h2)
 ·obtain ⟨e, rfl⟩ := q
  subst e
  exact ⟨hR, hl⟩
 ·obtain ⟨e, rfl⟩ := q
  subst e
  exact hR
noncomputable def inX (b : Nat) : Bool := Nat.ble 406 b && Nat.blt b 455
noncomputable def put (O : Nat -> Obj) (t : BT) : Nat -> Nat -> BT :=
 @BT.rec (fun _ => Nat -> Nat -> BT) (fun _ _ => .nil) (fun v _ _ ihl ihr a b => .node (@Bool.rec (fun _ => Obj) v (O b) (inX b)) (ihl (Nat.mul 2 a) (Nat.add a b)) (ihr (Nat.mul 2 a) (Nat.add (Nat.mul 2 a) b))) t
noncomputable def ovr (f : Nat -> Bool) (O : Nat -> Obj) (t : BT) : Nat -> Nat -> BT :=
 @BT.rec (fun _ => Nat -> Nat -> BT) (fun _ _ => .nil) (fun v _ _ ihl ihr a b => .node (@Bool.rec (fun _ => Obj) v (O b) (f b)) (ihl (Nat.mul 2 a) (Nat.add a b)) (ihr (Nat.mul 2 a) (Nat.add (Nat.mul 2 a) b))) t
theorem put_ovr (O : Nat -> Obj) (t : BT) (a b : Nat) : put O t a b = ovr inX O t a b := rfl
theorem ovr_node (f : Nat -> Bool) (O : Nat -> Obj) (v : Obj) (l r : BT) (a b : Nat) : ovr f O (.node v l r) a b = .node (if f b = true then O b else v) (ovr f O l (2 * a) (a + b)) (ovr f O r (2 * a) (2 * a + b)) := by
 show BT.node (@Bool.rec (fun _ => Obj) v (O b) (f b)) _ _ = _
 cases f b <;> rfl
theorem get_ovr (f : Nat -> Bool) (O : Nat -> Obj) : ∀ (t : BT) (a b i : Nat), (ovr f O t a b).get i = (t.get i).map fun o => if f (a * i + b) = true then O (a * i + b) else o
 | .nil, a, b, i => rfl
 | .node v l r, a, b, i => by
  rw [ovr_node, BT.get_node, BT.get_node]
  by_cases h0 : i = 0
  ·subst h0
   rw [if_pos rfl, if_pos rfl, Nat.mul_zero, Nat.zero_add]
   rfl
  ·rw [if_neg h0, if_neg h0]
   by_cases p : i % 2 = 1
   ·rw [if_pos p, if_pos p, get_ovr f O l]
    have e : 2 * a * (i / 2) + (a + b) = a * i + b := by
     have hj : i = 2 * (i / 2) + 1 := by lia
     generalize i / 2 = q at hj
     subst hj
     rw [Nat.mul_add, Nat.mul_one, ← Nat.mul_assoc, Nat.mul_comm a 2]; lia
    rw [e]
   ·rw [if_neg p, if_neg p, get_ovr f O r]
    have e : 2 * a * (i / 2 - 1) + (2 * a + b) = a * i + b := by
     have hj : i = 2 * (i / 2 - 1) + 2 := by lia
     generalize i / 2 - 1 = q at hj
     subst hj
     rw [Nat.mul_add, ← Nat.mul_assoc, Nat.mul_comm a 2]; lia
    rw [e]
theorem get_ovr1 (f : Nat -> Bool) (O : Nat -> Obj) (t : BT) (i : Nat) : (ovr f O t 1 0).get i = (t.get i).map fun o => if f i = true then O i else o := by
 have := get_ovr f O t 1 0 i
 simpa using this
theorem heap_is {h : Heap} {t : BT} {n : Nat} {life : Life} (hs : h.objs.size = n) (hl : h.life = life) (e : ∀ b, b < n -> h.objs[b]? = some ((t.get b).getD default)) : h = absHeap t n life := by
 obtain ⟨objs, l⟩ := h
 have hl : l = life := hl
 have : objs = (absHeap t n life).objs := by
  apply Array.ext
  ·exact hs.trans (absHeap_size t n life).symm
  ·intro b h1 h2
   have q := e b (hs ▸ h1)
   have q2 := absHeap_at t n life b
   rw [if_pos (hs ▸ h1)] at q2
   have : objs[b]? = (absHeap t n life).objs[b]? := q.trans q2.symm
   rw [Array.getElem?_eq_getElem h1, Array.getElem?_eq_getElem h2] at this
   exact Option.some.inj this
 rw [this, hl]
 rfl
theorem objs_of_get {h : Heap} {b : Addr} {o : Obj} (e : h.get? b = some o) : h.objs[b]? = some o := by
 unfold Heap.get? at e
 split at e
 ·cases e
 ·exact e
noncomputable def fillO : Nat -> Nat -> List (Nat × Obj) -> Obj -> Obj -> List Obj
 | 0, _, _, _, _ => []
 | k + 1, a, l, M, C => @Bool.rec (fun _ => List Obj) (@Bool.rec (fun _ => List Obj) (match l with
   | (_, o) :: r => @Bool.rec (fun _ => Obj) (@Bool.rec (fun _ => Obj) o C (Nat.beq a 64)) M (Nat.beq a 3) :: fillO k (Nat.succ a) r M C
   | [] => []) (gO .none [] :: fillO k (Nat.succ a) l M C) (Nat.beq a 685)) (gO .none [] :: fillO k (Nat.succ a) l M C) (inX a)
noncomputable def btOf (l : List Obj) : BT := (l.foldl (fun (x : BT × Nat) o => (x.1.ins x.2 o, Nat.succ x.2)) (BT.nil, 0)).1
noncomputable def mEs (P : Params) : List DictEntry := match (Kf P).lookup 3 with | some ⟨_, _, .dict es _, _⟩ => es.toList | _ => []
noncomputable def cFs (P : Params) : List Value := match (Kf P).lookup 64 with | some ⟨_, _, .fields vs, _⟩ => vs.toList | _ => []
noncomputable def mOb (P : Params) (k : Nat) (v : Value) : Obj := dO ((qe P "__name__" 165 v :: (mEs P).drop 1).take k)
noncomputable def oL (P : Params) (n k : Nat) (v : Value) (c : Nat) : List Obj := fillO n 0 (Kf P) (mOb P k v) (gO .none ((cFs P).take c))
@[irreducible] noncomputable def tT (P : Params) (n k : Nat) (v : Value) (c : Nat) : BT := btOf (oL P n k v c)
noncomputable def bdS (i j : Nat) : List Stmt := ((behindTheImports pw).drop i).take (j - i)
noncomputable def env1 : Env := { scope := pw.main.scope, locals := mainNs, globals := mainNs, cells := [], code := .ref 65, frame := some 66 }
@[reducible] noncomputable def q0 : Pos := { line := 0, col := 0, endLine := 0, endCol := 0 }
@[reducible] noncomputable def sT (T : BT) (n t : Nat) (os : OsState) : SharedT := { tree := T, n := n, life := {}, gens := { toList := [] }, drawn := {}, toks := t, os := os }
@[reducible] noncomputable def sU (T : BT) (n t : Nat) (os : OsState) : SharedT := { tree := T, n := n, life := {}, gens := { toList := [GenState.finished] }, drawn := {}, toks := t, os := os }
noncomputable abbrev SR (p : Program) (w : World) (N : Nat) (S : SharedT) (i j : Nat) (b : List Stmt) (pos : Pos) := PySem.W.Fast.tw10110043849684766642 PySem.W.Fast.tw14364793385576792824 p w 63 (some (Value.ref 6)) 1 N S (piecesOf (bdS i j) env1 (Code.body b env1) pos [topFrame q0])
theorem SR_eq : @SR = fun p w N S i j b pos => segRunT treeTable p w 63 (some (Value.ref 6)) 1 N S (piecesOf (bdS i j) env1 (Code.body b env1) pos [topFrame q0]) := by
 unfold SR
 simp only [← PySem.W.Fast.te10110043849684766642, ← PySem.W.Fast.te14364793385576792824]
abbrev SRis (w : World) (N i j : Nat) (S S' : OsState -> SharedT) (ps : Pos) : Prop := (fun p b os pos => SR p w N (S os) i j b pos) = fun _ b os _ => some (Flow.next, S' os, Code.body b env1, ps)
theorem pa0 : ∀ w : World, SRis w 380 0 5 (sT (tT w.params 67 17 (qs "__main__" 164) 0) 67 488) (sT (tT w.params 117 21 (qs "cpy313.heapq" 535) 12) 117 556) ⟨19, 0, 27, 18⟩ := fun w => by kernel_rfl
theorem pa1 : ∀ w : World, SRis w 396 5 31 (sT (tT w.params 117 21 (qs "cpy313.heapq" 535) 12) 117 556) (sT (tT w.params 166 46 (qs "cpy313.stat" 610) 33) 166 664) ⟨107, 0, 107, 7⟩ := fun w => by kernel_rfl
theorem pa2 : ∀ w : World, SRis w 215 31 35 (sT (tT w.params 166 46 (qs "cpy313.stat" 610) 33) 166 664) (sT (tT w.params 206 49 (qs "cpy313.tomllib._re" 705) 36) 206 707) ⟨128, 0, 128, 8⟩ := fun w => by kernel_rfl
theorem pa3f : ∀ w : World, SRis (w.withFollow "special-get-raises" false) 312 35 36 (sT (tT (w.withFollow "special-get-raises" false).params 206 49 (qs "cpy313.tomllib._re" 705) 36) 206 707) (sT (tT (w.withFollow "special-get-raises" false).params 211 50 (qs "cpy313.tomllib._re" 705) 36) 211 963) ⟨129, 0, 129, 9⟩ := fun w => by kernel_rfl
theorem pa3t : ∀ w : World, SRis (w.withFollow "special-get-raises" true) 312 35 36 (sT (tT (w.withFollow "special-get-raises" true).params 206 49 (qs "cpy313.tomllib._re" 705) 36) 206 707) (sT (tT (w.withFollow "special-get-raises" true).params 211 50 (qs "cpy313.tomllib._re" 705) 36) 211 963) ⟨129, 0, 129, 9⟩ := fun w => by kernel_rfl
theorem pa3 : ∀ w : World, SRis w 312 35 36 (sT (tT w.params 206 49 (qs "cpy313.tomllib._re" 705) 36) 206 707) (sT (tT w.params 211 50 (qs "cpy313.tomllib._re" 705) 36) 211 963) ⟨129, 0, 129, 9⟩ := byRow2 "special-get-raises" (pa3f ) (pa3t )
theorem pa4 : ∀ w : World, SRis w 157 36 37 (sT (tT w.params 211 50 (qs "cpy313.tomllib._re" 705) 36) 211 963) (sT (tT w.params 216 51 (qs "cpy313.tomllib._re" 705) 36) 216 1076) ⟨130, 0, 130, 12⟩ := fun w => by kernel_rfl
theorem pa5 : ∀ w : World, SRis w 398 37 39 (sT (tT w.params 216 51 (qs "cpy313.tomllib._re" 705) 36) 216 1076) (sT (tT w.params 228 53 (qs "cpy313.tomllib._re" 705) 39) 228 1408) ⟨132, 0, 150, 75⟩ := fun w => by kernel_rfl
theorem pa6 : ∀ w : World, SRis w 76 39 43 (sT (tT w.params 228 53 (qs "cpy313.tomllib._re" 705) 39) 228 1408) (sT (tT w.params 238 56 (qs "functools" 1408) 42) 238 1431) ⟨154, 0, 209, 18⟩ := fun w => by kernel_rfl
theorem pa7 : ∀ w : World, SRis w 730 43 44 (sT (tT w.params 238 56 (qs "functools" 1408) 42) 238 1431) (sT (tT w.params 305 57 (qs "functools" 1408) 45) 305 1542) ⟨210, 0, 250, 69⟩ := fun w => by kernel_rfl
theorem pa8f : ∀ w : World, SRis (w.withFollow "special-get-raises" false) 730 44 48 (sT (tT (w.withFollow "special-get-raises" false).params 305 57 (qs "functools" 1408) 45) 305 1542) (sT (tT (w.withFollow "special-get-raises" false).params 349 60 (qs "cpy313.tomllib._re" 1557) 51) 349 1626) ⟨271, 0, 273, 90⟩ := fun w => by kernel_rfl
theorem pa8t : ∀ w : World, SRis (w.withFollow "special-get-raises" true) 730 44 48 (sT (tT (w.withFollow "special-get-raises" true).params 305 57 (qs "functools" 1408) 45) 305 1542) (sT (tT (w.withFollow "special-get-raises" true).params 349 60 (qs "cpy313.tomllib._re" 1557) 51) 349 1626) ⟨271, 0, 273, 90⟩ := fun w => by kernel_rfl
theorem pa8 : ∀ w : World, SRis w 730 44 48 (sT (tT w.params 305 57 (qs "functools" 1408) 45) 305 1542) (sT (tT w.params 349 60 (qs "cpy313.tomllib._re" 1557) 51) 349 1626) ⟨271, 0, 273, 90⟩ := byRow2 "special-get-raises" (pa8f ) (pa8t )
theorem pa9 : ∀ w : World, SRis w 397 48 52 (sT (tT w.params 349 60 (qs "cpy313.tomllib._re" 1557) 51) 349 1626) (sT (tT w.params 406 63 (qs "cpy313.tomllib._parser" 1646) 60) 406 1705) ⟨283, 0, 300, 54⟩ := fun w => by kernel_rfl
theorem pb0f (O : Nat -> Obj) : ∀ w : World, SRis (w.withFollow "special-get-raises" false) 380 70 75 (sU (put O (tT (w.withFollow "special-get-raises" false).params 455 81 (qs "cpy313.tomllib._parser" 1646) 63) 1 0) 455 2071) (sU (put O (tT (w.withFollow "special-get-raises" false).params 471 84 (qs "cpy313.tomllib._parser" 2075) 66) 1 0) 471 2119) ⟨323, 0, 324, 58⟩ := fun w => by kernel_rfl
theorem pb0t (O : Nat -> Obj) : ∀ w : World, SRis (w.withFollow "special-get-raises" true) 380 70 75 (sU (put O (tT (w.withFollow "special-get-raises" true).params 455 81 (qs "cpy313.tomllib._parser" 1646) 63) 1 0) 455 2071) (sU (put O (tT (w.withFollow "special-get-raises" true).params 471 84 (qs "cpy313.tomllib._parser" 2075) 66) 1 0) 471 2119) ⟨323, 0, 324, 58⟩ := fun w => by kernel_rfl
theorem pb0 (O : Nat -> Obj) : ∀ w : World, SRis w 380 70 75 (sU (put O (tT w.params 455 81 (qs "cpy313.tomllib._parser" 1646) 63) 1 0) 455 2071) (sU (put O (tT w.params 471 84 (qs "cpy313.tomllib._parser" 2075) 66) 1 0) 471 2119) ⟨323, 0, 324, 58⟩ := byRow2 "special-get-raises" (pb0f O ) (pb0t O )
theorem pb1 (O : Nat -> Obj) : ∀ w : World, SRis w 46 75 76 (sU (put O (tT w.params 471 84 (qs "cpy313.tomllib._parser" 2075) 66) 1 0) 471 2119) (sU (put O (tT w.params 479 85 (qs "cpy313.tomllib._parser" 2075) 69) 1 0) 479 2135) ⟨325, 0, 365, 24⟩ := fun w => by kernel_rfl
theorem pb2 (O : Nat -> Obj) : ∀ w : World, SRis w 422 76 77 (sU (put O (tT w.params 479 85 (qs "cpy313.tomllib._parser" 2075) 69) 1 0) 479 2135) (sU (put O (tT w.params 535 86 (qs "cpy313.tomllib._parser" 2075) 72) 1 0) 535 2225) ⟨366, 0, 417, 20⟩ := fun w => by kernel_rfl
theorem pb3 (O : Nat -> Obj) : ∀ w : World, SRis w 297 77 78 (sU (put O (tT w.params 535 86 (qs "cpy313.tomllib._parser" 2075) 72) 1 0) 535 2225) (sU (put O (tT w.params 571 87 (qs "cpy313.tomllib._parser" 2075) 75) 1 0) 571 2276) ⟨418, 0, 444, 33⟩ := fun w => by kernel_rfl
theorem pb4 (O : Nat -> Obj) : ∀ w : World, SRis w 900 78 79 (sU (put O (tT w.params 571 87 (qs "cpy313.tomllib._parser" 2075) 75) 1 0) 571 2276) (sU (put O (tT w.params 642 88 (qs "cpy313.tomllib._parser" 2075) 78) 1 0) 642 2391) ⟨445, 0, 486, 61⟩ := fun w => by kernel_rfl
theorem pb5 (O : Nat -> Obj) : ∀ w : World, SRis w 397 79 91 (sU (put O (tT w.params 642 88 (qs "cpy313.tomllib._parser" 2075) 78) 1 0) 642 2391) (sU (put O (tT w.params 726 100 (qs "cpy313.tomllib._parser" 2075) 114) 1 0) 726 2523) ⟨618, 0, 636, 35⟩ := fun w => by kernel_rfl
theorem pb6 (O : Nat -> Obj) : ∀ w : World, SRis w 385 91 103 (sU (put O (tT w.params 726 100 (qs "cpy313.tomllib._parser" 2075) 114) 1 0) 726 2523) (sU (put O (tT w.params 804 111 (qs "law_ik0240_01" 2652) 147) 1 0) 804 2654) ⟨830, 0, 830, 8⟩ := fun w => by kernel_rfl
theorem pb7 (O : Nat -> Obj) : ∀ w : World, SRis w 213 103 110 (sU (put O (tT w.params 804 111 (qs "law_ik0240_01" 2652) 147) 1 0) 804 2654) (sU (put O (tT w.params 849 118 (qs "law_ik0240_01" 2652) 168) 1 0) 849 2716) ⟨910, 0, 913, 51⟩ := fun w => by kernel_rfl
noncomputable def sgs (l : List Nat) : List Str := l.map sg
noncomputable def ctrlL : List Nat := List.range 32 ++ [127]
@[reducible] noncomputable def pn (w : World) (x : Str) (t : Nat) (v : Value) (M : Obj) : Obj := Obj.putName x (hashStr w x) (.str x t) v M
theorem up_eq {mg : Str -> Option Value} {x : Str} {v : Value} : upB mg x v x = some v := if_pos rfl
theorem up_ne {mg : Str -> Option Value} {x z : Str} {v : Value} {r : Option Value} (hne : z ≠ x) (h : mg z = r) : upB mg x v z = r := (if_neg hne).trans h
set_option hygiene false in
local macro_rules | `(tactic| walk_at "k") => `(tactic| first | with_reducible exact up_eq | (refine up_ne (by decide) ?_; walk_at "k") | assumption)
set_option hygiene false in
local macro_rules | `(tactic| walk_at "m") => `(tactic| first | exact List.Mem.head _ | (refine List.Mem.tail _ ?_; walk_at "m") | assumption)
noncomputable def illB : List Nat := ctrlL.filter (· != 9)
noncomputable def illM : List Nat := ctrlL.filter fun c => c != 9 && c != 10
noncomputable def wsL : List Nat := [32, 9]
noncomputable def wsnlL : List Nat := [32, 9, 10]
noncomputable def bareL : List Nat := (List.range 26).map (97 + ·) ++ (List.range 26).map (65 + ·) ++ (List.range 10).map (48 + ·) ++ [45, 95]
noncomputable def initL : List Nat := bareL ++ [34, 39]
structure SetsFS (w : World) (h : Heap) : Prop where
 basic : FS w h 427 (sgs illB)
 multi : FS w h 432 (sgs illM)
 ws : FS w h 433 (sgs wsL)
 wsnl : FS w h 441 (sgs wsnlL)
 bare : FS w h 442 (sgs bareL)
 init : FS w h 450 (sgs initL)
noncomputable def mainRows : List (Str × Nat × Value) := [("ILLEGAL_BASIC_STR_CHARS", 1855, .ref 427), ("ILLEGAL_MULTILINE_BASIC_STR_CHARS", 1861, .ref 432), ("ILLEGAL_LITERAL_STR_CHARS", 1862, .ref 427), ("ILLEGAL_MULTILINE_LITERAL_STR_CHARS", 1863, .ref 432),
 ("ILLEGAL_COMMENT_CHARS", 1864, .ref 427), ("TOML_WS", 1870, .ref 433), ("TOML_WS_AND_NEWLINE", 1874, .ref 441), ("ascii_lowercase", 1876, .str "abcdefghijklmnopqrstuvwxyz" 1875), ("ascii_uppercase", 1878, .str "ABCDEFGHIJKLMNOPQRSTUVWXYZ" 1877),
 ("ascii_letters", 1880, .str (("abcdefghijklmnopqrstuvwxyz" : Str) ++ ("ABCDEFGHIJKLMNOPQRSTUVWXYZ" : Str)) 1879), ("digits", 1882, .str "0123456789" 1881), ("hexdigits", 1887, .str ((("0123456789" : Str) ++ ("abcdef" : Str)) ++ ("ABCDEF" : Str)) 1886),
 ("BARE_KEY_CHARS", 2019, .ref 442), ("KEY_INITIAL_CHARS", 2025, .ref 450), ("HEXDIGIT_CHARS", 2070, .ref 451)]
noncomputable def putRows (w : World) (rows : List (Str × Nat × Value)) (M : Obj) : Obj := rows.foldl (fun M r => Obj.putName r.1 (hashStr w r.1) (.str r.1 r.2.1) r.2.2 M) M
noncomputable def midB : List Stmt := [sA 59, sA 60, sA 61, sA 62, sA 63, sA 64, sA 65, sA 66, sA 67, sA 68, sA 69, sA 70, sA 71, sA 72, sA 73]
section
variable {w : World} {h0 : Heap} {mg mb : Str -> Option Value} {M X : Obj} {n t : Nat} {g : Array GenState} {dr : Drawn} {os : OsState} {s : Shared} {A : Around} {E : QV}
theorem FS.eq {h : Heap} {a : Addr} {l l' : List Str} (F : FS w h a l) (e : l = l') : FS w h a l' := e ▸ F
theorem Blk.num {n' t' : Nat} {Fs : List (Addr × List Str)} (S : Blk w h0 mg M X Fs n t g dr os s) (h1 : n = n') (h2 : t = t') : Blk w h0 mg M X Fs n' t' g dr os s := h1 ▸ h2 ▸ S
noncomputable def upRows (rows : List (Str × Nat × Value)) (mg : Str -> Option Value) : Str -> Option Value := rows.foldl (fun m r => upB m r.1 r.2.2) mg
noncomputable def lkRows (rows : List (Str × Nat × Value)) (x : Str) : Option Value := rows.foldl (fun o r => if x = r.1 then some r.2.2 else o) none
theorem upRows_at (mg0 : Str -> Option Value) (x : Str) (rows : List (Str × Nat × Value)) : ∀ (mg : Str -> Option Value) (o : Option Value), mg x = o.or (mg0 x) →
  rows.foldl (fun m r => upB m r.1 r.2.2) mg x = (rows.foldl (fun o r => if x = r.1 then some r.2.2 else o) o).or (mg0 x) := by
 induction rows with
 | nil => exact fun _ _ h => h
 | cons r rows ih =>
  intro mg o h
  refine ih _ _ ?_
  show ite (x = r.1) _ _ = Option.or (ite (x = r.1) _ _) _
  by_cases c : x = r.1
  ·rw [if_pos c, if_pos c]; rfl
  ·rw [if_neg c, if_neg c]; exact h
theorem upRows_eq {rows : List (Str × Nat × Value)} {x : Str} {v : Value} (h : lkRows rows x = some v) : upRows rows mg x = some v := (upRows_at mg x rows mg none rfl).trans (by rw [show rows.foldl _ none = some v from h]; rfl)
theorem upRows_ne {rows : List (Str × Nat × Value)} {x : Str} (h : lkRows rows x = none) : upRows rows mg x = mg x := (upRows_at mg x rows mg none rfl).trans (by rw [show rows.foldl _ none = none from h]; rfl)
theorem Blk.row {k : Nat} (k' : Nat) {x : Str} {t t' n' tt : Nat} {v : Value} {Fs : List (Addr × List Str)} (S : Blk w h0 (upB (upRows (mainRows.take k) mg) x v) (Obj.putName x (hashStr w x) (.str x tt) v (putRows w (mainRows.take k) M)) X Fs n t g dr os s)
  (e : mainRows.take k' = mainRows.take k ++ [(x, tt, v)]) (h1 : n = n') (h2 : t = t') : Blk w h0 (upRows (mainRows.take k') mg) (putRows w (mainRows.take k') M) X Fs n' t' g dr os s := by
 rw [e]
 unfold upRows putRows
 rw [List.foldl_append, List.foldl_append]
 exact h1 ▸ h2 ▸ S
set_option hygiene false in
local macro_rules | `(tactic| walk_at "k") => `(tactic| first | exact upRows_eq rfl | (refine (upRows_ne rfl).trans ?_; assumption))
theorem mid_spec {Q : QF} (S : Blk w h0 mg M X [(422, sgs ctrlL)] 423 1852 g dr os s) (hh : A.handled = none) (hA : mg "ASCII_CTRL" = some (.ref 422)) (hf : mg "frozenset" = none) (hb : h0.Ns builtinsNs mb) (hbf : mb "frozenset" = some (.type "frozenset"))
  (h : ∀ s' mg', Blk w h0 mg' (putRows w mainRows M) X [] 455 2071 g dr os s' -> SetsFS w s'.heap -> Q .next s') :
  wpAny (model pw w) A (execs midB env1) Q E s := by
 replace S : Blk w h0 (upRows (mainRows.take 0) mg) (putRows w (mainRows.take 0) M) X [(422, sgs ctrlL)] 423 1852 g dr os s := S
 refine zC <| zN <| zB <| b_name S (by walk_at "k") (b_call S (by walk_at "k") hb hbf (by rfl) (b_str S fun s S => b_fz S hh (by decide +kernel) (by decide +kernel) (by decide) (by decide) fun s S => ?_) (by rfl) (by rfl) (by rfl)) (by rfl) (by rfl)
 replace S := S.num (n' := 427) (t' := 1855) rfl rfl
 refine b_sub S (.tail _ (.head _)) (.head _) (by decide) (by decide +kernel) (by decide +kernel) (by decide +kernel) (by decide +kernel) (by decide +kernel) (by decide +kernel) (by decide +kernel) (by decide +kernel) (by decide) fun s S => b_store S (fun s S => ?_) (by rfl)
 replace S := S.row 1 (n' := 428) (t' := 1856) rfl rfl rfl
 refine zC <| zN <| zB <| b_name S (by walk_at "k") (b_call S (by walk_at "k") hb hbf (by rfl) (b_str S fun s S => b_fz S hh (by decide +kernel) (by decide +kernel) (by decide) (by decide) fun s S => ?_) (by rfl) (by rfl) (by rfl)) (by rfl) (by rfl)
 replace S := S.num (n' := 432) (t' := 1861) rfl rfl
 refine b_sub S (.tail _ (.tail _ (.tail _ (.head _)))) (.head _) (by decide) (by decide +kernel) (by decide +kernel) (by decide +kernel) (by decide +kernel) (by decide +kernel) (by decide +kernel) (by decide +kernel) (by decide +kernel) (by decide) fun s S => b_store S (fun s S => ?_) (by rfl)
 replace S := S.row 2 (n' := 433) (t' := 1862) rfl rfl rfl
 refine zC <| zN <| b_name S (by walk_at "k") (b_store S (fun s S => ?_) (by rfl)) (by rfl) (by rfl)
 replace S := S.row 3 (n' := 433) (t' := 1863) rfl rfl rfl
 refine zC <| zN <| b_name S (by walk_at "k") (b_store S (fun s S => ?_) (by rfl)) (by rfl) (by rfl)
 replace S := S.row 4 (n' := 433) (t' := 1864) rfl rfl rfl
 refine zC <| zN <| b_name S (by walk_at "k") (b_store S (fun s S => ?_) (by rfl)) (by rfl) (by rfl)
 replace S := S.row 5 (n' := 433) (t' := 1865) rfl rfl rfl
 refine zC <| zN <| ?_
 refine b_call S (by walk_at "k") hb hbf (by rfl) (b_str S fun s S => b_fz S hh (by decide +kernel) (by decide +kernel) (by decide) (by decide) fun s S => ?_) (by rfl) (by rfl) (by rfl)
 replace S := S.num (n' := 437) (t' := 1870) rfl rfl
 refine b_store S (fun s S => ?_) (by rfl)
 replace S := S.row 6 (n' := 437) (t' := 1871) rfl rfl rfl
 refine zC <| zN <| zB <| b_name S (by walk_at "k") (b_call S (by walk_at "k") hb hbf (by rfl) (b_str S fun s S => b_fz S hh (by decide +kernel) (by decide +kernel) (by decide) (by decide) fun s S => ?_) (by rfl) (by rfl) (by rfl)) (by rfl) (by rfl)
 replace S := S.num (n' := 441) (t' := 1874) rfl rfl
 refine b_or S (.tail _ (.head _)) (.head _) (by decide) (by decide +kernel) (by decide +kernel) (by decide +kernel) (by decide +kernel) (by decide +kernel) (by decide +kernel) (by decide +kernel) (by decide +kernel) (by decide +kernel) (by decide +kernel) (by decide) fun s S => b_store S (fun s S => ?_) (by rfl)
 replace S := S.row 7 (n' := 442) (t' := 1875) rfl rfl rfl
 refine zC <| zN <| b_str S fun s S => b_store S (fun s S => ?_) (by rfl)
 replace S := S.row 8 (n' := 442) (t' := 1877) rfl rfl rfl
 refine zC <| zN <| b_str S fun s S => b_store S (fun s S => ?_) (by rfl)
 replace S := S.row 9 (n' := 442) (t' := 1879) rfl rfl rfl
 refine zC <| zN <| zB <| b_name S (by walk_at "k") (b_name S (by walk_at "k") (b_add S (by decide) (by decide) (by decide) fun s S => b_store S (fun s S => ?_) (by rfl)) (by rfl) (by rfl)) (by rfl) (by rfl)
 replace S := S.row 10 (n' := 442) (t' := 1881) rfl rfl rfl
 refine zC <| zN <| b_str S fun s S => b_store S (fun s S => ?_) (by rfl)
 replace S := S.row 11 (n' := 442) (t' := 1883) rfl rfl rfl
 refine zC <| zN <| zB <| zB <| b_name S (by walk_at "k") (b_str S fun s S => b_add S (by decide) (by decide) (by decide) fun s S => b_str S fun s S => b_add S (by decide) (by decide) (by decide) fun s S => b_store S (fun s S => ?_) (by rfl)) (by rfl) (by rfl)
 replace S := S.row 12 (n' := 442) (t' := 1888) rfl rfl rfl
 refine zC <| zN <| b_call S (by walk_at "k") hb hbf (by rfl) (zB <| zB <| b_name S (by walk_at "k") (b_name S (by walk_at "k") (b_add S (by decide) (by decide) (by decide) fun s S => b_str S fun s S => b_add S (by decide) (by decide) (by decide) fun s S => b_fz S hh (by decide +kernel) (by decide +kernel) (by decide) (by decide) fun s S => b_store S (fun s S => ?_) (by rfl)) (by rfl) (by rfl)) (by rfl) (by rfl)) (by rfl) (by rfl) (by rfl)
 replace S := S.row 13 (n' := 446) (t' := 2020) rfl rfl rfl
 refine zC <| zN <| zB <| b_name S (by walk_at "k") (b_call S (by walk_at "k") hb hbf (by rfl) (b_str S fun s S => b_fz S hh (by decide +kernel) (by decide +kernel) (by decide) (by decide) fun s S => ?_) (by rfl) (by rfl) (by rfl)) (by rfl) (by rfl)
 replace S := S.num (n' := 450) (t' := 2025) rfl rfl
 refine b_or S (.tail _ (.head _)) (.head _) (by decide) (by decide +kernel) (by decide +kernel) (by decide +kernel) (by decide +kernel) (by decide +kernel) (by decide +kernel) (by decide +kernel) (by decide +kernel) (by decide +kernel) (by decide +kernel) (by decide) fun s S => b_store S (fun s S => ?_) (by rfl)
 replace S := S.row 14 (n' := 451) (t' := 2026) rfl rfl rfl
 refine zC <| zN <| b_call S (by walk_at "k") hb hbf (by rfl) (b_name S (by walk_at "k") (b_fz S hh (by decide +kernel) (by decide +kernel) (by decide) (by decide) fun s S => b_store S (fun s S => ?_) (by rfl)) (by rfl) (by rfl)) (by rfl) (by rfl) (by rfl)
 replace S := S.row 15 (n' := 455) (t' := 2071) rfl rfl rfl
 refine wpAny_execs_nil ?_
 have F := SetsFS.mk (FS.eq (S.sets _ (.tail _ (.tail _ (.tail _ (.tail _ (.tail _ (.tail _ (.tail _ (.tail _ (.tail _ (.head _))))))))))).1 (by decide +kernel)) (FS.eq (S.sets _ (.tail _ (.tail _ (.tail _ (.tail _ (.tail _ (.tail _ (.tail _ (.head _))))))))).1 (by decide +kernel)) (FS.eq (S.sets _ (.tail _ (.tail _ (.tail _ (.tail _ (.tail _ (.tail _ (.head _)))))))).1 (by decide +kernel)) (FS.eq (S.sets _ (.tail _ (.tail _ (.tail _ (.tail _ (.head _)))))).1 (by decide +kernel)) (FS.eq (S.sets _ (.tail _ (.tail _ (.tail _ (.head _))))).1 (by decide +kernel)) (FS.eq (S.sets _ (.tail _ (.head _))).1 (by decide +kernel))
 exact h _ _ ⟨S.size, S.toks, S.ns, S.main, S.c64, S.keep, (fun p hp => nomatch hp), S.gens, S.drawn, S.os⟩ F
end
noncomputable def blkS : List Stmt := sA 56 :: sA 57 :: sA 58 :: midB
noncomputable def gpos : Pos := { line := 303, col := 23, endLine := 303, endCol := 50 }
section
variable {w : World} {h0 : Heap} {mg mb : Str -> Option Value} {M X : Obj} {n t : Nat} {g : Array GenState} {dr : Drawn} {os : OsState} {s : Shared} {A : Around} {E : QV}
theorem GenOk.up {ps : Array Value} {env : Env} {pos : Pos} {c bm : Addr} {x : Str} {v : Value} (K : GenOk h0 mg mb X ps env pos c bm) (h1 : (Str.ofString "__builtins__") ≠ x) (h2 : (Str.ofString "chr") ≠ x) (h3 : (Str.ofString "range") ≠ x) (h4 : (Str.ofString "frozenset") ≠ x) : GenOk h0 (upB mg x v) mb X ps env pos c bm :=
 ⟨K.code, K.rec_, K.tab, K.none_, K.ok, K.nl, ⟨up_ne h1 K.bmod.1, K.bmod.2⟩, K.globals, K.builtins, K.b, ⟨up_ne h2 K.free.1, up_ne h3 K.free.2.1, up_ne h4 K.free.2.2⟩, K.bound⟩
theorem blk_spec {ps : Array Value} {c bm : Addr} {v : Value} {Q : QF} (S : Blk w h0 mg M X [] 406 1705 #[] dr os s) (hh : A.handled = none) (hroom : A.depth < recursionLimit) (hlow : h0.objs.size ≤ 407) (hv : mg "_tuplegetter" = some v) (K : GenOk h0 mg mb X ps env1 gpos c bm)
  (h : ∀ s' mg', Blk w h0 mg' (putRows w mainRows (pn w "ASCII_CTRL" 1851 (.ref 422) (pn w "MAX_KEY_PARTS" 1707 (.int 1000 1706) (pn w "tuplegetter_parser" 1705 v M)))) (codeX X gpos (.ref 410)) [] 455 2071 #[.finished] dr os s' -> SetsFS w s'.heap -> Q .next s') :
  wpAny (model pw w) A (execs blkS env1) Q E s := by
 refine zC <| zN <| b_name S hv (b_store S (fun s S => ?_) (by rfl)) (by rfl) (by rfl)
 refine zC <| zN <| b_int S fun s S => b_store S (fun s S => ?_) (by rfl)
 replace S := S.num (n' := 406) (t' := 1708) rfl rfl
 have K2 := (K.up (x := "tuplegetter_parser") (v := v) (by decide) (by decide) (by decide) (by decide)).up (x := "MAX_KEY_PARTS") (v := .int 1000 1706) (by decide) (by decide) (by decide) (by decide)
 refine zC <| zN <| zB <| b_call S K2.free.2.2 K2.b K2.bound.2.2 (by rfl) (b_genexp S K2 hroom (by decide) rfl (by rfl) (by rfl) fun s S hgen hi => ?_) (by rfl) (by rfl) (by rfl)
 replace S := S.num (n' := 413) (t' := 1719) rfl rfl
 refine b_fzgen S hh hroom K.nl (by rfl) K2.free.1 K2.bound.1 hgen hi (by decide) (by decide) (by decide) (by decide) (by decide) (by decide) (Nat.le_trans hlow (by decide)) hlow fun s S => ?_
 replace S := S.num (n' := 418) (t' := 1847) rfl rfl
 refine b_call S K2.free.2.2 K2.b K2.bound.2.2 (by rfl) (b_call S K2.free.1 K2.b K2.bound.1 (by rfl) (b_int S fun s S => chr_of_range (by decide) (by decide) ?_) (by rfl) (by rfl) (by rfl)) (by rfl) (by rfl) (by rfl)
 have S2 := S.tok 1
 refine b_fz (x := sg 127) S2 hh (by decide +kernel) (by decide +kernel) (by decide) (by decide) fun s S => ?_
 replace S := S.num (n' := 422) (t' := 1851) rfl rfl
 refine b_or S (.tail _ (.head _)) (.head _) (by decide) (by decide +kernel) (by decide +kernel) (by decide +kernel) (by decide +kernel) (by decide +kernel) (by decide +kernel) (by decide +kernel) (by decide +kernel) (by decide +kernel) (by decide +kernel) (by decide) fun s S => b_store S (fun s S => ?_) (by rfl)
 replace S := S.num (n' := 423) (t' := 1852) rfl rfl
 have F : FS w s.heap 422 (sgs ctrlL) := FS.eq (S.sets _ (.head _)).1 (by decide +kernel)
 have S3 := Blk.put (Fs := []) ⟨S.size, S.toks, S.ns, S.main, S.c64, S.keep, (fun p hp => nomatch hp), S.gens, S.drawn, S.os⟩ F (by decide)
 exact mid_spec S3 hh up_eq (up_ne (by decide) K2.free.2.2) K2.b K2.bound.2.2 h
end
noncomputable abbrev TF (w : World) : BT := tT w.params 849 118 (qs "law_ik0240_01" 2652) 168
noncomputable abbrev T0 (w : World) : BT := tT w.params 406 63 (qs "cpy313.tomllib._parser" 1646) 60
noncomputable abbrev T1 (w : World) : BT := tT w.params 455 81 (qs "cpy313.tomllib._parser" 1646) 63
noncomputable def f3 (b : Nat) : Bool := Nat.beq b 3 || (Nat.beq b 64 || inX b)
noncomputable def prn (t : BT) : Nat -> Nat -> BT :=
 @BT.rec (fun _ => Nat -> Nat -> BT) (fun _ _ => .nil) (fun v _ _ ihl ihr a b => @Bool.rec (fun _ => BT) .nil (.node v (ihl (Nat.mul 2 a) (Nat.add a b)) (ihr (Nat.mul 2 a) (Nat.add (Nat.mul 2 a) b))) (Nat.blt b 406)) t
theorem prn_node (v : Obj) (l r : BT) (a b : Nat) : prn (.node v l r) a b = if b < 406 then .node v (prn l (2 * a) (a + b)) (prn r (2 * a) (2 * a + b)) else .nil := by
 show @Bool.rec (fun _ => BT) _ _ (Nat.blt b 406) = _
 by_cases h : b < 406
 ·rw [if_pos h, show Nat.blt b 406 = true by unfold Nat.blt; exact Nat.ble_eq_true_of_le h]
  rfl
 ·rw [if_neg h, show Nat.blt b 406 = false by
   cases q : Nat.blt b 406 with
   | false => rfl
   | true => exact absurd (Nat.le_of_ble_eq_true q) h]
theorem get_prn : ∀ (t : BT) (a b i : Nat), a * i + b < 406 -> (prn t a b).get i = t.get i
 | .nil, a, b, i, h => rfl
 | .node v l r, a, b, i, h => by
  rw [prn_node, if_pos (by lia), BT.get_node, BT.get_node]
  by_cases h0 : i = 0
  ·rw [if_pos h0, if_pos h0]
  ·rw [if_neg h0, if_neg h0]
   by_cases p : i % 2 = 1
   ·rw [if_pos p, if_pos p, get_prn l]
    have e : 2 * a * (i / 2) + (a + b) = a * i + b := by
     have hj : i = 2 * (i / 2) + 1 := by lia
     generalize i / 2 = q at hj
     subst hj
     rw [Nat.mul_add, Nat.mul_one, ← Nat.mul_assoc, Nat.mul_comm a 2]; lia
    rw [e]; exact h
   ·rw [if_neg p, if_neg p, get_prn r]
    have e : 2 * a * (i / 2 - 1) + (2 * a + b) = a * i + b := by
     have hj : i = 2 * (i / 2 - 1) + 2 := by lia
     generalize i / 2 - 1 = q at hj
     subst hj
     rw [Nat.mul_add, ← Nat.mul_assoc, Nat.mul_comm a 2]; lia
    rw [e]; exact h
theorem same_else (O : Nat -> Obj) (w : World) : prn (ovr f3 O (T1 w) 1 0) 1 0 = ovr f3 O (T0 w) 1 0 := by kernel_rfl
noncomputable def there (t : BT) (b : Nat) : Bool := match t.get b with | some o => (match alive o with | some _ => true | none => false) | none => false
theorem all_there (w : World) : (List.range 406).all (there (T0 w)) = true := by kernel_rfl
theorem all_there1 (w : World) : (List.range 455).all (fun b => (T1 w).get b |>.isSome) = true := by kernel_rfl
noncomputable def M0 (w : World) : Obj := ((T0 w).get 3).getD default
noncomputable def X0 (w : World) : Obj := ((T0 w).get 64).getD default
theorem main_end (w : World) : (T1 w).get 3 = some (putRows w mainRows (pn w "ASCII_CTRL" 1851 (.ref 422) (pn w "MAX_KEY_PARTS" 1707 (.int 1000 1706) (pn w "tuplegetter_parser" 1705 (.ref 401) (M0 w))))) := by kernel_rfl
theorem c64_end (w : World) : (T1 w).get 64 = some (codeX (X0 w) gpos (.ref 410)) := by kernel_rfl
noncomputable def esOf (o : Obj) : Array DictEntry := match o.data with | .dict es _ => es | _ => #[]
noncomputable def epOf (o : Obj) : Nat := match o.data with | .dict _ n => n | _ => 0
noncomputable def isDict (o : Obj) : Bool := match o.data with | .dict .. => true | _ => false
noncomputable def strKeyB (e : DictEntry) : Bool := match e.key with | .str .. => true | _ => false
def DcQ (f : Data) : Prop := ∃ es n, f = .dict es n
theorem dc_of (f : Data) : (match f with | .dict .. => true | _ => false) = true -> DcQ f := by
 apply Data.casesOn (motive := fun f => (match f with | .dict .. => true | _ => false) = true -> DcQ f) f
 case dict => exact fun _ _ _ => ⟨_, _, rfl⟩
 all_goals first | exact ffQ | exact fun _ => ffQ | exact fun _ _ => ffQ | exact fun _ _ _ => ffQ | exact fun _ _ _ _ => ffQ | exact fun _ _ _ _ _ => ffQ
theorem of_isDict {o : Obj} (h : isDict o = true) : ∃ es n, o.data = .dict es n := dc_of o.data h
def SkQ (v : Value) : Prop := ∃ y t, v = .str y t
theorem sk_of (v : Value) : (match v with | .str .. => true | _ => false) = true -> SkQ v := by
 apply Value.casesOn (motive := fun v => (match v with | .str .. => true | _ => false) = true -> SkQ v) v
 case str => exact fun _ _ _ => ⟨_, _, rfl⟩
 all_goals first | exact ffQ | exact fun _ => ffQ | exact fun _ _ => ffQ | exact fun _ _ _ => ffQ | exact fun _ _ _ _ => ffQ | exact fun _ _ _ _ _ => ffQ
theorem of_strKeyB {e : DictEntry} (h : strKeyB e = true) : ∃ y t, e.key = .str y t := sk_of e.key h
theorem ns_of_obj {h : Heap} {a : Addr} {o : Obj} (e : h.get? a = some o) (hd : isDict o = true) (hk : (esOf o).toList.all strKeyB = true) : h.Ns a (fun x => nsFind (esOf o) x) := by
 obtain ⟨es, n, q⟩ := of_isDict hd
 have hq : esOf o = es := by unfold esOf; rw [q]
 rw [hq] at hk ⊢
 exact ⟨_, es, n, e, q, fun x hx => of_strKeyB (List.all_eq_true.mp hk x (Array.mem_toList_iff.mpr hx)), fun _ => rfl⟩
theorem of_alive {o o' : Obj} (q : alive o = some o') : o' = o := by
 unfold alive at q
 split at q
 ·cases q
 ·exact (Option.some.inj q).symm
theorem there_get {t : BT} {b n : Nat} {life : Life} (h : there t b = true) (hb : b < n) : ∃ o, t.get b = some o ∧ (absHeap t n life).get? b = some o := by
 unfold there at h
 cases e : t.get b with
 | none => rw [e] at h; cases h
 | some o =>
  rw [e] at h
  replace h := h
  refine ⟨o, rfl, ?_⟩
  rw [abs_get hb e]
  cases q : alive o with
  | none => dsimp only at h; rw [q] at h; cases h
  | some o' => rw [of_alive q]
noncomputable def objAt (w : World) (b : Nat) : Obj := ((T0 w).get b).getD default
theorem at0 {w : World} {life : Life} {b : Nat} (hb : b < 406) : (absHeap (T0 w) 406 life).get? b = some (objAt w b) := by
 obtain ⟨o, e, q⟩ := there_get (life := life) (List.all_eq_true.mp (all_there w) b (List.mem_range.mpr hb)) hb
 rw [q]
 unfold objAt
 rw [e]
 rfl
noncomputable abbrev mg0 (w : World) : Str -> Option Value := fun x => nsFind (esOf (objAt w 3)) x
noncomputable abbrev mb0 (w : World) : Str -> Option Value := fun x => nsFind (esOf (objAt w 0)) x
theorem ns3 (w : World) (life : Life) : (absHeap (T0 w) 406 life).Ns 3 (mg0 w) := ns_of_obj (at0 (by decide)) (by kernel_rfl) (by kernel_rfl)
theorem ns0 (w : World) (life : Life) : (absHeap (T0 w) 406 life).Ns 0 (mb0 w) := ns_of_obj (at0 (by decide)) (by kernel_rfl) (by kernel_rfl)
theorem ns2 (w : World) (life : Life) : (absHeap (T0 w) 406 life).Ns 2 (fun x => nsFind (esOf (objAt w 2)) x) := ns_of_obj (at0 (by decide)) (by kernel_rfl) (by kernel_rfl)
noncomputable def fldsOf (o : Obj) : Array Value := match o.data with | .fields vs => vs | _ => #[]
noncomputable def strOf (v : Value) : Str := match v with | .str x _ => x | _ => ""
noncomputable def strTok (v : Value) : Tok := match v with | .str _ t => t | _ => 0
noncomputable def intOf (v : Value) : Int := match v with | .int x _ => x | _ => 0
noncomputable def intTok (v : Value) : Tok := match v with | .int _ t => t | _ => 0
noncomputable def boolOf (v : Value) : Bool := match v with | .bool b => b | _ => false
def isI (v : Value) : Bool := match v with | .int _ _ => true | _ => false
theorem isI_ok {v : Value} (h : isI v = true) : v = .int (intOf v) (intTok v) := by cases v <;> first | rfl | cases h
noncomputable def triB : List Value -> Bool
 | [] => true
 | a :: b :: _ :: rest => (isI a && isI b) && triB rest
 | _ => false
theorem triB_ok : ∀ l : List Value, triB l = true -> TriplesOk l
 | [], _ => trivial
 | [_], h => nomatch h
 | [_, _], h => nomatch h
 | a :: b :: c :: r, h => by
  obtain ⟨h1, h2⟩ := Bool.and_eq_true_iff.mp (show ((isI a && isI b) && triB r) = true from h)
  obtain ⟨h3, h4⟩ := Bool.and_eq_true_iff.mp h1
  rw [isI_ok h3, isI_ok h4]
  exact triB_ok r h2
theorem gen_ok (w : World) : GenOk (absHeap (T0 w) 406 {}) (mg0 w) (mb0 w) (X0 w) (fldsOf (X0 w)) env1 gpos 65 4 where
 code := rfl
 rec_ := ⟨objAt w 65, fldsOf (objAt w 65), strOf ((fldsOf (objAt w 65)).getD 18 .none), strTok ((fldsOf (objAt w 65)).getD 18 .none), intOf ((fldsOf (objAt w 65)).getD 7 .none), intTok ((fldsOf (objAt w 65)).getD 7 .none), boolOf ((fldsOf (objAt w 65)).getD 9 .none),
  intOf ((fldsOf (objAt w 65)).getD 10 .none), intTok ((fldsOf (objAt w 65)).getD 10 .none), at0 (by decide), by decide, by decide, by kernel_rfl, by kernel_rfl, by kernel_rfl, by kernel_rfl, by kernel_rfl, by kernel_rfl⟩
 tab := by kernel_rfl
 none_ := by kernel_rfl
 ok := triB_ok _ (by kernel_rfl)
 nl := ⟨_, ns2 w {}, by kernel_rfl⟩
 bmod := ⟨by kernel_rfl, by decide, by decide, by decide, objAt w 4, at0 (by decide), by kernel_rfl, by kernel_rfl, by kernel_rfl⟩
 globals := rfl
 builtins := rfl
 b := ns0 w {}
 free := ⟨by kernel_rfl, by kernel_rfl, by kernel_rfl⟩
 bound := ⟨by kernel_rfl, by kernel_rfl, by kernel_rfl⟩
theorem blk_start (w : World) (os : OsState) : Blk w (absHeap (T0 w) 406 {}) (mg0 w) (M0 w) (X0 w) [] 406 1705 #[] {} os ({ tree := T0 w, n := 406, life := {}, gens := { toList := [] }, drawn := {}, toks := 1705, os := os } : SharedT).abs where
 size := absHeap_size ..
 toks := rfl
 ns := ns3 w {}
 main := at0 (by decide)
 c64 := at0 (by decide)
 keep := fun _ _ _ _ e => e
 sets := fun p hp => nomatch hp
 gens := rfl
 drawn := rfl
 os := rfl
@[reducible] noncomputable def topA (Γ : Ctx) : Around := { handled := none, depth := frameCount Γ.below + Γ.code.weight, frames := none, guards := none, units := Γ.units }
theorem topA_in (b : List Stmt) (env : Env) (q : Pos) : (Ctx.of (.body b env) [topFrame q]).In (topA (Ctx.of (.body b env) [topFrame q])) := ⟨rfl, Nat.le_refl _, fun l hl => (nomatch hl), fun g hg => (nomatch hg), Nat.le_refl _⟩
theorem topA_depth (b : List Stmt) (env : Env) (q : Pos) : (topA (Ctx.of (.body b env) [topFrame q])).depth < recursionLimit := by
 have e : (topA (Ctx.of (.body b env) [topFrame q])).depth = frameCount [(.builtin "claim.caller" {}, q)] + (Code.body b env).weight := rfl
 rw [e]
 simp only [frameCount, List.map_cons, List.map_nil, List.sum_cons, List.sum_nil]
 have e2 : (Code.body b env).weight = 1 := rfl
 rw [e2]
 decide
theorem blk_heap {w : World} {mg' : Str -> Option Value} {os : OsState} {s' : Shared}
  (S : Blk w (absHeap (T0 w) 406 {}) mg' (putRows w mainRows (pn w "ASCII_CTRL" 1851 (.ref 422) (pn w "MAX_KEY_PARTS" 1707 (.int 1000 1706) (pn w "tuplegetter_parser" 1705 (.ref 401) (M0 w))))) (codeX (X0 w) gpos (.ref 410)) [] 455 2071 #[.finished] {} os s')
  (hl : s'.heap.life = {}) : s' = ({ tree := put (fun b => (s'.heap.objs[b]?).getD default) (T1 w) 1 0, n := 455, life := {}, gens := { toList := [GenState.finished] }, drawn := {}, toks := 2071, os := os } : SharedT).abs := by
 have hh : s'.heap = absHeap (put (fun b => (s'.heap.objs[b]?).getD default) (T1 w) 1 0) 455 {} := by
  refine heap_is S.size hl fun b hb => ?_
  rw [put_ovr, get_ovr1]
  have h1 : ((T1 w).get b).isSome = true := List.all_eq_true.mp (all_there1 w) b (List.mem_range.mpr hb)
  obtain ⟨o, ho⟩ := Option.isSome_iff_exists.mp h1
  rw [ho]
  show _ = some (if inX b = true then _ else o)
  by_cases hx : inX b = true
  ·rw [if_pos hx]
   rw [← S.size] at hb
   rw [Array.getElem?_eq_getElem hb]
   rfl
  ·rw [if_neg hx]
   refine objs_of_get ?_
   by_cases h3 : b = 3
   ·subst h3
    rw [main_end w] at ho
    rw [S.main, ← ho]
   ·by_cases h64 : b = 64
    ·subst h64
     rw [c64_end w] at ho
     rw [S.c64, ← ho]
    ·have hlt : b < 406 := by
      unfold inX at hx
      apply Classical.byContradiction
      intro q
      refine hx (Bool.and_eq_true_iff.mpr ⟨Nat.ble_eq_true_of_le (by lia), ?_⟩)
      unfold Nat.blt
      exact Nat.ble_eq_true_of_le (by lia)
     have hf : f3 b = false := by
      unfold f3
      rw [BT.beq_eq, BT.beq_eq]
      have : inX b = false := Bool.eq_false_iff.mpr hx
      simp [h3, h64, this]
     have e := congrArg (fun t => t.get b) (same_else (fun _ => default) w)
     rw [get_prn _ 1 0 b (by lia), get_ovr1, get_ovr1, hf, ho] at e
     replace e := e
     simp only [Bool.false_eq_true, if_false, Option.map_some, Option.map_id'] at e
     obtain ⟨o', q1, q2⟩ := there_get (life := {}) (List.all_eq_true.mp (all_there w) b (List.mem_range.mpr hlt)) hlt
     rw [q1] at e
     have : o' = o := by simpa using e.symm
     subst this
     exact S.keep b o' h3 h64 q2
 show (⟨s'.heap, s'.gens, s'.drawn, s'.toks, s'.os⟩ : Shared) = _
 rw [S.gens, S.drawn, S.toks, S.os]
 exact congrArg (fun h => (⟨h, _, _, _, _⟩ : Shared)) hh
theorem zZ {T : BT} {n t : Nat} {os : OsState} : (sT T n t os).abs.NoSusp := by
 simp [Shared.NoSusp, SharedT.abs]
theorem nosusp_fin {T : BT} {n t : Nat} {os : OsState} : (sU T n t os).abs.NoSusp := by
 simp [Shared.NoSusp, SharedT.abs]
 rfl
theorem wp_of_SR {w : World} {N i j : Nat} {S S' : OsState -> SharedT} {ps : Pos} (h : SRis w N i j S S' ps) (hn : ∀ os, (S' os).abs.NoSusp) (b : List Stmt) (pos : Pos) (os : OsState) :
  Sem.wp (model pw w) (Ctx.of (.body b env1) [topFrame q0]) (execs (bdS i j) env1) (fun f _ s₁ => f = .next ∧ s₁ = (S' os).abs) (fun _ _ _ => False) pos (S os).abs := by
 have h2 := congrFun (congrFun (congrFun (congrFun h pw) b) os) pos
 try dsimp only at h2
 rw [SR_eq] at h2
 exact wp_of_seg (segRun_of h2) (hn os)
theorem body_parts : behindTheImports pw = bdS 0 5 ++ (bdS 5 31 ++ (bdS 31 35 ++ (bdS 35 36 ++ (bdS 36 37 ++ (bdS 37 39 ++ (bdS 39 43 ++ (bdS 43 44 ++ (bdS 44 48 ++ (bdS 48 52 ++ (blkS ++ (bdS 70 75 ++ (bdS 75 76 ++ (bdS 76 77 ++ (bdS 77 78 ++ (bdS 78 79 ++ (bdS 79 91 ++ (bdS 91 103 ++ (bdS 103 110 ++ [])))))))))))))))))) := by kernel_rfl
theorem blk_wp (w : World) (b : List Stmt) (q pos : Pos) (os : OsState) : Sem.wp (model pw w) (Ctx.of (.body b env1) [topFrame q]) (execs blkS env1)
  (fun f _ s₁ => f = .next ∧ ∃ O, s₁ = ({ tree := put O (T1 w) 1 0, n := 455, life := {}, gens := { toList := [GenState.finished] }, drawn := {}, toks := 2071, os := os } : SharedT).abs ∧ SetsFS w s₁.heap) (fun _ _ _ => False) pos
  ({ tree := T0 w, n := 406, life := {}, gens := { toList := [] }, drawn := {}, toks := 1705, os := os } : SharedT).abs := by
 have h := blk_spec (A := topA (Ctx.of (.body b env1) [topFrame q])) (E := fun _ _ => False) (v := .ref 401) (Q := fun f s' => f = .next ∧ (∃ mg', Blk w (absHeap (T0 w) 406 {}) mg' (putRows w mainRows (pn w "ASCII_CTRL" 1851 (.ref 422) (pn w "MAX_KEY_PARTS" 1707 (.int 1000 1706) (pn w "tuplegetter_parser" 1705 (.ref 401) (M0 w))))) (codeX (X0 w) gpos (.ref 410)) [] 455 2071 #[.finished] {} os s') ∧ SetsFS w s'.heap)
  (blk_start w os) rfl (topA_depth b _ q) (by rw [absHeap_size]; decide) (by kernel_rfl) (gen_ok w) fun s' mg' S F => ⟨rfl, ⟨mg', S⟩, F⟩
 have h2 := wp_life (c := .body b env1) (q := q) (fun f s' hq => by
  obtain ⟨_, ⟨_, S⟩, _⟩ := hq
  intro x hx
  rw [S.gens] at hx
  simp at hx
  subst hx
  rfl) (h (Ctx.of (.body b env1) [topFrame q]) pos (topA_in b _ q))
 refine Sem.wp_mono _ _ _ (fun f _ s₁ hq => ?_) (fun _ _ _ x => x) _ _ h2
 obtain ⟨⟨rfl, ⟨mg', S⟩, F⟩, hl⟩ := hq
 exact ⟨rfl, _, blk_heap S hl, F⟩
theorem get_open {O : Nat -> Obj} {t : BT} {n : Nat} {life : Life} {b : Nat} (hb : b < n) (hx : inX b = true) (ht : (t.get b).isSome = true) : (absHeap (put O t 1 0) n life).get? b = alive (O b) := by
 obtain ⟨o, ho⟩ := Option.isSome_iff_exists.mp ht
 refine abs_get hb ?_
 rw [put_ovr, get_ovr1, ho]
 show some (if inX b = true then O b else o) = _
 rw [if_pos hx]
def TopW (w : World) (b : List Stmt) (F : Shared -> Prop) (l : List Stmt) (S : Shared) : Prop :=
 ∀ pos, Sem.wp (model pw w) (Ctx.of (.body b env1) [topFrame q0]) (execs l env1) (fun f _ s₁ => f = .next ∧ F s₁) (fun _ _ _ => False) pos S
theorem zH {w : World} {N i j : Nat} {S S' : OsState -> SharedT} {ps : Pos} {b r : List Stmt} {F : Shared -> Prop} {os : OsState} (h : SRis w N i j S S' ps) (hn : ∀ os, (S' os).abs.NoSusp) (k : TopW w b F r (S' os).abs) : TopW w b F (bdS i j ++ r) (S os).abs :=
 fun pos => wp_execs_app _ _ _ (Sem.wp_mono _ _ _ (fun f pos s₁ h => by
  obtain ⟨rfl, rfl⟩ := h
  exact k _) (fun _ _ _ x => x.elim) _ _ (wp_of_SR h hn b pos os))
theorem top_end {w : World} {b : List Stmt} {F : Shared -> Prop} {s : Shared} (h : F s) : TopW w b F [] s := fun pos => by
 rw [execs_nil, Sem.wp_pure']
 exact ⟨rfl, h⟩
def TopEnd (w : World) (os : OsState) (s₁ : Shared) : Prop :=
 ∃ O, s₁ = ({ tree := put O (TF w) 1 0, n := 849, life := {}, gens := { toList := [GenState.finished] }, drawn := {}, toks := 2716, os := os } : SharedT).abs ∧ SetsFS w (absHeap (put O (T1 w) 1 0) 455 {})
theorem body_wp (w : World) (b : List Stmt) (pos : Pos) (os : OsState) : Sem.wp (model pw w) (Ctx.of (.body b env1) [topFrame q0]) (execs (behindTheImports pw) env1)
  (fun f _ s₁ => f = .next ∧ TopEnd w os s₁) (fun _ _ _ => False) pos
  ({ tree := tT w.params 67 17 (qs "__main__" 164) 0, n := 67, life := {}, gens := { toList := [] }, drawn := {}, toks := 488, os := os } : SharedT).abs := by
 rw [body_parts]
 exact zH (pa0 w) (fun _ => zZ) (zH (pa1 w) (fun _ => zZ) (zH (pa2 w) (fun _ => zZ) (zH (pa3 w) (fun _ => zZ) (zH (pa4 w) (fun _ => zZ)
  (zH (pa5 w) (fun _ => zZ) (zH (pa6 w) (fun _ => zZ) (zH (pa7 w) (fun _ => zZ) (zH (pa8 w) (fun _ => zZ) (zH (pa9 w) (fun _ => zZ)
  fun pos => wp_execs_app _ _ _ (Sem.wp_mono _ _ _ (fun f pos s₁ h => by
   obtain ⟨rfl, O, rfl, F⟩ := h
   exact zH (pb0 O w) (fun _ => nosusp_fin) (zH (pb1 O w) (fun _ => nosusp_fin) (zH (pb2 O w) (fun _ => nosusp_fin) (zH (pb3 O w) (fun _ => nosusp_fin)
    (zH (pb4 O w) (fun _ => nosusp_fin) (zH (pb5 O w) (fun _ => nosusp_fin) (zH (pb6 O w) (fun _ => nosusp_fin) (zH (pb7 O w) (fun _ => nosusp_fin) (top_end ⟨O, rfl, F⟩)))))))) pos)
   (fun _ _ _ x => x.elim) _ _ (blk_wp w b q0 pos os))))))))))) pos
@[reducible] noncomputable def S00 (os : OsState) : SharedT := { tree := .nil, n := 0, life := {}, gens := { toList := [] }, drawn := {}, toks := 1, os := os }
noncomputable def openL (P : Params) : List Obj := oL P 63 17 (qs "__main__" 164) 0
noncomputable def openH (P : Params) : Heap := ⟨⟨openL P⟩, {}⟩
noncomputable def fList {α β : Type} (l : List α) : (List α -> β) -> β := @List.rec α (fun _ => (List α -> β) -> β) (fun k => k []) (fun x _ ih k => ih fun ys => k (x :: ys)) l
theorem fList_eq {α β : Type} : ∀ (l : List α) (k : List α -> β), fList l k = k l
 | [], _ => rfl
 | x :: l, k => fList_eq l fun ys => k (x :: ys)
noncomputable def fObj {β : Type} (f : {α : Type} -> List α -> (List α -> β) -> β) (o : Obj) (k : Obj -> β) : β := match o with
 | ⟨c, d, .dict ⟨l⟩ n, s⟩ => f l fun l' => k ⟨c, d, .dict ⟨l'⟩ n, s⟩
 | ⟨c, d, .fields ⟨l⟩, s⟩ => f l fun l' => k ⟨c, d, .fields ⟨l'⟩, s⟩
 | o => k o
theorem fObj_eq {β : Type} (o : Obj) (k : Obj -> β) : fObj (fun l k => fList l k) o k = k o := by
 obtain ⟨c, d, f, s⟩ := o
 cases f with
 | dict a n => exact fList_eq a.toList _
 | fields a => exact fList_eq a.toList _
 | _ => rfl
noncomputable def fTree {β : Type} (t : BT) : (BT -> β) -> β := @BT.rec (fun _ => (BT -> β) -> β) (fun k => k .nil) (fun v _ _ ihl ihr k => fObj (fun l k => fList l k) v fun v' => ihl fun l' => ihr fun r' => k (.node v' l' r')) t
theorem fTree_eq {β : Type} : ∀ (t : BT) (k : BT -> β), fTree t k = k t
 | .nil, _ => rfl
 | .node v l r, k => by
  show fObj (fun l k => fList l k) v (fun v' => fTree l fun l' => fTree r fun r' => k (.node v' l' r')) = _
  rw [fObj_eq, fTree_eq l, fTree_eq r]
noncomputable def runF (imp : Nat -> SharedT -> Thread -> Option (SharedT × Thread)) (ns : List Nat) : SharedT -> Thread -> Option (SharedT × Thread) :=
 @List.rec Nat (fun _ => SharedT -> Thread -> Option (SharedT × Thread)) (fun S t => some (S, t)) (fun n _ ih S t => match imp n S t with
  | some (⟨T, n, l, g, d, k, o⟩, t') => fTree T fun T' => ih ⟨T', n, l, g, d, k, o⟩ t'
  | none => none) ns
theorem runF_spec {tb : String -> Option Builtin} {p : Program} {w : World} : ∀ (ns : List Nat) (S S' : SharedT) (t t' : Thread), runF (impGoT tb p w) ns S t = some (S', t') -> ∀ (N : Nat) (r : Shared), importEnds tb p w N S'.abs t' = some r -> importEnds tb p w (ns.foldr (· + ·) N) S.abs t = some r
 | [], S, S', t, t', h, N, r, e => by cases h; exact e
 | n :: ns, S, S', t, t', h, N, r, e => by
  have h : (match impGoT tb p w n S t with
   | some (⟨T, n, l, g, d, k, o⟩, t') => fTree T fun T' => runF (impGoT tb p w) ns ⟨T', n, l, g, d, k, o⟩ t'
   | none => none) = some (S', t') := h
  cases hq : impGoT tb p w n S t with
  | none => rw [hq] at h; cases h
  | some x =>
   obtain ⟨⟨T, m, l, g, d, k, o⟩, t2⟩ := x
   rw [hq] at h
   replace h := h
   dsimp only at h
   rw [fTree_eq] at h
   exact imp_go (impGo_of hq) (runF_spec ns _ _ _ _ h N r e)
noncomputable def cutsL : List Nat := List.replicate 50 40 ++ [36]
noncomputable def isEnd : Option (List Value) -> Bool
 | some [] => true
 | _ => false
noncomputable abbrev FI (w : World) (os : OsState) := runF (PySem.W.Fast.tw14789777615569096658 PySem.W.Fast.tw14364793385576792824 (opening pw) w) cutsL (S00 os) (start (opening pw)).2
noncomputable def fGets {β : Type} (T : BT) (l : List Nat) : (List Obj -> β) -> β := @List.rec Nat (fun _ => (List Obj -> β) -> β) (fun k => k []) (fun b _ ih k => match T.get b with
 | some o => ih fun r => k (o :: r)
 | none => ih fun r => k (default :: r)) l
theorem fGets_eq {β : Type} (T : BT) : ∀ (l : List Nat) (k : List Obj -> β), fGets T l k = k (l.map fun b => (T.get b).getD default)
 | [], k => rfl
 | b :: l, k => by
  show (match T.get b with
   | some o => fGets T l fun r => k (o :: r)
   | none => fGets T l fun r => k (default :: r)) = _
  rw [List.map_cons]
  cases T.get b with
  | none => exact fGets_eq T l _
  | some o => exact fGets_eq T l _
theorem opn_all : ∀ w : World, (fun os => (FI w os).bind fun x => fGets x.1.tree (List.range 63) fun l => (fenceModules? pw ⟨⟨⟨l⟩, {}⟩, { toList := [] }, {}, 482, os⟩).map fun s =>
  (s.heap.objs.toList, s.heap.life, s.gens, s.drawn, s.toks, x.1.n, x.1.life, x.1.gens, x.1.drawn, x.1.toks, x.1.os, isEnd x.2.atExitBegin)) =
  fun os => some (openL w.params, {}, { toList := [] }, {}, 482, 63, {}, { toList := [] }, {}, 482, os, true) := fun w => by kernel_rfl
theorem FI_eq (w : World) (os : OsState) : FI w os = runF (impGoT treeTable (opening pw) w) cutsL (S00 os) (start (opening pw)).2 := by
 unfold FI
 simp only [← PySem.W.Fast.te14789777615569096658, ← PySem.W.Fast.te14364793385576792824]
theorem abs63 {S : SharedT} {os : OsState} (q1 : S.n = 63) (q2 : S.life = {}) (q3 : S.gens = { toList := [] }) (q4 : S.drawn = {}) (q5 : S.toks = 482) (q6 : S.os = os) :
  S.abs = ⟨⟨⟨(List.range 63).map fun b => (S.tree.get b).getD default⟩, {}⟩, { toList := [] }, {}, 482, os⟩ := by
 show (⟨absHeap S.tree S.n S.life, S.gens, S.drawn, S.toks, S.os⟩ : Shared) = _
 rw [q1, q2, q3, q4, q5, q6]
 have : (⟨⟨(List.range 63).map fun b => (S.tree.get b).getD default⟩, {}⟩ : Heap) = absHeap S.tree 63 {} := heap_is (n := 63) (by rw [List.size_toArray, List.length_map, List.length_range]) rfl fun b hb => by
  show ((List.range 63).map fun b => (S.tree.get b).getD default).toArray[b]? = _
  rw [List.getElem?_toArray, List.getElem?_map, List.getElem?_range hb]
  rfl
 rw [this]
theorem heap_open {h : Heap} {P : Params} (p1 : h.objs.toList = openL P) (p2 : h.life = {}) : h = openH P := by
 obtain ⟨⟨l⟩, life⟩ := h
 dsimp only at p1 p2
 subst p1 p2
 rfl
theorem opens (w : World) : ∃ s₀, fencedOpening treeTable pw w 2037 = some s₀ ∧ s₀.heap = openH w.params ∧ s₀.gens = #[] ∧ s₀.drawn = {} ∧ s₀.toks = 482 := by
 have h := congrFun (opn_all w) (start (opening pw)).1.os
 refine hid fun G hG => ?_
 obtain ⟨⟨S, t⟩, e, h⟩ := Option.bind_eq_some_iff.mp h
 dsimp only at h
 rw [fGets_eq] at h
 obtain ⟨s₀, hf, q⟩ := Option.map_eq_some_iff.mp h
 simp only [Prod.mk.injEq] at q
 obtain ⟨p1, p2, p3, p4, p5, q1, q2, q3, q4, q5, q6, q7⟩ := q
 rw [FI_eq] at e
 have he : t.atExitBegin = some [] := by
  cases hq : t.atExitBegin with
  | none => rw [hq] at q7; cases q7
  | some l => cases l with
   | nil => rfl
   | cons a b => rw [hq] at q7; cases q7
 have he' : importEnds treeTable (opening pw) w 1 S.abs t = some S.abs := by
  unfold importEnds
  rw [he]
 have hs : (S00 (start (opening pw)).1.os).abs = (start (opening pw)).1 := rfl
 have hr := runF_spec _ _ _ _ _ e 1 _ he'
 rw [hs] at hr
 rw [abs63 q1 q2 q3 q4 q5 q6] at hr
 refine hG ⟨s₀, ?_, heap_open p1 p2, p3, p4, p5⟩
 unfold fencedOpening
 rw [show (2037 : Nat) = cutsL.foldr (· + ·) 1 from rfl, hr]
 exact hf
theorem pre_go : ∀ w : World, (fun os => topGo treeTable pw w 63 (some (.ref 6)) 12 (⟨openH w.params, #[], {}, 482, os⟩ : Shared) (topStub pw)) = fun os =>
  some (({ tree := tT w.params 67 17 (qs "__main__" 164) 0, n := 67, life := {}, gens := { toList := [] }, drawn := {}, toks := 488, os := os } : SharedT).abs, ⟨denote treeTable (.body (behindTheImports pw) env1), .body (behindTheImports pw) env1, q0, [topFrame q0]⟩) := fun w => by kernel_rfl
theorem no_anns : hasAnns (behindTheImports pw) = false ∧ docOf (behindTheImports pw) = none ∧ interactive env1 = false := ⟨by kernel_rfl, by kernel_rfl, by kernel_rfl⟩
theorem start_wp {w : World} {Γ : Ctx} {Q : Unit -> Pos -> Shared -> Prop} {E : Value -> Pos -> Shared -> Prop} {pos : Pos} {s : Shared} (h : Q () pos s) : Sem.wp (model pw w) Γ (blockStart (behindTheImports pw) env1) Q E pos s := by
 have hb : blockStart (behindTheImports pw) env1 = pure () := by
  unfold blockStart
  simp only [no_anns]
  rfl
 rw [hb, Sem.wp_pure']
 exact h
theorem topTree_size (w : World) (O : Nat -> Obj) : (absHeap (put O (TF w) 1 0) 849 {}).objs.size = 849 := absHeap_size _ _ _
noncomputable abbrev finalH (w : World) (O : Nat -> Obj) : Heap := absHeap (put O (TF w) 1 0) 849 {}
theorem chk_ns : ∀ w : World, (fun O => ((finalH w O).isNs mainGlobals, (finalH w O).isNs builtinsNs)) = fun _ => (true, true) := fun w => by kernel_rfl
theorem chk_st : ∀ w : World, (fun O => staticsOk (importedModules pw.main.body) (openH w.params) (finalH w O)) = fun _ => true := fun w => by kernel_rfl
theorem chk_nb : ∀ w : World, (fun O => namesBound pw (finalH w O)) = fun _ => true := fun w => by kernel_rfl
theorem chk_lk : ∀ w : World, (fun O => laidKept (openH w.params) (finalH w O)) = fun _ => true := fun w => by kernel_rfl
theorem chk_ac : ∀ w : World, (fun O => (finalH w O).accountedOkI (importedModules pw.main.body)) = fun _ => true := fun w => by kernel_rfl
theorem chk_bv : ∀ w : World, (fun O => (finalH w O).bltView) = fun _ => bltViewBooted := fun w => by kernel_rfl
theorem chk_op : ∀ w : World, ((openH w.params).isNs mainGlobals, (openH w.params).nsMap mainGlobals "__annotations__") = (true, some (.ref 6)) := fun w => by kernel_rfl
noncomputable def keepL : List Nat := (List.range 63).filter fun b => !(Nat.beq b 2 || Nat.beq b 3 || Nat.beq b 6 || inX b)
theorem keepL_cov : ∀ b, b < 63 -> b = 2 ∨ b = 3 ∨ b = 6 ∨ (b ∈ keepL ∧ inX b = false) := by decide
theorem keep_all : ∀ w : World, (keepL.map fun b => (TF w).get b) = keepL.map fun b => some ((openL w.params).getD b default) := fun w => by kernel_rfl
theorem openL_len (P : Params) : (openL P).length = 63 := rfl
theorem top_of_wp2 {p : Program} {w : World} {n₀ : Nat} {ann : Option Value} {n : Nat} {s₀ Sa : Shared} {P : Shared -> Prop} {b : List Stmt} {env : Env} {pos q : Pos}
  (pre : topGo table p w n₀ ann n s₀ (topStub p) = some (Sa, ⟨denote table (.body b env), .body b env, pos, [topFrame q]⟩))
  (body : Sem.wp (model p w) (Ctx.of (.body b env) [topFrame q]) (denote table (.body b env)) (Sem.finPost (model p w) (Ctx.of (.body b env) [topFrame q]) (fun r s => (∃ f, r = .ok f) ∧ P s)) (fun _ _ _ => False) pos Sa)
  (hg : ∀ s, P s -> s.NoSusp) (hr : s₀.asleep) : ∃ S', P S' ∧ ∃ k t, schedN (denote table) p w k (.single s₀ (topStub p)) = .running (.single S' t) ∧ through t = true := by
 obtain ⟨ha, _, _, hk⟩ := sched_of_topGo n s₀ _ pre hr
 have body' := Sem.wp_mono (model p w) _ _ (post' := Sem.finPost (model p w) (Ctx.of (.body b env) [topFrame q]) (fun r s => (∃ f, r = .ok f) ∧ P s)) (exc' := fun e _ s' => (fun (r : Result) (s : Shared) => (∃ f, r = .ok f) ∧ P s) (.error e) s') (fun _ _ _ x => x) (fun _ _ _ x => x.elim) _ _ body
 obtain ⟨m, r, s1, c1, p1, hm, ⟨f, rfl⟩, hP⟩ := wp_runN body'
 have hg := hg _ hP
 have hhalt : (model p w).runN (m + 2) Sa ⟨denote table (.body b env), .body b env, pos, [topFrame q]⟩ = .halted (outcomeOf (.ok (.ret .none))) s1 := by
  have h1 : (model p w).runN (m + 1) Sa ⟨denote table (.body b env), .body b env, pos, [topFrame q]⟩ = .running s1 ⟨topAfter (.ok f), .builtin "claim.caller" {}, q, []⟩ := by
   rw [runN_snoc hm, step_leaf_ret]
  rw [show m + 2 = m + 1 + 1 from rfl, runN_snoc h1]
  have h2 : (model p w).step s1 ⟨topAfter (.ok f), .builtin "claim.caller" {}, q, []⟩ = .halt (.done (.ret .none)) s1 := by
   show (model p w).step s1 ⟨leafOf (.ok (.ret .none)), .builtin "claim.caller" {}, q, []⟩ = _
   rw [step_leaf_nil]
   simp only [finish, hg.noCleanup]
   rfl
  rw [h2]
  rfl
 obtain ⟨s2, h2, hf, hc⟩ := runNI_real (denote table) p w hhalt rfl
 have e2 : s2 = s1 := Shared.eq_of_forget_eq' hf hg
 subst e2
 obtain ⟨k, t1, h3, ht⟩ := sched_of_runN _ _ _ h2 hc ha
 exact ⟨s2, hP, n + k, t1, (hk k).trans h3, ht⟩
theorem runs_top (w : World) {s₀ : Shared} (hh : s₀.heap = openH w.params) (hg : s₀.gens = #[]) (hd : s₀.drawn = {}) (ht : s₀.toks = 482) (hr : s₀.asleep) :
  ∃ O, SetsFS w (absHeap (put O (T1 w) 1 0) 455 {}) ∧ ∃ k t, schedN (denote table) pw w k (.single s₀ (topStub pw)) = .running (.single ({ tree := put O (TF w) 1 0, n := 849, life := {}, gens := { toList := [GenState.finished] }, drawn := {}, toks := 2716, os := s₀.os } : SharedT).abs t) ∧ through t = true := by
 obtain ⟨h, g, d, k, os⟩ := s₀
 dsimp only at hh hg hd ht
 subst hh hg hd ht
 have pre := congrFun (pre_go w) os
 rw [← table_eq_tree] at pre
 have body := wp_body (p := pw) (w := w) (Γ := Ctx.of (.body (behindTheImports pw) env1) [topFrame q0]) (b := behindTheImports pw) (env := env1) (pos := q0)
  (R := fun r s => (∃ f, r = .ok f) ∧ ∃ O, s = ({ tree := put O (TF w) 1 0, n := 849, life := {}, gens := { toList := [GenState.finished] }, drawn := {}, toks := 2716, os := os } : SharedT).abs ∧ SetsFS w (absHeap (put O (T1 w) 1 0) 455 {}))
  (start_wp (Sem.wp_mono _ _ _ (fun f _ s₁ hq => ⟨⟨f, rfl⟩, hq.2⟩) (fun _ _ _ x => x) _ _ (body_wp w (behindTheImports pw) q0 os)))
 obtain ⟨S', ⟨O, rfl, hF⟩, r⟩ := top_of_wp2 pre body (fun s ⟨_, e, _⟩ => e ▸ nosusp_fin) hr
 exact ⟨O, hF, r⟩
noncomputable abbrev finalS (w : World) (O : Nat -> Obj) (os : OsState) : Shared := ({ tree := put O (TF w) 1 0, n := 849, life := {}, gens := { toList := [GenState.finished] }, drawn := {}, toks := 2716, os := os } : SharedT).abs
theorem chk_bm : ∀ w : World, (fun O => ((finalH w O).nsMap mainGlobals "__builtins__", ((finalH w O).get? 4).map fun o => (o.cls, o.dict, o.data))) = fun _ => (some (.ref 4), some (.type "module", some builtinsNs, .plain)) := fun w => by kernel_rfl
theorem bm_at (w : World) (O : Nat -> Obj) : ∃ o, (finalH w O).get? 4 = some o ∧ o.cls = .type "module" ∧ o.dict = some builtinsNs ∧ o.data = .plain := by
 have h : ((finalH w O).get? 4).map (fun o => (o.cls, o.dict, o.data)) = some (.type "module", some builtinsNs, .plain) := congrArg Prod.snd (congrFun (chk_bm w) O)
 obtain ⟨o, e, q⟩ := Option.map_eq_some_iff.mp h
 simp only [Prod.mk.injEq] at q
 exact ⟨o, e, q⟩
theorem get_low (w : World) (O : Nat -> Obj) {b : Nat} {o : Obj} (hb : b ∈ keepL) (hx : inX b = false) (hlt : b < 63) (h : (openH w.params).get? b = some o) : (finalH w O).get? b = some o := by
 have h1 := List.map_inj_left.mp (keep_all w) b hb
 have h2 : (put O (TF w) 1 0).get b = some ((openL w.params).getD b default) := by
  rw [put_ovr, get_ovr1, h1]
  show some (if inX b = true then O b else _) = _
  rw [hx]
  rfl
 rw [abs_get (show b < 849 by lia) h2, ← h]
 have h3 : (openL w.params).toArray[b]? = some ((openL w.params).getD b default) := by
  rw [List.getElem?_toArray, List.getD_eq_getElem?_getD]
  have hl : b < (openL w.params).length := hlt
  rw [List.getElem?_eq_getElem hl]
  rfl
 show _ = Heap.get? ⟨⟨openL w.params⟩, {}⟩ b
 simp only [Heap.get?]
 rw [show (⟨openL w.params⟩ : Array Obj) = (openL w.params).toArray from rfl, h3]
 generalize (openL w.params).getD b default = x
 obtain ⟨c, d, dt, sl⟩ := x
 cases dt <;> rfl
theorem top_ran (w : World) {s₀ : Shared} (hh : s₀.heap = openH w.params) (hg : s₀.gens = #[]) (hd : s₀.drawn = {}) (ht : s₀.toks = 482) (hr : s₀.asleep) :
  ∃ O, SetsFS w (absHeap (put O (T1 w) 1 0) 455 {}) ∧ TopRan pw w s₀ (finalS w O s₀.os) := by
 obtain ⟨O, hF, hrun⟩ := runs_top w hh hg hd ht hr
 have n1 := congrArg Prod.fst (congrFun (chk_ns w) O)
 have n2 := congrArg Prod.snd (congrFun (chk_ns w) O)
 have p1 := congrArg Prod.fst (chk_op w)
 have p2 := congrArg Prod.snd (chk_op w)
 have st := congrFun (chk_st w) O
 have nb := congrFun (chk_nb w) O
 have lk := congrFun (chk_lk w) O
 have ac := congrFun (chk_ac w) O
 have bv := congrFun (chk_bv w) O
 refine ⟨O, hF, hrun, ?_, Shared.rest_eq rfl, fun b o hb hn => ?_, Heap.accountedI_of_ok ac, ?_, Pin.keysAreStrs_of n1, fun x hx => (Pin.builtinOf_eq n2 x).trans (Heap.of_bltView n2 bv x hx), ?_, ?_, names_of_bound nb, ?_⟩
 ·rw [hh]; rfl
 ·rw [hh] at hb hn
  have hlt : b < 63 := Heap.lt_size hb
  rcases keepL_cov b hlt with q | q | q | ⟨q, q'⟩
  ·exact absurd (.inr (.inl q)) hn
  ·exact absurd (.inl q) hn
  ·exact absurd (.inr (.inr ((Pin.globalOf_eq p1 _).trans ((show (openH w.params).nsMap mainGlobals "__annotations__" = some (.ref 6) from p2).trans (by rw [q]))))) hn
  ·exact get_low w O q q' hlt hb
 ·rw [hh]; exact statics_of_ok st
 ·obtain ⟨o, e1, e2, e3, _⟩ := bm_at w O
  exact ⟨4, o, (Pin.globalOf_eq n1 _).trans (congrArg Prod.fst (congrFun (chk_bm w) O)), e1, e2, e3⟩
 ·intro g hg
  simp [SharedT.abs] at hg
  subst hg
  trivial
 ·rw [hh]; exact laid_of_kept lk
inductive Ob where
 | raw (o : Obj)
 | ns (m : Str -> Option Value)
 | list (vs : List Value)
 | tup (vs : List Value)
 | iter (T : String) (src : Value) (i : Nat)
 | obj (P : Obj -> Prop)
def Ob.On : Ob -> Heap -> Addr -> Prop
 | .raw o, h, a => h.get? a = some o
 | .ns m, h, a => h.Ns a m
 | .list vs, h, a => ∃ n, IsL h a vs.toArray n
 | .tup vs, h, a => ∃ n, h.get? a = some { cls := .type "tuple", dict := none, data := .seq vs.toArray n, slots := #[] }
 | .iter T src i, h, a => ∃ o, h.get? a = some o ∧ o.cls = .type T ∧ o.data = .fields #[src, .int i 0]
 | .obj P, h, a => ∃ o, h.get? a = some o ∧ P o
theorem Ob.On.keep {h h' : Heap} {a : Addr} {k : Ob} (x : k.On h a) (e : ∀ o, h.get? a = some o -> h'.get? a = some o) : k.On h' a := by
 cases k with
 | raw o => exact e _ x
 | ns m => obtain ⟨o, es, ep, q, r⟩ := x; exact ⟨o, es, ep, e _ q, r⟩
 | list vs => obtain ⟨n, q⟩ := x; exact ⟨n, e _ q⟩
 | tup vs => obtain ⟨n, q⟩ := x; exact ⟨n, e _ q⟩
 | iter T src i => obtain ⟨o, q, r⟩ := x; exact ⟨o, e _ q, r⟩
 | obj P => obtain ⟨o, q, r⟩ := x; exact ⟨o, e _ q, r⟩
theorem Ob.On.get {h : Heap} {a : Addr} {k : Ob} (x : k.On h a) : ∃ o, h.get? a = some o := by
 cases k with
 | raw o => exact ⟨_, x⟩
 | ns m => obtain ⟨o, es, ep, q, r⟩ := x; exact ⟨o, q⟩
 | list vs => obtain ⟨n, q⟩ := x; exact ⟨_, q⟩
 | tup vs => obtain ⟨n, q⟩ := x; exact ⟨_, q⟩
 | iter T src i => obtain ⟨o, q, r⟩ := x; exact ⟨_, q⟩
 | obj P => obtain ⟨o, q, r⟩ := x; exact ⟨_, q⟩
abbrev Led := List (Addr × Ob)
inductive At (a : Addr) (k : Ob) : Led -> (Ob -> Led) -> Prop
 | head {r : Led} : At a k ((a, k) :: r) (fun k' => (a, k') :: r)
 | tail {p : Addr × Ob} {r : Led} {f : Ob -> Led} : At a k r f -> At a k (p :: r) (fun k' => p :: f k')
inductive Rem (p : Addr × Ob) : Led -> Led -> Prop
 | head {r : Led} : Rem p (p :: r) r
 | tail {q : Addr × Ob} {r r' : Led} : Rem p r r' -> Rem p (q :: r) (q :: r')
theorem At.mem {a : Addr} {k : Ob} {D : Led} {f : Ob -> Led} (x : At a k D f) : (a, k) ∈ D := by
 induction x with
 | head => exact .head _
 | tail _ ih => exact .tail _ ih
theorem At.keys {a : Addr} {k : Ob} {D : Led} {f : Ob -> Led} (x : At a k D f) (k' : Ob) : (f k').map (·.1) = D.map (·.1) := by
 induction x with
 | head => rfl
 | tail _ ih => simp only [List.map_cons, ih]
theorem At.of {a : Addr} {k : Ob} {D : Led} {f : Ob -> Led} (x : At a k D f) (k' : Ob) : ∀ p ∈ f k', (p = (a, k')) ∨ p ∈ D := by
 induction x with
 | head => intro p hp; cases hp with
  | head => exact .inl rfl
  | tail _ h => exact .inr (.tail _ h)
 | tail _ ih => intro p hp; cases hp with
  | head => exact .inr (.head _)
  | tail _ h =>
   rcases ih p h with q | q
   ·exact .inl q
   ·exact .inr (.tail _ q)
theorem At.again {a : Addr} {k : Ob} {D : Led} {f : Ob -> Led} (x : At a k D f) (k' : Ob) : At a k' (f k') f := by
 induction x with
 | head => exact .head
 | tail _ ih => exact .tail ih
theorem At.self {a : Addr} {k : Ob} {D : Led} {f : Ob -> Led} (x : At a k D f) : f k = D := by
 induction x with
 | head => rfl
 | tail _ ih => show _ :: _ = _; rw [ih]
theorem Rem.mem {p : Addr × Ob} {D D' : Led} (x : Rem p D D') : p ∈ D := by
 induction x with
 | head => exact .head _
 | tail _ ih => exact .tail _ ih
theorem Rem.sub {p : Addr × Ob} {D D' : Led} (x : Rem p D D') : D'.Sublist D := by
 induction x with
 | head => exact List.sublist_cons_self ..
 | tail _ ih => exact ih.cons_cons _
theorem Rem.perm {p : Addr × Ob} {D D' : Led} (x : Rem p D D') : D.Perm (p :: D') := by
 induction x with
 | head => exact .refl _
 | tail _ ih => exact (ih.cons _).trans (.swap ..)
noncomputable def upd (m : Str -> Option Value) (x : Str) (v : Value) : Str -> Option Value := fun y => if y = x then some v else m y
theorem upd_eq {m : Str -> Option Value} {x : Str} {v : Value} : upd m x v x = some v := if_pos rfl
theorem upd_ne {m : Str -> Option Value} {x y : Str} {v : Value} (h : y ≠ x) : upd m x v y = m y := if_neg h
theorem upd_lk {m : Str -> Option Value} {x y : Str} {v : Value} {r : Option Value} (h : y ≠ x) (h2 : m y = r) : upd m x v y = r := (upd_ne h).trans h2
noncomputable def mOf (binds : List (Str × Value)) : Str -> Option Value := binds.foldl (fun m p => upd m p.1 p.2) fun _ => none
theorem mOf_eq (binds : List (Str × Value)) : (fun x => binds.reverse.lookup x) = mOf binds := by
 have key : ∀ (l : List (Str × Value)) (m : Str -> Option Value), l.foldl (fun m p => upd m p.1 p.2) m = fun x => (l.reverse.lookup x).or (m x) := by
  intro l
  induction l with
  | nil => intro m; funext x; simp
  | cons p l ih =>
   intro m
   rw [List.foldl_cons, ih]
   funext x
   rw [List.reverse_cons, List.lookup_append, Option.or_assoc]
   congr 1
   unfold upd
   rw [List.lookup_cons]
   by_cases h : x = p.1
   ·subst h; simp
   ·rw [if_neg h, beq_eq_false_iff_ne.mpr h]; simp
 unfold mOf
 rw [key]
 funext x
 simp
structure Gd (w : World) (H0 : Heap) : Prop where
 K : Frag.In (Kf w.params) H0
 nl : H0.NoLimit
 b : ∃ mb, H0.Ns builtinsNs mb ∧ ∀ x : Str, x ≠ "__name__" -> mb x = bootBuiltins x
 low : sysModules < H0.objs.size
 mods : ∃ o, H0.get? sysModules = some o
def AllFin (g : Array GenState) : Prop := 1 ≤ g.size ∧ ∀ x ∈ g, x = GenState.finished
structure St (H0 : Heap) (os0 : OsState) (L : Addr) (m : Str -> Option Value) (D : Led) (s : Shared) : Prop where
 ns : s.heap.Ns L m
 stays : ∀ b o, H0.get? b = some o -> s.heap.get? b = some o
 top : H0.get? L = none
 nodup : (L :: D.map (·.1)).Nodup
 ob : ∀ p ∈ D, p.2.On s.heap p.1 ∧ H0.get? p.1 = none
 gens : AllFin s.gens
 os : s.os = os0
section
variable {H0 : Heap} {os0 : OsState} {L : Addr} {m : Str -> Option Value} {D D' : Led} {s : Shared} {a : Addr} {k k' : Ob} {f : Ob -> Led}
theorem St.tok (S : St H0 os0 L m D s) (t : Nat) : St H0 os0 L m D { s with toks := t } := ⟨S.ns, S.stays, S.top, S.nodup, S.ob, S.gens, S.os⟩
theorem St.get (S : St H0 os0 L m D s) (h : (a, k) ∈ D) : k.On s.heap a := (S.ob _ h).1
theorem St.lst {l : Addr} {vs : List Value} (S : St H0 os0 L m D s) (h : (l, .list vs) ∈ D) : s.heap.IsList l vs.toArray := let ⟨_, q⟩ := S.get h; IsL.isList q
theorem St.tp {l : Addr} {vs : List Value} (S : St H0 os0 L m D s) (h : (l, .tup vs) ∈ D) : IsTup s.heap l vs.toArray := let ⟨n, q⟩ := S.get h; ⟨_, q, rfl, n, rfl⟩
theorem St.ne (S : St H0 os0 L m D s) (h : (a, k) ∈ D) : a ≠ L := fun e => by
 have := List.nodup_cons.mp S.nodup
 exact this.1 (e ▸ List.mem_map_of_mem h)
theorem St.sub (S : St H0 os0 L m D s) (h : D'.Sublist D) : St H0 os0 L m D' s :=
 ⟨S.ns, S.stays, S.top, S.nodup.sublist ((h.map _).cons_cons _), fun p hp => S.ob p (h.subset hp), S.gens, S.os⟩
theorem St.perm (S : St H0 os0 L m D s) (h : D.Perm D') : St H0 os0 L m D' s :=
 ⟨S.ns, S.stays, S.top, ((h.map _).cons _).nodup_iff.mp S.nodup, fun p hp => S.ob p (h.mem_iff.mpr hp), S.gens, S.os⟩
theorem St.tl {p : Addr × Ob} (S : St H0 os0 L m (p :: D) s) : St H0 os0 L m D s := S.sub (List.sublist_cons_self ..)
theorem St.store {x : Str} {v : Value} {h' : Heap} {t : Nat} (S : St H0 os0 L m D s) (hn : h'.Ns L (fun y => if y = x then some v else m y)) (hs : Heap.SameBut L s.heap h') :
  St H0 os0 L (upd m x v) D { s with heap := h', toks := t } :=
 ⟨hn, fun b o e => (hs.2 b fun q => by rw [q, S.top] at e; cases e).trans (S.stays b o e), S.top, S.nodup,
  fun p hp => ⟨(S.ob p hp).1.keep fun o e => (hs.2 _ (S.ne hp)).trans e, (S.ob p hp).2⟩, S.gens, S.os⟩
theorem St.change {h' : Heap} {t : Nat} (S : St H0 os0 L m D s) (x : At a k D f) (hs : Heap.SameBut a s.heap h') (hk : k'.On h' a) :
  St H0 os0 L m (f k') { s with heap := h', toks := t } := by
 have ha := S.ob _ x.mem
 have hL := S.ne x.mem
 refine ⟨S.ns.sameBut hs (Ne.symm hL), fun b o e => (hs.2 b fun q => by rw [q, ha.2] at e; cases e).trans (S.stays b o e), S.top, by rw [x.keys]; exact S.nodup, fun p hp => ?_, S.gens, S.os⟩
 rcases x.of k' p hp with rfl | q
 ·exact ⟨hk, ha.2⟩
 ·by_cases e : p.1 = a
  ·have : p = (a, k') := by
    have nd := (List.nodup_cons.mp S.nodup).2
    rw [← x.keys k'] at nd
    have m1 := (x.again k').mem
    have : ∀ (l : Led), (l.map (·.1)).Nodup -> ∀ p ∈ l, ∀ q ∈ l, p.1 = q.1 -> p = q := by
     intro l
     induction l with
     | nil => intro _ p hp; cases hp
     | cons y l ih =>
      intro nd p hp q hq e
      rw [List.map_cons, List.nodup_cons] at nd
      replace nd := nd
      cases hp with
      | head => cases hq with
       | head => rfl
       | tail _ hq => exact absurd (e ▸ List.mem_map_of_mem hq) nd.1
      | tail _ hp => cases hq with
       | head => exact absurd (e ▸ List.mem_map_of_mem hp) nd.1
       | tail _ hq => exact ih nd.2 p hp q hq e
    exact this _ nd p hp _ m1 e
   rw [this]
   exact ⟨hk, ha.2⟩
  ·exact ⟨(S.ob p q).1.keep fun o e' => (hs.2 _ e).trans e', (S.ob p q).2⟩
theorem St.ext {s' : Shared} (S : St H0 os0 L m D s) (hk : ∀ b o, s.heap.get? b = some o -> s'.heap.get? b = some o) (hg : AllFin s'.gens) (ho : s'.os = s.os) : St H0 os0 L m D s' :=
 ⟨S.ns.keeps hk, fun b o e => hk b o (S.stays b o e), S.top, S.nodup, fun p hp => ⟨(S.ob p hp).1.keep fun o e => hk _ o e, (S.ob p hp).2⟩, hg, ho.trans S.os⟩
theorem St.new {s' : Shared} (S : St H0 os0 L m D s) (ha : s.heap.get? a = none) (hk : ∀ b o, s.heap.get? b = some o -> s'.heap.get? b = some o) (ho : k.On s'.heap a) (hg : AllFin s'.gens) (hos : s'.os = s.os) :
  St H0 os0 L m ((a, k) :: D) s' := by
 have S' := S.ext (s' := s') hk hg hos
 have h0 : H0.get? a = none := by
  cases e : H0.get? a with
  | none => rfl
  | some o => rw [S.stays a o e] at ha; cases ha
 refine ⟨S'.ns, S'.stays, S'.top, ?_, fun p hp => ?_, S'.gens, S'.os⟩
 ·have nd := List.nodup_cons.mp S.nodup
  rw [List.map_cons, List.nodup_cons, List.nodup_cons]
  refine ⟨fun q => ?_, fun q => ?_, nd.2⟩
  ·cases q with
   | head => obtain ⟨o, es, ep, e, _⟩ := S.ns; rw [e] at ha; cases ha
   | tail _ q => exact nd.1 q
  ·obtain ⟨p, hp, e⟩ := List.mem_map.mp q
   obtain ⟨o, e'⟩ := (S.ob p hp).1.get
   rw [e, ha] at e'; cases e'
 ·cases hp with
  | head => exact ⟨ho, h0⟩
  | tail _ hp => exact S'.ob p hp
theorem St.gen1 {G : Prop} (S : St H0 os0 L m D s) (a : Str) {va : Value} (ha : m a = some va) (h : ∀ M, M a = some va -> St H0 os0 L M D s -> G) : G := h m ha S
theorem St.gen2 {G : Prop} (S : St H0 os0 L m D s) (a b : Str) {va vb : Value} (ha : m a = some va) (hb : m b = some vb) (h : ∀ M, M a = some va -> M b = some vb -> St H0 os0 L M D s -> G) : G := h m ha hb S
theorem St.gen3 {G : Prop} (S : St H0 os0 L m D s) (a b c : Str) {va vb vc : Value} (ha : m a = some va) (hb : m b = some vb) (hc : m c = some vc) (h : ∀ M, M a = some va -> M b = some vb -> M c = some vc -> St H0 os0 L M D s -> G) : G := h m ha hb hc S
theorem St.gen4 {G : Prop} (S : St H0 os0 L m D s) (a b c d : Str) {va vb vc vd : Value} (ha : m a = some va) (hb : m b = some vb) (hc : m c = some vc) (hd : m d = some vd)
  (h : ∀ M, M a = some va -> M b = some vb -> M c = some vc -> M d = some vd -> St H0 os0 L M D s -> G) : G := h m ha hb hc hd S
theorem St.gen5 {G : Prop} (S : St H0 os0 L m D s) (a b c d e : Str) {va vb vc vd ve : Value} (ha : m a = some va) (hb : m b = some vb) (hc : m c = some vc) (hd : m d = some vd) (he : m e = some ve)
  (h : ∀ M, M a = some va -> M b = some vb -> M c = some vc -> M d = some vd -> M e = some ve -> St H0 os0 L M D s -> G) : G := h m ha hb hc hd he S
theorem St.gen6 {G : Prop} (S : St H0 os0 L m D s) (a b c d e f : Str) {va vb vc vd ve vf : Value} (ha : m a = some va) (hb : m b = some vb) (hc : m c = some vc) (hd : m d = some vd) (he : m e = some ve) (hf : m f = some vf)
  (h : ∀ M, M a = some va -> M b = some vb -> M c = some vc -> M d = some vd -> M e = some ve -> M f = some vf -> St H0 os0 L M D s -> G) : G := h m ha hb hc hd he hf S
theorem St.push {o : Obj} {t : Nat} (S : St H0 os0 L m D s) (hk : k.On (s.heap.push o) s.heap.objs.size) : St H0 os0 L m ((s.heap.objs.size, k) :: D) { s with heap := s.heap.push o, toks := t } :=
 S.new (by
  cases e : s.heap.get? s.heap.objs.size with
  | none => rfl
  | some o => exact absurd (Heap.lt_size e) (Nat.lt_irrefl _)) (fun b o e => Heap.get?_push_of_some _ e) hk S.gens rfl
theorem St.enter {L₁ : Addr} {m₁ : Str -> Option Value} {s₁ : Shared} (S : St H0 os0 L m D s) (hL : s.heap.get? L₁ = none) (hn : s₁.heap.Ns L₁ m₁) (hk : ∀ b o, s.heap.get? b = some o -> s₁.heap.get? b = some o)
  (hg : s₁.gens = s.gens) (ho : s₁.os = s.os) : St H0 os0 L₁ m₁ ((L, .ns m) :: D) s₁ := by
 have h0 : H0.get? L₁ = none := by
  cases e : H0.get? L₁ with
  | none => rfl
  | some o => rw [S.stays _ o e] at hL; cases hL
 refine ⟨hn, fun b o e => hk b o (S.stays b o e), h0, ?_, fun p hp => ?_, hg ▸ S.gens, ho.trans S.os⟩
 ·rw [List.map_cons, List.nodup_cons]
  refine ⟨fun q => ?_, S.nodup⟩
  cases q with
  | head => obtain ⟨o, es, ep, e, _⟩ := S.ns; rw [e] at hL; cases hL
  | tail _ q =>
   obtain ⟨p, hp, e⟩ := List.mem_map.mp q
   obtain ⟨o, e'⟩ := (S.ob p hp).1.get
   rw [e, hL] at e'; cases e'
 ·cases hp with
  | head => exact ⟨S.ns.keeps hk, S.top⟩
  | tail _ hp => exact ⟨(S.ob p hp).1.keep fun o e => hk _ o e, (S.ob p hp).2⟩
theorem St.ret {L₁ : Addr} {m₁ : Str -> Option Value} {s₁ : Shared} {D₁ : Led} (S : St H0 os0 L₁ m₁ D₁ s₁) (x : Rem (L, .ns m) D₁ D) : St H0 os0 L m D s₁ := by
 have h := S.ob _ x.mem
 refine ⟨h.1, S.stays, h.2, ?_, fun p hp => S.ob p (x.sub.subset hp), S.gens, S.os⟩
 have := ((x.perm.map (·.1)).nodup_iff.mp (List.nodup_cons.mp S.nodup).2)
 exact this
end
section
variable {w : World} {H0 : Heap} {os0 : OsState} {L : Addr} {m : Str -> Option Value} {D : Led} {s : Shared} {A : Around} {E : QV}
theorem r_int {i : Int} {kd : Nat} {pos : Pos} {env : Env} {M : Model} {Q : QV} (S : St H0 os0 L m D s) (h : ∀ t s', St H0 os0 L m D s' -> Q (.int i t) s') :
  wpAny M A (eval (.Constant (.int i) kd pos) env) Q E s := wpAny_Constant_int (h _ _ (S.tok _))
theorem r_str {x : Str} {kd : Nat} {pos : Pos} {env : Env} {M : Model} {Q : QV} (S : St H0 os0 L m D s) (h : ∀ t s', St H0 os0 L m D s' -> Q (.str x t) s') :
  wpAny M A (eval (.Constant (.str x) kd pos) env) Q E s := wpAny_Constant_str (h _ _ (S.tok _))
theorem r_name {x : Str} {pos : Pos} {env : Env} {v : Value} {M : Model} {Q : QV} (S : St H0 os0 L m D s) (hv : m x = some v) (h : Q v s)
  (hL : autoParam (env.locals = L) aR._auto_1) (hk : autoParam (env.scope.kind = .function) aR._auto_1) (hl : autoParam (env.kindOf x = some .local) aR._auto_1) (hd : autoParam ((x == ("__debug__" : Str)) = false) aD._auto_1) :
  wpAny M A (eval (.Name x pos) env) Q E s := wpAny_Name (wpAny_loadName_local hk hl (hL ▸ S.ns) hv h) hd
theorem r_load {x : Str} {env : Env} {v : Value} {M : Model} {Q : QV} (S : St H0 os0 L m D s) (hv : m x = some v) (h : Q v s)
  (hL : autoParam (env.locals = L) aR._auto_1) (hk : autoParam (env.scope.kind = .function) aR._auto_1) (hl : autoParam (env.kindOf x = some .local) aR._auto_1) :
  wpAny M A (loadName env x) Q E s := wpAny_loadName_local hk hl (hL ▸ S.ns) hv h
theorem r_store {x : Str} {env : Env} {v : Value} {M : Model} {Q : QU} (S : St H0 os0 L m D s) (h : ∀ s', St H0 os0 L (upd m x v) D s' -> Q () s')
  (hL : autoParam (env.locals = L) aR._auto_1) (hl : autoParam (env.kindOf x = some .local) aR._auto_1) (hp : autoParam ((env.scope.kind == .class || (env.scope.kind == .module && env.locals != env.globals)) = false) aR._auto_1) :
  wpAny M A (storeName env x v) Q E s := by
 subst hL
 exact wpAny_storeName_local hl S.ns (fun h' hn hs => h _ (S.store hn hs)) hp
theorem mainNs_of (gd : Gd w H0) : ∃ mg, H0.Ns mainGlobals mg := by
 have e : nsOkIn (Kf w.params) mainGlobals = true := by kernel_rfl
 exact ⟨_, .of_isNs (isNs_of_in gd.K e)⟩
@[reducible] noncomputable def gTab : List (Str × Addr) := ("skip_chars", 648) :: ("TOML_WS", 433) :: ("skip_comments_and_array_ws", 669) :: ("_siftup", 151) :: ("parse_array", 725) :: ("skip_comment", 662) :: ("skip_until", 655) :: ("heappop", 116) :: ("Flags", 530) :: ("BARE_KEY_CHARS", 442) :: ("S_IFMT", 165) :: ("S_IMODE", 158) :: ("_law_rank", 817) :: ("_siftdown", 144) :: ("filemode", 205) :: ("heapreplace", 123) :: ("parse_key_value_pair", 697) :: ("parse_value", 782) :: ("ILLEGAL_BASIC_STR_CHARS", 427) :: ("ILLEGAL_COMMENT_CHARS", 427) :: ("ILLEGAL_LITERAL_STR_CHARS", 427) :: ("ILLEGAL_MULTILINE_LITERAL_STR_CHARS", 432) :: ("KEY_INITIAL_CHARS", 450) :: ("TOML_WS_AND_NEWLINE", 441) :: ("Output", 638) :: ("NestedDict", 566) :: ("_filemode_table", 198) :: ("_law_barred", 838) :: ("_law_loaded", 810) :: ("_law_rows", 831) :: ("_law_run", 843) :: ("_law_written", 824) :: ("heapify", 137) :: ("heappush", 109) :: ("heappushpop", 130) :: ("key_value_rule", 690) :: ("loads", 478) :: ("make_safe_parse_float", 803) :: ("parse_basic_str", 775) :: ("parse_basic_str_escape", 740) :: ("parse_inline_table", 732) :: ("parse_key", 704) :: ("parse_key_part", 711) :: ("parse_literal_str", 761) :: ("parse_multiline_str", 768) :: ("parse_one_line_basic_str", 718) :: []
theorem gl_map (P : Params) : gTab.map (fun q => nsIn (Kf P) mainGlobals q.1) = gTab.map (fun q => some (some (Value.ref q.2))) := by kernel_rfl
theorem gl {P : Params} {x : Str} {a : Addr} (h : List.Mem (x, a) gTab) : nsIn (Kf P) mainGlobals x = some (some (.ref a)) := List.map_inj_left.mp (gl_map P) (x, a) h
theorem r_global {x : Str} {pos : Pos} {env : Env} {v : Value} {M : Model} {Q : QV} (gd : Gd w H0) (S : St H0 os0 L m D s) (e : nsIn (Kf w.params) mainGlobals x = some (some v)) (h : Q v s)
  (hG : autoParam (env.globals = mainGlobals) aR._auto_1) (hk : autoParam (env.scope.kind = .function) aR._auto_1) (hl : autoParam (env.kindOf x = some .globalImplicit) aR._auto_1) (hd : autoParam ((x == ("__debug__" : Str)) = false) aD._auto_1) :
  wpAny M A (eval (.Name x pos) env) Q E s := by
 obtain ⟨mg, hg⟩ := mainNs_of gd
 exact Name_function_global hk hl (loadGlobal_global (hG ▸ hg.keeps S.stays) (mg_of gd.K hg e) h) hd
theorem r_builtin {x : Str} {pos : Pos} {env : Env} {v : Value} {M : Model} {Q : QV} (gd : Gd w H0) (S : St H0 os0 L m D s) (e : nsIn (Kf w.params) mainGlobals x = some none) (hv : bootBuiltins x = some v) (h : Q v s)
  (hG : autoParam (env.globals = mainGlobals) aR._auto_1) (hB : autoParam (env.builtins = builtinsNs) aR._auto_1) (hk : autoParam (env.scope.kind = .function) aR._auto_1) (hl : autoParam (env.kindOf x = some .globalImplicit) aR._auto_1) (hd : autoParam ((x == ("__debug__" : Str)) = false) aD._auto_1)
  (hn : autoParam (x ≠ "__name__") aD._auto_1) :
  wpAny M A (eval (.Name x pos) env) Q E s := by
 obtain ⟨mg, hg⟩ := mainNs_of gd
 obtain ⟨mb, hb, hbb⟩ := gd.b
 exact Name_function_global hk hl (loadGlobal_builtin (hG ▸ hg.keeps S.stays) (mg_none_of gd.K hg e) (hB ▸ hb.keeps S.stays) ((hbb x hn).trans hv) h) hd
end
set_option hygiene false in
local macro_rules | `(tactic| walk_at "o") => `(tactic| first | exact dlt3 (by assumption) rfl | exact dlt2 (by assumption) rfl | exact dlt1 (by assumption) | exact sub_next (by assumption) | exact le_of_sub (by assumption) (by assumption) | lia)
set_option hygiene false in
local macro_rules | `(tactic| walk_at "s") => `(tactic| first | exact nle rfl | simp)
@[reducible] def FinQ (R : Result -> Shared -> Prop) : QF := fun fl s' => R (.ok (.ret (match fl with | .ret v => v | _ => .none))) s'
@[reducible] def LvE (M : Model) (A : Around) (env : Env) (R : Result -> Shared -> Prop) : QV := fun e s' => wpAny M A («leaving» env e) (fun _ s'' => R (.error e) s'') (fun e' s'' => R (.error e') s'') s'
@[reducible] def TurnQ (I : Nat -> Shared -> Prop) (P : Shared -> Prop) (Q : QF) (n : Nat) : QF := fun f s₃ => match f with
 | .next | .cont => ∃ m, m < n ∧ I m s₃
 | .brk => P s₃
 | .ret v => Q (.ret v) s₃
@[reducible] def WhQ (M : Model) (A : Around) (E : QV) (env : Env) (body : List Stmt) (T : QF) (P : Shared -> Prop) : QB := fun b s₂ => if b = true then wpAny M A (execs body env) T E s₂ else P s₂
@[reducible] def CutQ (P : Shared -> Prop) : QF := fun f s' => f = .next ∧ P s'
section
variable {w : World} {H0 : Heap} {os0 : OsState} {L : Addr} {m : Str -> Option Value} {D : Led} {s : Shared} {A : Around} {E : QV}
theorem genx {α : Type} {M : Model} {x : Sem α} {Q : α -> Shared -> Prop} (h : ∀ (Q' : α -> Shared -> Prop) (E' : QV), (∀ f s, Q f s -> Q' f s) -> wpAny M A x Q' E' s) : wpAny M A x Q E s := h Q E fun _ _ q => q
theorem r_enter {f : Addr} {o : Obj} {fd : FuncData} {body : List Stmt} {args : Args} {binds : List (Str × Value)} {R : Result -> Shared -> Prop} (gd : Gd w H0) (S : St H0 os0 L m D s)
  (ho : H0.get? f = some o) (hd : o.data = .func fd) (hcd : codeIn (Kf w.params) fd.code fd.qualname = true) (hbody : fd.body = .stmts body) (hbind : BindsTo s fd args binds) (hroom : A.depth < recursionLimit)
  (hcell : (fd.scope.names.all fun x => x.2 != .cell) = true) (hloc : (binds.all fun x => fd.scope.names.lookup x.1 == some .local) = true)
  (h : ∀ L₁ s₁, St H0 os0 L₁ (mOf binds) ((L, .ns m) :: D) s₁ -> wpAny (model pw w) (A.deeper (callEnv fd L₁ f)) (execs body (callEnv fd L₁ f)) (FinQ R) (LvE (model pw w) (A.deeper (callEnv fd L₁ f)) (callEnv fd L₁ f) R) s₁)
  (hco : autoParam (fd.scope.isCoroutine = false) aR._auto_1) (hgen : autoParam (fd.scope.isGenerator = false) aR._auto_1) (hk : autoParam (fd.scope.kind = .function) aR._auto_1) :
  codeAny (model pw w) A (.call (.ref f) args) R s :=
 codeAny_call_def hroom (S.stays _ _ ho) hd (gd.nl.keeps S.stays) (codeRec_of (gd.K.keeps S.stays) hcd) hbody hbind (fun x hx => by simpa using List.all_eq_true.mp hcell x hx) (fun x hx => by simpa using List.all_eq_true.mp hloc x hx) (fun h₀ hn hk => by
  rw [mOf_eq] at hn
  exact h _ _ (S.enter (by
   cases e : s.heap.get? s.heap.objs.size with
   | none => rfl
   | some o => exact absurd (Heap.lt_size e) (Nat.lt_irrefl _)) hn hk rfl rfl)) hco hgen hk
theorem r_while {env : Env} {test : Expr} {body rest : List Stmt} {pos : Pos} {Q : QF} (I : Nat -> Shared -> Prop) (P : Shared -> Prop)
  (turn : ∀ n s, I n s -> wpAny (model pw w) A (isTrue test env (eval test env)) (WhQ (model pw w) A NoE env body (TurnQ I P Q n) P) NoE s)
  (n : Nat) (h : I n s) (after : ∀ s', P s' -> wpAny (model pw w) A (execs rest env) Q E s') : wpAny (model pw w) A (execs (.While test body [] pos :: rest) env) Q E s := by
 refine zC (wpAny_While (codeAny_whileLoop I (fun n s hI => ?_) n h))
 refine wM (turn n s hI) (fun b s₂ h₂ => ?_) fun _ _ q => q.elim
 cases b with
 | true =>
  delta WhQ at h₂
  rw [if_pos rfl] at h₂ ⊢
  refine wM h₂ (fun f s₃ h₃ => ?_) fun _ _ q => q.elim
  cases f with
  | next => exact h₃
  | cont => exact h₃
  | brk => exact after _ h₃
  | ret v => exact h₃
 | false =>
  delta WhQ at h₂
  rw [if_neg (by simp)] at h₂ ⊢
  exact wpAny_execs_nil (after _ h₂)
theorem r_cut {env : Env} {st : Stmt} {rest : List Stmt} {Q : QF} (P : Shared -> Prop) (h : wpAny (model pw w) A (exec st env) (CutQ P) NoE s)
  (after : ∀ s', P s' -> wpAny (model pw w) A (execs rest env) Q E s') : wpAny (model pw w) A (execs (st :: rest) env) Q E s :=
 zC (wM h (fun _ s' x => by obtain ⟨rfl, y⟩ := x; exact after _ y) fun _ _ q => q.elim)
noncomputable def isSlice : Expr -> Bool
 | .Slice .. => true
 | _ => false
theorem zU {slice : Expr} (h : isSlice slice = false) (o i : Value) : subscripted slice false o i = operate [o, i] (getItem o i) := by
 cases slice <;> first | rfl | cases h
theorem r_item {l : Addr} {vs : List Value} {k : Int} {t : Tok} {x : Value} {value slice : Expr} {Q : QV} (S : St H0 os0 L m D s) (hl : (l, .list vs) ∈ D)
  (h0 : 0 ≤ k) (hfit : k < 2 ^ 63) (hx : vs[k.toNat]? = some x) (h : Q x s)
  (hs : autoParam (isSlice slice = false) aR._auto_1) :
  wpAny (model pw w) A (subscriptTail value slice (.ref l) (.int k t)) Q E s :=
 have hL : s.heap.IsList l vs.toArray := S.lst hl
 tail_any hL.typeIs slot_list_getitem.lookup (wpAny_getItem_list hL h0 hfit (by simpa using hx) h) (zU hs _ _)
theorem r_itemN {l : Addr} {vs : List Value} {j : Nat} {t : Tok} {value slice : Expr} {Q : QV} (S : St H0 os0 L m D s) (hl : (l, .list vs) ∈ D)
  (hj : j < vs.length) (hb : vs.length < 2 ^ 62) (h : Q (vs.getD j .none) s)
  (hs : autoParam (isSlice slice = false) aR._auto_1) :
  wpAny (model pw w) A (subscriptTail value slice (.ref l) (.int (j : Nat) t)) Q E s :=
 r_item S hl (by walk_at "o") (by walk_at "o") (by simp [List.getD, hj]) h hs
theorem setItem_L {l : Addr} {items : Array Value} {n : Nat} {k : Int} {t : Tok} {v : Value} {Q : QU} (hl : IsL s.heap l items n)
  (h0 : 0 ≤ k) (hfit : k < 2 ^ 63) (hn : k < items.size)
  (hQ : Q () { s with heap := s.heap.update l (Obj.mapSeq (·.setIfInBounds k.toNat v)) }) :
  wpAny (model pw w) A (setItem (.ref l) (.int k t) v) Q E s := by
 have hL := hl.isList
 unfold setItem
 try with_reducible refine wpAny_holding ?_
 first | refine wB (wP ?_) | skip
 refine wB (wpAny_sequenceKey hL.typeIs (by decide) ?_)
 refine wB (wpAny_callSpecial?_slot (name := Str.ofString "__setitem__") hL.typeIs slot_list_setitem
  (wpAny_call_entry slot_list_setitem hL.typeIs entry_list_setitem ?_ (args_list_setitem _ _ _)))
 show wpAny _ _ (Builtin.List.listSubscript? (.int k t) >>= _) _ _ s
 refine wB (wpAny_listSubscript_int (fitsIndex_of h0 hfit) ?_)
 obtain ⟨j, rfl⟩ := Int.eq_ofNat_of_zero_le h0
 have hj : j < items.size := by walk_at "o"
 have hx' : items[j]? = some items[j] := Array.getElem?_eq_getElem hj
 show wpAny _ _ ((seqItemAt l j >>= fun r => pure (r.map (j, ·))) >>= _) _ _ s
 refine wB (wB (wpAny_seqItemAt hl rfl (wP ?_)))
 rw [hx']
 show wpAny _ _ (setSeqItemAt l j v >>= _) _ _ s
 refine wB (wpAny_setSeqItemAt hl rfl ?_)
 first
  | exact wB (wP (wP ⟨.none, rfl, wP hQ⟩))
  | exact wP ⟨.none, rfl, wP hQ⟩
theorem On_list_update {h : Heap} {l : Addr} {vs ws : List Value} {n : Nat} {f : Array Value -> Array Value} (hl : IsL h l vs.toArray n) (e : f vs.toArray = ws.toArray) : (Ob.list ws).On (h.update l (Obj.mapSeq f)) l :=
 ⟨_, e ▸ hl.update f⟩
theorem r_setitemN {l : Addr} {vs : List Value} {j : Nat} {t : Tok} {v : Value} {F : Ob -> Led} {Q : QU} (S : St H0 os0 L m D s) (hl : At l (.list vs) D F)
  (hj : j < vs.length) (hb : vs.length < 2 ^ 62) (h : ∀ s', St H0 os0 L m (F (.list (vs.set j v))) s' -> Q () s') :
  wpAny (model pw w) A (setItem (.ref l) (.int (j : Nat) t) v) Q E s := by
 obtain ⟨n, q⟩ := S.get hl.mem
 exact setItem_L q (by walk_at "o") (by walk_at "o") (by simpa using hj) (h _ (S.change (t := s.toks) hl (Heap.SameBut.update ..) (On_list_update q (by simp))))
end
@[reducible] def CalQ (H0 : Heap) (M : Model) (A : Around) (f : Addr) (R : Result -> Shared -> Prop) : QL := fun vs s₁ => (∀ (b : Addr) (o : Obj), H0.get? b = some o -> s₁.heap.get? b = some o) ∧ codeAny M A (.call (.ref f) ⟨vs, []⟩) R s₁
@[reducible] def CabQ (M : Model) (A : Around) (E : QV) (v : Value) (Q : QV) : QL := fun vs s₁ => wpAny M A (call v vs) Q E s₁
def Back (Q : QV) (E : QV) : Result -> Shared -> Prop := fun r s' => match r with
 | .ok (.ret v) => Q v s'
 | .ok _ => False
 | .error e => E e s'
variable {w : World} {H0 : Heap} {os0 : OsState} {L : Addr} {m : Str -> Option Value} {D : Led} {s : Shared} {A : Around} {E : QV} {env : Env}
theorem St.extBut {h' : Heap} {t : Nat} (S : St H0 os0 L m D s) (he : Heap.ExtBut s.heap.objs.size s.heap h') : St H0 os0 L m D { s with heap := h', toks := t } :=
 S.ext (fun b o e => he b o (Nat.ne_of_lt (Heap.lt_size e)) e) S.gens rfl
theorem r_callf {x : Str} {np pos : Pos} {e : Expr} {rest : List Expr} {f : Addr} {Q : QV} (gd : Gd w H0) (S : St H0 os0 L m D s)
  (hn : nsIn (Kf w.params) mainGlobals x = some (some (.ref f))) (hk : keepIn (Kf w.params) (.ref f) = true)
  (h : wpAny (model pw w) A (spliced (backTo pos (starEach (e :: rest) env))) (CalQ H0 (model pw w) A f (Back Q E)) E s)
  (hG : autoParam (env.globals = mainGlobals) aR._auto_1) (hkd : autoParam (env.scope.kind = .function) aR._auto_1) (hl : autoParam (env.kindOf x = some .globalImplicit) aR._auto_1) (hd : autoParam ((x == ("__debug__" : Str)) = false) aD._auto_1)
  (he : autoParam (starEach (e :: rest) env = (false, eval e env) :: starEach rest env) aR._auto_1) (hplain : autoParam ((backTo pos (starEach rest env)).any (·.1) = false) aR._auto_1) :
  wpAny (model pw w) A (eval (.Call (.Name x np) (e :: rest) [] pos) env) Q E s :=
 wpAny_Call_NameR (r_global gd S hn (callWith_K gd.K hk (wM h (fun vs s₁ h₁ => ⟨gd.K.keeps h₁.1, wpAny_call h₁.2⟩) fun _ _ q => q) he hplain) hG hkd hl hd)
theorem r_callb {x : Str} {np pos : Pos} {e : Expr} {rest : List Expr} {v : Value} {Q : QV} (gd : Gd w H0) (S : St H0 os0 L m D s)
  (hn : nsIn (Kf w.params) mainGlobals x = some none) (hv : bootBuiltins x = some v) (hk : keeperOf v = pure .machine)
  (h : wpAny (model pw w) A (spliced (backTo pos (starEach (e :: rest) env))) (CabQ (model pw w) A E v Q) E s)
  (hG : autoParam (env.globals = mainGlobals) aR._auto_1) (hB : autoParam (env.builtins = builtinsNs) aR._auto_1) (hkd : autoParam (env.scope.kind = .function) aR._auto_1) (hl : autoParam (env.kindOf x = some .globalImplicit) aR._auto_1) (hd : autoParam ((x == ("__debug__" : Str)) = false) aD._auto_1)
  (hnn : autoParam (x ≠ "__name__") aD._auto_1)
  (he : autoParam (starEach (e :: rest) env = (false, eval e env) :: starEach rest env) aR._auto_1) (hplain : autoParam ((backTo pos (starEach rest env)).any (·.1) = false) aR._auto_1) :
  wpAny (model pw w) A (eval (.Call (.Name x np) (e :: rest) [] pos) env) Q E s := by
 refine wpAny_Call_NameR (r_builtin gd S hn hv ?_ hG hB hkd hl hd hnn)
 rw [he] at h ⊢
 exact callWith_of (P := fun _ => True) (by show ((false || (backTo pos (starEach rest env)).any (·.1)) || false) = false; rw [hplain]; rfl)
  (fun _ _ => ⟨.machine, .inr (.inl rfl), Looks.of_pure hk⟩) (evalArgs_plain (wM h (fun vs s₁ h₁ => ⟨trivial, h₁⟩) fun _ _ q => q))
def Appends (l : Addr) (v : Value) (Q : QV) (s : Shared) : Prop :=
 ∃ vs n, vs.size ≤ sizeLine ∧ IsL s.heap l vs n ∧ ∀ t, Q .none { s with heap := s.heap.update l (Obj.mapSeq fun xs => xs.push v), toks := t }
@[reducible] def ApQ (l : Addr) (Q : QV) : QV := fun v s₂ => Appends l v Q s₂
def AppendsTo (M : Model) (A : Around) (E : QV) (elt : Sem Value) (Q : QV) (ov : Value) (s : Shared) : Prop :=
 ∃ l vs n, ov = .ref l ∧ IsL s.heap l vs n ∧ wpAny M A elt (ApQ l Q) E s
theorem r_append {o elt : Expr} {apos pos : Pos} {Q : QV}
  (h : wpAny (model pw w) A (eval o env) (AppendsTo (model pw w) A E (eval elt env) Q) E s)
  (hbase : autoParam (attributeBase o "append" env (eval o env) = eval o env) aR._auto_1)
  (hfew : autoParam (((backTo pos (starEach [elt] env)).all (fun x => !x.1) && (backToKw pos (keywordEach [] env)).all (fun x => x.1.isSome) && decide (([elt] : List Expr).length + ([] : List Keyword).length + (if ([] : List Keyword).isEmpty then 0 else 1) < 30)) = true) aR._auto_1)
  (hline : autoParam ((apos.endLine == pos.line) = true) aR._auto_1) (htrees : autoParam (backTo pos (starEach [elt] env) = [(false, eval elt env)]) aR._auto_1) :
  wpAny (model pw w) A (eval (.Call (.Attribute o "append" apos) [elt] [] pos) env) Q E s := by
 refine wpAny_Call_append hbase hfew hline htrees (wM h (fun ov s₁ h₁ => ?_) fun _ _ q => q)
 obtain ⟨l, vs, n, rfl, hl, h₂⟩ := h₁
 refine ⟨l, vs, rfl, ⟨_, n, hl, rfl, rfl, rfl⟩, wM h₂ (fun v s₂ h₃ => ?_) fun _ _ q => q⟩
 obtain ⟨vs', n', hz, hl', hq⟩ := h₃
 exact call_meets slot_list_append ⟨_, hl', rfl⟩ entry_list_append (args_list_append _ _) (list_append l vs' n' v hz) ⟨hl', hq _⟩
theorem zY {l : Addr} {vs : List Value} {v : Value} {F : Ob -> Led} {Q : QV} (S : St H0 os0 L m D s) (hl : At l (.list vs) D F) (hz : vs.length ≤ sizeLine)
  (h : ∀ s', St H0 os0 L m (F (.list (vs ++ [v]))) s' -> Q .none s') :
  Appends l v Q s := by
 obtain ⟨n, q⟩ := S.get hl.mem
 exact ⟨_, n, by simpa using hz, q, fun t => h _ (S.change (t := t) hl (Heap.SameBut.update ..) (On_list_update q (by simp)))⟩
theorem r_appendO {l : Addr} {vs : List Value} {elt : Sem Value} {Q : QV} (S : St H0 os0 L m D s) (hl : (l, .list vs) ∈ D) (h : wpAny (model pw w) A elt (ApQ l Q) E s) :
  AppendsTo (model pw w) A E elt Q (.ref l) s := by
 obtain ⟨n, q⟩ := S.get hl
 exact ⟨l, _, n, rfl, q, h⟩
theorem r_len {l : Addr} {vs : List Value} {Q : QV} (S : St H0 os0 L m D s) (hl : (l, .list vs) ∈ D) (hb : vs.length < 2 ^ 62)
  (h : ∀ t s', St H0 os0 L m D s' -> Q (.int (vs.length : Nat) t) s') : wpAny (model pw w) A (call (.builtin "len") [.ref l]) Q E s := by
 refine Calls.call_function_entry kind_len plain_len entry_len (args_len1 _) (wpAny_len_body_list (S.lst hl) (by simp; lia) ?_)
 have := h (s.toks + 1) { s with toks := s.toks + 1 + 1 } (S.tok _)
 simpa using this
theorem r_truthy_list {l : Addr} {vs : List Value} {Q : QB} (S : St H0 os0 L m D s) (hl : (l, .list vs) ∈ D) (hb : vs.length < 2 ^ 62)
  (h : ∀ s', St H0 os0 L m D s' -> Q (!vs.isEmpty) s') : wpAny (model pw w) A (truthy (.ref l)) Q E s := by
 refine wpAny_truthy_list (S.lst hl) (by simp; lia) ?_
 have := h { s with toks := s.toks + 1 + 1 } (S.tok _)
 simpa using this
theorem r_pop {x : Str} {np apos pos : Pos} {l : Addr} {vs : List Value} {y : Value} {F : Ob -> Led} {Q : QV} (S : St H0 os0 L m D s) (hx : m x = some (.ref l)) (hl : At l (.list vs) D F) (hy : vs.getLast? = some y)
  (hz : vs.length ≤ sizeLine) (h : ∀ s', St H0 os0 L m (F (.list vs.dropLast)) s' -> Q y s')
  (hL : autoParam (env.locals = L) aR._auto_1) (hk : autoParam (env.scope.kind = .function) aR._auto_1) (hkx : autoParam (env.kindOf x = some .local) aR._auto_1) (hd : autoParam ((x == ("__debug__" : Str)) = false) aD._auto_1)
  (hbase : autoParam (attributeBase (.Name x np) "pop" env (eval (.Name x np) env) = eval (.Name x np) env) aR._auto_1)
  (hfew : autoParam (((backTo pos (starEach [] env)).all (fun x => !x.1) && (backToKw pos (keywordEach [] env)).all (fun x => x.1.isSome) && decide (([] : List Expr).length + ([] : List Keyword).length + (if ([] : List Keyword).isEmpty then 0 else 1) < 30)) = true) aR._auto_1)
  (hline : autoParam ((apos.endLine == pos.line) = true) aR._auto_1) :
  wpAny (model pw w) A (eval (.Call (.Attribute (.Name x np) "pop" apos) [] [] pos) env) Q E s := by
 obtain ⟨n, q⟩ := S.get hl.mem
 refine wpAny_Call_method hbase hfew hline PySem.F.plainAttrs_list PySem.F.slot_list_pop PySem.F.type_list_pop (r_name S hx ⟨⟨_, q, rfl⟩, fun a e => by cases e; exact ⟨_, q, rfl⟩, ?_⟩ hL hk hkx hd)
 have hne : vs ≠ [] := by rintro rfl; simp at hy
 refine P.pop_list q (y := y) ?_ (h _ (S.change (t := s.toks) hl (Heap.SameBut.update ..) (On_list_update q ?_))) (by simpa using hz)
 ·rw [List.getLast?_eq_getElem?] at hy; simpa using hy
 ·have : vs.length - 1 < vs.length := by have := List.length_pos_iff.mpr hne; lia
  simp only [Array.eraseIdxIfInBounds, List.size_toArray, this, dif_pos]
  rw [List.eraseIdx_toArray, List.eraseIdx_length_sub_one]
theorem r_add {a b : Int} {t u : Tok} {Q : QV} (S : St H0 os0 L m D s) (h : ∀ t s', St H0 os0 L m D s' -> Q (.int (a + b) t) s') : wpAny (model pw w) A (binaryOp .Add (.int a t) (.int b u)) Q E s :=
 PyProof.Rows.add_int (h _ _ (S.tok _))
theorem r_sub {a b : Int} {t u : Tok} {Q : QV} (S : St H0 os0 L m D s) (h : ∀ t s', St H0 os0 L m D s' -> Q (.int (a - b) t) s') : wpAny (model pw w) A (binaryOp .Sub (.int a t) (.int b u)) Q E s :=
 PyProof.Rows.sub_int' (h _ _ (S.tok _))
theorem r_mul {a b : Int} {t u : Tok} {Q : QV} (S : St H0 os0 L m D s) (hm : IntMulOk a b) (h : ∀ t s', St H0 os0 L m D s' -> Q (.int (a * b) t) s') : wpAny (model pw w) A (binaryOp .Mult (.int a t) (.int b u)) Q E s :=
 PyProof.Rows.mul_int (h _ _ (S.tok _)) hm
theorem r_iadd {a b : Int} {t u : Tok} {Q : QV} (S : St H0 os0 L m D s) (h : ∀ t s', St H0 os0 L m D s' -> Q (.int (a + b) t) s') : wpAny (model pw w) A (inplaceOp .Add (.int a t) (.int b u)) Q E s :=
 P.iadd_int (h _ _ (S.tok _))
@[reducible] def SetQ2 (M : Model) (A : Around) (E : QV) (v : Value) (Q : QU) (ov : Value) : QV := fun iv s₂ => wpAny M A (setItem ov iv v) Q E s₂
@[reducible] def SetQ (M : Model) (A : Around) (E : QV) (env : Env) (i : Expr) (v : Value) (Q : QU) : QV := fun ov s₁ => wpAny M A (eval i env) (SetQ2 M A E v Q ov) E s₁
def TupQ (Q : QV) (vs : List Value) (s : Shared) : Prop := vs.length ≤ sizeLine ∧ Q (.ref s.heap.objs.size) { s with heap := s.heap.push { cls := .type "tuple", data := .seq vs.toArray } }
def LstQ (Q : QV) (vs : List Value) (s : Shared) : Prop := vs.length ≤ sizeLine ∧ Q (.ref s.heap.objs.size) { s with heap := s.heap.push { cls := .type "list", data := .seq vs.toArray } }
theorem r_tuple {elts : List Expr} {k : Nat} {pos : Pos} {Q : QV} (h : wpAny (model pw w) A (spliced (backTo pos (starEach elts env))) (TupQ Q) E s) :
  wpAny (model pw w) A (eval (.Tuple elts k pos) env) Q E s := wpAny_Tuple_spliced h
theorem r_list {elts : List Expr} {pos : Pos} {Q : QV} (h : wpAny (model pw w) A (spliced (backTo pos (starEach elts env))) (LstQ Q) E s) :
  wpAny (model pw w) A (eval (.List elts pos) env) Q E s := wpAny_List_spliced h
theorem zL {n : Nat} (h : n ≤ 100000) : n ≤ sizeLine := by rw [sizeLine_eq]; lia
theorem r_tupQ {vs : List Value} {Q : QV} (S : St H0 os0 L m D s) (hz : vs.length ≤ 100000) (h : ∀ a s', St H0 os0 L m ((a, .tup vs) :: D) s' -> Q (.ref a) s') : TupQ Q vs s :=
 ⟨zL hz, h _ _ (S.push (t := s.toks) ⟨0, Heap.get?_push_size _ rfl⟩)⟩
theorem r_lstQ {vs : List Value} {Q : QV} (S : St H0 os0 L m D s) (hz : vs.length ≤ 100000) (h : ∀ a s', St H0 os0 L m ((a, .list vs) :: D) s' -> Q (.ref a) s') : LstQ Q vs s :=
 ⟨zL hz, h _ _ (S.push (t := s.toks) ⟨0, Heap.get?_push_size _ rfl⟩)⟩
theorem r_unpack {elts : List Expr} {k : Nat} {pos : Pos} {t : Addr} {vs : List Value} {Q : QU} (S : St H0 os0 L m D s) (hh : A.handled = none) (ht : (t, .tup vs) ∈ D)
  (h : ∀ s', St H0 os0 L m D s' -> wpAny (model pw w) A (assignInOrder ((assignEach elts env).map (·.2)) vs) Q E s')
  (hn : autoParam ((assignEach elts env).length = vs.length) aR._auto_1) (hstar : autoParam ((assignEach elts env).findIdx? (·.1) = none) aR._auto_1) : wpAny (model pw w) A (assign (.Tuple elts k pos) env (.ref t)) Q E s :=
 assign_Tuple_tuple hh (S.tp ht) (by simpa using hn) hstar fun h' he => h _ (S.extBut (t := s.toks) he)
theorem r_setSub {o i : Expr} {pos : Pos} {v : Value} {Q : QU} (h : wpAny (model pw w) A (eval o env) (SetQ (model pw w) A E env i v Q) E s) :
  wpAny (model pw w) A (assign (.Subscript o i pos) env v) Q E s := by
 rw [arm_assign_Subscript]
 refine wB (wpAny_holding (wM h (fun ov s₁ h₁ => wB (wpAny_holding (wM h₁ (fun iv s₂ h₂ => wB (wpAny_standAt (wB (wpAny_holding (wM h₂ (fun _ s₃ h₃ => ?_) fun _ _ q => q))))) fun _ _ q => q))) fun _ _ q => q))
 exact fun Γ p hΓ => by rw [Sem.wp_release]; exact h₃
structure Source (w : World) (A : Around) (H0 : Heap) (os0 : OsState) (target : Expr) (it : Addr) (kit : Nat -> Led) (n : Nat) (V : Nat -> Value -> Led -> Prop) (need : Led -> Prop) : Prop where
 item : ∀ {L : Addr} {m : Str -> Option Value} {D : Led} {i : Nat} {s : Shared} {Q : QV} {E : QV}, St H0 os0 L m (kit i ++ D) s -> need D -> i < n →
  (∀ v N s', V i v N -> St H0 os0 L m (N ++ (kit (i + 1) ++ D)) s' -> Q v s') →
  wpAny (model pw w) A (pyNext (.ref it)) (fun r s₁ => match r with | none => False | some v => wpAny (model pw w) A (letOwnedTupleGo target (.ref it) v) (fun _ s₂ => Q v s₂) E s₁) E s
 done : ∀ {L : Addr} {m : Str -> Option Value} {D : Led} {s : Shared} {Q : Shared -> Prop} {E : QV}, St H0 os0 L m (kit n ++ D) s -> need D -> (∀ s', St H0 os0 L m D s' -> Q s') →
  wpAny (model pw w) A (pyNext (.ref it)) (fun r s₁ => match r with | none => Q s₁ | some _ => False) E s
inductive LoopN (H0 : Heap) (os0 : OsState) (L : Addr) (kit : Nat -> Led) (J : Nat -> (Str -> Option Value) -> Led -> Prop) (i : Nat) (s₃ : Shared) : Prop
 | mk (m' : Str -> Option Value) (D' : Led) (_ : J i m' D') (_ : St H0 os0 L m' (kit i ++ D') s₃)
inductive LoopI (H0 : Heap) (os0 : OsState) (L : Addr) (kit : Nat -> Led) (n : Nat) (J : Nat -> (Str -> Option Value) -> Led -> Prop) (k : Nat) (s : Shared) : Prop
 | mk (i : Nat) (m : Str -> Option Value) (D : Led) (_ : k = n - i) (_ : i ≤ n) (_ : J i m D) (_ : St H0 os0 L m (kit i ++ D) s)
theorem LoopN.turn {H0 : Heap} {os0 : OsState} {L : Addr} {kit : Nat -> Led} {n i : Nat} {J : Nat -> (Str -> Option Value) -> Led -> Prop} {s : Shared} (h : i < n) (x : LoopN H0 os0 L kit J (i + 1) s) : ∃ k, k < n - i ∧ LoopI H0 os0 L kit n J k s := by
 obtain ⟨m, D, hJ, S⟩ := x
 exact ⟨n - (i + 1), by walk_at "o", i + 1, m, D, rfl, h, hJ, S⟩
@[reducible] def LoopQ (H0 : Heap) (os0 : OsState) (L : Addr) (kit : Nat -> Led) (J : Nat -> (Str -> Option Value) -> Led -> Prop) (P : Shared -> Prop) (Q : QF) (i : Nat) : QF := fun f s₃ => match f with
 | .next | .cont => LoopN H0 os0 L kit J (i + 1) s₃
 | .brk => P s₃
 | .ret v => Q (.ret v) s₃
@[reducible] def BodQ {α : Type} (M : Model) (A : Around) (E : QV) (env : Env) (body : List Stmt) (T : QF) : α -> Shared -> Prop := fun _ s₂ => wpAny M A (execs body env) T E s₂
@[reducible] def ElsQ (P : Shared -> Prop) (Q : QF) : QF := fun f s' => match f with | .next => P s' | .ret v => Q (.ret v) s' | _ => False
def FEnd (P : Shared -> Prop) (Q : QF) : Result -> Shared -> Prop := fun r s' => match r with
 | .ok .next => P s'
 | .ok (.ret v) => Q (.ret v) s'
 | _ => False
theorem r_loop {target : Expr} {it : Addr} {kit : Nat -> Led} {n : Nat} {V : Nat -> Value -> Led -> Prop} {need : Led -> Prop} {body orelse : List Stmt} {Q : QF} (X : Source w A H0 os0 target it kit n V need)
  (J : Nat -> (Str -> Option Value) -> Led -> Prop) (P : Shared -> Prop) (hneed : ∀ i m D, J i m D -> need D) (S : St H0 os0 L m (kit 0 ++ D) s) (h0 : J 0 m D)
  (turn : ∀ i m D v N s, i < n -> J i m D -> V i v N -> St H0 os0 L m (N ++ (kit (i + 1) ++ D)) s -> wpAny (model pw w) A (assign target env v) (BodQ (model pw w) A NoE env body (LoopQ H0 os0 L kit J P Q i)) NoE s)
  (fin : ∀ m D s, J n m D -> St H0 os0 L m D s -> wpAny (model pw w) A (execs orelse env) (ElsQ P Q) NoE s) :
  codeAny (model pw w) A (.forLoop target (.ref it) body orelse env) (FEnd P Q) s := by
 refine codeAny_forLoop_any (LoopI H0 os0 L kit n J) (fun k s hI => ?_) n ⟨0, m, D, rfl, Nat.zero_le _, h0, S⟩
 with_reducible refine hid fun G hG => ?_
 obtain ⟨i, m, D, rfl, hi, hJ, S⟩ := hI
 refine hG ?_
 by_cases hlt : i < n
 ·refine wM (X.item (E := fun _ _ => False) S (hneed _ _ _ hJ) hlt fun v N s' hV S' => turn i m D v N s' hlt hJ hV S') (fun r s₁ h₁ => ?_) fun _ _ q => q.elim
  cases r with
  | none => exact h₁.elim
  | some v =>
   refine wM h₁ (fun _ s₂ h₂ => wM h₂ (fun _ s₃ h₃ => wM h₃ (fun f s₄ h₄ => ?_) fun _ _ q => q.elim) fun _ _ q => q.elim) fun _ _ q => q.elim
   cases f with
   | next => exact LoopN.turn hlt h₄
   | cont => exact LoopN.turn hlt h₄
   | brk => exact h₄
   | ret v => exact h₄
 ·obtain rfl : i = n := Nat.le_antisymm hi (Nat.le_of_not_lt hlt)
  refine wM (X.done (E := fun _ _ => False) S (hneed _ _ _ hJ) fun s' S' => fin m D s' hJ S') (fun r s₁ h₁ => ?_) fun _ _ q => q.elim
  cases r with
  | none =>
   refine wM h₁ (fun f s₃ h₃ => ?_) fun _ _ q => q.elim
   cases f <;> first | exact h₃ | exact h₃.elim
  | some v => exact h₁.elim
@[reducible] def FoQ2 (M : Model) (A : Around) (target : Expr) (body orelse : List Stmt) (env : Env) (R : Result -> Shared -> Prop) : QV := fun it s₂ => codeAny M A (.forLoop target it body orelse env) R s₂
@[reducible] def FoQ (M : Model) (A : Around) (target : Expr) (body orelse : List Stmt) (env : Env) (R : Result -> Shared -> Prop) : QV := fun x s₁ => wpAny M A (pyIter x) (FoQ2 M A target body orelse env R) NoE s₁
theorem r_for {target iter : Expr} {body orelse rest : List Stmt} {pos : Pos} {Q : QF} (P : Shared -> Prop)
  (h : wpAny (model pw w) A (eval iter env) (FoQ (model pw w) A target body orelse env (FEnd P Q)) NoE s)
  (after : ∀ s', P s' -> wpAny (model pw w) A (execs rest env) Q E s') (hs : autoParam (∀ x, foldedSetIterable iter env x = pure x) aI._auto_1) :
  wpAny (model pw w) A (execs (.For target iter body orelse pos :: rest) env) Q E s := by
 refine zC (wpAny_For (wM h (fun x s₁ h₁ => wM h₁ (fun it s₂ h₂ => codeAny_mono h₂ fun r s' h' => ?_) fun _ _ q => q.elim) fun _ _ q => q.elim) hs)
 cases r with
 | error e => exact h'.elim
 | ok f => cases f with
  | next => exact after _ h'
  | ret v => exact h'
  | brk => exact h'.elim
  | cont => exact h'.elim
theorem r_letOwned_plain {elts : List Expr} {k : Nat} {pos : Pos} {it a : Addr} {T : String} {o : Obj} {vs : Array Value} {Q : QU} (ho : s.heap.get? it = some o) (hc : o.cls = .type T) (hd : o.data = .fields vs)
  (hT : (["enumerate", "zip", "dict_itemiterator", "dict_reverseitemiterator", "odict_iterator", "itertools.zip_longest", "itertools.pairwise"].contains T) = false) (hQ : Q () s) :
  wpAny (model pw w) A (letOwnedTupleGo (.Tuple elts k pos) (.ref it) (.ref a)) Q E s := by
 refine wB (wpAny_load ho ?_)
 rw [hc, hd]
 try dsimp only
 rw [hT, Bool.false_and]
 exact wP hQ
theorem r_letOwned {target : Expr} {it : Addr} {T : String} {src : Value} {i : Nat} {v : Value} {Q : QU} (ho : (Ob.iter T src i).On s.heap it)
  (hT : (["enumerate", "zip", "dict_itemiterator", "dict_reverseitemiterator", "odict_iterator", "itertools.zip_longest", "itertools.pairwise"].contains T) = false) (hQ : Q () s) :
  wpAny (model pw w) A (letOwnedTupleGo target (.ref it) v) Q E s := by
 obtain ⟨o, ho, hc, hd⟩ := ho
 have key : ∀ a : Addr, wpAny (model pw w) A (do
   let o ← load it
   match o.cls, o.data with
   | .type n, .fields vs =>
    if ["enumerate", "zip", "dict_itemiterator", "dict_reverseitemiterator", "odict_iterator", "itertools.zip_longest", "itertools.pairwise"].contains n && vs[0]? == some (rawInt a) then
     rule "for.unpacks-the-owned-tuple"
     updateField it 0 .none
   | _, _ => pure ()) Q E s := fun a => by
  refine wB (wpAny_load ho ?_)
  rw [hc, hd]
  try dsimp only
  rw [hT, Bool.false_and]
  exact wP hQ
 cases target with
 | Tuple => cases v <;> first | exact key _ | exact wP hQ
 | List => cases v <;> first | exact key _ | exact wP hQ
 | _ => exact wP hQ
theorem iter_upd {h' : Heap} {it : Addr} {T : String} {src : Value} {i : Nat} {t : Nat} (S : St H0 os0 L m ((it, .iter T src i) :: D) s) (hs : Heap.SameBut it s.heap h') (hk : (Ob.iter T src (i + 1)).On h' it) :
  St H0 os0 L m ([] ++ ([(it, .iter T src (i + 1))] ++ D)) { s with heap := h', toks := t } := S.change .head hs hk
theorem iter_done {h' : Heap} {it : Addr} {k : Ob} {t : Nat} (S : St H0 os0 L m ((it, k) :: D) s) (he : Heap.ExtBut it s.heap h') : St H0 os0 L m D { s with heap := h', toks := t } := by
 have hi := S.ob (it, k) (.head _)
 have hL := S.ne (.head _)
 have nd := List.nodup_cons.mp (List.nodup_cons.mp S.nodup).2
 exact ⟨let ⟨o, es, ep, e, r⟩ := S.ns; ⟨o, es, ep, he _ _ (Ne.symm hL) e, r⟩, fun b o e => he b o (fun q => by rw [q, hi.2] at e; cases e) (S.stays b o e), S.top, S.tl.nodup,
  fun p hp => ⟨(S.ob p (.tail _ hp)).1.keep fun o e => he _ o (fun q => nd.1 (by have := List.mem_map_of_mem (f := Prod.fst) hp; rwa [q] at this)) e, (S.ob p (.tail _ hp)).2⟩, S.gens, S.os⟩
theorem Source.list (hh : A.handled = none) (target : Expr) (it l : Addr) (vs : List Value) : Source w A H0 os0 target it (fun i => [(it, .iter "list_iterator" (.ref l) i)]) vs.length
  (fun i v N => vs[i]? = some v ∧ N = []) (fun D => (l, .list vs) ∈ D) where
 item := fun {L m D i s Q E} S hl hi hQ => by
  have ho : (Ob.iter "list_iterator" (.ref l) i).On s.heap it := S.get (.head _)
  have hx : vs.toArray[i]? = some vs[i] := by simp [hi]
  refine wpAny_pyNext_list_item ho (S.lst (.tail _ hl)) hx fun h' hit' hs => ?_
  have S' := iter_upd (t := s.toks) S hs hit'
  exact r_letOwned (S'.get (.head _)) (by decide) (hQ vs[i] [] _ ⟨by simp [hi], rfl⟩ S')
 done := fun {L m D s Q E} S hl hQ => wpAny_pyNext_list_end hh (S.get (.head _) : (Ob.iter "list_iterator" (.ref l) _).On s.heap it) (S.lst (.tail _ hl)) (by simp) fun h' he => hQ _ (iter_done (t := s.toks) S he)
theorem Source.tup (hh : A.handled = none) (target : Expr) (it l : Addr) (vs : List Value) : Source w A H0 os0 target it (fun i => [(it, .iter "tuple_iterator" (.ref l) i)]) vs.length
  (fun i v N => vs[i]? = some v ∧ N = []) (fun D => (l, .tup vs) ∈ D) where
 item := fun {L m D i s Q E} S hl hi hQ => by
  have ho : (Ob.iter "tuple_iterator" (.ref l) i).On s.heap it := S.get (.head _)
  have hx : vs.toArray[i]? = some vs[i] := by simp [hi]
  refine next_tuple_item ho (S.tp (.tail _ hl)) hx fun h' hit' hs => ?_
  have S' := iter_upd (t := s.toks) S hs hit'
  exact r_letOwned (S'.get (.head _)) (by decide) (hQ vs[i] [] _ ⟨by simp [hi], rfl⟩ S')
 done := fun {L m D s Q E} S hl hQ => next_tuple_end hh (S.get (.head _) : (Ob.iter "tuple_iterator" (.ref l) _).On s.heap it) (S.tp (.tail _ hl)) (by simp) fun h' he => hQ _ (iter_done (t := s.toks) S he)
theorem Source.tupK (hh : A.handled = none) (target : Expr) (it l : Addr) (vs : List Value) (hK : IsTup H0 l vs.toArray) : Source w A H0 os0 target it (fun i => [(it, .iter "tuple_iterator" (.ref l) i)]) vs.length
  (fun i v N => vs[i]? = some v ∧ N = []) (fun _ => True) where
 item := fun {L m D i s Q E} S _ hi hQ => by
  have ho : (Ob.iter "tuple_iterator" (.ref l) i).On s.heap it := S.get (.head _)
  have hx : vs.toArray[i]? = some vs[i] := by simp [hi]
  refine next_tuple_item ho (hK.keeps S.stays) hx fun h' hit' hs => ?_
  have S' := iter_upd (t := s.toks) S hs hit'
  exact r_letOwned (S'.get (.head _)) (by decide) (hQ vs[i] [] _ ⟨by simp [hi], rfl⟩ S')
 done := fun {L m D s Q E} S _ hQ => next_tuple_end hh (S.get (.head _) : (Ob.iter "tuple_iterator" (.ref l) _).On s.heap it) (hK.keeps S.stays) (by simp) fun h' he => hQ _ (iter_done (t := s.toks) S he)
theorem r_iter_list {l : Addr} {vs : List Value} {Q : QV} (S : St H0 os0 L m D s) (hl : (l, .list vs) ∈ D) (h : ∀ it s', St H0 os0 L m ((it, .iter "list_iterator" (.ref l) 0) :: D) s' -> Q (.ref it) s') :
  wpAny (model pw w) A (pyIter (.ref l)) Q E s := wpAny_pyIter_list (S.lst hl) (h _ _ (S.push (t := s.toks) ⟨_, Heap.get?_push_size _ rfl, rfl, rfl⟩))
theorem r_iter_tup {l : Addr} {vs : List Value} {Q : QV} (S : St H0 os0 L m D s) (hl : (l, .tup vs) ∈ D) (h : ∀ it s', St H0 os0 L m ((it, .iter "tuple_iterator" (.ref l) 0) :: D) s' -> Q (.ref it) s') :
  wpAny (model pw w) A (pyIter (.ref l)) Q E s := iter_tuple (S.tp hl) (h _ _ (S.push (t := s.toks) ⟨_, Heap.get?_push_size _ rfl, rfl, rfl⟩))
theorem r_iter_tupK {l : Addr} {vs : List Value} {Q : QV} (S : St H0 os0 L m D s) (hK : IsTup H0 l vs.toArray) (h : ∀ it s', St H0 os0 L m ((it, .iter "tuple_iterator" (.ref l) 0) :: D) s' -> Q (.ref it) s') :
  wpAny (model pw w) A (pyIter (.ref l)) Q E s := iter_tuple (hK.keeps S.stays) (h _ _ (S.push (t := s.toks) ⟨_, Heap.get?_push_size _ rfl, rfl, rfl⟩))
@[reducible] def MetQ2 (M : Model) (A : Around) (E : QV) (id : String) (ov : Value) (Q : QV) : QL := fun vs s₂ => wpAny M A (call (.builtin id) (ov :: vs)) Q E s₂
@[reducible] def MetQ (M : Model) (A : Around) (E : QV) (env : Env) (pos : Pos) (e : Expr) (rest : List Expr) (T id : String) (Q : QV) : QV := fun ov s₁ => (s₁.TypeIs ov T ∧ (∀ a, ov = .ref a -> ∃ ob, s₁.heap.get? a = some ob ∧ ob.dict = none)) ∧ wpAny M A (spliced (backTo pos (starEach (e :: rest) env))) (MetQ2 M A E id ov Q) E s₁
theorem r_meth {o e : Expr} {rest : List Expr} {name : Str} {apos pos : Pos} {T id : String} {Q : QV} (pa : PlainAttrs T) (slot : Slot T name id) (hty : typeOf (.builtin id) = pure (.type "method_descriptor"))
  (h : wpAny (model pw w) A (eval o env) (MetQ (model pw w) A E env pos e rest T id Q) E s)
  (hbase : autoParam (attributeBase o name env (eval o env) = eval o env) aR._auto_1)
  (hfew : autoParam (((backTo pos (starEach (e :: rest) env)).all (fun x => !x.1) && (backToKw pos (keywordEach [] env)).all (fun x => x.1.isSome) && decide ((e :: rest).length + ([] : List Keyword).length + (if ([] : List Keyword).isEmpty then 0 else 1) < 30)) = true) aR._auto_1)
  (hline : autoParam ((apos.endLine == pos.line) = true) aR._auto_1)
  (he : autoParam (starEach (e :: rest) env = (false, eval e env) :: starEach rest env) aR._auto_1) (hplain : autoParam ((backTo pos (starEach rest env)).any (·.1) = false) aR._auto_1) :
  wpAny (model pw w) A (eval (.Call (.Attribute o name apos) (e :: rest) [] pos) env) Q E s := by
 refine wpAny_Call_method hbase hfew hline pa slot hty (wM h (fun ov s₁ h₁ => ⟨h₁.1.1, h₁.1.2, ?_⟩) fun _ _ q => q)
 have h₂ := h₁.2
 rw [he] at h₂ ⊢
 exact callWith_of (P := fun _ => True) (by show ((false || (backTo pos (starEach rest env)).any (·.1)) || false) = false; rw [hplain]; rfl)
  (fun _ _ => ⟨.machine, .inr (.inl rfl), Looks.of_pure rfl⟩) (evalArgs_plain (wM h₂ (fun vs s₂ h₃ => ⟨trivial, h₃⟩) fun _ _ q => q))
theorem str_ok {x : Str} {t : Tok} : (s.TypeIs (.str x t) "str" ∧ (∀ a, Value.str x t = .ref a -> ∃ ob, s.heap.get? a = some ob ∧ ob.dict = none)) := ⟨typeIs_str s x t, fun _ e => by cases e⟩
theorem lst_ok {l : Addr} {vs : List Value} (S : St H0 os0 L m D s) (h : (l, .list vs) ∈ D) : (s.TypeIs (.ref l) "list" ∧ (∀ a, Value.ref l = .ref a -> ∃ ob, s.heap.get? a = some ob ∧ ob.dict = none)) := by
 obtain ⟨n, q⟩ := S.get h
 exact ⟨⟨_, q, rfl⟩, fun a e => by cases e; exact ⟨_, q, rfl⟩⟩
def seqIs (d : Data) (vs : List Value) : Bool := match d with | .seq xs _ => xs.toList == vs | _ => false
theorem seqIs_ok {d : Data} {vs : List Value} (h : seqIs d vs = true) : ∃ n, d = .seq vs.toArray n := by
 cases d with
 | seq xs n => exact ⟨n, by rw [← beq_iff_eq.mp h]⟩
 | _ => cases h
theorem bitAnd_nat (a b : Nat) : Builtin.bitAnd (a : Int) (b : Int) = ((a &&& b : Nat) : Int) := by simp [Builtin.bitAnd]
theorem r_and {a b : Nat} {t u : Tok} {Q : QV} (S : St H0 os0 L m D s) (h : ∀ t s', St H0 os0 L m D s' -> Q (.int ((a &&& b : Nat) : Int) t) s') :
  wpAny (model pw w) A (binaryOp .BitAnd (.int (a : Nat) t) (.int (b : Nat) u)) Q E s := PyProof.Rows.and_int (bitAnd_nat a b ▸ h _ _ (S.tok _))
theorem r_fdiv {a b : Nat} {t u : Tok} {Q : QV} (S : St H0 os0 L m D s) (hb : 0 < b) (hb2 : b < 1073741824) (h : ∀ t s', St H0 os0 L m D s' -> Q (.int ((a / b : Nat) : Int) t) s') :
  wpAny (model pw w) A (binaryOp .FloorDiv (.int (a : Nat) t) (.int (b : Nat) u)) Q E s := by
 refine PyProof.Rows.floordiv_int (by walk_at "o") ?_ (.inl (PyProof.noPylong_small (by walk_at "o")))
 have e : (a : Int).fdiv (b : Int) = ((a / b : Nat) : Int) := by rw [Int.fdiv_eq_ediv_of_nonneg _ (by walk_at "o")]; rfl
 rw [e]
 exact h _ _ (S.tok _)
theorem r_mod {a b : Nat} {t u : Tok} {Q : QV} (S : St H0 os0 L m D s) (hb : 0 < b) (h : ∀ t s', St H0 os0 L m D s' -> Q (.int ((a % b : Nat) : Int) t) s') :
  wpAny (model pw w) A (binaryOp .Mod (.int (a : Nat) t) (.int (b : Nat) u)) Q E s := by
 refine PyProof.Rows.mod_int' (by walk_at "o") ?_
 have e : (a : Int).fmod (b : Int) = ((a % b : Nat) : Int) := by rw [Int.fmod_eq_emod_of_nonneg _ (by walk_at "o")]; rfl
 rw [e]
 exact h _ _ (S.tok _)
theorem r_addN {a b : Nat} {t u : Tok} {Q : QV} (S : St H0 os0 L m D s) (h : ∀ t s', St H0 os0 L m D s' -> Q (.int ((a + b : Nat) : Int) t) s') :
  wpAny (model pw w) A (binaryOp .Add (.int (a : Nat) t) (.int (b : Nat) u)) Q E s := r_add S fun t s' S' => by rw [← Int.natCast_add]; exact h t s' S'
theorem r_mulN {a b : Nat} {t u : Tok} {Q : QV} (S : St H0 os0 L m D s) (hm : IntMulOk (a : Int) (b : Int)) (h : ∀ t s', St H0 os0 L m D s' -> Q (.int ((a * b : Nat) : Int) t) s') :
  wpAny (model pw w) A (binaryOp .Mult (.int (a : Nat) t) (.int (b : Nat) u)) Q E s := r_mul S hm fun t s' S' => by rw [← Int.natCast_mul]; exact h t s' S'
theorem r_eqN {a b : Nat} {t u : Tok} {Q : QV} (h : Q (.bool (decide (a = b))) s) : wpAny (model pw w) A (compareOp .Eq (.int (a : Nat) t) (.int (b : Nat) u)) Q E s := by
 refine PyProof.Rows.eq_int ?_
 have e : ((a : Int) == (b : Int)) = decide (a = b) := by rw [Bool.eq_iff_iff, beq_iff_eq, decide_eq_true_eq]; lia
 rw [e]
 exact h
theorem r_natc (i : Nat) {kd : Nat} {pos : Pos} {M : Model} {Q : QV} (S : St H0 os0 L m D s) (h : ∀ t s', St H0 os0 L m D s' -> Q (.int (i : Nat) t) s') :
  wpAny M A (eval (.Constant (.int (i : Nat)) kd pos) env) Q E s := r_int S h
noncomputable def isNatLit (n : Nat) : Expr -> Bool
 | .Constant (.int i) _ _ => decide (i = (n : Int))
 | _ => false
noncomputable def natLits : List Expr -> List Nat -> Bool
 | [], [] => true
 | x :: r, n :: ns => isNatLit n x && natLits r ns
 | _, _ => false
inductive NatsL : List Value -> List Nat -> Prop
 | nil : NatsL [] []
 | cons {vs : List Value} {ns : List Nat} (n : Nat) (t : Tok) : NatsL vs ns -> NatsL (.int (n : Nat) t :: vs) (n :: ns)
theorem NatsL.length {vs : List Value} {ns : List Nat} (h : NatsL vs ns) : vs.length = ns.length := by
 induction h with
 | nil => rfl
 | cons _ _ _ ih => simp [ih]
theorem NatsL.getD {vs : List Value} {ns : List Nat} (h : NatsL vs ns) : ∀ {j : Nat} (d : Nat), j < ns.length -> ∃ t, vs.getD j .none = .int (ns.getD j d : Nat) t := by
 induction h with
 | nil => intro j d hj; simp at hj
 | cons n t r ih =>
  intro j d hj
  cases j with
  | zero => exact ⟨t, rfl⟩
  | succ j => simpa using ih d (by simpa using hj)
theorem of_isNatLit {n : Nat} {x : Expr} (h : isNatLit n x = true) : ∃ k p, x = .Constant (.int (n : Int)) k p := by
 cases x with
 | Constant c k p => cases c with
  | int i => exact ⟨_, _, by rw [of_decide_eq_true h]⟩
  | _ => cases h
 | _ => cases h
theorem r_natlits {pos : Pos} : ∀ {elts : List Expr} {ns : List Nat} {s : Shared} {Q : QL}, natLits elts ns = true -> St H0 os0 L m D s -> (∀ vs s', NatsL vs ns -> St H0 os0 L m D s' -> Q vs s') →
  wpAny (model pw w) A (spliced (backTo pos (starEach elts env))) Q E s := by
 intro elts
 induction elts with
 | nil =>
  intro ns s Q e S h
  cases ns with
  | nil => exact spliced_none (h _ _ .nil S)
  | cons n ns => cases e
 | cons x r ih =>
  intro ns s Q e S h
  cases ns with
  | nil => cases e
  | cons n ns =>
   have e' := Bool.and_eq_true_iff.mp (show (isNatLit n x && natLits r ns) = true from e)
   obtain ⟨k, p, rfl⟩ := of_isNatLit e'.1
   exact zS (r_natc n S fun t s' S' => ih e'.2 S' fun vs s'' hv S'' => h _ _ (.cons n t hv) S'') rfl
theorem r_nattup (ns : List Nat) {elts : List Expr} {k : Nat} {pos : Pos} {Q : QV} (S : St H0 os0 L m D s) (e : natLits elts ns = true) (hz : ns.length ≤ 1000)
  (h : ∀ a vs s', NatsL vs ns -> St H0 os0 L m ((a, .tup vs) :: D) s' -> Q (.ref a) s') : wpAny (model pw w) A (eval (.Tuple elts k pos) env) Q E s :=
 r_tuple (r_natlits e S fun vs s' hv S' => r_tupQ S' (by rw [hv.length]; lia) fun a s'' S'' => h a vs s'' hv S'')
theorem seqIndex_nat {i n : Nat} (h : i < n) : seqIndex? ((i : Nat) : Int) n = some i := by unfold seqIndex?; simp; lia
theorem r_itemTN {l : Addr} {vs : List Value} {ns : List Nat} {j : Nat} {t : Tok} (d : Nat) {value slice : Expr} {Q : QV} (S : St H0 os0 L m D s) (hl : (l, .tup vs) ∈ D) (hv : NatsL vs ns)
  (hj : j < ns.length) (hb : ns.length < 2 ^ 62) (h : ∀ t, Q (.int (ns.getD j d : Nat) t) s)
  (hs : autoParam (isSlice slice = false) aR._auto_1) :
  wpAny (model pw w) A (subscriptTail value slice (.ref l) (.int (j : Nat) t)) Q E s := by
 obtain ⟨u, e⟩ := hv.getD d hj
 have hj' : j < vs.length := by rw [hv.length]; exact hj
 refine item_tupleT (S.tp hl) (by rw [← hv.length] at hb; lia) (by rw [← hv.length] at hb; lia) (j := j) (seqIndex_nat hj') (by simp [List.getD, hj']) (e ▸ h u) (zU hs _ _)
theorem r_itemT {l : Addr} {vs : List Value} {j : Nat} {t : Tok} {value slice : Expr} {Q : QV} (S : St H0 os0 L m D s) (hl : (l, .tup vs) ∈ D)
  (hj : j < vs.length) (hb : vs.length < 2 ^ 62) (h : Q (vs.getD j .none) s)
  (hs : autoParam (isSlice slice = false) aR._auto_1) :
  wpAny (model pw w) A (subscriptTail value slice (.ref l) (.int (j : Nat) t)) Q E s :=
 item_tupleT (S.tp hl) (by walk_at "o") (by walk_at "o") (j := j) (seqIndex_nat hj) (by simp [List.getD, hj]) h (zU hs _ _)
set_option hygiene false in
local macro_rules | `(tactic| walk_at "l") => `(tactic| first | with_reducible exact upd_eq | (refine upd_lk (by decide) ?_; walk_at "l") | assumption | rfl)
theorem r_doc {env : Env} {x : Str} {kd : Nat} {p pos : Pos} {rest : List Stmt} {Q : QF} (S : St H0 os0 L m D s) (h : ∀ s', St H0 os0 L m D s' -> wpAny (model pw w) A (execs rest env) Q E s')
  (hi : autoParam (interactive env = false) aR._auto_1) (hs : autoParam (swapsWith (.Constant (.str x) kd p) none pos.line env = pure false) aR._auto_1) :
  wpAny (model pw w) A (execs (.Expr (.Constant (.str x) kd p) pos :: rest) env) Q E s :=
 zC (zE (r_str S fun _ s' S' => h s' S') hi hs)
theorem imode_spec (gd : Gd w H0) {k : Nat} {t1 : Tok} {R : Result -> Shared -> Prop} (S : St H0 os0 L m D s) (hd : A.depth < recursionLimit)
  (h : ∀ t s' , St H0 os0 L m D s' -> R (.ok (.ret (.int ((k &&& 4095 : Nat) : Int) t))) s') : codeAny (model pw w) A (.call (.ref 158) ⟨[.int (k : Nat) t1], []⟩) R s := by
 refine r_enter (binds := [("mode", .int (k : Nat) t1)]) gd S (gd.K 158 _ rfl) rfl (by kernel_rfl) rfl (.of_eq rfl) hd rfl rfl fun L₁ s₁ S => ?_
 dsimp only [mOf, List.foldl] at S
 refine r_doc S fun s S => ?_
 exact zC <| zR <| zB <| r_name S (by walk_at "l") <| r_natc 4095 S fun t s S => r_and S fun t s S => h _ _ (S.ret .head)
theorem ifmt_spec (gd : Gd w H0) {k : Nat} {t1 : Tok} {R : Result -> Shared -> Prop} (S : St H0 os0 L m D s) (hd : A.depth < recursionLimit)
  (h : ∀ t s' , St H0 os0 L m D s' -> R (.ok (.ret (.int ((k &&& 61440 : Nat) : Int) t))) s') : codeAny (model pw w) A (.call (.ref 165) ⟨[.int (k : Nat) t1], []⟩) R s := by
 refine r_enter (binds := [("mode", .int (k : Nat) t1)]) gd S (gd.K 165 _ rfl) rfl (by kernel_rfl) rfl (.of_eq rfl) hd rfl rfl fun L₁ s₁ S => ?_
 dsimp only [mOf, List.foldl] at S
 refine r_doc S fun s S => ?_
 exact zC <| zR <| zB <| r_name S (by walk_at "l") <| r_natc 61440 S fun t s S => r_and S fun t s S => h _ _ (S.ret .head)
noncomputable def kindRank : List Nat := [1, 6, 3, 1, 4, 1, 2, 1, 0, 1, 5, 1, 7, 1, 1, 1]
noncomputable def rkStep (k : Nat) (r i : Nat) : Nat :=
 r * 16 + (k &&& 4095) / [64, 8, 1].getD i 1 % 8 / 2 * 4 + [0, 3, 1, 2].getD (2 * ((k &&& 4095) / [2048, 1024, 512].getD i 1 % 2) + (k &&& 4095) / [64, 8, 1].getD i 1 % 8 % 2) 0
noncomputable def rk (k : Nat) : Nat := rkStep k (rkStep k (rkStep k (kindRank.getD ((k &&& 61440) / 4096) 0) 0) 1) 2
theorem small_getD (l : List Nat) (i d : Nat) (h : (d :: l).all (fun x => Nat.blt 0 x && Nat.blt x 1073741824) = true) : 0 < l.getD i d ∧ l.getD i d < 1073741824 := by
 have hm : l.getD i d ∈ d :: l := by
  unfold List.getD
  cases q : l[i]? with
  | none => exact .head _
  | some x => exact .tail _ (List.mem_of_getElem? q)
 have := Bool.and_eq_true_iff.mp (List.all_eq_true.mp h _ hm)
 exact ⟨Nat.le_of_ble_eq_true this.1, Nat.le_of_ble_eq_true this.2⟩
theorem rank_spec (gd : Gd w H0) {k : Nat} {t1 : Tok} {R : Result -> Shared -> Prop} (S : St H0 os0 L m D s) (hk : k < 65536) (hd : A.depth + 1 < recursionLimit) (hh : A.handled = none)
  (h : ∀ t s' , St H0 os0 L m D s' -> R (.ok (.ret (.int (rk k : Nat) t))) s') : codeAny (model pw w) A (.call (.ref 817) ⟨[.int (k : Nat) t1], []⟩) R s := by
 refine r_enter (binds := [("mode_bits", .int (k : Nat) t1)]) gd S (gd.K 817 _ rfl) rfl (by kernel_rfl) rfl (.of_eq rfl) (by walk_at "o") rfl rfl fun L₁ s₁ S => ?_
 dsimp only [mOf, List.foldl] at S
 have hf : (k &&& 61440) / 4096 < 16 := by
  have := Nat.and_le_left (n := k) (m := 61440); lia
 with_reducible refine zC ?_
 with_reducible refine zN ?_ ?hs
 case hs => rfl
 with_reducible refine zG ?_
 with_reducible refine r_nattup kindRank S ?e ?l fun a vs s hv S => ?_
 case e => decide
 case l => decide
 refine zB <| r_callf gd S (by rfl) (by rfl) <| zS <| r_name S (by walk_at "l") <| spliced_none ⟨S.stays, ifmt_spec gd S hd fun t s S =>
  r_natc 4096 S fun t s S => r_fdiv S (by walk_at "o") (by walk_at "o") fun t s S => r_itemTN 0 S (.head _) hv (by simpa [kindRank] using hf) (by simp [kindRank]) fun t => r_store S fun s S => ?_⟩
 replace S := S.tl
 try dsimp only
 revert S
 refine gnlE (kindRank.getD ((k &&& 61440) / 4096) 0) ?_
 intro r0 hf0 S
 refine genx fun Q1 E1 hQ => ?_
 refine S.gen2 "mode_bits" "rank" (by walk_at "l") (by walk_at "l") fun m1 g1 g2 S => ?_
 refine r_for (fun s => ∃ m' t, St H0 os0 L₁ m' ((L, .ns m) :: D) s ∧ m' "rank" = some (.int (rk k : Nat) t)) (r_nattup ([0, 1, 2]) S rfl (by simp) fun a vs s hv S =>
  r_iter_tup S (.head _) fun it s S => r_loop (Source.tup (A := A.deeper _) hh _ it a vs) (fun i m' D' => D' = (a, .tup vs) :: (L, .ns m) :: D ∧ m' "mode_bits" = some (.int (k : Nat) t1) ∧
   ∃ t, m' "rank" = some (.int ((List.range i).foldl (rkStep k) r0 : Nat) t)) _ (fun i m' D' q => by rw [q.1]; exact .head _) S ⟨rfl, by walk_at "l", _, by walk_at "l"⟩ ?_ ?_) ?_
 ·intro i m' D' v N s hi hJ hV S
  refine genb fun Q1 hQ1 => ?_
  obtain ⟨rfl, h1, t2, h2⟩ := hJ
  obtain ⟨hvi, rfl⟩ := hV
  have hi' : i < 3 := by rw [hv.length] at hi; simpa using hi
  obtain ⟨t, e⟩ := hv.getD (j := i) 0 hi'
  have e2 : [0, 1, 2].getD i 0 = i := by rcases i with _ | _ | _ | i <;> first | rfl | lia
  obtain rfl : v = .int (i : Nat) t := by
   rw [e2] at e
   rw [← e]
   simp [List.getD, hvi]
  dsimp only [List.nil_append, List.cons_append] at S ⊢
  refine assign_Name <| r_store S fun s S => ?_
  refine zC <| zN <| zB <| zB <| r_callf gd S (by rfl) (by rfl) <| zS <| r_name S (by walk_at "l") <| spliced_none ⟨S.stays, imode_spec gd S hd fun t s S => ?_⟩
  refine zG <| r_nattup ([64, 8, 1]) S rfl (by simp) fun a3 vs3 s hv3 S => r_name S (by walk_at "l") <| r_itemTN 1 S (.head _) hv3 (by simpa using hi') (by walk_at "s") fun t => r_fdiv S (small_getD [64, 8, 1] i 1 rfl).1 (small_getD [64, 8, 1] i 1 rfl).2 fun t s S =>
   r_natc 8 S fun t s S => r_mod S (by decide) fun t s S => ?_
  refine gnlE ((k &&& 4095) / [64, 8, 1].getD i 1 % 8) ?_
  intro three e3
  refine r_store S fun s S => ?_
  replace S := S.tl
  try dsimp only
  refine zC <| zN <| zB <| zB <| r_callf gd S (by rfl) (by rfl) <| zS <| r_name S (by walk_at "l") <| spliced_none ⟨S.stays, imode_spec gd S hd fun t s S => ?_⟩
  refine zG <| r_nattup ([2048, 1024, 512]) S rfl (by simp) fun a3 vs3 s hv3 S => r_name S (by walk_at "l") <| r_itemTN 1 S (.head _) hv3 (by simpa using hi') (by walk_at "s") fun t => r_fdiv S (small_getD [2048, 1024, 512] i 1 rfl).1 (small_getD [2048, 1024, 512] i 1 rfl).2 fun t s S =>
   r_natc 2 S fun t s S => r_mod S (by decide) fun t s S => ?_
  refine gnlE ((k &&& 4095) / [2048, 1024, 512].getD i 1 % 2) ?_
  intro over e4
  refine r_store S fun s S => ?_
  replace S := S.tl
  try dsimp only
  have h3 : three < 8 := by rw [← e3]; exact Nat.mod_lt _ (by walk_at "o")
  refine S.gen4 "three" "over" "rank" "mode_bits" (by walk_at "l") (by walk_at "l") (by walk_at "l") (by walk_at "l") fun m2 g1 g2 g3 g4 S => ?_
  have h4 : over < 2 := by rw [← e4]; exact Nat.mod_lt _ (by walk_at "o")
  refine zC <| zN <| zB <| zB <| zB <| r_name S (by walk_at "l") <| r_natc 16 S fun t s S => r_mulN S (.of_right (by decide)) fun t s S =>
   zB <| zB <| r_name S (by walk_at "l") <| r_natc 2 S fun t s S => r_fdiv S (by walk_at "o") (by walk_at "o") fun t s S => r_natc 4 S fun t s S => r_mulN S (.of_right (by decide)) fun t s S => r_addN S fun t s S => ?_
  refine zG <| r_nattup ([0, 3, 1, 2]) S rfl (by simp) fun a3 vs3 s hv3 S => zB <| zB <| r_natc 2 S fun t s S => r_name S (by walk_at "l") <| r_mulN S (.of_left (by decide)) fun t s S => zB <| r_name S (by walk_at "l") <| r_natc 2 S fun t s S =>
   r_mod S (by walk_at "o") fun t s S => r_addN S fun t s S => r_itemTN 0 S (.head _) hv3 (by simp; lia) (by walk_at "s") fun t => r_addN S fun t s S => r_store S fun s S => ?_
  replace S := S.tl
  try dsimp only
  refine wpAny_execs_nil <| hQ1 _ _ ⟨_, _, ⟨rfl, by walk_at "l", t, ?_⟩, S⟩
  rw [upd_eq, List.range_succ, List.foldl_append]
  simp only [List.foldl_cons, List.foldl_nil, rkStep, e3, e4]
 ·rintro m' D' s ⟨rfl, h1, t, h2⟩ S
  refine wpAny_execs_nil ⟨m', t, S.tl, ?_⟩
  rw [hv.length] at h2
  rw [h2]
  simp only [rk, hf0]
  rfl
 ·rintro s ⟨m', t, S, e⟩
  exact zC <| zR <| r_name S e <| hQ _ _ <| h _ _ (S.ret .head)
section
open AutoSeq1 (wpAny_loadPart')
theorem nextOf_tuple_item {prog : Program} {w : World} {A : Around} {E : QV} {s : Shared} {it l : Addr} {i : Nat} {items} {x : Value} {Q : QV} (hit : IsTupIter s.heap it l i)
  (hl : IsTup s.heap l items) (hx : items[i]? = some x)
  (hQ : ∀ h', IsTupIter h' it l (i + 1) -> Heap.SameBut it s.heap h' -> Q x { s with heap := h' }) :
  wpAny (model prog w) A (Builtin.SmallTypes.nextOf (.ref it)) Q E s := by
 obtain ⟨o, ho, hc, hd⟩ := id hit
 obtain ⟨ol, hol, _, nl, hdl⟩ := hl
 unfold Builtin.SmallTypes.nextOf
 refine wB (wpAny_callSpecial?_slot (name := Str.ofString "__next__") hit.typeIs slot_tupleiter_next
  (wpAny_call_entry slot_tupleiter_next hit.typeIs entry_tupleiter_next ?_ (args_tupleiter_next _)))
 show wpAny _ _ (field (.ref it) 0 >>= _) _ _ s
 refine wB (wpAny_field ho hd (x := .ref l) rfl ?_)
 show wpAny _ _ (if (Value.ref l == Value.none) = true then _ else _) _ _ s
 first | refine ifn (show ¬ ((Value.ref l == Value.none) = true) from Bool.false_ne_true) ?_ | rw [if_neg (show ¬ ((Value.ref l == Value.none) = true) from Bool.false_ne_true)]
 show wpAny _ _ (field (.ref it) 1 >>= _) _ _ s
 refine wB (wpAny_field ho hd (x := .int i 0) rfl ?_)
 show wpAny _ _ (seqItems? (.ref l) >>= _) _ _ s
 refine wB (wpAny_seqItems hol hdl ?_)
 simp only [Int.toNat_natCast, hx]
 refine wB (wpAny_setField ho hd (by simp) (wP ⟨x, rfl, wP (hQ _ ?_ (Heap.SameBut.update ..))⟩))
 exact ⟨_, Heap.get?_update_self _ ho (Obj.isFreed_of_fields (Obj.data_mapFields hd _)), (Obj.cls_mapFields ..).trans hc, by
  rw [Obj.data_mapFields hd]; simp [rawInt]⟩
theorem nextOf_tuple_end {prog : Program} {w : World} {A : Around} {E : QV} {s : Shared} {it l : Addr} {i : Nat} {items} {Q : QV} (hh : A.handled = none)
  (hit : IsTupIter s.heap it l i) (hl : IsTup s.heap l items) (hx : items[i]? = none)
  (hE : ∀ h' e, Heap.ExtBut it s.heap h' -> (∃ o, h'.get? e = some o ∧ o.cls = .type "StopIteration") -> E (.ref e) { s with heap := h' }) :
  wpAny (model prog w) A (Builtin.SmallTypes.nextOf (.ref it)) Q E s := by
 obtain ⟨o, ho, hc, hd⟩ := id hit
 obtain ⟨ol, hol, _, nl, hdl⟩ := hl
 unfold Builtin.SmallTypes.nextOf
 refine wB (wpAny_callSpecial?_slot (name := Str.ofString "__next__") hit.typeIs slot_tupleiter_next
  (wpAny_call_entry slot_tupleiter_next hit.typeIs entry_tupleiter_next ?_ (args_tupleiter_next _)))
 show wpAny _ _ (field (.ref it) 0 >>= _) _ _ s
 refine wB (wpAny_field ho hd (x := .ref l) rfl ?_)
 show wpAny _ _ (if (Value.ref l == Value.none) = true then _ else _) _ _ s
 first | refine ifn (show ¬ ((Value.ref l == Value.none) = true) from Bool.false_ne_true) ?_ | rw [if_neg (show ¬ ((Value.ref l == Value.none) = true) from Bool.false_ne_true)]
 show wpAny _ _ (field (.ref it) 1 >>= _) _ _ s
 refine wB (wpAny_field ho hd (x := .int i 0) rfl ?_)
 show wpAny _ _ (seqItems? (.ref l) >>= _) _ _ s
 refine wB (wpAny_seqItems hol hdl ?_)
 simp only [Int.toNat_natCast, hx]
 refine wB (wpAny_rule (wB (wpAny_setField ho hd (by simp) ?_)))
 show wpAny _ _ (newExc (.type "StopIteration") [] >>= _) _ _ _
 refine wB ?_
 simp only [newExc, newTuple]
 refine wB (wpAny_newObj_type ?_ (by size_fits))
 refine wB (m := firstArgMember _ _) (wpAny_of_eq (a := Value.none) (by first | rfl | (simp only [firstArgMember]; rfl)) ?_)
 refine wpAny_newObj_type ?_ (by size_fits)
 simp only [raiseNew]
 refine wB (wpAny_handled ?_)
 first | rw [show A.in1.handled = none from hh] | rw [hh]
 refine wB (wP (wpAny_throw ?_))
 exact hE _ _ (((Heap.SameBut.update ..).extBut.push _).push _) ⟨_, Heap.get?_push_size _ rfl, rfl⟩
theorem drawsTup {prog : Program} {w : World} {A : Around} (hh : A.handled = none) (it l : Addr) (hne : l ≠ it) (items : Array Value) :
  Draws prog w A it [it, l] items.size (fun i v => items[i]? = some v) (fun i h => IsTupIter h it l i ∧ IsTup h l items) where
 live := fun _ _ st => let ⟨o, ho, _⟩ := st.1; ⟨o, ho⟩
 frame := fun _ _ _ st hk => ⟨let ⟨o, ho, r⟩ := st.1; ⟨o, hk it (by simp) o ho, r⟩, let ⟨o, ho, r⟩ := st.2; ⟨o, hk l (by simp) o ho, r⟩⟩
 item := fun i s Q E hi st hQ => by
  refine nextOf_tuple_item st.1 st.2 (x := items[i]) (by simp [hi]) fun h' hit' hs' => ?_
  exact hQ _ h' s.toks (by simp [hi]) ⟨hit', let ⟨o, ho, r⟩ := st.2; ⟨o, (hs'.2 l hne).trans ho, r⟩⟩ hs'
 done := fun s Q E st hE => nextOf_tuple_end hh st.1 st.2 (by simp) hE
theorem pureAny {α : Type} {M : Model} {A : Around} {E : QV} {s : Shared} {Q : α -> Shared -> Prop} {a : α} (h : ∀ b, Q b s) : wpAny M A (pure a) Q E s := wP (h a)
theorem meets_enumerate_newT (l : Addr) (items : Array Value) (n : Nat) (dct : Option Addr) (sl : Array (Option Value)) :
  Meets (Builtin.«enumerate.__new__» ⟨[.type "enumerate", .ref l], []⟩) (fun _ R s => s.heap.get? l = some { cls := .type "tuple", dict := dct, data := .seq items n, slots := sl } ∧
   R (.ok (.ret (.ref (s.heap.push { cls := .type "tuple_iterator", data := .fields #[.ref l, .int 0 0] }).objs.size)))
    { s with heap := (s.heap.push { cls := .type "tuple_iterator", data := .fields #[.ref l, .int 0 0] }).push { cls := .type "enumerate", data := .fields #[.none, .bool false, .ref s.heap.objs.size, rawInt 0, .none, .none] } }) :=
 .of_wp fun prog w A R s h => by
  obtain ⟨hp, g, d, tk, os⟩ := s; obtain ⟨hl, h⟩ := h
  have hsub := sub_enumerate
  have hL : IsTup (Shared.heap ⟨hp, g, d, tk, os⟩) l items := ⟨_, hl, rfl, n, rfl⟩
  wp_walk using wpAny_loadPart' hl
  refine wpAny_stack_any fun st => pureAny fun b => ?_
  cases b
  ·wp_walk using wpAny_loadPart' hl, iter_tuple hL
   exact ⟨_, rfl, h⟩
  ·wp_walk using wpAny_loadPart' hl, iter_tuple hL
   exact ⟨_, rfl, h⟩
end
noncomputable def enumObj (it : Addr) (i : Int) (old : Value) : Obj := { cls := .type "enumerate", dict := none, data := .fields #[.none, .bool false, .ref it, rawInt i, .none, old], slots := #[] }
noncomputable def oldE (vs : List Value) : Nat -> Value
 | 0 => .none
 | j + 1 => vs.getD j .none
theorem Ob.On.lt {k : Ob} {h : Heap} {a : Addr} (x : k.On h a) : Nat.lt a h.objs.size := by
 obtain ⟨o, e⟩ := x.get
 exact Heap.lt_size e
noncomputable def kitEnum (e it l : Addr) (vs : List Value) (i : Nat) : Led := [(e, .raw (enumObj it i (oldE vs i))), (it, .iter "tuple_iterator" (.ref l) i)]
theorem free_of_size {h : Heap} : h.get? h.objs.size = none := by
 cases e : h.get? h.objs.size with
 | none => rfl
 | some o => exact absurd (Heap.lt_size e) (Nat.lt_irrefl _)
theorem call_enum_tuple {l : Addr} {items : Array Value} {Q : QV} (hL : ∃ n, s.heap.get? l = some { cls := .type "tuple", dict := none, data := .seq items n, slots := #[] })
  (h : ∀ h', IsEnum h' (s.heap.objs.size + 1) s.heap.objs.size 0 .none -> IsTupIter h' s.heap.objs.size l 0 →
   (∀ b o, s.heap.get? b = some o -> h'.get? b = some o) -> Q (.ref (s.heap.objs.size + 1)) { s with heap := h' }) :
  wpAny (model pw w) A (call (.type "enumerate") [.ref l]) Q E s := by
 obtain ⟨n, hl⟩ := hL
 refine callType_new F.called_enumerate (by decide) (F.typeCall_enumerate_1 _) (F.newCall_enumerate_1 _) (fun obj => F.args_object_init_2 obj _) F.entry_enumerate_new
  (meets_enumerate_newT l items n none #[]) ⟨hl, ?_⟩
 have hz : (s.heap.push { cls := .type "tuple_iterator", data := .fields #[.ref l, .int 0 0] }).objs.size = s.heap.objs.size + 1 := Heap.size_push ..
 show _ ∧ _
 rw [hz]
 have he : IsEnum ((s.heap.push { cls := .type "tuple_iterator", data := .fields #[.ref l, .int 0 0] }).push
   { cls := .type "enumerate", data := .fields #[.none, .bool false, .ref s.heap.objs.size, rawInt 0, .none, .none] }) (s.heap.objs.size + 1) s.heap.objs.size 0 .none := by
  have := Heap.get?_push_size (s.heap.push { cls := .type "tuple_iterator", data := .fields #[.ref l, .int 0 0] })
   (o := { cls := .type "enumerate", data := .fields #[.none, .bool false, .ref s.heap.objs.size, rawInt 0, .none, .none] }) rfl
  rw [hz] at this; exact this
 exact ⟨⟨_, he, rfl⟩, h _ he ⟨_, Heap.get?_push_of_some _ (Heap.get?_push_size _ rfl), rfl, rfl⟩ fun b o x => Heap.get?_push_of_some _ (Heap.get?_push_of_some _ x)⟩
theorem r_enumK {l : Addr} {vs : List Value} {Q : QV} (S : St H0 os0 L m D s) (hK : ∃ n, H0.get? l = some { cls := .type "tuple", dict := none, data := .seq vs.toArray n, slots := #[] })
  (h : ∀ e it s', St H0 os0 L m (kitEnum e it l vs 0 ++ D) s' -> Q (.ref e) s') : wpAny (model pw w) A (call (.type "enumerate") [.ref l]) Q E s := by
 refine call_enum_tuple (let ⟨n, e⟩ := hK; ⟨n, S.stays _ _ e⟩) fun h' he hi hk => ?_
 have S1 : St H0 os0 L m ((s.heap.objs.size, .iter "tuple_iterator" (.ref l) 0) :: D) { s with heap := h' } := S.new free_of_size hk hi S.gens rfl
 have h1 : H0.get? (s.heap.objs.size + 1) = none := by
  cases e : H0.get? (s.heap.objs.size + 1) with
  | none => rfl
  | some o => exact absurd (Heap.lt_size (S.stays _ _ e)) (Nat.not_lt.mpr (Nat.le_succ _))
 have hlt : ∀ a, a ∈ (L :: ((s.heap.objs.size, Ob.iter "tuple_iterator" (.ref l) 0) :: D).map (·.1)) -> a < s.heap.objs.size + 1 := by
  intro a ha
  rcases List.mem_cons.mp ha with rfl | ha
  ·obtain ⟨o, es, ep, e, _⟩ := S.ns; exact Nat.lt_succ_of_lt (Heap.lt_size e)
  ·rcases List.mem_cons.mp ha with rfl | ha
   ·exact Nat.lt_succ_self _
   ·obtain ⟨p, hp, rfl⟩ := List.mem_map.mp ha
    exact Nat.lt_succ_of_lt (Ob.On.lt (S.ob p hp).1)
 refine h (s.heap.objs.size + 1) s.heap.objs.size _ ⟨S1.ns, S1.stays, S1.top, ?_, ?_, S1.gens, S1.os⟩
 ·have nd := S1.nodup
  have hn : s.heap.objs.size + 1 ∉ (L :: ((s.heap.objs.size, Ob.iter "tuple_iterator" (.ref l) 0) :: D).map (·.1)) := fun q => absurd (hlt _ q) (Nat.lt_irrefl _)
  exact (List.Perm.swap _ _ _).nodup_iff.mp (List.nodup_cons.mpr ⟨hn, nd⟩)
 ·intro p hp
  rcases List.mem_cons.mp hp with rfl | hp
  ·exact ⟨he, h1⟩
  ·exact S1.ob p hp
theorem Source.enumK (hh : A.handled = none) {elts : List Expr} {k : Nat} {pos : Pos} (e it l : Addr) (vs : List Value) (hK : ∃ n, H0.get? l = some { cls := .type "tuple", dict := none, data := .seq vs.toArray n, slots := #[] }) :
  Source w A H0 os0 (.Tuple elts k pos) e (kitEnum e it l vs) vs.length (fun i v N => ∃ a t, v = .ref a ∧ N = [(a, .tup [.int (i : Nat) t, vs.getD i .none])]) (fun _ => True) where
 item := fun {L m D i s Q E} S _ hi hQ => by
  have ho : (Ob.iter "tuple_iterator" (.ref l) i).On s.heap it := S.get (.tail _ (.head _))
  have he : IsEnum s.heap e it i (oldE vs i) := S.get (k := .raw _) (.head _)
  have nd := S.nodup
  have hL := S.ne (.head _ : (e, Ob.raw (enumObj it i (oldE vs i))) ∈ kitEnum e it l vs i ++ D)
  have hL2 := S.ne (.tail _ (.head _) : (it, Ob.iter "tuple_iterator" (.ref l) i) ∈ kitEnum e it l vs i ++ D)
  have hH1 := (S.ob _ (.head _ : (e, Ob.raw (enumObj it i (oldE vs i))) ∈ kitEnum e it l vs i ++ D)).2
  have hH2 := (S.ob _ (.tail _ (.head _) : (it, Ob.iter "tuple_iterator" (.ref l) i) ∈ kitEnum e it l vs i ++ D)).2
  have hKl : ∃ n, s.heap.get? l = some { cls := .type "tuple", dict := none, data := .seq vs.toArray n, slots := #[] } := let ⟨n, e⟩ := hK; ⟨n, S.stays _ _ e⟩
  have hne : l ≠ it := by rintro rfl; obtain ⟨n, q⟩ := hK; rw [q] at hH2; cases hH2
  have hle : e ≠ l := by rintro rfl; obtain ⟨n, q⟩ := hK; rw [q] at hH1; cases hH1
  have nd2 : e ≠ it ∧ e ∉ D.map (·.1) ∧ it ∉ D.map (·.1) := by
   have := (List.nodup_cons.mp nd).2
   simp only [kitEnum, List.cons_append, List.nil_append, List.map_cons, List.nodup_cons, List.mem_cons, not_or] at this
   replace this := this
   exact ⟨this.1.1, this.1.2, this.2.1⟩
  refine wpAny_pyNext_enum_itemD (drawsTup (A := A.in1) hh it l hne vs.toArray) he (i := i) ⟨ho, let ⟨n, q⟩ := hKl; ⟨_, q, rfl, n, rfl⟩⟩ (by simpa using hi) nd2.1 (by simp [nd2.1, hle]) fun x h' tk hx hout hst hT hsz hk => ?_
  have hx' : x = vs.getD i .none := by
   have hx2 : vs.toArray[i]? = some x := hx
   simp only [List.getElem?_toArray] at hx2
   simp [List.getD, hx2]
  subst hx'
  refine wpAny_letOwnedTupleGo_enum hout fun h2 he2 hs2 => hQ _ [(s.heap.objs.size, .tup [.int (i : Nat) tk, vs.getD i .none])] _ ⟨_, tk, rfl, rfl⟩ ?_
  have hkeep : ∀ b o, b ≠ e -> b ≠ it -> s.heap.get? b = some o -> h2.get? b = some o := fun b o hb1 hb2 q => (hs2.2 b hb1).trans (hk b o hb1 hb2 q)
  have hsize : e < s.heap.objs.size := Heap.lt_size he
  obtain ⟨oL, esL, epL, qL, rL⟩ := S.ns
  refine ⟨⟨oL, esL, epL, hkeep _ _ (Ne.symm hL) (Ne.symm hL2) qL, rL⟩, fun b o q => hkeep _ _ (by rintro rfl; rw [q] at hH1; cases hH1) (by rintro rfl; rw [q] at hH2; cases hH2) (S.stays b o q), S.top, ?_, ?_, S.gens, S.os⟩
  ·have hnot : s.heap.objs.size ∉ (L :: (kitEnum e it l vs i ++ D).map (·.1)) := by
    intro q
    rcases List.mem_cons.mp q with q | q
    ·rw [← q] at qL; exact absurd (Heap.lt_size qL) (Nat.lt_irrefl _)
    ·obtain ⟨p, hp, q⟩ := List.mem_map.mp q
     exact absurd (Ob.On.lt (S.ob p hp).1) (q ▸ Nat.lt_irrefl _)
   have := List.nodup_cons.mpr ⟨hnot, nd⟩
   exact (List.Perm.swap _ _ _).nodup_iff.mp this
  ·intro p hp
   rcases List.mem_cons.mp hp with rfl | hp
   ·refine ⟨⟨_, (hs2.2 _ (Nat.ne_of_gt hsize)).trans hT⟩, ?_⟩
    cases q : H0.get? s.heap.objs.size with
    | none => rfl
    | some o => exact absurd (Heap.lt_size (S.stays _ _ q)) (Nat.lt_irrefl _)
   ·rcases List.mem_cons.mp hp with rfl | hp
    ·exact ⟨he2, hH1⟩
    ·rcases List.mem_cons.mp hp with rfl | hp
     ·obtain ⟨o, q, r⟩ := hst.1
      exact ⟨⟨o, (hs2.2 _ (Ne.symm nd2.1)).trans q, r⟩, hH2⟩
     ·have hm := List.mem_map_of_mem (f := Prod.fst) hp
      have := S.ob p (.tail _ (.tail _ hp))
      exact ⟨this.1.keep fun o q => hkeep _ _ (by rintro r; exact nd2.2.1 (r ▸ hm)) (by rintro r; exact nd2.2.2 (r ▸ hm)) q, this.2⟩
 done := fun {L m D s Q E} S _ hQ => by
  have ho : (Ob.iter "tuple_iterator" (.ref l) vs.length).On s.heap it := S.get (.tail _ (.head _))
  have he : IsEnum s.heap e it (vs.length : Nat) _ := S.get (k := .raw _) (.head _)
  have hH2 := (S.ob _ (.tail _ (.head _) : (it, Ob.iter "tuple_iterator" (.ref l) vs.length) ∈ kitEnum e it l vs vs.length ++ D)).2
  have hKl : ∃ n, s.heap.get? l = some { cls := .type "tuple", dict := none, data := .seq vs.toArray n, slots := #[] } := let ⟨n, e⟩ := hK; ⟨n, S.stays _ _ e⟩
  have hne : l ≠ it := by rintro rfl; obtain ⟨n, q⟩ := hK; rw [q] at hH2; cases hH2
  refine wpAny_pyNext_enum_endD (drawsTup (A := A.in1) hh it l hne vs.toArray) he ⟨by rw [List.size_toArray]; exact ho, let ⟨n, q⟩ := hKl; ⟨_, q, rfl, n, rfl⟩⟩ fun h' hx => hQ _ ?_
  exact iter_done (k := .iter "tuple_iterator" (.ref l) vs.length) (t := s.toks) S.tl hx
noncomputable def chr1 (c : Nat) : Str := ⟨#[c]⟩
noncomputable def fmTab : List (Addr × List (Addr × Nat × Tok × Nat × Tok)) := [
 (173, [(166, 40960, 638, 108, 666), (167, 49152, 640, 115, 667), (168, 32768, 634, 45, 668), (169, 24576, 632, 98, 669), (170, 16384, 628, 100, 670), (171, 8192, 630, 99, 671), (172, 4096, 636, 112, 672)]),
 (175, [(174, 256, 648, 114, 673)]), (177, [(176, 128, 650, 119, 674)]), (181, [(178, 2112, 675, 115, 676), (179, 2048, 642, 83, 677), (180, 64, 652, 120, 678)]),
 (183, [(182, 32, 654, 114, 679)]), (185, [(184, 16, 656, 119, 680)]), (189, [(186, 1032, 681, 115, 682), (187, 1024, 644, 83, 683), (188, 8, 658, 120, 684)]),
 (191, [(190, 4, 660, 114, 685)]), (193, [(192, 2, 662, 119, 686)]), (197, [(194, 513, 687, 116, 688), (195, 512, 646, 84, 689), (196, 1, 664, 120, 690)])]
noncomputable def isTupX (K : Frag) (a : Addr) (vs : List Value) : Bool := match K.lookup a with
 | some o => (o.cls == .type "tuple" && o.dict == none) && (seqIs o.data vs && o.slots.isEmpty)
 | none => false
noncomputable def rowV (y : Addr × Nat × Tok × Nat × Tok) : List Value := [.int (y.2.1 : Nat) y.2.2.1, .str (chr1 y.2.2.2.1) y.2.2.2.2]
noncomputable def tabV (x : Addr × List (Addr × Nat × Tok × Nat × Tok)) : List Value := x.2.map fun y => .ref y.1
noncomputable def fmV : List Value := fmTab.map fun x => .ref x.1
noncomputable def fmOk (K : Frag) : Bool := isTupX K 198 fmV && fmTab.all fun x => isTupX K x.1 (tabV x) && x.2.all fun y => isTupX K y.1 (rowV y)
theorem fmOk_all (P : Params) : fmOk (Kf P) = true := by kernel_rfl
theorem tupX {K : Frag} {h : Heap} (X : K.In h) {a : Addr} {vs : List Value} (e : isTupX K a vs = true) : ∃ n, h.get? a = some { cls := .type "tuple", dict := none, data := .seq vs.toArray n, slots := #[] } := by
 unfold isTupX at e
 cases q : K.lookup a with
 | none => rw [q] at e; cases e
 | some o =>
  rw [q] at e
  obtain ⟨c, d, f, sl⟩ := o
  obtain ⟨e1, e2⟩ := Bool.and_eq_true_iff.mp e
  obtain ⟨e3, e4⟩ := Bool.and_eq_true_iff.mp e1
  obtain ⟨e5, e6⟩ := Bool.and_eq_true_iff.mp e2
  obtain ⟨n, e7⟩ := seqIs_ok e5
  exact ⟨n, (X _ _ q).trans (congrArg some (by rw [show c = _ from beq_iff_eq.mp e3, show d = _ from beq_iff_eq.mp e4, show f = _ from e7, show sl = _ from Array.isEmpty_iff.mp e6]))⟩
theorem isTupOfX {h : Heap} {a : Addr} {vs : List Value} (e : ∃ n, h.get? a = some { cls := .type "tuple", dict := none, data := .seq vs.toArray n, slots := #[] }) : IsTup h a vs.toArray :=
 let ⟨n, q⟩ := e; ⟨_, q, rfl, n, rfl⟩
noncomputable def fmHit (k i b : Nat) : Bool := if i = 0 then decide (k &&& 61440 = b) else decide (k &&& b = b)
noncomputable def fmCh (k i : Nat) : Nat := match ((fmTab.getD i (0, [])).2.find? fun y => fmHit k i y.2.1) with
 | some y => y.2.2.2.1
 | none => if i = 0 then 63 else 45
noncomputable def zM (k : Nat) : List Nat := (List.range 10).map (fmCh k)
noncomputable def fm (k : Nat) : Str := ⟨(zM k).toArray⟩
theorem StrsAre.push {vs : List Value} {ys : List Str} {y : Str} {t : Tok} (h : StrsAre vs ys) : StrsAre (vs ++ [.str y t]) (ys ++ [y]) := by
 induction h with
 | nil => exact .cons _ _ .nil
 | cons y' t' _ ih => exact .cons _ _ ih
theorem StrsAre.length_eq {vs : List Value} {ys : List Str} (h : StrsAre vs ys) : vs.length = ys.length := by
 induction h with
 | nil => rfl
 | cons y' t' _ ih => simp [ih]
theorem r_unpackK {elts : List Expr} {k : Nat} {pos : Pos} {t : Addr} {vs : List Value} {Q : QU} (S : St H0 os0 L m D s) (hh : A.handled = none) (ht : IsTup H0 t vs.toArray)
  (h : ∀ s', St H0 os0 L m D s' -> wpAny (model pw w) A (assignInOrder ((assignEach elts env).map (·.2)) vs) Q E s')
  (hn : autoParam ((assignEach elts env).length = vs.length) aR._auto_1) (hstar : autoParam ((assignEach elts env).findIdx? (·.1) = none) aR._auto_1) : wpAny (model pw w) A (assign (.Tuple elts k pos) env (.ref t)) Q E s :=
 assign_Tuple_tuple hh (ht.keeps S.stays) (by simpa using hn) hstar fun h' he => h _ (S.extBut (t := s.toks) he)
theorem r_join {l : Addr} {vs : List Value} {ys : List Str} {x : Str} {t : Tok} {Q : QV} (S : St H0 os0 L m D s) (hl : (l, .list vs) ∈ D) (hi : StrsAre vs ys) (hok : (ys.map (·.length)).sum + ys.length * x.length ≤ 16777216)
  (h : ∀ t s', St H0 os0 L m D s' -> Q (.str (Txt.join x ys) t) s') : wpAny (model pw w) A (call (.builtin "str.join") [.str x t, .ref l]) Q E s :=
 join_list (S.lst hl) (by simpa using hi) hok fun t' k => h _ _ (S.tok k)
theorem fm_take {k i : Nat} : ((List.range (i + 1)).map fun j => chr1 (fmCh k j)) = ((List.range i).map fun j => chr1 (fmCh k j)) ++ [chr1 (fmCh k i)] := by
 rw [List.range_succ, List.map_append]; rfl
theorem fm_none {k i : Nat} (h : ∀ y ∈ (fmTab.getD i (0, [])).2, fmHit k i y.2.1 = false) : fmCh k i = if i = 0 then 63 else 45 := by
 unfold fmCh
 rw [List.find?_eq_none.mpr fun y hy => by rw [h y hy]; decide]
theorem fm_some {k i j : Nat} {y : Addr × Nat × Tok × Nat × Tok} (hy : (fmTab.getD i (0, [])).2[j]? = some y) (h : ∀ z ∈ (fmTab.getD i (0, [])).2.take j, fmHit k i z.2.1 = false) (hh : fmHit k i y.2.1 = true) : fmCh k i = y.2.2.2.1 := by
 unfold fmCh
 have : (fmTab.getD i (0, [])).2.find? (fun y => fmHit k i y.2.1) = some y := by
  obtain ⟨hj, e⟩ := List.getElem?_eq_some_iff.mp hy
  rw [List.find?_eq_some_iff_getElem]
  refine ⟨hh, j, hj, e, fun q hq => ?_⟩
  have := h ((fmTab.getD i (0, [])).2[q]) (List.mem_take_iff_getElem.mpr ⟨q, by walk_at "o", rfl⟩)
  rw [this]; decide
 rw [this]
theorem join_chars (l : List Nat) : Txt.join "" (l.map chr1) = ⟨l.toArray⟩ := by
 have key : ∀ (r : List Nat) (acc : Array Nat), (r.map chr1).foldl (fun (acc : Array Nat) (p : Str) => acc ++ (Str.ofString "").cps ++ p.cps) acc = acc ++ r.toArray := by
  intro r
  induction r with
  | nil => intro acc; simp
  | cons c r ih =>
   intro acc
   rw [List.map_cons, List.foldl_cons, ih]
   have e : (Str.ofString "").cps = #[] := by rfl
   rw [e]
   apply Array.toList_inj.mp
   simp [chr1]
 cases l with
 | nil => rfl
 | cons c r =>
  have := key r #[c]
  show (⟨(r.map chr1).foldl (fun acc p => acc ++ (Str.ofString "").cps ++ p.cps) #[c]⟩ : Str) = _
  rw [this]
  simp
theorem fm_lens (k : Nat) : (((List.range 10).map fun j => chr1 (fmCh k j)).map (·.length)).sum + ((List.range 10).map fun j => chr1 (fmCh k j)).length * (Str.ofString "").length ≤ 16777216 := by
 have e : ((List.range 10).map fun j => chr1 (fmCh k j)).map (·.length) = (List.range 10).map fun _ => 1 := by rw [List.map_map]; rfl
 rw [e]
 have e2 : (Str.ofString "").length = 0 := by rfl
 rw [e2, Nat.mul_zero]
 decide
inductive FmE (H0 : Heap) (os0 : OsState) (L₁ p k : Nat) (D : Led) (s : Shared) : Prop
 | mk (m' : Str -> Option Value) (vs : List Value) (_ : St H0 os0 L₁ m' ((p, .list vs) :: D) s) (_ : m' "perm" = some (.ref p)) (_ : StrsAre vs ((List.range 10).map fun j => chr1 (fmCh k j)))
inductive FmI (p k : Nat) (t1 : Tok) (D : Led) (i : Nat) (m' : Str -> Option Value) (D' : Led) : Prop
 | mk (vs : List Value) (_ : D' = (p, .list vs) :: D) (_ : m' "mode" = some (.int (k : Nat) t1)) (_ : m' "perm" = some (.ref p)) (_ : StrsAre vs ((List.range i).map fun j => chr1 (fmCh k j)))
inductive FmT (H0 : Heap) (os0 : OsState) (L₁ p k : Nat) (t1 : Tok) (D kit : Led) (vs : List Value) (i : Nat) (s : Shared) : Prop
 | mk (m' : Str -> Option Value) (t2 : Tok) (_ : St H0 os0 L₁ m' (kit ++ ((p, .list (vs ++ [.str (chr1 (fmCh k i)) t2])) :: D)) s) (_ : m' "mode" = some (.int (k : Nat) t1)) (_ : m' "perm" = some (.ref p))
inductive FmJ (p k : Nat) (t1 t : Tok) (D0 : Led) (i : Nat) (xs : List (Addr × Nat × Tok × Nat × Tok)) (j : Nat) (m'' : Str -> Option Value) (D'' : Led) : Prop
 | mk (_ : D'' = D0) (_ : m'' "mode" = some (.int (k : Nat) t1)) (_ : m'' "perm" = some (.ref p)) (_ : m'' "index" = some (.int (i : Nat) t)) (_ : ∀ y ∈ xs.take j, fmHit k i y.2.1 = false)
theorem filemode_spec (gd : Gd w H0) {k : Nat} {t1 : Tok} {R : Result -> Shared -> Prop} (S : St H0 os0 L m D s) (hd : A.depth + 1 < recursionLimit) (hh : A.handled = none)
  (h : ∀ t s', St H0 os0 L m D s' -> R (.ok (.ret (.str (fm k) t))) s') : codeAny (model pw w) A (.call (.ref 205) ⟨[.int (k : Nat) t1], []⟩) R s := by
 have hok := fmOk_all w.params
 unfold fmOk at hok
 obtain ⟨hok1, hok2⟩ := Bool.and_eq_true_iff.mp hok
 have hrow : ∀ i, i < 10 -> isTupX (Kf w.params) (fmTab.getD i (0, [])).1 (tabV (fmTab.getD i (0, []))) = true ∧ ∀ y ∈ (fmTab.getD i (0, [])).2, isTupX (Kf w.params) y.1 (rowV y) = true := by
  intro i hi
  have hm : fmTab.getD i (0, []) ∈ fmTab := by
   have : i < fmTab.length := hi
   simp [List.getD, this]
  have := List.all_eq_true.mp hok2 _ hm
  obtain ⟨a, b⟩ := Bool.and_eq_true_iff.mp this
  exact ⟨a, fun y hy => List.all_eq_true.mp b y hy⟩
 refine r_enter (binds := [("mode", .int (k : Nat) t1)]) gd S (gd.K 205 _ rfl) rfl (by kernel_rfl) rfl (.of_eq rfl) (by walk_at "o") rfl rfl fun L₁ s₁ S => ?_
 dsimp only [mOf, List.foldl] at S
 refine genx fun Qx Ex hQ => ?_
 refine r_doc S fun s S => ?_
 refine zC <| zN <| r_list <| spliced_none <| r_lstQ S (by walk_at "s") fun p s S => r_store S fun s S => ?_
 try dsimp only at S ⊢
 refine r_for (FmE H0 os0 L₁ p k ((L, .ns m) :: D))
  (r_callb gd S (by rfl) boot_enumerate rfl (zS <| r_global gd S (v := .ref 198) (by rfl) <| spliced_none <| r_enumK S (tupX gd.K hok1) fun e it s S => ?_) rfl rfl rfl rfl) ?_
 ·-- the loop over the places
  refine wpAny_pyIter_enum (S.get (k := .raw (enumObj it (0 : Nat) (oldE fmV 0))) (.head _)) <| r_loop (Source.enumK (A := A.deeper _) hh e it 198 fmV (tupX gd.K hok1)) (FmI p k t1 ((L, .ns m) :: D)) _ (fun _ _ _ _ => trivial) S ⟨[], rfl, by walk_at "l", by walk_at "l", .nil⟩ ?_ ?_
  ·intro i m' D' v N s hi hJ hV S
   refine genb fun Q1 hQ1 => ?_
   obtain ⟨vs, rfl, h1, h2, h3⟩ := hJ
   obtain ⟨a, t, rfl, rfl⟩ := hV
   have hi' : i < 10 := hi
   have eT : fmV.getD i .none = .ref (fmTab.getD i (0, [])).1 := by
    have : i < fmTab.length := hi
    simp [fmV, List.getD, this]
   rw [eT] at S
   replace S := S
   have hlen : vs.length = i := by rw [Internal.StrsAre.length_eq h3]; simp
   dsimp only [List.nil_append, List.cons_append] at S ⊢
   refine r_unpack S hh (.head _) (fun s S => zA <| assign_Name <| r_store S fun s S => zA <| assign_Name <| r_store S fun s S => wpAny_assignInOrder_none ?_)
   replace S := S.tl
   revert S
   refine gnlE (fmTab.getD i (0, [])) ?_
   intro x hx S
   refine r_for (FmT H0 os0 L₁ p k t1 ((L, .ns m) :: D) (kitEnum e it 198 fmV (i + 1)) vs i)
    (r_name S (by walk_at "l") <| r_iter_tupK (vs := tabV x) S (isTupOfX (tupX gd.K (hx ▸ (hrow i hi').1))) fun it2 s S =>
     r_loop (Source.tupK (A := A.deeper _) hh _ it2 x.1 (tabV x) (isTupOfX (tupX gd.K (hx ▸ (hrow i hi').1)))) (FmJ p k t1 t (kitEnum e it 198 fmV (i + 1) ++ ((p, .list vs) :: (L, .ns m) :: D)) i x.2) _ (fun _ _ _ _ => trivial) S ⟨rfl, by walk_at "l", by walk_at "l", by walk_at "l", by simp⟩ ?_ ?_) ?_
   ·intro j m'' D'' v N s hj hJ hV S
    refine genb fun Q2 hQ2 => ?_
    obtain ⟨rfl, g1, g2, g3, g4⟩ := hJ
    obtain ⟨hv, rfl⟩ := hV
    have hj' : j < x.2.length := by simpa [tabV] using hj
    have hy : x.2[j]? = some x.2[j] := by simp [hj']
    obtain rfl : v = .ref x.2[j].1 := by
     rw [tabV, List.getElem?_map, hy] at hv
     exact (Option.some.inj hv).symm
    have hym : x.2[j] ∈ x.2 := List.getElem_mem hj'
    have hrw := (hx ▸ (hrow i hi').2) x.2[j] hym
    have htk : ∀ y ∈ x.2.take (j + 1), y ∈ x.2.take j ∨ y = x.2[j] := fun y q => by
     rw [List.take_add_one, hy] at q
     replace q := q
     rcases List.mem_append.mp q with q | q
     ·exact .inl q
     ·exact .inr (List.mem_singleton.mp q)
    have hsome : fmHit k i x.2[j].2.1 = true -> fmCh k i = x.2[j].2.2.2.1 := fun q => fm_some (j := j) (by rw [hx]; exact hy) (by rw [hx]; exact g4) q
    revert hy hym hrw htk hsome
    refine gnl x.2[j] ?_
    intro y hy hym hrw htk hsome
    simp only [kitEnum, List.nil_append, List.cons_append] at S
    replace S := S
    refine r_unpackK (vs := rowV y) S hh (isTupOfX (tupX gd.K hrw)) (fun s S => zA <| assign_Name <| r_store S fun s S => zA <| assign_Name <| r_store S fun s S => wpAny_assignInOrder_none ?_)
    refine zC <| zI <| zT <| r_name S (by walk_at "l") <| r_natc 0 S fun t3 s S => r_eqN <| wpAny_truthy_bool ?_
    by_cases hz : i = 0
    ·first | refine ifp (by simpa using hz) ?_ | rw [if_pos (by simpa using hz)]
     refine zC <| zI <| zT <| r_callf gd S (by rfl) (by rfl) <| zS <| r_name S (by walk_at "l") <| spliced_none ⟨S.stays, ifmt_spec gd S (by simpa [Around.deeper] using hd) fun t4 s S =>
      r_name S (by walk_at "l") <| r_eqN <| wpAny_truthy_bool ?_⟩
     by_cases hb : k &&& 61440 = y.2.1
     ·first | refine ifp (by simpa using hb) ?_ | rw [if_pos (by simpa using hb)]
      refine zC <| zE <| r_append <| r_name S (by walk_at "l") <| r_appendO S (.tail _ (.tail _ (.tail _ (.head _)))) <| r_name S (by walk_at "l") <| zY S (.tail (.tail (.tail .head))) (zL (by walk_at "o")) fun s S => ?_
      have S2 := S.tl
      rw [← hsome (by simp [fmHit, hz, hb])] at S2
      exact zC <| wpAny_Break <| hQ2 _ _ ⟨_, y.2.2.2.2, S2, by walk_at "l", by walk_at "l"⟩
     ·first | refine ifn (by simpa using hb) ?_ | rw [if_neg (by simpa using hb)]
      refine wpAny_execs_nil <| wpAny_execs_nil <| wpAny_execs_nil <| hQ2 _ _ ⟨_, _, ⟨rfl, by walk_at "l", by walk_at "l", by walk_at "l", fun z q => ?_⟩, S⟩
      rcases htk z q with q | rfl
      ·exact g4 z q
      ·simp [fmHit, hz, hb]
    ·first | refine ifn (by simpa using hz) ?_ | rw [if_neg (by simpa using hz)]
     refine zC <| zI <| zT <| zB <| r_name S (by walk_at "l") <| r_name S (by walk_at "l") <| r_and S fun t4 s S => r_name S (by walk_at "l") <| r_eqN <| wpAny_truthy_bool ?_
     by_cases hb : k &&& y.2.1 = y.2.1
     ·first | refine ifp (by simpa using hb) ?_ | rw [if_pos (by simpa using hb)]
      refine zC <| zE <| r_append <| r_name S (by walk_at "l") <| r_appendO S (.tail _ (.tail _ (.tail _ (.head _)))) <| r_name S (by walk_at "l") <| zY S (.tail (.tail (.tail .head))) (zL (by walk_at "o")) fun s S => ?_
      have S2 := S.tl
      rw [← hsome (by simp [fmHit, hz, hb])] at S2
      exact zC <| wpAny_Break <| hQ2 _ _ ⟨_, y.2.2.2.2, S2, by walk_at "l", by walk_at "l"⟩
     ·first | refine ifn (by simpa using hb) ?_ | rw [if_neg (by simpa using hb)]
      refine wpAny_execs_nil <| wpAny_execs_nil <| wpAny_execs_nil <| hQ2 _ _ ⟨_, _, ⟨rfl, by walk_at "l", by walk_at "l", by walk_at "l", fun z q => ?_⟩, S⟩
      rcases htk z q with q | rfl
      ·exact g4 z q
      ·simp [fmHit, hz, hb]
   ·rintro m'' D'' s ⟨rfl, g1, g2, g3, g4⟩ S
    have g5 : ∀ y ∈ (fmTab.getD i (0, [])).2, fmHit k i y.2.1 = false := fun y q => g4 y (by
     rw [hx] at q
     rw [tabV, List.length_map, List.take_length]
     exact q)
    have g6 := fm_none g5
    simp only [kitEnum, List.nil_append, List.cons_append] at S
    replace S := S
    refine zC <| zI <| zT <| r_name S g3 <| r_natc 0 S fun t3 s S => r_eqN <| wpAny_truthy_bool ?_
    by_cases hz : i = 0
    ·first | refine ifp (by simpa using hz) ?_ | rw [if_pos (by simpa using hz)]
     rw [if_pos hz] at g6
     refine zC <| zE <| r_append <| r_name S g2 <| r_appendO S (.tail _ (.tail _ (.head _))) <| r_str S fun t4 s S => zY S (.tail (.tail .head)) (zL (by walk_at "o")) fun s S => ?_
     refine wpAny_execs_nil <| wpAny_execs_nil ⟨_, t4, ?_, g1, g2⟩
     rw [g6]
     exact S
    ·first | refine ifn (by simpa using hz) ?_ | rw [if_neg (by simpa using hz)]
     rw [if_neg hz] at g6
     refine zC <| zE <| r_append <| r_name S g2 <| r_appendO S (.tail _ (.tail _ (.head _))) <| r_str S fun t4 s S => zY S (.tail (.tail .head)) (zL (by walk_at "o")) fun s S => ?_
     refine wpAny_execs_nil <| wpAny_execs_nil ⟨_, t4, ?_, g1, g2⟩
     rw [g6]
     exact S
   ·rintro s ⟨m'', t2, S, g1, g2⟩
    exact wpAny_execs_nil <| hQ1 _ _ ⟨m'', _, ⟨_, rfl, g1, g2, by rw [fm_take]; exact Internal.StrsAre.push h3⟩, S⟩
  ·rintro m' D' s ⟨vs, rfl, h1, h2, h3⟩ S
   exact wpAny_execs_nil ⟨m', vs, S, h2, h3⟩
 ·rintro s ⟨m', vs, S, hp, hs⟩
  refine zC <| zR <| r_meth F.plainAttrs_str F.slot_str_join F.type_str_join <| r_str S fun t s S => ⟨str_ok, zS <| r_name S hp <| spliced_none <|
   r_join S (.head _) hs (fm_lens k) fun t s S => ?_⟩
  have e : Txt.join "" ((List.range 10).map fun j => chr1 (fmCh k j)) = fm k := by
   have := join_chars (zM k)
   rw [zM, List.map_map] at this
   exact this
  rw [e]
  exact hQ _ _ <| h _ _ (S.tl.ret .head)
noncomputable def inChars (l : List Nat) (x : Str) : Bool := match x.cps.toList with
 | [c] => l.contains c
 | _ => false
noncomputable def ctrl : List Nat := List.range 32 ++ [127]
noncomputable def illBasic : List Nat := ctrl.filter (· != 9)
noncomputable def illMulti : List Nat := ctrl.filter fun c => c != 9 && c != 10
noncomputable def tomlWs : List Nat := [32, 9]
noncomputable def tomlWsNl : List Nat := [32, 9, 10]
noncomputable def bareKey : List Nat := (List.range 26).map (97 + ·) ++ (List.range 26).map (65 + ·) ++ (List.range 10).map (48 + ·) ++ [45, 95]
noncomputable def keyInit : List Nat := bareKey ++ [34, 39]
structure Sets (w : World) (H0 : Heap) : Prop where
 basic : FrozAt (PySem.strKind pw w) H0 427 (inChars illBasic) illBasic.length
 multi : FrozAt (PySem.strKind pw w) H0 432 (inChars illMulti) illMulti.length
 ws : FrozAt (PySem.strKind pw w) H0 433 (inChars tomlWs) tomlWs.length
 wsnl : FrozAt (PySem.strKind pw w) H0 441 (inChars tomlWsNl) tomlWsNl.length
 bare : FrozAt (PySem.strKind pw w) H0 442 (inChars bareKey) bareKey.length
 init : FrozAt (PySem.strKind pw w) H0 450 (inChars keyInit) keyInit.length
theorem contains_froz {a : Addr} {S' : Str -> Bool} {n : Nat} {x : Str} {t : Tok} {Q : QB} (hF : FrozAt (PySem.strKind pw w) s.heap a S' n) (hb : n < 4096)
  (h : Q (S' x) { s with toks := s.toks + 1 }) : wpAny (model pw w) A (contains (.ref a) (.str x t)) Q E s := by
 obtain ⟨es, ep, tb, ho, hel, hmem, hn, hf⟩ := hF
 have hkey : (PySem.strKind pw w).is x (.str x t) = true := by simp [PySem.strKind, Value.isStrOf]
 have hT : s.TypeIs (.ref a) "frozenset" := ⟨_, ho, rfl⟩
 unfold contains
 with_reducible refine wpAny_holding ?_
 refine wB (wpAny_specialOf hT FB.slot_frozenset_contains.lookup ?_)
 show wpAny _ _ (if (some (Value.builtin "frozenset.__contains__") == some Value.none) = true then _ else _) _ E s
 first | refine ifn (by rw [beq_builtin_none]; exact Bool.false_ne_true) ?_ | rw [if_neg (by rw [beq_builtin_none]; exact Bool.false_ne_true)]
 refine wB (wpAny_callSpecialUnlessNone?_slot (name := Str.ofString "__contains__") hT FB.slot_frozenset_contains
  (wpAny_call_entry FB.slot_frozenset_contains hT FB.entry_frozenset_contains ?_ (FB.args_frozenset_contains_2 _ _)))
 unfold Builtin.«frozenset.__contains__» Builtin.Frozenset.oneOther
 simp only [List.isEmpty_nil, bind_assoc]
 unfold Builtin.Frozenset.addrOf Builtin.Frozenset.withSetAsKey setContains
 refine wB (wP ?_)
 try dsimp only
 refine wB (wP ?_)
 try dsimp only
 refine wB (wpAny_tryCatch (wpAny_holding (wB ((PySem.strKind pw w).pyHash hkey ?_))))
 refine wB (setFind_any (s := { s with toks := s.toks + 1 }) hkey rfl ho rfl hel hmem (by rw [hn]; exact hb) hf fun r hr => wP ?_)
 show wpAny _ _ (ret (Value.bool r.isSome)) _ _ _
 rw [hr]
 exact wP ⟨_, rfl, wpAny_truthy_bool h⟩
theorem FrozAt.keep {h h' : Heap} {a : Addr} {S' : Str -> Bool} {n : Nat} (hF : FrozAt (PySem.strKind pw w) h a S' n) (k : ∀ b o, h.get? b = some o -> h'.get? b = some o) : FrozAt (PySem.strKind pw w) h' a S' n :=
 Exists.imp (fun _ => Exists.imp fun _ => Exists.imp fun _ => And.imp_left (k _ _)) hF
theorem r_in {a : Addr} {S' : Str -> Bool} {n : Nat} {x : Str} {t : Tok} {Q : QV} (S : St H0 os0 L m D s) (hF : FrozAt (PySem.strKind pw w) H0 a S' n) (hb : n < 4096)
  (h : ∀ s', St H0 os0 L m D s' -> Q (.bool (S' x)) s') : wpAny (model pw w) A (compareOp .In (.str x t) (.ref a)) Q E s := by
 show wpAny _ _ (do return .bool (← contains (.ref a) (.str x t))) Q E s
 exact wB (contains_froz (FrozAt.keep hF S.stays) hb (wP (h _ (S.tok _))))
theorem r_notin {a : Addr} {S' : Str -> Bool} {n : Nat} {x : Str} {t : Tok} {Q : QV} (S : St H0 os0 L m D s) (hF : FrozAt (PySem.strKind pw w) H0 a S' n) (hb : n < 4096)
  (h : ∀ s', St H0 os0 L m D s' -> Q (.bool (!S' x)) s') : wpAny (model pw w) A (compareOp .NotIn (.str x t) (.ref a)) Q E s := by
 show wpAny _ _ (do return .bool (!(← contains (.ref a) (.str x t)))) Q E s
 exact wB (contains_froz (FrozAt.keep hF S.stays) hb (wP (h _ (S.tok _))))
theorem r_chr {x : Str} {t u : Tok} {p : Nat} {value slice : Expr} {Q : QV} (S : St H0 os0 L m D s) (hp : p < x.length) (hn : x.length ≤ 16777216)
  (h : ∀ t s', St H0 os0 L m D s' -> Q (.str (chr1 (x.cps.getD p 0)) t) s') (hs : autoParam (isSlice slice = false) aR._auto_1)
  (ht : autoParam (∀ r, letTemporaryGo value (.str x t) r = pure ()) aU._auto_1) :
  wpAny (model pw w) A (subscriptTail value slice (.str x t) (.int (p : Nat) u)) Q E s :=
 KXi.item rfl (by walk_at "o") (by walk_at "o") hn (fun _ => by
  rw [item_meets (x := x) (i := (p : Int)) ⟨by walk_at "o", by walk_at "o"⟩]
  exact h _ _ (S.tok _)) (zU hs _ _) ht
noncomputable def without (h : Heap) (S : List Addr) : Heap := ⟨(h.objs.mapIdx fun i o => if S.contains i then { cls := .none, data := .freed } else o), h.life⟩
theorem get_without {h : Heap} {S : List Addr} {b : Addr} : (without h S).get? b = if b ∈ S then none else h.get? b := by
 unfold without Heap.get?
 simp only [Array.getElem?_mapIdx]
 cases e : h.objs[b]? with
 | none => simp
 | some o =>
  simp only [Option.map_some]
  by_cases c : b ∈ S
  ·simp [c]
  ·simp [c]
def OnStk (A : Around) (L : Addr) (D : Led) : Prop := ∃ l, A.frames = some l ∧ ∀ env ∈ l, env.scope.kind = .function ∧ ∃ a, env.frame = some a ∧ (a = L ∨ ∃ m, (a, Ob.ns m) ∈ D)
theorem OnStk.sub {A : Around} {L : Addr} {D D' : Led} (x : OnStk A L D) (h : ∀ p ∈ D, p ∈ D') : OnStk A L D' := by
 obtain ⟨l, e, q⟩ := x
 refine ⟨l, e, fun env he => ?_⟩
 obtain ⟨k, a, f, r⟩ := q env he
 exact ⟨k, a, f, r.imp id fun ⟨m, hm⟩ => ⟨m, h _ hm⟩⟩
theorem OnStk.tail {A : Around} {L : Addr} {p : Addr × Ob} {D : Led} (x : OnStk A L D) : OnStk A L (p :: D) := x.sub fun _ h => .tail _ h
theorem OnStk.app {A : Around} {L : Addr} {N D : Led} (x : OnStk A L D) : OnStk A L (N ++ D) := x.sub fun _ h => List.mem_append_right _ h
theorem OnStk.enter {A : Around} {L L₁ f : Addr} {m : Str -> Option Value} {D : Led} {fd : FuncData} (x : OnStk A L D) (hk : autoParam (fd.scope.kind = .function) aR._auto_1) :
  OnStk (A.deeper (callEnv fd L₁ f)) L₁ ((L, .ns m) :: D) := by
 obtain ⟨l, e, q⟩ := x
 refine ⟨callEnv fd L₁ f :: l, by simp [Around.deeper, e], fun env he => ?_⟩
 cases he with
 | head => exact ⟨hk, L₁, rfl, .inl rfl⟩
 | tail _ he =>
  obtain ⟨k, a, g, r⟩ := q env he
  refine ⟨k, a, g, .inr ?_⟩
  rcases r with rfl | ⟨m', hm⟩
  ·exact ⟨m, .head _⟩
  ·exact ⟨m', .tail _ hm⟩
theorem key_unique {D : Led} (nd : (D.map (·.1)).Nodup) {p q : Addr × Ob} (hp : p ∈ D) (hq : q ∈ D) (e : p.1 = q.1) : p = q := by
 induction D with
 | nil => cases hp
 | cons y l ih =>
  rw [List.map_cons, List.nodup_cons] at nd
  replace nd := nd
  cases hp with
  | head => cases hq with
   | head => rfl
   | tail _ hq => exact absurd (e ▸ List.mem_map_of_mem hq) nd.1
  | tail _ hp => cases hq with
   | head => exact absurd (e ▸ List.mem_map_of_mem hp) nd.1
   | tail _ hq => exact ih nd.2 hp hq
noncomputable def zO (l : List Env) : List Addr := l.filterMap (·.frame)
theorem St.funFrames {l : List Env} (S : St H0 os0 L m D s) (hl : ∀ env ∈ l, env.scope.kind = .function ∧ ∃ a, env.frame = some a ∧ (a = L ∨ ∃ m, (a, Ob.ns m) ∈ D)) {T : List Addr} (hT : ∀ b ∈ zO l, b ∈ T) : s.heap.FunFrames (without s.heap T) l := by
 induction l with
 | nil => trivial
 | cons env l ih =>
  obtain ⟨k, a, ha, r⟩ := hl env (.head _)
  have haT : a ∈ T := hT a (by simp [zO, ha])
  have hn : ∃ m, s.heap.Ns a m := by
   rcases r with rfl | ⟨m', hm⟩
   ·exact ⟨_, S.ns⟩
   ·exact ⟨_, S.get hm⟩
  obtain ⟨m', o, es, ep, ho, hd, _⟩ := hn
  refine ⟨by rw [k]; decide, ⟨a, o, ha, by rw [get_without, if_pos haT], ho, fun vs q => by rw [hd] at q; cases q⟩, ih (fun env he => hl env (.tail _ he)) fun b hb => hT b ?_⟩
  simp only [zO, List.filterMap_cons, ha]
  exact .tail _ hb
def Exc (H0 : Heap) (os0 : OsState) (L : Addr) (m : Str -> Option Value) (D : Led) (cls : String) (ev : Value) (s : Shared) : Prop :=
 ∃ e ob t, ev = .ref e ∧ St H0 os0 L m ((e, .raw ob) :: D) s ∧ ob.cls = .type cls ∧ ob.data = .fields #[t, .none, .none, .none, .bool false, .none]
theorem Exc.of {cls : String} {h' : Heap} {e : Addr} {t : Nat} (S : St H0 os0 L m D s) (x : Heap.NewExc s.heap h' e cls) : Exc H0 os0 L m D cls (.ref e) { s with heap := h', toks := t } := by
 obtain ⟨ob, t', he, hc, hd⟩ := x.there
 exact ⟨e, ob, t', rfl, S.new x.new x.keeps he S.gens rfl, hc, hd⟩
abbrev Frs (L : Addr) (D : Led) (l : List Env) : Prop := ∀ env' ∈ l, env'.scope.kind = .function ∧ ∃ a, env'.frame = some a ∧ (a = L ∨ ∃ m, (a, Ob.ns m) ∈ D)
theorem Frs.mem {l : List Env} (hl : Frs L D l) : ∀ b, b ∈ zO l -> b = L ∨ ∃ m, (b, Ob.ns m) ∈ D := fun b hb => by
 obtain ⟨env, he, hf⟩ := List.mem_filterMap.mp hb
 obtain ⟨_, a, ha, r⟩ := hl env he
 rw [hf] at ha
 cases ha
 exact r
theorem St.flown {l : List Env} {e : Addr} {k : Ob} {h' : Heap} {t : Nat} (S : St H0 os0 L m ((e, k) :: D) s) (hl : Frs L D l)
  (hb : (without s.heap (e :: zO l)).StaysIn h') (hu : s.heap.UpToSlots h') : St H0 os0 L m D { s with heap := h', toks := t } := by
 have S0 := S.tl
 have key : ∀ b o, b ∉ zO l -> b ≠ e -> s.heap.get? b = some o -> h'.get? b = some o := fun b o h1 h2 h3 => hb b o (by
  rw [get_without, if_neg (fun q => by cases q with | head => exact h2 rfl | tail _ q => exact h1 q)]
  exact h3)
 have hno : ∀ b, b ∈ zO l -> H0.get? b = none := fun b hb => by
  rcases hl.mem b hb with rfl | ⟨m', hm⟩
  ·exact S0.top
  ·exact (S0.ob _ hm).2
 have heH : H0.get? e = none := (S.ob _ (.head _)).2
 refine ⟨hu.ns S0.ns, fun b o q => key b o (fun c => by rw [hno b c] at q; cases q) (fun c => by rw [c, heH] at q; cases q) (S0.stays b o q), S0.top, S0.nodup, fun p hp => ⟨?_, (S0.ob p hp).2⟩, S0.gens, S0.os⟩
 by_cases c : p.1 ∈ zO l
 ·rcases hl.mem _ c with q | ⟨m', hm⟩
  ·exact absurd (q ▸ List.mem_map_of_mem hp) (List.nodup_cons.mp S0.nodup).1
  ·have q : p = (p.1, Ob.ns m') := key_unique (List.nodup_cons.mp S0.nodup).2 hp hm rfl
   have e2 : p.2 = Ob.ns m' := congrArg Prod.snd q
   rw [e2]
   exact hu.ns (S0.get hm)
 ·refine (S0.ob p hp).1.keep fun o q => key _ o c (fun c2 => ?_) q
  have := S.nodup
  simp only [List.map_cons, List.nodup_cons] at this
  exact this.2.1 (c2 ▸ List.mem_map_of_mem (f := Prod.fst) hp)
theorem Exc.parts {l : List Env} {e : Addr} {ob : Obj} {t : Value} (S : St H0 os0 L m ((e, .raw ob) :: D) s) (hd : ob.data = .fields #[t, .none, .none, .none, .bool false, .none]) (hl : Frs L D l) :
  s.heap.get? e = some ob ∧ (without s.heap (e :: zO l)).StaysIn s.heap ∧ (without s.heap (e :: zO l)).get? e = none ∧ s.heap.FunFrames (without s.heap (e :: zO l)) l :=
 ⟨S.get (.head _), fun b o q => by
  rw [get_without] at q
  replace q := q
  split at q
  ·cases q
  ·exact q, by rw [get_without, if_pos (.head _)], S.tl.funFrames hl fun b hb => .tail _ hb⟩
def ExcH (H0 : Heap) (os0 : OsState) (L : Addr) (m : Str -> Option Value) (D : Led) (l : List Env) (cls : String) (ev : Value) (s : Shared) : Prop :=
 ∃ e a0 base s0 k, ev = .ref e ∧ St H0 os0 L m ((e, k) :: D) s0 ∧ base = without s0.heap (e :: zO l) ∧ Heap.HeldW base l e (.type cls) a0 L s.heap ∧ s0.heap.UpToSlots s.heap ∧ s.gens = s0.gens ∧ s.os = s0.os
def Noted (w : World) (A : Around) (H0 : Heap) (os0 : OsState) (L : Addr) (m : Str -> Option Value) (D : Led) (env : Env) (cls : String) (ev : Value) (s : Shared) : Prop :=
 ∃ o, A.frames = some (env :: o) ∧ Frs L D (env :: o) ∧ env.frame = some L ∧ ∀ E : QV, wpAny (model pw w) A (noteFrame ev env) (fun _ s' => ExcH H0 os0 L m D (env :: o) cls ev s') E s
theorem OnStk.frs {o : List Env} (x : OnStk A L D) (h : A.frames = some (env :: o)) : Frs L D (env :: o) := by
 obtain ⟨l, h1, h2⟩ := x
 rw [h] at h1
 cases h1
 exact h2
theorem Noted.new {cls : String} {ev : Value} (X : Exc H0 os0 L m D cls ev s) (hstk : OnStk A L D) (hA : ∃ o, A.frames = some (env :: o)) (hf : env.frame = some L) : Noted w A H0 os0 L m D env cls ev s := by
 obtain ⟨outer, hfr⟩ := hA
 refine ⟨outer, hfr, hstk.frs hfr, hf, fun E => ?_⟩
 obtain ⟨e, ob, t, rfl, S, hc, hdt⟩ := X
 have hFr : Frs L D (env :: outer) := hstk.frs hfr
 obtain ⟨he, hkb, hen, hFF⟩ := Exc.parts S hdt hFr
 unfold noteFrame
 simp only [hf]
 refine wB (wpAny_field he hdt (x := .none) rfl ?_)
 first | refine ifn (by decide) ?_ | rw [if_neg (by decide)]
 refine wpAny_entryW hfr hFF hf he hkb hen hdt (by simp) (a0 := t) rfl fun h' hN => ?_
 obtain ⟨k1, k2, k3, k4⟩ := hN
 exact ⟨e, t, _, s, _, rfl, S, rfl, ⟨k1, hen, k2, hc ▸ k3⟩, k4, rfl, rfl⟩
theorem Noted.held {cls : String} {ev : Value} {o : List Env} (X : ExcH H0 os0 L m D (env :: o) cls ev s) (hfr : A.frames = some (env :: o)) (hF : Frs L D (env :: o)) (hf : env.frame = some L) : Noted w A H0 os0 L m D env cls ev s := by
 refine ⟨o, hfr, hF, hf, fun E => ?_⟩
 obtain ⟨e, a0, base, s0, k, rfl, S, hb, hH, hu, hg, ho⟩ := X
 exact wpAny_noteFrame_againW hf hH.2.2.2 ⟨e, a0, base, s0, k, rfl, S, hb, hH, hu, hg, ho⟩
theorem ExcH.back {cls : String} {ev : Value} {o : List Env} (X : ExcH H0 os0 L m D (env :: o) cls ev s) (hf : env.frame = some L) {E : QV} (h : ∀ s', ExcH H0 os0 L m D (env :: o) cls ev s' -> E ev s') :
  cameBackBy (model pw w) A env E ev s := by
 obtain ⟨e, a0, base, s0, k, rfl, S, hb, hH, hu, hg, ho⟩ := X
 obtain ⟨f1, f2, f3, oe, vs, T, oT, ts, he, hcls, hd, h1, hnT, hTe, hT, hdT, h3⟩ := hH
 have hsz3 : 3 < ts.size := (Array.getElem?_eq_some_iff.mp h3).1
 unfold cameBackBy
 refine wB (wpAny_field he hd h1 ?_)
 first | refine ifn (show ¬ (Value.ref T == Value.none) = true from by simp) ?_ | rw [if_neg (show ¬ (Value.ref T == Value.none) = true from by simp)]
 unfold setFlight
 refine wB (wpAny_field he hd h1 ?_)
 first | refine ifp (show (Value.ref T != Value.none) = true from by simp) ?_ | rw [if_pos (show (Value.ref T != Value.none) = true from by simp)]
 refine wpAny_setField hT hdT hsz3 (h _ ?_)
 have other : ∀ b, b ≠ T -> (s.heap.update T (Obj.mapFields (·.setIfInBounds 3 ((env.frame).elim Value.none fun f => rawInt f)))).get? b = s.heap.get? b :=
  fun b hb => Heap.get?_update_other _ _ (Ne.symm hb)
 have noRecord : ∀ b o, s.heap.get? b = some o -> (∀ vs, o.data ≠ .fields vs) -> b ≠ T := fun b o hb hnf q => by
  rw [q, hT] at hb; injection hb with hb; subst hb; exact hnf ts hdT
 refine ⟨e, a0, base, s0, k, rfl, S, hb, ⟨fun b o hbo => (other b fun q => by rw [q, hnT] at hbo; cases hbo).trans (f1 b o hbo), f2, f3.of_keeps fun b o hb hnf => ⟨o, (other b (noRecord b o hb hnf)).trans hb, rfl⟩, ?_⟩,
  hu.trans fun b o hb hn => ⟨o.slots, (other b (noRecord b o hb hn)).trans hb⟩, hg, ho⟩
 refine ⟨oe, vs, T, _, _, (other e (Ne.symm hTe)).trans he, hcls, hd, h1, hnT, hTe, Heap.get?_update_self _ hT (Obj.isFreed_of_fields (Obj.data_mapFields hdT _)), Obj.data_mapFields hdT _, ?_⟩
 simp [hsz3, hf]
theorem St.sameRest {s' : Shared} (S : St H0 os0 L m D s) (hh : s'.heap = s.heap) (hg : s'.gens = s.gens) (ho : s'.os = s.os) : St H0 os0 L m D s' :=
 ⟨hh ▸ S.ns, fun b o e => hh ▸ S.stays b o e, S.top, S.nodup, fun p hp => hh ▸ S.ob p hp, hg ▸ S.gens, ho.trans S.os⟩
theorem r_catch {cls : String} {x : Str} {np pos : Pos} {ev : Value} {b₀ : Stmt} {suite : List Stmt} {rest : List ExceptHandler} {Q : QF} (gd : Gd w H0) (X : Noted w A H0 os0 L m D env cls ev s)
  (hn : nsIn (Kf w.params) mainGlobals x = some none) (hv : bootBuiltins x = some (.type cls))
  (h : ∀ e s', St H0 os0 L m D s' -> wpAny (model pw w) (A.mark (some (.ref e))) (execs (b₀ :: suite) env) Q (fun _ _ => False) s')
  (hexc : autoParam (isSubtype (.type cls) (.type "BaseException") = pure true) aR._auto_1) (hnt : autoParam (isSubtype (.type ((Manifest.find? cls).elim "type" fun x => x.metatype)) (.type "tuple") = pure false) aR._auto_1)
  (hsub : autoParam (isSubtype (.type cls) (.type cls) = pure true) aR._auto_1)
  (hG : autoParam (env.globals = mainGlobals) aR._auto_1) (hB : autoParam (env.builtins = builtinsNs) aR._auto_1) (hk : autoParam (env.scope.kind = .function) aR._auto_1) (hl : autoParam (env.kindOf x = some .globalImplicit) aR._auto_1) (hd : autoParam ((x == ("__debug__" : Str)) = false) aD._auto_1)
  (hnn : autoParam (x ≠ "__name__") aD._auto_1) :
  wpAny (model pw w) A (noteFrame ev env) (fun _ s₂ => wpAny (model pw w) A (setFlight ev none) (fun _ s₃ => wpAny (model pw w) A (handleBy ev env (.ExceptHandler (some (.Name x np)) none (b₀ :: suite) pos :: rest)) Q E s₃) E s₂) E s := by
 obtain ⟨o, hfr, hFr, hf, hN⟩ := X
 refine wM (hN E) (fun _ s' hX => ?_) fun _ _ q => q
 obtain ⟨e, a0, base, s0, k, rfl, S, hb, hH, hu, hg, ho⟩ := hX
 refine wpAny_landsW hH fun h'' hF hu2 => ?_
 have hu1 : s0.heap.UpToSlots h'' := Heap.UpToSlots.trans hu hu2
 have S2 : St H0 os0 L m D { s' with heap := h'' } := (S.flown (t := s0.toks) hFr (hb ▸ hF.1) hu1).sameRest rfl hg ho
 refine wpAny_handleBy_builtin hexc hnt hsub (r_builtin gd S2 hn hv ?_ hG hB hk hl hd hnn)
 refine ⟨rfl, ?_, ?_⟩
 ·obtain ⟨ob', h1, h2⟩ := hF.there
  exact ⟨_, h1, h2⟩
 ·first | refine ifp rfl ?_ | rw [if_pos rfl]
  obtain ⟨f1, f2, f3, f4⟩ := hF
  refine wpAny_setFlight_noneW f1 f3 (Heap.TracedW.at f4) fun h3 g1 g2 g3 g4 => ?_
  have S3 : St H0 os0 L m D { s' with heap := h3 } := (S.flown (t := s0.toks) hFr (hb ▸ g1) (Heap.UpToSlots.trans hu1 fun b o hb hn => ⟨o.slots, g4 b o hb hn⟩)).sameRest rfl hg ho
  exact wM (h e _ S3) (fun _ _ q => q) fun _ _ q => q.elim
def TryQ (M : Model) (A : Around) (rest : List Stmt) (env : Env) (Q : QF) (E : QV) : QF := fun f s₁ => match f with
 | .next => wpAny M A (execs rest env) Q E s₁
 | f => Q f s₁
def Raised (w : World) (A : Around) (H0 : Heap) (os0 : OsState) (L : Addr) (env : Env) (cls : String) (P : (Str -> Option Value) -> Led -> Prop) : QV := fun ev s₁ => ∃ m D, P m D ∧ Noted w A H0 os0 L m D env cls ev s₁
theorem r_try {cls : String} {x : Str} {np hp pos : Pos} {body : List Stmt} {b₀ : Stmt} {suite rest : List Stmt} {Q : QF} (gd : Gd w H0) (_S : St H0 os0 L m D s) (P : (Str -> Option Value) -> Led -> Prop)
  (hn : nsIn (Kf w.params) mainGlobals x = some none) (hv : bootBuiltins x = some (.type cls))
  (h1 : wpAny (model pw w) A (execs body env) (TryQ (model pw w) A rest env Q E) (Raised w A H0 os0 L env cls P) s)
  (h2 : ∀ m D e s', P m D -> St H0 os0 L m D s' -> wpAny (model pw w) (A.mark (some (.ref e))) (execs (b₀ :: suite) env) (TryQ (model pw w) A rest env Q E) (fun _ _ => False) s')
  (hexc : autoParam (isSubtype (.type cls) (.type "BaseException") = pure true) aR._auto_1) (hnt : autoParam (isSubtype (.type ((Manifest.find? cls).elim "type" fun x => x.metatype)) (.type "tuple") = pure false) aR._auto_1)
  (hsub : autoParam (isSubtype (.type cls) (.type cls) = pure true) aR._auto_1)
  (hG : autoParam (env.globals = mainGlobals) aR._auto_1) (hB : autoParam (env.builtins = builtinsNs) aR._auto_1) (hk : autoParam (env.scope.kind = .function) aR._auto_1) (hl : autoParam (env.kindOf x = some .globalImplicit) aR._auto_1) (hd : autoParam ((x == ("__debug__" : Str)) = false) aD._auto_1)
  (hnn : autoParam (x ≠ "__name__") aD._auto_1) :
  wpAny (model pw w) A (execs (.Try body [.ExceptHandler (some (.Name x np)) none (b₀ :: suite) hp] [] [] pos :: rest) env) Q E s := by
 refine zC (wpAny_Try_except (wM h1 (fun f s₁ q => ?_) fun ev s₁ q => ?_))
 ·cases f with
  | next => exact wpAny_execs_nil q
  | _ => exact q
 ·obtain ⟨m, D, hP, X⟩ := q
  exact r_catch gd X hn hv (fun e s' S' => wM (h2 m D e s' hP S') (fun f s₂ q => by cases f <;> exact q) fun _ _ q => q) hexc hnt hsub hG hB hk hl hd hnn
theorem r_whileE {test : Expr} {body rest : List Stmt} {pos : Pos} {cls : String} {P : (Str -> Option Value) -> Led -> Prop} {Q : QF} (I : Nat -> Shared -> Prop) (F : Shared -> Prop)
  (turn : ∀ n s, I n s -> wpAny (model pw w) A (isTrue test env (eval test env)) (WhQ (model pw w) A (Raised w A H0 os0 L env cls P) env body (TurnQ I F Q n) F) (Raised w A H0 os0 L env cls P) s)
  (n : Nat) (h : I n s) (after : ∀ s', F s' -> wpAny (model pw w) A (execs rest env) Q (Raised w A H0 os0 L env cls P) s') : wpAny (model pw w) A (execs (.While test body [] pos :: rest) env) Q (Raised w A H0 os0 L env cls P) s := by
 have hE : ∀ ev s', Raised w A H0 os0 L env cls P ev s' -> notedBy (model pw w) A env (fun e s' => cameBackBy (model pw w) A env (Raised w A H0 os0 L env cls P) e s') ev s' := by
  rintro ev s' ⟨m, D, hP, o, hfr, hFr, hf, hN⟩
  exact wM (hN _) (fun _ s₂ X => X.back hf fun s₃ X => ⟨m, D, hP, Noted.held X hfr hFr hf⟩) fun _ _ q => q
 refine zC (wpAny_While (codeAny_whileLoop I (fun n s hI => ?_) n h))
 refine wM (turn n s hI) (fun b s₂ h₂ => ?_) hE
 cases b with
 | true =>
  delta WhQ at h₂
  rw [if_pos rfl] at h₂ ⊢
  refine wM h₂ (fun f s₃ h₃ => ?_) hE
  cases f with
  | next => exact h₃
  | cont => exact h₃
  | brk => exact after _ h₃
  | ret v => exact h₃
 | false =>
  delta WhQ at h₂
  rw [if_neg (by simp)] at h₂ ⊢
  exact wpAny_execs_nil (after _ h₂)
theorem r_tryN {pos : Pos} {body : List Stmt} {hs : List ExceptHandler} {h₀ : ExceptHandler} {rest : List Stmt} {Q : QF} 
  (h1 : wpAny (model pw w) A (execs body env) (TryQ (model pw w) A rest env Q E) (fun _ _ => False) s) :
  wpAny (model pw w) A (execs (.Try body (h₀ :: hs) [] [] pos :: rest) env) Q E s := by
 refine zC (wpAny_Try_except (wM h1 (fun f s₁ q => ?_) fun ev s₁ q => q.elim))
 cases f with
 | next => exact wpAny_execs_nil q
 | _ => exact q
theorem r_chrOut {x : Str} {t u : Tok} {p : Nat} {value slice : Expr} {Q : QV} {E : QV} (S : St H0 os0 L m D s) (hh : A.handled = none) (hp : x.length ≤ p) (hb : p < 2 ^ 62)
  (h : ∀ ev s', Exc H0 os0 L m D "IndexError" ev s' -> E ev s') (hs : autoParam (isSlice slice = false) aR._auto_1) :
  wpAny (model pw w) A (subscriptTail value slice (.str x t) (.int (p : Nat) u)) Q E s := by
 unfold subscriptTail
 refine wB ?_
 have hT : s.TypeIs (.str x t) "str" := typeIs_str s x t
 rw [getitemInPython_of_ne hT.not_modules]
 refine wB (wpAny_specialOf hT F.slot_str_getitem.lookup ?_)
 have hget : wpAny (model pw w) A (getItem (.str x t) (.int (p : Nat) u)) (fun _ _ => False) E s :=
  getItem_meets hT (by decide) F.slot_str_getitem F.entry_str_getitem (F.args_str_getitem_2 _ _) (raises_str_getitem x (p : Int) t u (by simp; lia) (by
   have : x.cps.size ≤ p := hp
   unfold seqIndex?
   simp only [Str.length]
   split <;> simp_all <;> lia)) ⟨hh, fun h' tk e X => h _ _ (Exc.of S X)⟩
 have fin : wpAny (model pw w) A (subscripted slice false (.str x t) (.int (p : Nat) u)) (fun r s₃ => wpAny (model pw w) A (letTemporaryGo value (.str x t) r >>= fun _ => pure r) Q E s₃) E s := by
  rw [zU hs]
  exact wpAny_operating (wM hget (fun r s₃ h₃ => h₃.elim) fun _ _ x => x)
 first
  | exact wP (wB fin)
  | exact wB (wP (wB fin))
  | exact wB fin
theorem keptSt : KeptH (fun h => St H0 os0 L m D { s with heap := h }) := fun h ob S => S.ext (s' := { s with heap := h.push ob }) (fun b o e => Heap.get?_push_of_some _ e) S.gens rfl
theorem r_slice {value : Expr} {lower upper : Option Expr} {p pos : Pos} {Q : QV}
  (h : wpAny (model pw w) A (eval value env) (fun o s₁ => wpAny (model pw w) A (evalPart lower env) (fun vl s₂ => wpAny (model pw w) A (evalPart upper env) (fun vu s₃ =>
   ∃ x t l u, o = .str x t ∧ vl = partValue l ∧ vu = partValue u ∧
    (sliceMade x t l u none).post Q { s₃ with heap := s₃.heap.push { cls := .type "slice", data := .fields #[vl, vu, .none] } }) E s₂) E s₁) E s)
  (ht : autoParam (∀ o r, letTemporaryGo value o r = pure ()) aJ._auto_1) :
  wpAny (model pw w) A (eval (.Subscript value (.Slice lower upper none p) pos) env) Q E s := wpAny_Subscript_str_slice h ht
theorem r_sliceQ {x : Str} {t ta tb : Tok} {a b : Nat} {Q : QV} (S : St H0 os0 L m D s) (hab : a ≤ b) (hb : b ≤ x.length) (hsz : x.length ≤ 16777216)
  (h : ∀ t s', St H0 os0 L m D s' -> Q (.str ⟨((x.cps.toList.drop a).take (b - a)).toArray⟩ t) s') :
  ∃ x' t' l u, Value.str x t = .str x' t' ∧ Value.int (a : Nat) ta = partValue l ∧ Value.int (b : Nat) tb = partValue u ∧
    (sliceMade x' t' l u none).post Q { s with heap := s.heap.push { cls := .type "slice", data := .fields #[Value.int (a : Nat) ta, Value.int (b : Nat) tb, .none] } } := by
 refine ⟨x, t, some (a, ta), some (b, tb), rfl, rfl, rfl, ?_⟩
 refine post_val_or_str ⟨Nat.le_trans (Txt.slice_le x (some (a : Int)) (some (b : Int))) (by rw [sizeLine_eq]; exact hsz), fun t' k => ?_⟩
 have e : Txt.slice x (some (a : Int)) (some (b : Int)) = ⟨((x.cps.toList.drop a).take (b - a)).toArray⟩ := StrLaws.sliceText_nat x hab hb
 have := h t' { s with heap := s.heap.push { cls := .type "slice", data := .fields #[Value.int (a : Nat) ta, Value.int (b : Nat) tb, .none] }, toks := k } ((keptSt (s := s) _ _ S).tok _)
 rw [← e] at this
 exact this
noncomputable def tx (l : List Nat) : Str := ⟨l.toArray⟩
abbrev P57 {x1 x2 x3 x4 x5 x6 x7 x8 x9 x10 x11} := wpAny x1 x2 (call (Value.builtin "str.startswith") [Value.str (tx x3) x4, Value.str (tx x5) x6, Value.int x7 x8]) x9 x10 x11
theorem tx_len {l : List Nat} : (tx l).length = l.length := by simp [tx, Str.length]
theorem tx_list {l : List Nat} : (tx l).cps.toList = l := rfl
theorem tx_get {l r : List Nat} {p c : Nat} (h : l.drop p = c :: r) : (tx l).cps.getD p 0 = c := by
 have : l[p]? = some c := by
  have := congrArg (·[0]?) h
  simpa using this
 simp [tx, this]
theorem drop_lt {l r : List Nat} {p c : Nat} (h : l.drop p = c :: r) : p < l.length := lt_of_sub (r := r.length) (by rw [← List.length_drop, h]; rfl)
theorem zD {l xs ys : List Nat} {p : Nat} (h : l.drop p = xs ++ ys) : l.drop (p + xs.length) = ys := by
 rw [← List.drop_drop, h]; simp
theorem drop_next {l r : List Nat} {p c : Nat} (h : l.drop p = c :: r) : l.drop (p + 1) = r := by
 rw [← List.drop_drop, h]; rfl
theorem r_iaddN {a b : Nat} {t u : Tok} {Q : QV} (S : St H0 os0 L m D s) (h : ∀ t s', St H0 os0 L m D s' -> Q (.int ((a + b : Nat) : Int) t) s') :
  wpAny (model pw w) A (inplaceOp .Add (.int (a : Nat) t) (.int (b : Nat) u)) Q E s := r_iadd S fun t s' S' => by rw [← Int.natCast_add]; exact h t s' S'
theorem str_beq {x y : Str} : (x.cps.toList == y.cps.toList) = decide (x = y) := by
 by_cases h : x = y
 ·subst h; simp
 ·rw [decide_eq_false h, beq_eq_false_iff_ne]
  intro q
  apply h
  cases x; cases y
  simp at q
  rw [q]
theorem r_eqS {x y : Str} {t u : Tok} {Q : QV} (h : Q (.bool (decide (x = y))) s) : wpAny (model pw w) A (compareOp .Eq (.str x t) (.str y u)) Q E s :=
 PyProof.Rows.eq_str (by
  have e : (x == y) = decide (x = y) := by rw [Bool.eq_iff_iff, beq_iff_eq, decide_eq_true_eq]
  rw [e]; exact h)
theorem r_neS {x y : Str} {t u : Tok} {Q : QV} (h : Q (.bool (decide (x ≠ y))) s) : wpAny (model pw w) A (compareOp .NotEq (.str x t) (.str y u)) Q E s :=
 PyProof.Rows.ne_str (by
  have e : (x != y) = decide (x ≠ y) := by rw [Bool.eq_iff_iff, bne_iff_ne, decide_eq_true_eq]
  rw [e]; exact h)
theorem chr1_inj {a b : Nat} : chr1 a = chr1 b ↔ a = b := by simp [chr1]
theorem r_chrC {l r : List Nat} {t u : Tok} {p c : Nat} {value slice : Expr} {Q : QV} (S : St H0 os0 L m D s) (hc : l.drop p = c :: r) (hn : l.length ≤ 16777216)
  (h : ∀ t s', St H0 os0 L m D s' -> Q (.str (chr1 c) t) s') (hs : autoParam (isSlice slice = false) aR._auto_1)
  (ht : autoParam (∀ r, letTemporaryGo value (.str (tx l) t) r = pure ()) aU._auto_1) :
  wpAny (model pw w) A (subscriptTail value slice (.str (tx l) t) (.int (p : Nat) u)) Q E s :=
 r_chr S (by rw [tx_len]; exact drop_lt hc) (by rw [tx_len]; exact hn) (by rw [tx_get hc]; exact h) hs ht
theorem r_chrEnd {l : List Nat} {t u : Tok} {p : Nat} {value slice : Expr} {Q : QV} {E : QV} (S : St H0 os0 L m D s) (hh : A.handled = none) (hc : l.drop p = []) (hp : p ≤ l.length) (hn : l.length ≤ 16777216)
  (h : ∀ ev s', Exc H0 os0 L m D "IndexError" ev s' -> E ev s') (hs : autoParam (isSlice slice = false) aR._auto_1) :
  wpAny (model pw w) A (subscriptTail value slice (.str (tx l) t) (.int (p : Nat) u)) Q E s :=
 r_chrOut S hh (by rw [tx_len]; have := congrArg List.length hc; simp at this; lia) (by walk_at "o") h hs
theorem TryQ.next {rest : List Stmt} {Q : QF} (h : wpAny (model pw w) A (execs rest env) Q E s) : TryQ (model pw w) A rest env Q E .next s := h
theorem TryQ.ret {rest : List Stmt} {v : Value} {Q : QF} (h : Q (.ret v) s) : TryQ (model pw w) A rest env Q E (.ret v) s := h
theorem TryQ.brk {rest : List Stmt} {Q : QF} (h : Q .brk s) : TryQ (model pw w) A rest env Q E .brk s := h
theorem TryQ.cont {rest : List Stmt} {Q : QF} (h : Q .cont s) : TryQ (model pw w) A rest env Q E .cont s := h
theorem OnStk.fr {env' : Env} (x : OnStk A L D) : ∃ o, (A.deeper env').frames = some (env' :: o) := by
 obtain ⟨l, e, _⟩ := x
 exact ⟨l, by simp only [Around.deeper, e, Option.map_some]⟩
theorem inChars_chr1 {cs : List Nat} {c : Nat} : inChars cs (chr1 c) = cs.contains c := rfl
set_option hygiene false in
local macro_rules | `(tactic| walk_at "m.g") => `(tactic| with_reducible first | exact List.Mem.head _ | (refine List.Mem.tail _ ?_; walk_at "m.g"))
set_option hygiene false in
local macro_rules | `(tactic| walk_at "r") => `(tactic| first | exact Rem.head | (apply Rem.tail; walk_at "r"))
set_option hygiene false in
local macro_rules | `(tactic| walk_at "a") => `(tactic| first | exact At.head | (apply At.tail; walk_at "a"))
set_option hygiene false in
local macro_rules | `(tactic| walk_at "st") => `(tactic| first
 | (guard_target = PE; first | with_reducible refine wpAny_execs_nil ?_ | guard_target = P1; refine zC (wpAny_Pass ?_) | guard_target = P2; refine zC (zN ?_) | guard_target = P3; refine zC (zQ ?_) | guard_target = P4; refine zC (wpAny_AugAssign_Name (r_load (by assumption) (by walk_at "l") ?_)) | guard_target = P5; refine zC (zI ?_) | guard_target = P6; refine zC (zR ?_) | guard_target = P7; refine zC (wpAny_Break ?_) | guard_target = P8; refine zC (wpAny_Continue ?_) | (guard_target = P30; first | refine zC (Assign_Tuple ?_) | refine zC (Assign_Tuple_swapped ?_)) | guard_target = P40; refine zC (plainObj_wpAny_Assign_Attribute ?_) | guard_target = P51; refine zC (zE ?_))
 | (guard_target = PV; first | (guard_target = P9; first | refine r_name (by assumption) (by walk_at "l") ?_ | refine r_nameC2 (by rfl) (by assumption) (by walk_at "m") ?_ | refine r_global (by assumption) (by assumption) (gl (by walk_at "m.g")) ?_) | guard_target = P10; with_reducible_and_instances refine r_natc _ (by assumption) (fun _ _ _ => ?_) | guard_target = P11; with_reducible refine r_str (by assumption) (fun _ _ _ => ?_) | guard_target = P12; refine zB ?_ | ((first | guard_target = P18 | guard_target = P45 | guard_target = P46 | guard_target = P56); refine zG ?_) | guard_target = P21; refine wpAny_Constant_bool ?_ | guard_target = P22; refine wpAny_Constant_none ?_ | guard_target = P23; refine r_callf (by assumption) (by assumption) (gl (by walk_at "m.g")) (by kernel_rfl) ?_ | guard_target = P24; refine r_callfk (by assumption) (by assumption) (gl (by walk_at "m.g")) (by kernel_rfl) (by rfl) ?_ | guard_target = P33; refine IfExp_ ?_ | guard_target = P38; refine Attribute_any_ ?_ | guard_target = P39; with_reducible refine r_dict0 (by assumption) (fun _ _ _ => ?_) | (with_reducible first | refine r_tuple ?_ | refine r_list ?_) | guard_target = P41; refine r_slice ?_ | guard_target = P42; refine r_tslice ?_ | guard_target = P43; refine wpAny_UnaryOp ?_ | guard_target = P52; refine r_meth F.plainAttrs_str F.slot_str_index F.type_str_index ?_ | guard_target = P53; refine r_meth F.plainAttrs_str F.slot_str_startswith F.type_str_startswith ?_ | guard_target = P54; refine r_meth plainAttrs_froz slot_isdisjoint type_isdisjoint ?_ | guard_target = P55; refine r_meth F.plainAttrs_set F.slot_set_add F.type_set_add ?_)
 | (guard_target = PT; first | guard_target = P16; refine zT ?_ | guard_target = P29; refine isTrue_plain ?_ | (with_reducible first | refine isTrue_not ?_ | refine isTrue_and ?_ | refine isTrue_and_nil ?_ | refine isTrue_or ?_ | refine isTrue_or_nil ?_) | ((first | guard_target = P49 | guard_target = P50); refine wpAny_isTrue_value ?_))
 | (with_reducible first | refine TryQ.next ?_ | refine TryQ.ret ?_ | refine TryQ.brk ?_ | refine TryQ.cont ?_)
 | guard_target = P13; with_reducible refine r_addN (by assumption) (fun _ _ _ => ?_)
 | guard_target = P14; with_reducible refine r_iaddN (by assumption) (fun _ _ _ => ?_)
 | guard_target = P15; refine r_store (by assumption) (fun _ _ => ?_)
 | guard_target = P17; refine wpAny_truthy_bool ?_
 | guard_target = P19; with_reducible refine r_eqN ?_
 | guard_target = P20; with_reducible refine r_eqS ?_
 | guard_target = P25; refine zS ?_
 | guard_target = P26; refine spliced_none ?_
 | guard_target = P27; refine kwAll_cons ?_
 | guard_target = P28; refine kwAll_nil ?_
 | ((with_reducible show (∀ b o, _ = some o -> _ = some o) ∧ codeAny _ _ _ _ _); refine ⟨St.stays (by assumption), ?_⟩)
 | (with_reducible first | refine Back.ret ?_ | refine ite_t ?_ | refine ite_f ?_ | refine ite_nt ?_ | refine ite_nf ?_)
 | guard_target = P31; refine r_unpackItems (by assumption) (by assumption) (by walk_at "m") (fun _ _ => ?_)
 | guard_target = P32; refine r_assignRev2 ?_
 | guard_target = P34; refine r_unpack (by assumption) (by assumption) (by walk_at "m") (fun _ _ => ?_)
 | guard_target = P35; refine zA ?_
 | guard_target = P36; refine wpAny_assignInOrder_none ?_
 | guard_target = P37; refine assign_Name ?_
 | guard_target = TupQ _ _ _; with_reducible refine r_tupQ (by assumption) (by walk_at "s") (fun _ _ _ => ?_)
 | guard_target = LstQ _ _ _; with_reducible refine r_lstQ (by assumption) (by walk_at "s") (fun _ _ _ => ?_)
 | guard_target = P44; with_reducible refine r_neg (by assumption) (fun _ _ _ => ?_)
 | guard_target = P47; refine evalPart_some_step ?_
 | guard_target = P48; refine evalPart_none_step ?_
 | ((with_reducible first | show Shared.TypeIs _ (Value.str _ _) _ ∧ _ | show (Shared.TypeIs _ (Value.str _ _) _ ∧ _) ∧ _); refine ⟨str_ok, ?_⟩)
 | guard_target = P57; refine r_starts (by assumption) (by walk_at "s") (fun _ _ => ?_)
 | guard_target = P58; with_reducible refine r_neS ?_
 | (guard_target = P15; refine r_storeC2 (by rfl) (by assumption) (by walk_at "a") (fun _ _ => ?_)))
set_option hygiene false in
local macro_rules | `(tactic| walk_at "d") => `(tactic| ((try dsimp only); walk_at "st"))
set_option hygiene false in
local macro_rules | `(tactic| walk_at "g") => `(tactic| repeat walk_at "d")
theorem zK (gd : Gd w H0) {l xs ys cs : List Nat} {p n : Nat} {a : Addr} {t0 t1 : Tok} {R : Result -> Shared -> Prop} (S : St H0 os0 L m D s) (hd : A.depth < recursionLimit) (hh : A.handled = none)
  (hF : FrozAt (PySem.strKind pw w) H0 a (inChars cs) n) (hb : n < 4096) (hn : l.length ≤ 16777216) (hp : p ≤ l.length) (hl : l.drop p = xs ++ ys) (hx : ∀ c ∈ xs, cs.contains c = true)
  (hy : ∀ c r, ys = c :: r -> cs.contains c = false) (hend : ys = [] -> OnStk A L D)
  (h : ∀ t s', St H0 os0 L m D s' -> R (.ok (.ret (.int ((p + xs.length : Nat) : Int) t))) s') : codeAny (model pw w) A (.call (.ref 648) ⟨[.str (tx l) t0, .int (p : Nat) t1, .ref a], []⟩) R s := by
 refine r_enter (binds := [("src", .str (tx l) t0), ("pos", .int (p : Nat) t1), ("chars", .ref a)]) gd S (gd.K 648 _ rfl) rfl (by kernel_rfl) rfl (.of_eq rfl) hd rfl rfl fun L₁ s₁ S => ?_
 dsimp only [mOf, List.foldl] at S
 refine r_try (cls := "IndexError") gd S (fun m' D' => ys = [] ∧ D' = (L, .ns m) :: D ∧ ∃ t, m' "pos" = some (.int ((p + xs.length : Nat) : Int) t)) (by rfl) (by rfl) ?_ ?_
 ·refine r_whileE (fun n s => ∃ i m', i ≤ xs.length ∧ n = xs.length - i ∧ St H0 os0 L₁ m' ((L, .ns m) :: D) s ∧ m' "src" = some (.str (tx l) t0) ∧ (∃ t, m' "pos" = some (.int ((p + i : Nat) : Int) t)) ∧ m' "chars" = some (.ref a))
   (fun s => ∃ m', St H0 os0 L₁ m' ((L, .ns m) :: D) s ∧ ∃ t, m' "pos" = some (.int ((p + xs.length : Nat) : Int) t)) ?_ xs.length ⟨0, _, by walk_at "o", rfl, S, by walk_at "l", ⟨_, by walk_at "l"⟩, by walk_at "l"⟩ ?_
  ·rintro n s ⟨i, m', hi, rfl, S, h1, ⟨t, h2⟩, h3⟩
   have hdr : l.drop (p + i) = xs.drop i ++ ys := by rw [← List.drop_drop, hl, List.drop_append_of_le_length hi]
   walk_at "g"
   by_cases c : i < xs.length
   ·have hx' := hx xs[i] (List.getElem_mem c)
    have hdr2 : l.drop (p + i) = xs[i] :: (xs.drop (i + 1) ++ ys) := by rw [hdr, List.drop_eq_getElem_cons c]; rfl
    refine r_chrC S hdr2 hn fun _ _ S => ?_
    walk_at "g"
    refine r_in S hF hb fun s S => ?_
    walk_at "g"
    rw [inChars_chr1]
    refine ifp hx' ?_
    walk_at "g"
    rename_i S2
    exact ⟨_, by walk_at "o", i + 1, _, by walk_at "o", rfl, S2, by walk_at "l", ⟨_, by walk_at "l"⟩, by walk_at "l"⟩
   ·obtain rfl : i = xs.length := by walk_at "o"
    rw [List.drop_length, List.nil_append] at hdr
    cases ys with
    | nil =>
     have hlen : p + xs.length ≤ l.length := by
      have := congrArg List.length hl
      simp at this
      lia
     refine r_chrEnd S hh hdr hlen hn fun ev s' X => ?_
     exact ⟨_, _, ⟨rfl, rfl, t, h2⟩, Noted.new X (hend rfl).enter (hend rfl).fr rfl⟩
    | cons c r =>
     refine r_chrC S hdr hn fun _ _ S => ?_
     walk_at "g"
     refine r_in S hF hb fun s S => ?_
     walk_at "g"
     rw [inChars_chr1, hy c r rfl]
     refine ifn (by simp) ?_
     exact ⟨_, S, t, h2⟩
  ·rintro s ⟨m', S, t, h2⟩
   walk_at "g"
   exact h _ _ (S.ret .head)
 ·rintro m' D' e s ⟨hy, rfl, t, h2⟩ S
  refine zC (wpAny_Pass ?_)
  walk_at "g"
  exact h _ _ (S.ret .head)
section
open PySem.Builtin
theorem plainAttrs_froz : PlainAttrs "frozenset" :=
 ⟨⟨"object.__getattribute__", by rw [typeLookup_type, builtinLookup_eq_fast]; kernel_rfl, by decide +kernel⟩, by rw [typeLookup_type, builtinLookup_eq_fast]; kernel_rfl⟩
theorem slot_isdisjoint : Slot "frozenset" "isdisjoint" "frozenset.isdisjoint" :=
 .of (owner := "frozenset") (n := "isdisjoint") (by rw [typeLookup_type, builtinLookup_eq_fast]; kernel_rfl) (by decide +kernel) (by decide +kernel) (by decide +kernel)
  (by first | exact .inl (by decide +kernel) | exact .inr (by decide +kernel)) (by rw [isSubtype_type]; kernel_rfl)
theorem type_isdisjoint : typeOf (.builtin "frozenset.isdisjoint") = pure (.type "method_descriptor") := by show builtinType _ = _; rw [builtinType_eq_fast]; kernel_rfl
theorem entry_isdisjoint : entryFor table "frozenset.isdisjoint" = some Builtin.«frozenset.isdisjoint» := entryFor_of_tree (by kernel_rfl)
theorem args_isdisjoint (a b : Value) : argsOk "frozenset.isdisjoint" ⟨[a, b], []⟩ := by unfold argsOk; kernel_rfl
theorem entry_disloop : entryFor table "frozenset.isdisjoint.loop" = some Builtin.«frozenset.isdisjoint.loop» := entryFor_of_tree (by kernel_rfl)
theorem plain_disloop : plainId "frozenset.isdisjoint.loop" = true := by decide +kernel
theorem setContains_froz {a : Addr} {S' : Str -> Bool} {n : Nat} {x : Str} {t : Tok} {Q : QB} (hF : FrozAt (PySem.strKind pw w) s.heap a S' n) (hb : n < 4096)
  (h : Q (S' x) { s with toks := s.toks + 1 }) : wpAny (model pw w) A (setContains a (.str x t)) Q E s := by
 obtain ⟨es, ep, tb, ho, hel, hmem, hn, hf⟩ := hF
 have hkey : (PySem.strKind pw w).is x (.str x t) = true := by simp [PySem.strKind, Value.isStrOf]
 unfold setContains
 refine wpAny_holding (wB ((PySem.strKind pw w).pyHash hkey ?_))
 refine wB (setFind_any (s := { s with toks := s.toks + 1 }) hkey rfl ho rfl hel hmem (by rw [hn]; exact hb) hf fun r hr => wP ?_)
 rw [hr]
 exact h
theorem disloop {a it : Addr} {S' : Str -> Bool} {n : Nat} {x : Str} {P : Nat -> Heap -> Prop} {R : Result -> Shared -> Prop} (hF : FrozAt (PySem.strKind pw w) H0 a S' n) (hb : n < 4096) (hall : ∀ c ∈ x.cps.toList, S' (chr1 c) = false)
  (W : Walks pw w A.in1 it [it] [it] x.cps.size (SignAt x) P) (hit : H0.get? it = none ∧ it ≠ L ∧ ∀ p ∈ D, p.1 ≠ it) (h : ∀ s', St H0 os0 L m D s' -> R (.ok (.ret (.bool true))) s') :
  ∀ (k i : Nat) (s : Shared), x.cps.size - i = k -> i ≤ x.cps.size -> P i s.heap -> St H0 os0 L m D s -> codeAny (model pw w) A (.builtin "frozenset.isdisjoint.loop" ⟨[.ref a, .ref it], []⟩) R s := by
 have keep : ∀ {s : Shared} {h' : Heap} {tk : Nat}, St H0 os0 L m D s -> (∀ b o, b ∉ [it] -> s.heap.get? b = some o -> h'.get? b = some o) -> St H0 os0 L m D { s with heap := h', toks := tk } := by
  intro s h' tk S k
  have k' : ∀ b o, b ≠ it -> s.heap.get? b = some o -> h'.get? b = some o := fun b o hb => k b o (by simpa using hb)
  refine ⟨?_, fun b o e => k' b o (fun q => by rw [q, hit.1] at e; cases e) (S.stays b o e), S.top, S.nodup, fun p hp => ⟨(S.ob p hp).1.keep fun o e => k' _ o (hit.2.2 p hp) e, (S.ob p hp).2⟩, S.gens, S.os⟩
  obtain ⟨o, es, ep, e, r⟩ := S.ns
  exact ⟨o, es, ep, k' _ _ (Ne.symm hit.2.1) e, r⟩
 intro k
 induction k with
 | zero =>
  intro i s hk hi hP S
  obtain rfl : i = x.cps.size := by walk_at "o"
  refine codeAny_builtin entry_disloop ?_
  rw [Around.under_plainId plain_disloop _]
  show wpAny _ A.in1 (pyNext (.ref it) >>= _) _ _ s
  refine wB (W.done s _ _ hP fun h' tk k => ?_)
  show wpAny _ A.in1 (ret (.bool true)) _ _ _
  exact wP (h _ (keep S k))
 | succ k ih =>
  intro i s hk hi hP S
  refine codeAny_builtin entry_disloop ?_
  rw [Around.under_plainId plain_disloop _]
  show wpAny _ A.in1 (pyNext (.ref it) >>= _) _ _ s
  refine wB (W.item i s _ _ (lt_of_sub hk) hP fun v h' tk hv hP' k' => ?_)
  obtain ⟨c, u, hc, rfl⟩ := hv
  have S2 := keep (tk := tk) S k'
  show wpAny _ A.in1 (holding [Value.str ⟨#[c]⟩ u] (setContains a (.str ⟨#[c]⟩ u)) >>= _) _ _ _
  refine wB (wpAny_holding (setContains_froz (FrozAt.keep hF S2.stays) hb ?_))
  have hcf := hall c (by
   have := Array.mem_of_getElem? hc
   exact this.val)
  rw [show S' ⟨#[c]⟩ = false from hcf]
  refine wP ⟨plainId_quiet plain_disloop _, ih (i + 1) _ (sub_step hk) (lt_of_sub hk) hP' (S2.tok _)⟩
theorem r_isdisjoint {a : Addr} {S' : Str -> Bool} {n : Nat} {x : Str} {t : Tok} {Q : QV} (S : St H0 os0 L m D s) (hh : A.handled = none) (hF : FrozAt (PySem.strKind pw w) H0 a S' n) (hb : n < 4096)
  (hall : ∀ c ∈ x.cps.toList, S' (chr1 c) = false) (h : ∀ s', St H0 os0 L m D s' -> Q (.bool true) s') : wpAny (model pw w) A (call (.builtin "frozenset.isdisjoint") [.ref a, .str x t]) Q E s := by
 have hT : s.TypeIs (.ref a) "frozenset" := by
  obtain ⟨es, ep, tb, ho, _⟩ := FrozAt.keep hF S.stays
  exact ⟨_, ho, rfl⟩
 refine wpAny_call (codeAny_call_builtin slot_isdisjoint.plain entry_isdisjoint (slot_isdisjoint.check _ _ _ _ _ _ _ _ hT (args_isdisjoint _ _) ?_))
 unfold Builtin.«frozenset.isdisjoint» Builtin.Frozenset.oneOther
 simp only [List.isEmpty_nil, bind_assoc]
 unfold Builtin.Frozenset.addrOf
 refine wB (wP ?_)
 refine wB (wP ?_)
 try dsimp only
 have e1 : (Value.str x t == Value.ref a) = false := by rfl
 rw [e1]
 have e2 : typeOf (.str x t) = pure (.type "str") := rfl
 rw [e2]
 have e3 : ((Value.type "str" == Value.type "set") || (Value.type "str" == Value.type "frozenset")) = false := by rfl
 simp only [pure_bind, e3, Bool.false_eq_true, if_false]
 refine wB (wpAny_pyIter_str fun o P W hP => ?_)
 have hnew : s.heap.get? s.heap.objs.size = none := by
  cases e : s.heap.get? s.heap.objs.size with
  | none => rfl
  | some o => exact absurd (Heap.lt_size e) (Nat.lt_irrefl _)
 have S2 : St H0 os0 L m D { s with heap := s.heap.push o } := S.ext (fun b o e => Heap.get?_push_of_some _ e) S.gens rfl
 refine wP ⟨plainId_quiet plain_disloop _, disloop hF hb hall (W _ (by simpa using hh)) ⟨?_, ?_, ?_⟩ (fun s' S' => h s' S') _ 0 _ rfl (Nat.zero_le _) hP S2⟩
 ·cases e : H0.get? s.heap.objs.size with
  | none => rfl
  | some o => rw [S.stays _ _ e] at hnew; cases hnew
 ·rintro rfl
  obtain ⟨o, es, ep, e, _⟩ := S.ns
  rw [e] at hnew; cases hnew
 ·intro p hp q
  obtain ⟨o, e⟩ := (S.ob p hp).1.get
  rw [q, hnew] at e; cases e
end
section
open PySem.Builtin PySem.Builtin.Str
@[reducible] def CkQ2 (H0 : Heap) (M : Model) (A : Around) (env : Env) (pos : Pos) (kws : List Keyword) (f : Addr) (R : Result -> Shared -> Prop) (vs : List Value) : QL := fun ks s₂ => (∀ (b : Addr) (o : Obj), H0.get? b = some o -> s₂.heap.get? b = some o) ∧ codeAny M A (.call (.ref f) ⟨vs, ((backToKw pos (keywordEach kws env)).filterMap (·.1)).zip ks⟩) R s₂
@[reducible] def CkQ (H0 : Heap) (M : Model) (A : Around) (E : QV) (env : Env) (pos : Pos) (kws : List Keyword) (f : Addr) (R : Result -> Shared -> Prop) : QL := fun vs s₁ => wpAny M A (evalAll ((backToKw pos (keywordEach kws env)).map (·.2))) (CkQ2 H0 M A env pos kws f R vs) E s₁
theorem Back.ret {v : Value} {Q : QV} (h : Q v s) : Back Q E (.ok (.ret v)) s := h
theorem r_callfk {x : Str} {np pos : Pos} {e : Expr} {rest : List Expr} {kws : List Keyword} {f : Addr} {Q : QV} (gd : Gd w H0) (S : St H0 os0 L m D s)
  (hn : nsIn (Kf w.params) mainGlobals x = some (some (.ref f))) (hk : keepIn (Kf w.params) (.ref f) = true) (hall : (backToKw pos (keywordEach kws env)).all (·.1.isSome) = true)
  (h : wpAny (model pw w) A (spliced (backTo pos (starEach (e :: rest) env))) (CkQ H0 (model pw w) A E env pos kws f (Back Q E)) E s)
  (hG : autoParam (env.globals = mainGlobals) aR._auto_1) (hkd : autoParam (env.scope.kind = .function) aR._auto_1) (hl : autoParam (env.kindOf x = some .globalImplicit) aR._auto_1) (hd : autoParam ((x == ("__debug__" : Str)) = false) aD._auto_1)
  (he : autoParam (starEach (e :: rest) env = (false, eval e env) :: starEach rest env) aR._auto_1) (hplain : autoParam (((backTo pos (starEach (e :: rest) env)).any (·.1) || (backToKw pos (keywordEach kws env)).any (·.1.isNone)) = false) aR._auto_1) :
  wpAny (model pw w) A (eval (.Call (.Name x np) (e :: rest) kws pos) env) Q E s := by
 show wpAny _ A (do callWith pos (← eval (.Name x np) env) [] (backTo pos (starEach (e :: rest) env)) (backToKw pos (keywordEach kws env))) Q E s
 exact wB (r_global gd S hn (callWith_KW gd.K hk hall (wM h (fun vs s₁ h₁ => wM h₁ (fun ks s₂ h₂ => ⟨gd.K.keeps h₂.1, wpAny_call h₂.2⟩) fun _ _ q => q) fun _ _ q => q) hplain he) hG hkd hl hd)
theorem fromIndex_nat {n p : Nat} : fromIndex n (p : Int) = p := by
 unfold fromIndex
 rw [if_neg (by walk_at "o"), Int.max_eq_right (by walk_at "o")]
 rfl
theorem at_tx {l e : List Nat} {n i : Nat} : StrLaws.At (tx l) (tx e) n i ↔ i + e.length ≤ n ∧ (l.drop i).take e.length = e := by
 unfold StrLaws.At
 rw [StrLaws.subAt_eq, tx_len]
 simp only [tx_list, beq_iff_eq]
theorem first_at {l xs e ys : List Nat} {c p : Nat} (hp : p ≤ l.length) (hl : l.drop p = xs ++ (c :: e) ++ ys) (hx : ∀ d ∈ xs, d ≠ c) :
  ∃ rest, occurrences (tx l) (tx (c :: e)) p (tx l).length 1 = (p + xs.length) :: rest := by
 have hat : StrLaws.At (tx l) (tx (c :: e)) (tx l).length (p + xs.length) := by
  rw [at_tx, ← List.drop_drop, hl, tx_len]
  refine ⟨by rw [Nat.add_assoc, ← List.length_append]; exact drop_fits hp hl, ?_⟩
  simp
 rcases StrLaws.occ_head_from (tx l) (tx (c :: e)) p 1 (Nat.le_refl _) with ⟨_, hno⟩ | ⟨i, r, h1, h2, h3, h4⟩
 ·exact absurd hat (hno _ (by walk_at "o"))
 ·refine ⟨r, ?_⟩
  have hi : i = p + xs.length := by
   rcases Nat.lt_trichotomy i (p + xs.length) with q | q | q
   ·exfalso
    rw [at_tx] at h3
    have h5 := congrArg List.head? h3.2
    have : (l.drop i).head? = some (xs[i - p]'(by walk_at "o")) := by
     have e1 : l.drop i = (l.drop p).drop (i - p) := by rw [List.drop_drop]; congr 1; lia
     rw [e1, hl, List.append_assoc, List.drop_append_of_le_length (by walk_at "o"), List.drop_eq_getElem_cons (by walk_at "o")]
     rfl
    rw [List.head?_take, if_neg (by simp), this] at h5
    simp at h5
    exact hx _ (List.getElem_mem _) h5
   ·exact q
   ·exact absurd hat (h4 _ (by walk_at "o") q)
  rw [h1, hi]
theorem gives_str_index_from (x y : Str) (i : Int) (t u v : Tok) {k : Nat} {r : List Nat} (h : occurrences x y (fromIndex x.length i) x.length 1 = k :: r) : Gives («str.index» ⟨[.str x t, .str y u, .int i v], []⟩) (.int k) := by
 show Gives (match occurrences x y (fromIndex x.length i) (min x.length x.length) 1 with | k :: _ => retInt k | [] => _) _
 rw [Nat.min_self, h]
 exact .of_eq rfl
theorem r_index {l xs e ys : List Nat} {c p : Nat} {t u v : Tok} {Q : QV} (S : St H0 os0 L m D s) (hp : p ≤ l.length) (hl : l.drop p = xs ++ (c :: e) ++ ys) (hx : ∀ d ∈ xs, d ≠ c)
  (h : ∀ t s', St H0 os0 L m D s' -> Q (.int ((p + xs.length : Nat) : Int) t) s') : wpAny (model pw w) A (call (.builtin "str.index") [.str (tx l) t, .str (tx (c :: e)) u, .int (p : Nat) v]) Q E s := by
 obtain ⟨r, ho⟩ := first_at hp hl hx
 exact call_gives F.slot_str_index (typeIs_str _ _ _) F.entry_str_index (F.args_str_index_3 _ _ _) (gives_str_index_from _ _ _ _ _ _ (by rw [fromIndex_nat]; exact ho)) (h _ _ (S.tok _))
noncomputable def startsAt (l e : List Nat) (p : Nat) : Bool := decide ((l.drop p).take e.length = e)
theorem r_starts {l e : List Nat} {p : Nat} {t u v : Tok} {Q : QV} (S : St H0 os0 L m D s) (he : e ≠ []) (h : ∀ s', St H0 os0 L m D s' -> Q (.bool (startsAt l e p)) s') :
  wpAny (model pw w) A (call (.builtin "str.startswith") [.str (tx l) t, .str (tx e) u, .int (p : Nat) v]) Q E s := by
 refine call_gives F.slot_str_startswith (typeIs_str _ _ _) F.entry_str_startswith (F.args_str_startswith_3 _ _ _) (gives_str_startswith_from _ _ _ _ _ _) ?_
 have e1 : (decide (fromIndex (tx l).length (p : Int) + (tx e).length ≤ (tx l).length) && subAt (tx l) (tx e) (fromIndex (tx l).length (p : Int))) = startsAt l e p := by
  rw [fromIndex_nat, StrLaws.subAt_eq, tx_len, tx_len]
  simp only [tx_list, startsAt]
  rw [Bool.eq_iff_iff, Bool.and_eq_true, decide_eq_true_eq, decide_eq_true_eq, beq_iff_eq]
  refine ⟨fun x => x.2, fun x => ⟨?_, x⟩⟩
  have h1 := congrArg List.length x
  rw [List.length_take, List.length_drop] at h1
  exact fits_of (by rw [← h1]; exact Nat.min_le_right _ _) (List.length_pos_iff.mpr he)
 rw [e1]
 exact h _ S
theorem froz_ok {a : Addr} {S' : Str -> Bool} {n : Nat} (S : St H0 os0 L m D s) (hF : FrozAt (PySem.strKind pw w) H0 a S' n) : (s.TypeIs (.ref a) "frozenset" ∧ (∀ b, Value.ref a = .ref b -> ∃ ob, s.heap.get? b = some ob ∧ ob.dict = none)) := by
 obtain ⟨es, ep, tb, ho, _⟩ := FrozAt.keep hF S.stays
 exact ⟨⟨_, ho, rfl⟩, fun b e => by cases e; exact ⟨_, ho, rfl⟩⟩
theorem slice_cut {l xs ys : List Nat} {p : Nat} (hl : l.drop p = xs ++ ys) : (⟨(((tx l).cps.toList.drop p).take (p + xs.length - p)).toArray⟩ : Str) = tx xs := by
 rw [tx_list, hl]
 have : p + xs.length - p = xs.length := by walk_at "o"
 rw [this, List.take_left]
 rfl
theorem skip_until_spec (gd : Gd w H0) {l xs e ys cs : List Nat} {p n c : Nat} {a : Addr} {t0 t1 t2 : Tok} {b : Bool} {R : Result -> Shared -> Prop} (S : St H0 os0 L m D s) (hd : A.depth < recursionLimit) (hh : A.handled = none)
  (hF : FrozAt (PySem.strKind pw w) H0 a (inChars cs) n) (hb : n < 4096) (hn : l.length ≤ 16777216) (hp : p ≤ l.length) (hl : l.drop p = xs ++ (c :: e) ++ ys) (hx : ∀ d ∈ xs, d ≠ c) (hc : ∀ d ∈ xs, cs.contains d = false)
  (h : ∀ t s', St H0 os0 L m D s' -> R (.ok (.ret (.int ((p + xs.length : Nat) : Int) t))) s') :
  codeAny (model pw w) A (.call (.ref 655) ⟨[.str (tx l) t0, .int (p : Nat) t1, .str (tx (c :: e)) t2], [("error_on", .ref a), ("error_on_eof", .bool b)]⟩) R s := by
 refine r_enter (binds := [("src", .str (tx l) t0), ("pos", .int (p : Nat) t1), ("expect", .str (tx (c :: e)) t2), ("error_on", .ref a), ("error_on_eof", .bool b)]) gd S (gd.K 655 _ rfl) rfl (by kernel_rfl) rfl (.of_eq rfl) hd rfl rfl fun L₁ s₁ S => ?_
 dsimp only [mOf, List.foldl] at S
 refine r_tryN ?_
 walk_at "g"
 refine r_index (by assumption) hp hl hx fun _ _ _ => ?_
 walk_at "g"
 refine ⟨froz_ok (by assumption) hF, ?_⟩
 walk_at "g"
 have hle : p + xs.length ≤ l.length := drop_fits hp (by rw [hl, List.append_assoc])
 refine r_sliceQ (by assumption) (by walk_at "o") (by rw [tx_len]; exact hle) (by rw [tx_len]; exact hn) fun _ s S => ?_
 rw [slice_cut (by rw [hl, List.append_assoc])]
 walk_at "g"
 refine r_isdisjoint S hh hF hb (fun d hd => hc d hd) fun s S => ?_
 walk_at "g"
 first | refine ifn (by simp) ?_ | rw [if_neg (by simp)]
 walk_at "g"
 exact h _ _ (S.ret .head)
theorem skip_comment_none (gd : Gd w H0) {l r : List Nat} {p c : Nat} {t0 t1 : Tok} {R : Result -> Shared -> Prop} (S : St H0 os0 L m D s) (hd : A.depth < recursionLimit)
  (hn : l.length ≤ 16777216) (hl : l.drop p = c :: r) (hc : c ≠ 35) (h : ∀ t s', St H0 os0 L m D s' -> R (.ok (.ret (.int (p : Nat) t))) s') :
  codeAny (model pw w) A (.call (.ref 662) ⟨[.str (tx l) t0, .int (p : Nat) t1], []⟩) R s := by
 refine r_enter (binds := [("src", .str (tx l) t0), ("pos", .int (p : Nat) t1)]) gd S (gd.K 662 _ rfl) rfl (by kernel_rfl) rfl (.of_eq rfl) (by walk_at "o") rfl rfl fun L₁ s₁ S => ?_
 dsimp only [mOf, List.foldl] at S
 refine r_tryN ?_
 walk_at "g"
 refine r_chrC (by assumption) hl hn fun _ _ _ => ?_
 walk_at "g"
 first | refine ifn (by rw [decide_eq_true_eq, show (Str.ofString "#") = chr1 35 from rfl, chr1_inj]; exact hc) ?_ | rw [if_neg (by rw [decide_eq_true_eq, show (Str.ofString "#") = chr1 35 from rfl, chr1_inj]; exact hc)]
 walk_at "g"
 exact h _ _ ((by assumption : St H0 os0 L₁ _ _ _).ret .head)
theorem skip_comment_end (gd : Gd w H0) {l : List Nat} {p : Nat} {t0 t1 : Tok} {R : Result -> Shared -> Prop} (S : St H0 os0 L m D s) (hd : A.depth < recursionLimit) (hh : A.handled = none) (hstk : OnStk A L D)
  (hn : l.length ≤ 16777216) (hl : l.drop p = []) (hp : p ≤ l.length) (h : ∀ t s', St H0 os0 L m D s' -> R (.ok (.ret (.int (p : Nat) t))) s') :
  codeAny (model pw w) A (.call (.ref 662) ⟨[.str (tx l) t0, .int (p : Nat) t1], []⟩) R s := by
 refine r_enter (binds := [("src", .str (tx l) t0), ("pos", .int (p : Nat) t1)]) gd S (gd.K 662 _ rfl) rfl (by kernel_rfl) rfl (.of_eq rfl) (by walk_at "o") rfl rfl fun L₁ s₁ S => ?_
 dsimp only [mOf, List.foldl] at S
 refine r_try (cls := "IndexError") gd S (fun m' D' => D' = (L, .ns m) :: D ∧ m' "pos" = some (.int (p : Nat) t1)) (by rfl) (by rfl) ?_ ?_
 ·walk_at "g"
  exact r_chrEnd (by assumption) hh hl hp hn fun ev s' X => ⟨_, _, ⟨rfl, by walk_at "l"⟩, Noted.new X hstk.enter (hstk.fr) rfl⟩
 ·rintro m' D' e s ⟨rfl, h1⟩ S
  walk_at "g"
  refine PySem.EqNone.eq_none_str ?_
  walk_at "g"
  first | refine ifn (by simp) ?_ | rw [if_neg (by simp)]
  walk_at "g"
  exact h _ _ ((by assumption : St H0 os0 L₁ _ _ _).ret .head)
theorem skip_comment_some (gd : Gd w H0) {l xs ys : List Nat} {p : Nat} {t0 t1 : Tok} {R : Result -> Shared -> Prop} (S : St H0 os0 L m D s) (hs : Sets w H0) (hd : A.depth + 1 < recursionLimit) (hh : A.handled = none)
  (hn : l.length ≤ 16777216) (hl : l.drop p = 35 :: xs ++ 10 :: ys) (hx : ∀ d ∈ xs, illBasic.contains d = false) (h : ∀ t s', St H0 os0 L m D s' -> R (.ok (.ret (.int ((p + 1 + xs.length : Nat) : Int) t))) s') :
  codeAny (model pw w) A (.call (.ref 662) ⟨[.str (tx l) t0, .int (p : Nat) t1], []⟩) R s := by
 refine r_enter (binds := [("src", .str (tx l) t0), ("pos", .int (p : Nat) t1)]) gd S (gd.K 662 _ rfl) rfl (by kernel_rfl) rfl (.of_eq rfl) (by walk_at "o") rfl rfl fun L₁ s₁ S => ?_
 dsimp only [mOf, List.foldl] at S
 refine r_tryN ?_
 walk_at "g"
 refine r_chrC (by assumption) (c := 35) (r := xs ++ 10 :: ys) hl hn fun _ _ _ => ?_
 walk_at "g"
 first | refine ifp (by rw [decide_eq_true_eq]; rfl) ?_ | rw [if_pos (by rw [decide_eq_true_eq]; rfl)]
 walk_at "g"
 have hl1 : l.drop (p + 1) = xs ++ (10 :: []) ++ ys := by rw [drop_next hl]; simp
 have hp1 : p + 1 ≤ l.length := drop_lt hl
 refine skip_until_spec (c := 10) (e := []) gd (by assumption) hd hh hs.basic (by decide) hn hp1 hl1 (fun d hd q => ?_) hx fun t s S => ?_
 ·have := hx d hd
  rw [q] at this
  exact absurd this (by decide)
 ·walk_at "g"
  exact h _ _ (S.ret .head)
inductive Blank : List Nat -> Prop
 | ws (xs : List Nat) : (∀ c ∈ xs, tomlWsNl.contains c = true) -> Blank xs
 | rem (xs ds ys : List Nat) : (∀ c ∈ xs, tomlWsNl.contains c = true) -> (∀ d ∈ ds, illBasic.contains d = false) -> Blank ys -> Blank (xs ++ (35 :: (ds ++ (10 :: ys))))
theorem Blank.feed {ys : List Nat} (h : Blank ys) : Blank (10 :: ys) := by
 cases h with
 | ws xs hx => exact .ws _ (fun c hc => by cases hc with | head => rfl | tail _ hc => exact hx c hc)
 | rem xs ds ys hx hd hy => exact .rem (10 :: xs) ds ys (fun c hc => by cases hc with | head => rfl | tail _ hc => exact hx c hc) hd hy
theorem skip_blank_spec (gd : Gd w H0) {l b ys : List Nat} {p c : Nat} {t0 t1 : Tok} {R : Result -> Shared -> Prop} (S : St H0 os0 L m D s) (hs : Sets w H0) (hd : A.depth + 2 < recursionLimit) (hh : A.handled = none)
  (hn : l.length ≤ 16777216) (hb : Blank b) (hl : l.drop p = b ++ c :: ys) (hc : tomlWsNl.contains c = false) (hc2 : c ≠ 35) (h : ∀ t s', St H0 os0 L m D s' -> R (.ok (.ret (.int ((p + b.length : Nat) : Int) t))) s') :
  codeAny (model pw w) A (.call (.ref 669) ⟨[.str (tx l) t0, .int (p : Nat) t1], []⟩) R s := by
 refine r_enter (binds := [("src", .str (tx l) t0), ("pos", .int (p : Nat) t1)]) gd S (gd.K 669 _ rfl) rfl (by kernel_rfl) rfl (.of_eq rfl) (by walk_at "o") rfl rfl fun L₁ s₁ S => ?_
 dsimp only [mOf, List.foldl] at S
 have hp : p ≤ l.length := Nat.le_trans (Nat.le_add_right _ _) (Nat.le_of_lt (drop_lt (zD hl)))
 refine r_while (fun n s => ∃ q b' m' t, n = b'.length ∧ q ≤ l.length ∧ q + b'.length = p + b.length ∧ Blank b' ∧ l.drop q = b' ++ c :: ys ∧ St H0 os0 L₁ m' ((L, .ns m) :: D) s ∧ m' "src" = some (.str (tx l) t0) ∧ m' "pos" = some (.int (q : Nat) t))
  (fun _ => False) ?_ b.length ⟨p, b, _, _, rfl, hp, rfl, hb, hl, S, by walk_at "l", by walk_at "l"⟩ fun _ q => q.elim
 intro n s hI
 with_reducible refine genw fun T' P' hT hP => ?_
 with_reducible refine hid fun G hG => ?_
 obtain ⟨q, b', m', t, rfl, hq, hsum, hb', hl', S, h1, h2⟩ := hI
 refine hG ?_
 refine isTrue_plain (wpAny_Constant_bool (wpAny_truthy_bool ?_))
 first | refine ifp rfl ?_ | rw [if_pos rfl]
 walk_at "g"
 have hAd : ∀ f fd, (A.deeper (callEnv fd L₁ f)).depth < recursionLimit := fun f fd => by simp [Around.deeper]; lia
 cases hb' with
 | ws xs hx =>
  refine zK gd (by assumption) (hAd _ _) hh hs.wsnl (by decide) hn hq hl' hx (fun d r e => by cases e; exact hc) (fun e => by cases e) fun _ _ _ => ?_
  walk_at "g"
  refine skip_comment_none gd (by assumption) (hAd _ _) hn (zD hl') hc2 fun _ _ _ => ?_
  walk_at "g"
  by_cases e : q + b'.length = q
  ·first | refine ifp (by simpa using e) ?_ | rw [if_pos (by simpa using e)]
   walk_at "g"
   have e2 : q + b'.length = p + b.length := hsum
   rw [e2]
   refine hT _ _ ?_
   exact h _ _ ((by assumption : St H0 os0 L₁ _ _ _).ret .head)
  ·first | refine ifn (by simpa using e) ?_ | rw [if_neg (by simpa using e)]
   walk_at "g"
   rename_i S
   refine hT _ _ ⟨0, by walk_at "o", q + b'.length, [], _, _, rfl, by have := congrArg List.length hl'; simp at this; lia, by simpa using hsum, .ws _ (fun c hc => by cases hc), zD hl', S, by walk_at "l", by walk_at "l"⟩
 | rem xs ds zs hx hds hz =>
  rw [List.append_assoc] at hl'
  have hl2 := zD hl'
  rw [List.cons_append, List.append_assoc, List.cons_append] at hl2
  refine zK gd (by assumption) (hAd _ _) hh hs.wsnl (by decide) hn hq hl' hx (fun d r e => by cases e; rfl) (fun e => by cases e) fun _ _ _ => ?_
  walk_at "g"
  refine skip_comment_some gd (by assumption) hs (by simp [Around.deeper]; lia) hh hn (xs := ds) (ys := zs ++ c :: ys) hl2 hds fun _ _ _ => ?_
  walk_at "g"
  first | refine ifn (by simp; lia) ?_ | rw [if_neg (by simp; lia)]
  walk_at "g"
  rename_i S
  have hl3 : l.drop (q + xs.length + 1 + ds.length) = 10 :: (zs ++ c :: ys) := zD (drop_next hl2)
  refine hT _ _ ⟨(10 :: zs).length, by simp; lia, q + xs.length + 1 + ds.length, 10 :: zs, _, _, rfl, ?_, ?_, hz.feed, hl3, S, by walk_at "l", by walk_at "l"⟩
  ·have := drop_lt hl3; lia
  ·simp at hsum ⊢; lia
end
theorem ite_t {P Q : Prop} (h : P) : if true = true then P else Q := h
theorem ite_f {P Q : Prop} (h : Q) : if false = true then P else Q := h
theorem ite_nt {P Q : Prop} (h : Q) : if (!true) = true then P else Q := h
theorem ite_nf {P Q : Prop} (h : P) : if (!false) = true then P else Q := h
theorem r_catS {a b : List Nat} {t u : Tok} {Q : QV} (S : St H0 os0 L m D s) (hz : a.length + b.length ≤ 16777216) (h : ∀ t s', St H0 os0 L m D s' -> Q (.str (tx (a ++ b)) t) s') :
  wpAny (model pw w) A (binaryOp .Add (.str (tx a) t) (.str (tx b) u)) Q E s := by
 have e : tx a ++ tx b = tx (a ++ b) := by
  apply Str.ext'
  show (tx a).cps ++ (tx b).cps = _
  simp [tx]
 exact PyProof.Rows.add_str (fun t' tk => by rw [e]; exact h _ _ (S.tok _)) (by rw [tx_len, tx_len, sizeLine_eq]; exact hz)
theorem parse_literal_spec (gd : Gd w H0) {l xs ys : List Nat} {p : Nat} {t0 t1 : Tok} {R : Result -> Shared -> Prop} (S : St H0 os0 L m D s) (hs : Sets w H0) (hd : A.depth + 1 < recursionLimit) (hh : A.handled = none)
  (hn : l.length ≤ 16777216) (hl : l.drop p = 39 :: (xs ++ 39 :: ys)) (hx : ∀ d ∈ xs, d ≠ 39 ∧ illBasic.contains d = false)
  (h : ∀ a t t' s', St H0 os0 L m ((a, .tup [.int ((p + 1 + xs.length + 1 : Nat) : Int) t, .str (tx xs) t']) :: D) s' -> R (.ok (.ret (.ref a))) s') :
  codeAny (model pw w) A (.call (.ref 761) ⟨[.str (tx l) t0, .int (p : Nat) t1], []⟩) R s := by
 refine r_enter (binds := [("src", .str (tx l) t0), ("pos", .int (p : Nat) t1)]) gd S (gd.K 761 _ rfl) rfl (by kernel_rfl) rfl (.of_eq rfl) (by walk_at "o") rfl rfl fun L₁ s₁ S => ?_
 dsimp only [mOf, List.foldl] at S
 walk_at "g"
 have hl1 : l.drop (p + 1) = xs ++ (39 :: []) ++ ys := by rw [drop_next hl]; simp
 have hp1 : p + 1 ≤ l.length := drop_lt hl
 refine skip_until_spec (c := 39) (e := []) gd (by assumption) hd hh hs.basic (by decide) hn hp1 hl1 (fun d hd => (hx d hd).1) (fun d hd => (hx d hd).2) fun _ _ _ => ?_
 walk_at "g"
 have hle : p + 1 + xs.length ≤ l.length := drop_fits hp1 (by rw [hl1, List.append_assoc])
 refine r_sliceQ (by assumption) (by walk_at "o") (by rw [tx_len]; exact hle) (by rw [tx_len]; exact hn) fun _ s S => ?_
 rw [slice_cut (by rw [hl1, List.append_assoc])]
 walk_at "g"
 rename_i S
 exact h _ _ _ _ (S.ret (.tail .head))
theorem parse_basic_spec (gd : Gd w H0) {l xs ys : List Nat} {p : Nat} {t0 t1 : Tok} {R : Result -> Shared -> Prop} (S : St H0 os0 L m D s) (hs : Sets w H0) (hd : A.depth < recursionLimit) (hh : A.handled = none)
  (hn : l.length ≤ 16777216) (hp : p ≤ l.length) (hl : l.drop p = xs ++ 34 :: ys) (hx : ∀ d ∈ xs, d ≠ 34 ∧ d ≠ 92 ∧ illBasic.contains d = false)
  (h : ∀ a t t' s', St H0 os0 L m ((a, .tup [.int ((p + xs.length + 1 : Nat) : Int) t, .str (tx xs) t']) :: D) s' -> R (.ok (.ret (.ref a))) s') :
  codeAny (model pw w) A (.call (.ref 775) ⟨[.str (tx l) t0, .int (p : Nat) t1], [("multiline", .bool false)]⟩) R s := by
 refine r_enter (binds := [("src", .str (tx l) t0), ("pos", .int (p : Nat) t1), ("multiline", .bool false)]) gd S (gd.K 775 _ rfl) rfl (by kernel_rfl) rfl (.of_eq rfl) (by walk_at "o") rfl rfl fun L₁ s₁ S => ?_
 dsimp only [mOf, List.foldl] at S
 walk_at "g"
 have hAd : ∀ f fd, (A.deeper (callEnv fd L₁ f)).handled = none := fun f fd => hh
 rename_i S
 refine r_while (fun n s => ∃ i m' t, i ≤ xs.length ∧ n = xs.length - i ∧ St H0 os0 L₁ m' ((L, .ns m) :: D) s ∧ m' "src" = some (.str (tx l) t0) ∧ m' "pos" = some (.int ((p + i : Nat) : Int) t) ∧ m' "multiline" = some (.bool false) ∧
   m' "error_on" = some (.ref 427) ∧ (∃ t, m' "result" = some (.str (tx []) t)) ∧ (∃ t, m' "start_pos" = some (.int (p : Nat) t))) (fun _ => False) ?_ xs.length
  ⟨0, _, _, by walk_at "o", rfl, S, by walk_at "l", by walk_at "l", by walk_at "l", by walk_at "l", ⟨_, by walk_at "l"⟩, ⟨_, by walk_at "l"⟩⟩ fun _ q => q.elim
 intro n s hI
 with_reducible refine genw fun T' P' hT hP => ?_
 with_reducible refine hid fun G hG => ?_
 obtain ⟨i, m', t, hi, rfl, S, h1, h2, h3, h4, ⟨t3, h5⟩, ⟨t4, h6⟩⟩ := hI
 refine hG ?_
 have hdr : l.drop (p + i) = xs.drop i ++ 34 :: ys := by rw [← List.drop_drop, hl, List.drop_append_of_le_length hi]
 walk_at "g"
 refine r_tryN ?_
 walk_at "g"
 with_reducible by_cases c : i < xs.length
 ·have hx' := hx xs[i] (List.getElem_mem c)
  have hdr2 : l.drop (p + i) = xs[i] :: (xs.drop (i + 1) ++ 34 :: ys) := by rw [hdr, List.drop_eq_getElem_cons c]; rfl
  refine r_chrC (by assumption) hdr2 hn fun _ _ _ => ?_
  walk_at "g"
  first | refine ifn (by rw [decide_eq_true_eq, show (Str.ofString "\"") = chr1 34 from rfl, chr1_inj]; exact hx'.1) ?_ | rw [if_neg (by rw [decide_eq_true_eq, show (Str.ofString "\"") = chr1 34 from rfl, chr1_inj]; exact hx'.1)]
  walk_at "g"
  first | refine ifn (by rw [decide_eq_true_eq, show (Str.ofString "\\") = chr1 92 from rfl, chr1_inj]; exact hx'.2.1) ?_ | rw [if_neg (by rw [decide_eq_true_eq, show (Str.ofString "\\") = chr1 92 from rfl, chr1_inj]; exact hx'.2.1)]
  walk_at "g"
  refine r_in (by assumption) hs.basic (by decide) fun _ _ => ?_
  walk_at "g"
  rw [inChars_chr1, hx'.2.2]
  walk_at "g"
  rename_i S
  exact hT _ _ ⟨_, by walk_at "o", i + 1, _, _, by walk_at "o", rfl, S, by walk_at "l", by walk_at "l", by walk_at "l", by walk_at "l", ⟨_, by walk_at "l"⟩, ⟨_, by walk_at "l"⟩⟩
 ·obtain rfl : i = xs.length := by walk_at "o"
  rw [List.drop_length, List.nil_append] at hdr
  refine r_chrC (by assumption) hdr hn fun _ _ _ => ?_
  walk_at "g"
  first | refine ifp (by rw [decide_eq_true_eq]; rfl) ?_ | rw [if_pos (by rw [decide_eq_true_eq]; rfl)]
  walk_at "g"
  have hle : p + xs.length ≤ l.length := Nat.le_of_lt (drop_lt hdr)
  refine r_sliceQ (by assumption) (by walk_at "o") (by rw [tx_len]; exact hle) (by rw [tx_len]; exact hn) fun _ s S => ?_
  rw [slice_cut hl]
  walk_at "g"
  with_reducible refine r_catS S (by simp; lia) fun _ _ _ => ?_
  rw [List.nil_append]
  walk_at "g"
  rename_i S
  refine hT _ _ ?_
  exact h _ _ _ _ (S.ret (.tail .head))
theorem parse_oneline_spec (gd : Gd w H0) {l xs ys : List Nat} {p : Nat} {t0 t1 : Tok} {R : Result -> Shared -> Prop} (S : St H0 os0 L m D s) (hs : Sets w H0) (hd : A.depth + 1 < recursionLimit) (hh : A.handled = none)
  (hn : l.length ≤ 16777216) (hl : l.drop p = 34 :: (xs ++ 34 :: ys)) (hx : ∀ d ∈ xs, d ≠ 34 ∧ d ≠ 92 ∧ illBasic.contains d = false)
  (h : ∀ a t t' s', St H0 os0 L m ((a, .tup [.int ((p + 1 + xs.length + 1 : Nat) : Int) t, .str (tx xs) t']) :: D) s' -> R (.ok (.ret (.ref a))) s') :
  codeAny (model pw w) A (.call (.ref 718) ⟨[.str (tx l) t0, .int (p : Nat) t1], []⟩) R s := by
 refine r_enter (binds := [("src", .str (tx l) t0), ("pos", .int (p : Nat) t1)]) gd S (gd.K 718 _ rfl) rfl (by kernel_rfl) rfl (.of_eq rfl) (by walk_at "o") rfl rfl fun L₁ s₁ S => ?_
 dsimp only [mOf, List.foldl] at S
 walk_at "g"
 refine parse_basic_spec gd (by assumption) hs hd hh hn (drop_lt hl) (drop_next hl) hx fun a t t' s S => ?_
 walk_at "g"
 exact h _ _ _ _ (S.ret (.tail .head))
theorem starts_yes {l e r : List Nat} {p : Nat} (h : l.drop p = e ++ r) : startsAt l e p = true := by
 unfold startsAt
 rw [h]
 simp
theorem starts_no {l r : List Nat} {p c d : Nat} (h : l.drop p = d :: r) (hc : d ≠ c) (e : List Nat) : startsAt l (c :: e) p = false := by
 unfold startsAt
 rw [h, decide_eq_false_iff_not]
 intro q
 simp at q
 exact hc q.1
theorem starts_end {l : List Nat} {p c : Nat} (h : l.drop p = []) (e : List Nat) : startsAt l (c :: e) p = false := by
 unfold startsAt
 rw [h, decide_eq_false_iff_not]
 intro q
 simp at q
@[reducible] def OnlyRet (Q : QF) : QF := fun f s₃ => match f with | .ret v => Q (.ret v) s₃ | _ => False
inductive Out (p : Addr × Ob) : Led -> Led -> Prop
 | head {r : Led} : Out p (p :: r) r
 | keep {q : Addr × Ob} {r r' : Led} : Out p r r' -> Out p (q :: r) (q :: r')
 | drop {q : Addr × Ob} {r r' : Led} : Out p r r' -> Out p (q :: r) r'
theorem Out.rem {p : Addr × Ob} {D D' : Led} (x : Out p D D') : ∃ D₂, Rem p D D₂ ∧ D'.Sublist D₂ := by
 induction x with
 | head => exact ⟨_, .head, .refl _⟩
 | keep _ ih => obtain ⟨D₂, a, b⟩ := ih; exact ⟨_, .tail a, b.cons_cons _⟩
 | drop _ ih => obtain ⟨D₂, a, b⟩ := ih; exact ⟨_, .tail a, b.cons _⟩
theorem St.out {L₁ : Addr} {m₁ : Str -> Option Value} {s₁ : Shared} {D₁ : Led} (S : St H0 os0 L₁ m₁ D₁ s₁) (x : Out (L, .ns m) D₁ D) : St H0 os0 L m D s₁ := by
 obtain ⟨D₂, a, b⟩ := x.rem
 exact (S.ret a).sub b
theorem r_whileRet {test : Expr} {body rest : List Stmt} {pos : Pos} {Q : QF}
  (h : wpAny (model pw w) A (isTrue test env (PySem.eval test env)) (WhQ (model pw w) A NoE env body (OnlyRet Q) fun _ => False) NoE s) :
  wpAny (model pw w) A (execs (.While test body [] pos :: rest) env) Q E s := by
 refine r_while (fun _ s' => s' = s) (fun _ => False) (fun n s' e => ?_) 0 rfl fun _ q => q.elim
 subst e
 refine wM h (fun b s₂ q => ?_) fun _ _ q => q
 cases b with
 | true =>
  delta WhQ at q ⊢
  rw [if_pos rfl] at q ⊢
  replace q := q
  refine wM q (fun f s₃ q => ?_) fun _ _ q => q
  cases f with
  | ret v => exact q
  | _ => exact q.elim
 | false => delta WhQ at q; rw [if_neg (by simp)] at q; exact q.elim
theorem parse_multi_spec (gd : Gd w H0) {l xs ys : List Nat} {p c : Nat} {t0 t1 : Tok} {R : Result -> Shared -> Prop} (S : St H0 os0 L m D s) (hs : Sets w H0) (hd : A.depth + 1 < recursionLimit) (hh : A.handled = none)
  (hn : l.length ≤ 16777216) (hl : l.drop p = 39 :: 39 :: 39 :: 10 :: (xs ++ 39 :: 39 :: 39 :: c :: ys)) (hx : ∀ d ∈ xs, d ≠ 39 ∧ illMulti.contains d = false) (hy : c ≠ 39)
  (h : ∀ a t t' s', St H0 os0 L m ((a, .tup [.int ((p + 3 + 1 + xs.length + 3 : Nat) : Int) t, .str (tx xs) t']) :: D) s' -> R (.ok (.ret (.ref a))) s') :
  codeAny (model pw w) A (.call (.ref 768) ⟨[.str (tx l) t0, .int (p : Nat) t1], [("literal", .bool true)]⟩) R s := by
 have hl3 : l.drop (p + 3) = 10 :: (xs ++ 39 :: 39 :: 39 :: c :: ys) := zD (xs := [39, 39, 39]) hl
 have hl4 : l.drop (p + 3 + 1) = xs ++ (39 :: [39, 39]) ++ c :: ys := by rw [drop_next hl3]; simp
 have hp4 : p + 3 + 1 ≤ l.length := drop_lt hl3
 have hl5 : l.drop (p + 3 + 1 + xs.length) = [39, 39, 39] ++ c :: ys := zD (by rw [hl4, List.append_assoc])
 have hl6 : l.drop (p + 3 + 1 + xs.length + 3) = c :: ys := zD hl5
 have hp5 : p + 3 + 1 + xs.length ≤ l.length := by have := drop_lt hl6; lia
 refine r_enter (binds := [("src", .str (tx l) t0), ("pos", .int (p : Nat) t1), ("literal", .bool true)]) gd S (gd.K 768 _ rfl) rfl (by kernel_rfl) rfl (.of_eq rfl) (by walk_at "o") rfl rfl fun L₁ s₁ S => ?_
 dsimp only [mOf, List.foldl] at S
 walk_at "g"
 refine r_starts (e := [10]) (by assumption) (by simp) fun _ _ => ?_
 rw [starts_yes (e := [10]) hl3]
 walk_at "g"
 refine skip_until_spec (c := 39) (e := [39, 39]) gd (by assumption) hd hh hs.multi (by decide) hn hp4 hl4 (fun d hd => (hx d hd).1) (fun d hd => (hx d hd).2) fun _ _ _ => ?_
 walk_at "g"
 refine r_sliceQ (by assumption) (by walk_at "o") (by rw [tx_len]; exact hp5) (by rw [tx_len]; exact hn) fun _ s S => ?_
 rw [slice_cut (by rw [hl4, List.append_assoc])]
 walk_at "g"
 refine r_starts (e := [39]) (by assumption) (by simp) fun _ _ => ?_
 rw [starts_no hl6 hy]
 walk_at "g"
 rename_i S
 exact h _ _ _ _ (S.ret (.tail .head))
theorem parse_keypart_spec (gd : Gd w H0) {l xs ys : List Nat} {p c : Nat} {t0 t1 : Tok} {R : Result -> Shared -> Prop} (S : St H0 os0 L m D s) (hs : Sets w H0) (hd : A.depth + 1 < recursionLimit) (hh : A.handled = none)
  (hn : l.length ≤ 16777216) (hl : l.drop p = xs ++ c :: ys) (hx : ∀ d ∈ xs, bareKey.contains d = true) (hc : bareKey.contains c = false) (hne : xs ≠ [])
  (h : ∀ a t t' s', St H0 os0 L m ((a, .tup [.int ((p + xs.length : Nat) : Int) t, .str (tx xs) t']) :: D) s' -> R (.ok (.ret (.ref a))) s') :
  codeAny (model pw w) A (.call (.ref 711) ⟨[.str (tx l) t0, .int (p : Nat) t1], []⟩) R s := by
 obtain ⟨x, xr, rfl⟩ : ∃ x xr, xs = x :: xr := by cases xs with | nil => exact absurd rfl hne | cons x r => exact ⟨x, r, rfl⟩
 have hp : p ≤ l.length := by have := drop_lt hl; lia
 refine r_enter (binds := [("src", .str (tx l) t0), ("pos", .int (p : Nat) t1)]) gd S (gd.K 711 _ rfl) rfl (by kernel_rfl) rfl (.of_eq rfl) (by walk_at "o") rfl rfl fun L₁ s₁ S => ?_
 dsimp only [mOf, List.foldl] at S
 walk_at "g"
 refine r_tryN ?_
 walk_at "g"
 refine r_chrC (by assumption) hl hn fun _ _ _ => ?_
 walk_at "g"
 refine r_in (by assumption) hs.bare (by decide) fun _ _ => ?_
 walk_at "g"
 rw [inChars_chr1, hx x (.head _)]
 walk_at "g"
 refine zK gd (by assumption) hd hh hs.bare (by decide) hn hp hl hx (fun d r e => by cases e; exact hc) (fun e => by cases e) fun _ _ _ => ?_
 walk_at "g"
 have hle : p + (x :: xr).length ≤ l.length := by have := drop_lt (zD hl); lia
 refine r_sliceQ (by assumption) (by walk_at "o") (by rw [tx_len]; exact hle) (by rw [tx_len]; exact hn) fun _ s S => ?_
 rw [slice_cut hl]
 walk_at "g"
 rename_i S
 exact h _ _ _ _ (S.ret (.tail .head))
theorem parse_key_spec (gd : Gd w H0) {l xs ys : List Nat} {p : Nat} {t0 t1 : Tok} {R : Result -> Shared -> Prop} (S : St H0 os0 L m D s) (hs : Sets w H0) (hd : A.depth + 2 < recursionLimit) (hh : A.handled = none)
  (hn : l.length ≤ 16777216) (hl : l.drop p = xs ++ 32 :: 61 :: ys) (hx : ∀ d ∈ xs, bareKey.contains d = true) (hne : xs ≠ [])
  (h : ∀ a k t t' s', St H0 os0 L m ((a, .tup [.int ((p + xs.length + 1 : Nat) : Int) t, .ref k]) :: (k, .tup [.str (tx xs) t']) :: D) s' -> R (.ok (.ret (.ref a))) s') :
  codeAny (model pw w) A (.call (.ref 704) ⟨[.str (tx l) t0, .int (p : Nat) t1], []⟩) R s := by
 refine r_enter (binds := [("src", .str (tx l) t0), ("pos", .int (p : Nat) t1)]) gd S (gd.K 704 _ rfl) rfl (by kernel_rfl) rfl (.of_eq rfl) (by walk_at "o") rfl rfl fun L₁ s₁ S => ?_
 dsimp only [mOf, List.foldl] at S
 walk_at "g"
 have hp : p ≤ l.length := by
  have := congrArg List.length hl
  simp at this
  lia
 refine parse_keypart_spec gd (by assumption) hs hd hh hn hl hx rfl hne fun _ _ _ _ _ => ?_
 walk_at "g"
 have hl2 : l.drop (p + xs.length) = [32] ++ 61 :: ys := zD hl
 have hp2 : p + xs.length ≤ l.length := by have := drop_lt hl2; lia
 refine zK (A := A.deeper _) gd (by assumption) (show A.depth + 1 < recursionLimit by walk_at "o") hh hs.ws (by decide) hn hp2 hl2 (fun c hc => by cases hc with | head => rfl | tail _ hc => cases hc) (fun d r e => by cases e; rfl) (fun e => by cases e) fun _ _ _ => ?_
 walk_at "g"
 refine r_whileRet ?_
 walk_at "g"
 refine r_tryN ?_
 walk_at "g"
 have hl3 : l.drop (p + xs.length + [32].length) = 61 :: ys := zD hl2
 refine r_chrC (by assumption) hl3 hn fun _ _ _ => ?_
 walk_at "g"
 first | refine ifp (by decide) ?_ | rw [if_pos (by decide)]
 walk_at "g"
 rename_i S
 exact h _ _ _ _ _ (S.out (.keep (.keep (.drop .head))))
def VSpec (w : World) (H0 : Heap) (os0 : OsState) (k : Nat) (item : List Nat) (V : Value -> Led -> Prop) : Prop :=
 ∀ {L : Addr} {m : Str -> Option Value} {D : Led} {s : Shared} {A : Around} {R : Result -> Shared -> Prop} {l ys : List Nat} {p c : Nat} {t0 t1 : Tok} {pf : Value}, St H0 os0 L m D s -> A.depth + k < recursionLimit -> A.handled = none →
  l.length ≤ 16777216 -> l.drop p = item ++ c :: ys -> c ≠ 39 →
  (∀ a v N t s', V v N -> St H0 os0 L m ((a, .tup [.int ((p + item.length : Nat) : Int) t, v]) :: (N ++ D)) s' -> R (.ok (.ret (.ref a))) s') →
  codeAny (model pw w) A (.call (.ref 782) ⟨[.str (tx l) t0, .int (p : Nat) t1, pf], []⟩) R s
def IsText (xs : List Nat) (v : Value) (N : Led) : Prop := N = [] ∧ ∃ t, v = .str (tx xs) t
theorem pv_lit (gd : Gd w H0) (hs : Sets w H0) {x : Nat} {xs : List Nat} (hx : ∀ d ∈ x :: xs, d ≠ 39 ∧ illBasic.contains d = false) : VSpec w H0 os0 2 (39 :: (x :: xs ++ [39])) (IsText (x :: xs)) := by
 intro L m D s A R l ys p c t0 t1 pf S hd hh hn hl hc h
 have hl' : l.drop p = 39 :: (x :: xs ++ 39 :: c :: ys) := by rw [hl]; simp
 refine r_enter (binds := [("src", .str (tx l) t0), ("pos", .int (p : Nat) t1), ("parse_float", pf)]) gd S (gd.K 782 _ rfl) rfl (by kernel_rfl) rfl (.of_eq rfl) (by walk_at "o") rfl rfl fun L₁ s₁ S => ?_
 dsimp only [mOf, List.foldl] at S
 walk_at "g"
 refine r_tryN ?_
 walk_at "g"
 refine r_chrC (by assumption) hl' hn fun _ _ _ => ?_
 walk_at "g"
 first | refine ifn (by decide) ?_ | rw [if_neg (by decide)]
 walk_at "g"
 first | refine ifp (by decide) ?_ | rw [if_pos (by decide)]
 walk_at "g"
 refine r_starts (e := [39, 39, 39]) (by assumption) (by simp) fun _ _ => ?_
 have hno : startsAt l [39, 39, 39] p = false := by
  unfold startsAt
  rw [hl', decide_eq_false_iff_not]
  intro q
  simp at q
  exact (hx x (.head _)).1 q.1
 rw [hno]
 walk_at "g"
 refine parse_literal_spec gd (by assumption) hs hd hh hn hl' hx fun a t t' s S => ?_
 walk_at "g"
 refine h a _ [] t s ⟨rfl, t', rfl⟩ ?_
 have e : p + 1 + (x :: xs).length + 1 = p + (39 :: (x :: xs ++ [39])).length := by simp; lia
 rw [e] at S
 exact S.out (.keep .head)
theorem pv_basic (gd : Gd w H0) (hs : Sets w H0) {x : Nat} {xs : List Nat} (hx : ∀ d ∈ x :: xs, d ≠ 34 ∧ d ≠ 92 ∧ illBasic.contains d = false) : VSpec w H0 os0 3 (34 :: (x :: xs ++ [34])) (IsText (x :: xs)) := by
 intro L m D s A R l ys p c t0 t1 pf S hd hh hn hl hc h
 have hl' : l.drop p = 34 :: (x :: xs ++ 34 :: c :: ys) := by rw [hl]; simp
 refine r_enter (binds := [("src", .str (tx l) t0), ("pos", .int (p : Nat) t1), ("parse_float", pf)]) gd S (gd.K 782 _ rfl) rfl (by kernel_rfl) rfl (.of_eq rfl) (by walk_at "o") rfl rfl fun L₁ s₁ S => ?_
 dsimp only [mOf, List.foldl] at S
 walk_at "g"
 refine r_tryN ?_
 walk_at "g"
 refine r_chrC (by assumption) hl' hn fun _ _ _ => ?_
 walk_at "g"
 first | refine ifp (by decide) ?_ | rw [if_pos (by decide)]
 walk_at "g"
 refine r_starts (e := [34, 34, 34]) (by assumption) (by simp) fun _ _ => ?_
 have hno : startsAt l [34, 34, 34] p = false := by
  unfold startsAt
  rw [hl', decide_eq_false_iff_not]
  intro q
  simp at q
  exact (hx x (.head _)).1 q.1
 rw [hno]
 walk_at "g"
 refine parse_oneline_spec (A := A.deeper _) gd (by assumption) hs (show A.depth + 2 < recursionLimit by walk_at "o") hh hn hl' hx fun a t t' s S => ?_
 walk_at "g"
 refine h a _ [] t s ⟨rfl, t', rfl⟩ ?_
 have e : p + 1 + (x :: xs).length + 1 = p + (34 :: (x :: xs ++ [34])).length := by simp; lia
 rw [e] at S
 exact S.out (.keep .head)
theorem pv_multi (gd : Gd w H0) (hs : Sets w H0) {xs : List Nat} (hx : ∀ d ∈ xs, d ≠ 39 ∧ illMulti.contains d = false) : VSpec w H0 os0 3 (39 :: 39 :: 39 :: 10 :: (xs ++ [39, 39, 39])) (IsText xs) := by
 intro L m D s A R l ys p c t0 t1 pf S hd hh hn hl hc h
 have hl' : l.drop p = 39 :: 39 :: 39 :: 10 :: (xs ++ 39 :: 39 :: 39 :: c :: ys) := by rw [hl]; simp
 refine r_enter (binds := [("src", .str (tx l) t0), ("pos", .int (p : Nat) t1), ("parse_float", pf)]) gd S (gd.K 782 _ rfl) rfl (by kernel_rfl) rfl (.of_eq rfl) (by walk_at "o") rfl rfl fun L₁ s₁ S => ?_
 dsimp only [mOf, List.foldl] at S
 walk_at "g"
 refine r_tryN ?_
 walk_at "g"
 refine r_chrC (by assumption) hl' hn fun _ _ _ => ?_
 walk_at "g"
 first | refine ifn (by decide) ?_ | rw [if_neg (by decide)]
 walk_at "g"
 first | refine ifp (by decide) ?_ | rw [if_pos (by decide)]
 walk_at "g"
 refine r_starts (e := [39, 39, 39]) (by assumption) (by simp) fun _ _ => ?_
 rw [starts_yes (e := [39, 39, 39]) hl']
 walk_at "g"
 refine parse_multi_spec (A := A.deeper _) gd (by assumption) hs (show A.depth + 2 < recursionLimit by walk_at "o") hh hn hl' hx hc fun a t t' s S => ?_
 walk_at "g"
 refine h a _ [] t s ⟨rfl, t', rfl⟩ ?_
 have e : p + 3 + 1 + xs.length + 3 = p + (39 :: 39 :: 39 :: 10 :: (xs ++ [39, 39, 39])).length := by simp; lia
 rw [e] at S
 exact S.out (.keep .head)
theorem At.app {a : Addr} {k : Ob} {D : Led} {f : Ob -> Led} (x : At a k D f) : ∀ N : Led, At a k (N ++ D) (fun k' => N ++ f k')
 | [] => x
 | _ :: N => .tail (At.app x N)
theorem Out.app {p : Addr × Ob} {r r' : Led} (x : Out p r r') : ∀ N : Led, Out p (N ++ r) (N ++ r')
 | [] => x
 | _ :: N => .keep (Out.app x N)
inductive Vals : List (Value -> Led -> Prop) -> List Value -> Led -> Prop
 | nil : Vals [] [] []
 | snoc {Vs : List (Value -> Led -> Prop)} {vs : List Value} {N : Led} {V : Value -> Led -> Prop} {v : Value} {M : Led} : Vals Vs vs N -> V v M -> Vals (Vs ++ [V]) (vs ++ [v]) (M ++ N)
theorem Vals.length {Vs : List (Value -> Led -> Prop)} {vs : List Value} {N : Led} (x : Vals Vs vs N) : vs.length = Vs.length := by
 induction x with
 | nil => rfl
 | snoc _ _ ih => simp [ih]
def ArrV (Vs : List (Value -> Led -> Prop)) (v : Value) (M : Led) : Prop := ∃ a vs N, v = .ref a ∧ M = N ++ [(a, Ob.list vs)] ∧ Vals Vs vs N
inductive Arr : List (List Nat × (Value -> Led -> Prop)) -> List Nat -> Prop
 | last (x : List Nat × (Value -> Led -> Prop)) (b : List Nat) : Blank b -> Arr [x] (x.1 ++ (b ++ [93]))
 | lastC (x : List Nat × (Value -> Led -> Prop)) (b b2 : List Nat) : Blank b -> Blank b2 -> Arr [x] (x.1 ++ (b ++ 44 :: (b2 ++ [93])))
 | more (x : List Nat × (Value -> Led -> Prop)) (b b2 : List Nat) (rest : List (List Nat × (Value -> Led -> Prop))) (text : List Nat) : Blank b -> Blank b2 -> Arr rest text -> Arr (x :: rest) (x.1 ++ (b ++ 44 :: (b2 ++ text)))
def ItemOk (item : List Nat) : Prop := ∃ c r, item = c :: r ∧ tomlWsNl.contains c = false ∧ c ≠ 35 ∧ c ≠ 93
theorem Arr.head {items : List (List Nat × (Value -> Led -> Prop))} {text : List Nat} (h : Arr items text) (hi : ∀ x ∈ items, ItemOk x.1) : ∃ c r, text = c :: r ∧ tomlWsNl.contains c = false ∧ c ≠ 35 ∧ c ≠ 93 := by
 cases h with
 | last x b hb => obtain ⟨c, r, e, q⟩ := hi x (.head _); exact ⟨c, _, by rw [e]; rfl, q⟩
 | lastC x b b2 hb hb2 => obtain ⟨c, r, e, q⟩ := hi x (.head _); exact ⟨c, _, by rw [e]; rfl, q⟩
 | more x b b2 rest text hb hb2 hr => obtain ⟨c, r, e, q⟩ := hi x (.head _); exact ⟨c, _, by rw [e]; rfl, q⟩
theorem Blank.first {b ys : List Nat} {d : Nat} (hb : Blank b) (hd : d ≠ 39) : ∃ c r, b ++ d :: ys = c :: r ∧ c ≠ 39 := by
 have ws : ∀ xs : List Nat, (∀ c ∈ xs, tomlWsNl.contains c = true) -> ∀ (d : Nat) (ys : List Nat), d ≠ 39 -> ∃ c r, xs ++ d :: ys = c :: r ∧ c ≠ 39 := by
  intro xs hx d ys hd
  cases xs with
  | nil => exact ⟨d, ys, rfl, hd⟩
  | cons c r => exact ⟨c, _, rfl, fun e => by have := hx c (.head _); rw [e] at this; exact absurd this (by decide)⟩
 cases hb with
 | ws xs hx => exact ws _ hx _ _ hd
 | rem xs ds zs hx _ _ =>
  obtain ⟨c, r, e, q⟩ := ws xs hx 35 (ds ++ (10 :: zs) ++ d :: ys) (by decide)
  exact ⟨c, r, by rw [← e]; simp, q⟩
theorem slice_one {l r : List Nat} {q c : Nat} (h : l.drop q = c :: r) : (⟨(((tx l).cps.toList.drop q).take (q + 1 - q)).toArray⟩ : Str) = tx [c] := by
 rw [tx_list, h]
 have : q + 1 - q = 1 := by walk_at "o"
 rw [this]
 rfl
inductive ArrI (H0 : Heap) (os0 : OsState) (L L₁ : Addr) (m : Str -> Option Value) (D : Led) (a : Addr) (e : Nat) (l ys : List Nat) (t0 : Tok) (pf : Value) (items : List (List Nat × (Value -> Led -> Prop))) (n : Nat) (s : Shared) : Prop
 | mk (q : Nat) (done rest : List (List Nat × (Value -> Led -> Prop))) (txt : List Nat) (vs : List Value) (N : Led) (m' : Str -> Option Value) (t : Tok) (_ : n = rest.length) (_ : q + txt.length = e) (_ : items = done ++ rest) (_ : Arr rest txt) (_ : l.drop q = txt ++ ys)
  (_ : Vals (done.map (·.2)) vs N) (_ : St H0 os0 L₁ m' (N ++ (a, .list vs) :: (L, .ns m) :: D) s) (_ : m' "src" = some (.str (tx l) t0)) (_ : m' "pos" = some (.int (q : Nat) t)) (_ : m' "array" = some (.ref a)) (_ : m' "parse_float" = some pf)
theorem parse_array_spec (gd : Gd w H0) (hs : Sets w H0) {k : Nat} (hk : 3 ≤ k) {items : List (List Nat × (Value -> Led -> Prop))} {b0 text l ys : List Nat} {p : Nat} {t0 t1 : Tok} {pf : Value} {R : Result -> Shared -> Prop}
  (hlen : items.length ≤ 1000) (hi : ∀ x ∈ items, ItemOk x.1 ∧ VSpec w H0 os0 k x.1 x.2) (hb0 : Blank b0) (ht : Arr items text) (S : St H0 os0 L m D s) (hd : A.depth + (k + 1) < recursionLimit) (hh : A.handled = none)
  (hn : l.length ≤ 16777216) (hl : l.drop p = 91 :: (b0 ++ text) ++ ys)
  (h : ∀ a v N t s', ArrV (items.map (·.2)) v N -> St H0 os0 L m ((a, .tup [.int ((p + 1 + b0.length + text.length : Nat) : Int) t, v]) :: (N ++ D)) s' -> R (.ok (.ret (.ref a))) s') :
  codeAny (model pw w) A (.call (.ref 725) ⟨[.str (tx l) t0, .int (p : Nat) t1, pf], []⟩) R s := by
 obtain ⟨c0, r0, e0, h01, h02, h03⟩ := ht.head fun x hx => (hi x hx).1
 have hl1 : l.drop (p + 1) = b0 ++ c0 :: (r0 ++ ys) := by
  have := drop_next (c := 91) (r := b0 ++ text ++ ys) (by rw [hl]; rfl)
  rw [this, e0]; simp
 have hp1 : p + 1 ≤ l.length := by have := drop_lt (c := 91) (r := b0 ++ text ++ ys) (by rw [hl]; rfl); lia
 have hl2 : l.drop (p + 1 + b0.length) = text ++ ys := by rw [zD hl1, e0]; rfl
 refine r_enter (binds := [("src", .str (tx l) t0), ("pos", .int (p : Nat) t1), ("parse_float", pf)]) gd S (gd.K 725 _ rfl) rfl (by kernel_rfl) rfl (.of_eq rfl) (by walk_at "o") rfl rfl fun L₁ s₁ S => ?_
 dsimp only [mOf, List.foldl] at S
 refine genx fun Q1 E1 hQ => ?_
 walk_at "g"
 refine skip_blank_spec (A := A.deeper _) gd (by assumption) hs (show A.depth + 3 < recursionLimit by walk_at "o") hh hn hb0 hl1 h01 h02 fun _ _ _ => ?_
 walk_at "g"
 refine r_starts (e := [93]) (by assumption) (by simp) fun _ _ => ?_
 rw [starts_no (d := c0) (r := r0 ++ ys) (by rw [hl2, e0]; rfl) h03]
 walk_at "g"
 try dsimp only
 rename_i a _ _ _ _ _ _ _ _ _ _ _ _ _ S
 have hAd : ∀ f fd, (A.deeper (callEnv fd L₁ f)).handled = none := fun f fd => hh
 refine r_while (ArrI H0 os0 L L₁ m D a (p + 1 + b0.length + text.length) l ys t0 pf items) (fun _ => False) ?_ items.length
  ⟨p + 1 + b0.length, [], items, text, [], [], _, _, rfl, rfl, rfl, ht, hl2, .nil, S, by walk_at "l", by walk_at "l", by walk_at "l", by walk_at "l"⟩ fun _ q => q.elim
 intro n s hI
 with_reducible refine genw fun T' P' hT hP => ?_
 with_reducible refine hid fun G hG => ?_
 obtain ⟨q, done, rest, txt, vs, N, m', t, rfl, hsum, hit, hA, hq, hV, S, g1, g2, g3, g4⟩ := hI
 refine hG ?_
 have hlv : vs.length ≤ 1000 := by
  rw [hV.length, List.length_map]
  have := congrArg List.length hit
  simp at this
  lia
 have hcase : ∃ x more b d zs, rest = x :: more ∧ txt ++ ys = x.1 ++ (b ++ d :: zs) ∧ Blank b ∧ ((d = 93 ∧ more = [] ∧ zs = ys ∧ txt.length = x.1.length + b.length + 1) ∨
   (d = 44 ∧ ((∃ b2, more = [] ∧ Blank b2 ∧ zs = b2 ++ 93 :: ys ∧ txt.length = x.1.length + b.length + 1 + b2.length + 1) ∨
    ∃ b2 txt2, Blank b2 ∧ Arr more txt2 ∧ zs = b2 ++ (txt2 ++ ys) ∧ txt.length = x.1.length + b.length + 1 + b2.length + txt2.length))) := by
  cases hA with
  | last x b hb => exact ⟨x, [], b, 93, ys, rfl, by simp, hb, .inl ⟨rfl, rfl, rfl, by simp; lia⟩⟩
  | lastC x b b2 hb hb2 => exact ⟨x, [], b, 44, b2 ++ 93 :: ys, rfl, by simp, hb, .inr ⟨rfl, .inl ⟨b2, rfl, hb2, rfl, by simp; lia⟩⟩⟩
  | more x b b2 rest text hb hb2 hr => exact ⟨x, rest, b, 44, b2 ++ (text ++ ys), rfl, by simp, hb, .inr ⟨rfl, .inr ⟨b2, text, hb2, hr, rfl, by simp; lia⟩⟩⟩
 obtain ⟨x, more, b, d, zs, hrest, htx, hb, hd3⟩ := hcase
 have outA : ∀ (M N : Led) {ws : List Value}, Out (L, Ob.ns m) (M ++ N ++ (a, .list ws) :: (L, Ob.ns m) :: D) ((M ++ N ++ [(a, .list ws)]) ++ D) := fun M N ws => by
  have := Out.app (Out.keep (q := (a, .list ws)) (Out.head (p := (L, Ob.ns m)) (r := D))) (M ++ N)
  simpa only [List.append_assoc, List.singleton_append] using this
 have hd39 : d ≠ 39 ∧ tomlWsNl.contains d = false ∧ d ≠ 35 := by
  rcases hd3 with ⟨rfl, _⟩ | ⟨rfl, _⟩ <;> exact ⟨by decide, by decide, by decide⟩
 obtain ⟨c, r, hcr, hc39⟩ := hb.first (ys := zs) hd39.1
 have hx := hi x (by rw [hit, hrest]; simp)
 rw [htx] at hq
 have hq1 : l.drop (q + x.1.length) = b ++ d :: zs := zD hq
 have hq2 : l.drop (q + x.1.length + b.length) = d :: zs := zD hq1
 walk_at "g"
 refine hx.2 (A := A.deeper _) S (show A.depth + 1 + k < recursionLimit by walk_at "o") hh hn (by rw [hq, hcr]) hc39 fun tp v M t' s' hVv S => ?_
 walk_at "g"
 replace S := (by assumption : St H0 os0 L₁ _ _ _).tl
 refine r_append ?_
 walk_at "g"
 refine r_appendO S (List.mem_append_right _ (List.mem_append_right _ (.head _))) ?_
 walk_at "g"
 refine zY S (At.app (At.app .head N) M) (zL (by walk_at "o")) fun s S => ?_
 try dsimp only at S ⊢
 rw [← List.append_assoc] at S
 refine S.gen4 "src" "pos" "array" "parse_float" (by walk_at "l") (by walk_at "l") (by walk_at "l") (by walk_at "l") fun m2 g1 g2 g3 g4 S => ?_
 have hV2 : Vals ((done ++ [x]).map (·.2)) (vs ++ [v]) (M ++ N) := by rw [List.map_append]; exact hV.snoc hVv
 walk_at "g"
 refine skip_blank_spec (A := A.deeper _) gd (by assumption) hs (show A.depth + 3 < recursionLimit by walk_at "o") hh hn hb hq1 hd39.2.1 hd39.2.2 fun _ _ _ => ?_
 walk_at "g"
 rename_i S
 revert hq2 S
 refine gnlE (q + x.1.length + b.length) ?_
 intro q2 hq0 hq2 S
 have hlt := drop_lt hq2
 refine r_sliceQ (by assumption) (by walk_at "o") (by rw [tx_len]; lia) (by rw [tx_len]; exact hn) fun _ s S => ?_
 rw [slice_one hq2]
 walk_at "g"
 rcases hd3 with ⟨rfl, rfl, rfl, hlen3⟩ | ⟨rfl, hd4⟩
 ·first | refine ifp (by decide) ?_ | rw [if_pos (by decide)]
  walk_at "g"
  rename_i S
  have e : q2 + 1 = p + 1 + b0.length + text.length := by walk_at "o"
  rw [e] at S
  refine hT _ _ (hQ _ _ ?_)
  refine h _ _ ((M ++ N) ++ [(a, .list (vs ++ [v]))]) _ _ ⟨a, vs ++ [v], M ++ N, rfl, rfl, by rw [hit, hrest]; exact hV2⟩ (S.out (.keep ?_))
  exact outA M N
 ·refine ifn (by decide) ?_
  walk_at "g"
  refine ifn (by decide) ?_
  walk_at "g"
  rename_i S
  refine S.gen4 "src" "pos" "array" "parse_float" (by walk_at "l") (by walk_at "l") (by walk_at "l") (by walk_at "l") fun m3 g1 g2 g3 g4 S => ?_
  have hq3 : l.drop (q2 + 1) = zs := drop_next hq2
  rcases hd4 with ⟨b2, rfl, hb2, rfl, hlen3⟩ | ⟨b2, txt2, hb2, hA2, rfl, hlen3⟩
  ·refine skip_blank_spec (A := A.deeper _) gd (by assumption) hs (show A.depth + 3 < recursionLimit by walk_at "o") hh hn hb2 hq3 (by decide) (by decide) fun _ _ _ => ?_
   walk_at "g"
   have hq4 : l.drop (q2 + 1 + b2.length) = [93] ++ ys := zD hq3
   refine r_starts (e := [93]) (by assumption) (by simp) fun _ _ => ?_
   rw [starts_yes hq4]
   walk_at "g"
   rename_i S
   have e : q2 + 1 + b2.length + 1 = p + 1 + b0.length + text.length := by walk_at "o"
   rw [e] at S
   refine hT _ _ (hQ _ _ ?_)
   exact h _ _ ((M ++ N) ++ [(a, .list (vs ++ [v]))]) _ _ ⟨a, vs ++ [v], M ++ N, rfl, rfl, by rw [hit, hrest]; exact hV2⟩ (S.out (.keep (outA M N)))
  ·obtain ⟨c2, r2, e2, i1, i2, i3⟩ := hA2.head fun y hy => (hi y (by rw [hit, hrest]; simp [hy])).1
   refine skip_blank_spec (A := A.deeper _) gd (by assumption) hs (show A.depth + 3 < recursionLimit by walk_at "o") hh hn hb2 (c := c2) (ys := r2 ++ ys) (by rw [hq3, e2]; rfl) i1 i2 fun _ _ _ => ?_
   walk_at "g"
   have hq4 : l.drop (q2 + 1 + b2.length) = txt2 ++ ys := zD hq3
   refine r_starts (e := [93]) (by assumption) (by simp) fun _ _ => ?_
   rw [starts_no (d := c2) (r := r2 ++ ys) (by rw [hq4, e2]; rfl) i3]
   walk_at "g"
   rename_i S
   exact hT _ _ ⟨more.length, by rw [hrest]; simp, q2 + 1 + b2.length, done ++ [x], more, txt2, vs ++ [v], M ++ N, _, _, rfl, by walk_at "o", by rw [hit, hrest]; simp, hA2, hq4, hV2, S, by walk_at "l", by walk_at "l", by walk_at "l", by walk_at "l"⟩
theorem parse_array_empty (gd : Gd w H0) (hs : Sets w H0) {b0 l ys : List Nat} {p : Nat} {t0 t1 : Tok} {pf : Value} {R : Result -> Shared -> Prop} (hb0 : Blank b0) (S : St H0 os0 L m D s) (hd : A.depth + 4 < recursionLimit) (hh : A.handled = none)
  (hn : l.length ≤ 16777216) (hl : l.drop p = 91 :: (b0 ++ [93]) ++ ys)
  (h : ∀ a v N t s', ArrV [] v N -> St H0 os0 L m ((a, .tup [.int ((p + 1 + b0.length + 1 : Nat) : Int) t, v]) :: (N ++ D)) s' -> R (.ok (.ret (.ref a))) s') :
  codeAny (model pw w) A (.call (.ref 725) ⟨[.str (tx l) t0, .int (p : Nat) t1, pf], []⟩) R s := by
 have hl1 : l.drop (p + 1) = b0 ++ 93 :: ys := by
  have := drop_next (c := 91) (r := b0 ++ [93] ++ ys) (by rw [hl]; rfl)
  rw [this]; simp
 have hl2 : l.drop (p + 1 + b0.length) = [93] ++ ys := zD hl1
 refine r_enter (binds := [("src", .str (tx l) t0), ("pos", .int (p : Nat) t1), ("parse_float", pf)]) gd S (gd.K 725 _ rfl) rfl (by kernel_rfl) rfl (.of_eq rfl) (by walk_at "o") rfl rfl fun L₁ s₁ S => ?_
 dsimp only [mOf, List.foldl] at S
 walk_at "g"
 refine skip_blank_spec (A := A.deeper _) gd (by assumption) hs (show A.depth + 3 < recursionLimit by walk_at "o") hh hn hb0 hl1 (by decide) (by decide) fun _ _ _ => ?_
 walk_at "g"
 refine r_starts (e := [93]) (by assumption) (by simp) fun _ _ => ?_
 rw [starts_yes hl2]
 walk_at "g"
 rename_i S
 refine h _ _ [(_, .list [])] _ _ ?_ (S.out (.keep (.keep .head)))
 exact ⟨_, [], [], rfl, rfl, .nil⟩
theorem pv_arr (gd : Gd w H0) (hs : Sets w H0) {k : Nat} (hk : 3 ≤ k) {items : List (List Nat × (Value -> Led -> Prop))} {b0 text : List Nat}
  (hlen : items.length ≤ 1000) (hi : ∀ x ∈ items, ItemOk x.1 ∧ VSpec w H0 os0 k x.1 x.2) (hb0 : Blank b0) (ht : Arr items text) : VSpec w H0 os0 (k + 2) (91 :: (b0 ++ text)) (ArrV (items.map (·.2))) := by
 intro L m D s A R l ys p c t0 t1 pf S hd hh hn hl hc h
 refine r_enter (binds := [("src", .str (tx l) t0), ("pos", .int (p : Nat) t1), ("parse_float", pf)]) gd S (gd.K 782 _ rfl) rfl (by kernel_rfl) rfl (.of_eq rfl) (by walk_at "o") rfl rfl fun L₁ s₁ S => ?_
 dsimp only [mOf, List.foldl] at S
 walk_at "g"
 refine r_tryN ?_
 walk_at "g"
 refine r_chrC (c := 91) (r := b0 ++ text ++ c :: ys) (by assumption) (by rw [hl]; rfl) hn fun _ _ _ => ?_
 walk_at "g"
 first | refine ifn (by decide) ?_ | rw [if_neg (by decide)]
 walk_at "g"
 first | refine ifn (by decide) ?_ | rw [if_neg (by decide)]
 walk_at "g"
 first | refine ifn (by decide) ?_ | rw [if_neg (by decide)]
 walk_at "g"
 first | refine ifn (by decide) ?_ | rw [if_neg (by decide)]
 walk_at "g"
 first | refine ifp (by decide) ?_ | rw [if_pos (by decide)]
 walk_at "g"
 refine parse_array_spec (A := A.deeper _) gd hs hk hlen hi hb0 ht (by assumption) (show A.depth + 1 + (k + 1) < recursionLimit by walk_at "o") hh hn hl fun a v N t s hv S => ?_
 walk_at "g"
 have e : p + 1 + b0.length + text.length = p + (91 :: (b0 ++ text)).length := by simp; lia
 rw [e] at S
 exact h _ _ _ _ _ hv (S.out (.keep (Out.app .head N)))
theorem pv_arr0 (gd : Gd w H0) (hs : Sets w H0) {b0 : List Nat} (hb0 : Blank b0) : VSpec w H0 os0 5 (91 :: (b0 ++ [93])) (ArrV []) := by
 intro L m D s A R l ys p c t0 t1 pf S hd hh hn hl hc h
 refine r_enter (binds := [("src", .str (tx l) t0), ("pos", .int (p : Nat) t1), ("parse_float", pf)]) gd S (gd.K 782 _ rfl) rfl (by kernel_rfl) rfl (.of_eq rfl) (by walk_at "o") rfl rfl fun L₁ s₁ S => ?_
 dsimp only [mOf, List.foldl] at S
 walk_at "g"
 refine r_tryN ?_
 walk_at "g"
 refine r_chrC (c := 91) (r := b0 ++ [93] ++ c :: ys) (by assumption) (by rw [hl]; rfl) hn fun _ _ _ => ?_
 walk_at "g"
 first | refine ifn (by decide) ?_ | rw [if_neg (by decide)]
 walk_at "g"
 first | refine ifn (by decide) ?_ | rw [if_neg (by decide)]
 walk_at "g"
 first | refine ifn (by decide) ?_ | rw [if_neg (by decide)]
 walk_at "g"
 first | refine ifn (by decide) ?_ | rw [if_neg (by decide)]
 walk_at "g"
 first | refine ifp (by decide) ?_ | rw [if_pos (by decide)]
 walk_at "g"
 refine parse_array_empty (A := A.deeper _) gd hs hb0 (by assumption) (show A.depth + 1 + 4 < recursionLimit by walk_at "o") hh hn hl fun a v N t s hv S => ?_
 walk_at "g"
 have e : p + 1 + b0.length + 1 = p + (91 :: (b0 ++ [93])).length := by simp; lia
 rw [e] at S
 exact h _ _ _ _ _ hv (S.out (.keep (Out.app .head N)))
theorem putL_len (name : Str) (hsh : Int) (key v : Value) : ∀ es : List DictEntry, (putL name hsh key v es).length ≤ es.length + 1
 | [] => Nat.le_refl _
 | e :: r => by
  unfold putL
  split
  ·simp
  ·have := putL_len name hsh key v r
   simp; lia
theorem no_ref {name : Str} {es : List DictEntry} (h : (getL name es).isSome = true) : (!es.any (·.key.isStr name) && es.any (·.refKey)) = false := by
 change (match es.find? (·.key.isStr name) with | some e => some (some e.val) | none => if es.any (·.refKey) then none else some none : Option (Option Value)).isSome = true at h
 cases hf : es.find? (·.key.isStr name) with
 | some e => rw [List.any_eq_true.mpr ⟨e, List.mem_of_find?_eq_some hf, List.find?_some hf⟩]; rfl
 | none =>
  rw [hf] at h
  replace h := h
  cases hr : es.any (·.refKey) with
  | true => rw [hr] at h; cases h
  | false => exact Bool.and_false _
section
variable {w : World} {H0 : Heap} {os0 : OsState} {L : Addr} {m : Str -> Option Value} {D : Led} {s : Shared} {A : Around} {E : QV} {env : Env} {C x dx : Addr} {es : List DictEntry} {n : Nat}
theorem inst_at (S : St H0 os0 L m D s) (hx : (x, .raw (instObj C dx)) ∈ D) (hd : (dx, .raw (dictOf es n)) ∈ D) : InstAt s.heap x (instObj C dx) C (some (dictOf es n)) :=
 ⟨S.get hx, rfl, rfl, (S.get hd : s.heap.get? dx = some (dictOf es n))⟩
theorem r_make {rest : List Value} {kw : List (Str × Value)} {fI : Addr} {R : Result -> Shared -> Prop} (gd : Gd w H0) (S : St H0 os0 L m D s) (hm : makesIn (Kf w.params) C = true)
  (hi : findIn (Kf w.params) (.ref C) "__init__" = some (some (.ref fI))) (hf : typeIn (Kf w.params) (.ref fI) = some (.type "function"))
  (h : ∀ x dx s', St H0 os0 L m ((x, .raw (instObj C dx)) :: (dx, .raw (dictOf [] 0)) :: D) s' →
   codeAny (model pw w) (A.under (.builtin "type.__call__" ⟨.ref C :: rest, kw⟩)) (.call (.ref fI) ⟨.ref x :: rest, kw⟩) (InitBack x R) s') :
  codeAny (model pw w) A (.call (.ref C) ⟨rest, kw⟩) R s := by
 have X := gd.K.keeps S.stays
 have S1 : St H0 os0 L m ((s.heap.objs.size, .raw (dictOf [] 0)) :: D) { s with heap := s.heap.push emptyDict, toks := s.toks } := S.push (k := .raw (dictOf [] 0)) (Heap.get?_push_size _ rfl)
 have S2 := S1.push (t := s.toks) (o := instObj C s.heap.objs.size) (k := .raw (instObj C s.heap.objs.size)) (Heap.get?_push_size _ rfl)
 have e : (s.heap.push emptyDict).objs.size = s.heap.objs.size + 1 := Heap.size_push ..
 obtain ⟨hh, g, d, t, os⟩ := s
 refine make_core (makes_of X hm) (looks_findIn X hi) (fun self => bind_fn X self hf) (.inl rfl) (h _ hh.objs.size _ ?_)
 have e' : (hh.push emptyDict).objs.size = hh.objs.size + 1 := e
 dsimp only at S2
 rw [e'] at S2
 exact S2
theorem r_getown {name : Str} {v : Value} {expr : Bool} {attr : Option Value} {Q : QV} (gd : Gd w H0) (S : St H0 os0 L m D s) (hx : (x, .raw (instObj C dx)) ∈ D) (hd : (dx, .raw (dictOf es n)) ∈ D) (hv : getL name es = some (some v))
  (hg : plainGet (Kf w.params) C name = true) (hh : hasDictIn (Kf w.params) C = true) (ha : findIn (Kf w.params) (.ref C) name = some attr) (hn : noGet (Kf w.params) attr = true) (ho : handedIn v = true)
  (h : ∀ s', St H0 os0 L m D s' -> Q v s') : wpAny (model pw w) A (getAttr (.ref x) name expr) Q E s := by
 exact get_value (gd.K.keeps S.stays) (inst_at S hx hd) (plainGet_of hg).1 (findObj_own hh ha hn (by rw [lookIn_dict, hv])) ho (h _ (S.tok _))
theorem r_methfn {name : Str} {f : Addr} {pl : Sem Bool} {Q : Value × List Value -> Shared -> Prop} (gd : Gd w H0) (S : St H0 os0 L m D s) (hx : (x, .raw (instObj C dx)) ∈ D) (hd : (dx, .raw (dictOf es n)) ∈ D)
  (hf : findIn (Kf w.params) (.ref C) name = some (some (.ref f))) (hg : plainGet (Kf w.params) C name = true) (ht : isFn (Kf w.params) (.ref f) = true) (hm : getL name es = some none) (h : Q (.ref f, [.ref x]) s) :
  wpAny (model pw w) A (getMethod (.ref x) name pl) Q E s := by
 exact method_fn (gd.K.keeps S.stays) (inst_at S hx hd) (plainGet_of hg).1 (plainGet_of hg).2 hf (beq_iff_eq.mp ht) (by show (lookIn name (dictOf es n)).map _ = _; rw [lookIn_dict, hm]; rfl) h
theorem r_setown {name : Str} {v : Value} {F : Ob -> Led} {Q : QU} (gd : Gd w H0) (S : St H0 os0 L m D s) (hx : (x, .raw (instObj C dx)) ∈ D) (hd : At dx (.raw (dictOf es n)) D F)
  (hs : findIn (Kf w.params) (.ref C) "__setattr__" = some (some (.builtin "object.__setattr__"))) (hp : plainOver (Kf w.params) C = true) (ht : takerIn (Kf w.params) C name = some none) (hh : hasDictIn (Kf w.params) C = true)
  (hl : (getL name es).isSome = true) (hz : es.length ≤ 100)
  (h : ∀ t s', St H0 os0 L m (F (.raw (dictOf (putL name (PyData.keyHash w.params name) (.str name t) v es) (putN name es n)))) s' -> Q () s') : wpAny (model pw w) A (setAttr (.ref x) name v) Q E s := by
 have I := inst_at S hx hd.mem
 have X := gd.K.keeps S.stays
 obtain ⟨cd, hc, hd'⟩ := any_some hh
 have Dd : s.heap.get? dx = some (dictOf es n) := S.get hd.mem
 refine set_plain X I hs (osa_open (s := { s with toks := s.toks + 1 }) X I hp ht fun b => ?_)
 refine wB (wP (wB (wB (wpAny_loadPart (s := { s with toks := s.toks + 1 }) I.at_ (wB (Looks.here (s := { s with toks := s.toks + 1 }) (looks_clsIn X hc) ?_))))))
 rw [hd']
 refine wP (a := some dx) (wB (wP (wB ?_)))
 unfold nsSet
 refine wB (wB (wpAny_askSetting (wP (wB (wpAny_mkText (wB (wpAny_loadPart (o := dictOf es n) Dd ?_)))))))
 have hno : (!es.toArray.any (·.key.isStr name) && es.toArray.any (·.refKey)) = false := by
  rw [List.any_toArray, List.any_toArray]
  exact no_ref hl
 have hlen : (putL name (PyData.keyHash w.params name) (.str name (s.toks + 1)) v es).length ≤ es.length + 1 := putL_len ..
 have hup : Obj.putName name (PyData.keyHash w.params name) (.str name (s.toks + 1)) v (dictOf es n) = dictOf (putL name (PyData.keyHash w.params name) (.str name (s.toks + 1)) v es) (putN name es n) := putName_dict ..
 try dsimp only
 rw [aRefKeyMayBeTheName_at, hno]
 refine wpAny_updatePart (o := dictOf es n) Dd ?_
 have D' : (s.heap.update dx (Obj.putName name (PyData.keyHash w.params name) (.str name (s.toks + 1)) v)).get? dx = some (dictOf (putL name (PyData.keyHash w.params name) (.str name (s.toks + 1)) v es) (putN name es n)) := by
  rw [← hup]
  exact Heap.get?_update_self _ Dd (by rw [hup]; rfl)
 refine wB (wpAny_lookBehind (o := dictOf (putL name (PyData.keyHash w.params name) (.str name (s.toks + 1)) v es) (putN name es n)) D' (pastItsLine_dict (by rw [List.size_toArray, sizeLine_eq]; lia)) ?_)
 exact wP (h _ _ (S.change (k' := .raw _) hd (Heap.SameBut.update ..) D'))
end
@[reducible] noncomputable def dicO (w : World) (kvs : List (Str × Value)) : Ob := .obj fun o => o.IsDictOf (PySem.strKind pw w) kvs
section
variable {w : World} {H0 : Heap} {os0 : OsState} {L : Addr} {m : Str -> Option Value} {D : Led} {s : Shared} {A : Around} {E : QV} {env : Env} {kvs : List (Str × Value)} {d : Addr} {k : Str} {v : Value} {t : Tok}
theorem St.dic (S : St H0 os0 L m D s) (hd : (d, dicO w kvs) ∈ D) : s.heap.DictOf (PySem.strKind pw w) d kvs := by
 obtain ⟨o, ho, hi⟩ : ∃ o, s.heap.get? d = some o ∧ o.IsDictOf (PySem.strKind pw w) kvs := S.get hd
 exact Heap.dictOf_iff.mpr ⟨o, ho, hi⟩
theorem r_dict0 {pos : Pos} {Q : QV} (S : St H0 os0 L m D s) (h : ∀ d s', St H0 os0 L m ((d, dicO w []) :: D) s' -> Q (.ref d) s') : wpAny (model pw w) A (PySem.eval (.Dict [] [] pos) env) Q E s := by
 refine wpAny_Dict_empty (h _ _ (S.push (t := s.toks) (k := dicO w []) ?_))
 exact Heap.dictOf_iff.mp (Heap.DictOf.new s.heap)
theorem r_dget {value slice : Expr} {Q : QV} (S : St H0 os0 L m D s) (hd : (d, dicO w kvs) ∈ D) (hv : valueAt kvs k = some v) (h : ∀ s', St H0 os0 L m D s' -> Q v s') (hs : autoParam (isSlice slice = false) aR._auto_1) :
  wpAny (model pw w) A (subscriptTail value slice (.ref d) (.str k t)) Q E s :=
 tail_any (S.dic hd).typeIs slot_dict_getitem.lookup (wpAny_getItem_of (strKind_is pw w k t) (S.dic hd).mapOf hv (h _ (S.tok _))) (zU hs _ _)
theorem not_mods (gd : Gd w H0) (S : St H0 os0 L m D s) {k : Ob} (hd : (d, k) ∈ D) : (d == sysModules) = false := by
 obtain ⟨o, ho⟩ := gd.mods
 rw [beq_eq_false_iff_ne]
 intro e
 have := (S.ob _ hd).2
 rw [show d = sysModules from e] at this
 rw [this] at ho
 cases ho
theorem r_din {Q : QV} (gd : Gd w H0) (S : St H0 os0 L m D s) (hd : (d, dicO w kvs) ∈ D) (h : ∀ s', St H0 os0 L m D s' -> Q (.bool (valueAt kvs k).isSome) s') :
  wpAny (model pw w) A (compareOp .In (.str k t) (.ref d)) Q E s :=
 wpAny_in_of (strKind_is pw w k t) (not_mods gd S hd) (S.dic hd).mapOf (h _ (S.tok _))
theorem r_dnin {Q : QV} (gd : Gd w H0) (S : St H0 os0 L m D s) (hd : (d, dicO w kvs) ∈ D) (h : ∀ s', St H0 os0 L m D s' -> Q (.bool (!(valueAt kvs k).isSome)) s') :
  wpAny (model pw w) A (compareOp .NotIn (.str k t) (.ref d)) Q E s :=
 wpAny_notIn_of (strKind_is pw w k t) (not_mods gd S hd) (S.dic hd).mapOf (h _ (S.tok _))
theorem r_dset {F : Ob -> Led} {Q : QU} (S : St H0 os0 L m D s) (hd : At d (dicO w kvs) D F) (hz : kvs.length ≤ 1000) (h : ∀ s', St H0 os0 L m (F (dicO w (stored kvs k v))) s' -> Q () s') :
  wpAny (model pw w) A (setItem (.ref d) (.str k t) v) Q E s := by
 refine wpAny_setItem_pairs (strKind_is pw w k t) (S.dic hd.mem) (fun h' hm hs => ?_) (by rw [sizeLine_eq]; lia)
 exact h _ (S.change hd hs (Heap.dictOf_iff.mp hm))
theorem r_callb0 {x : Str} {np pos : Pos} {v : Value} {Q : QV} (gd : Gd w H0) (S : St H0 os0 L m D s)
  (hn : nsIn (Kf w.params) mainGlobals x = some none) (hv : bootBuiltins x = some v) (hk : keeperOf v = pure .machine) (h : wpAny (model pw w) A (call v []) Q E s)
  (hG : autoParam (env.globals = mainGlobals) aR._auto_1) (hB : autoParam (env.builtins = builtinsNs) aR._auto_1) (hkd : autoParam (env.scope.kind = .function) aR._auto_1) (hl : autoParam (env.kindOf x = some .globalImplicit) aR._auto_1) (hd : autoParam ((x == ("__debug__" : Str)) = false) aD._auto_1)
  (hnn : autoParam (x ≠ "__name__") aD._auto_1) : wpAny (model pw w) A (PySem.eval (.Call (.Name x np) [] [] pos) env) Q E s :=
 wpAny_Call_NameR (r_builtin gd S hn hv (callWith_of (P := fun _ => True) rfl (fun _ _ => ⟨.machine, .inr (.inl rfl), Looks.of_pure hk⟩) (evalArgs_nil3 ⟨trivial, h⟩)) hG hB hkd hl hd hnn)
theorem r_callf0 {x : Str} {np pos : Pos} {f : Addr} {Q : QV} (gd : Gd w H0) (S : St H0 os0 L m D s)
  (hn : nsIn (Kf w.params) mainGlobals x = some (some (.ref f))) (hk : keepIn (Kf w.params) (.ref f) = true)
  (h : codeAny (model pw w) A (.call (.ref f) ⟨[], []⟩) (Back Q E) s)
  (hG : autoParam (env.globals = mainGlobals) aR._auto_1) (hkd : autoParam (env.scope.kind = .function) aR._auto_1) (hl : autoParam (env.kindOf x = some .globalImplicit) aR._auto_1) (hd : autoParam ((x == ("__debug__" : Str)) = false) aD._auto_1) :
  wpAny (model pw w) A (PySem.eval (.Call (.Name x np) [] [] pos) env) Q E s :=
 wpAny_Call_NameR (r_global gd S hn (callWith_K0 (gd.K.keeps S.stays) hk (wpAny_call h)) hG hkd hl hd)
@[reducible] noncomputable def setObj0 (led : Bool) : Obj := { cls := .type "set", dict := none, data := .set #[] 0 (.fresh 0 0 led) }
theorem r_set0 {Q : QV} (S : St H0 os0 L m D s) (h : ∀ a led s', St H0 os0 L m ((a, .raw (setObj0 led)) :: D) s' -> Q (.ref a) s') : wpAny (model pw w) A (call (.type "set") []) Q E s :=
 call_set_0 fun led => h _ led _ (S.push (t := s.toks) (Heap.get?_push_size _ rfl))
theorem r_neg {a : Int} {t : Tok} {Q : QV} (S : St H0 os0 L m D s) (h : ∀ t s', St H0 os0 L m D s' -> Q (.int (-a) t) s') : wpAny (model pw w) A (unaryOp .USub (.int a t)) Q E s :=
 PySem.P.neg_int (h _ _ (S.tok _))
theorem r_truthyT {a : Addr} {vs : List Value} {Q : QB} (S : St H0 os0 L m D s) (ha : (a, .tup vs) ∈ D) (hb : vs.length < 2 ^ 62) (h : ∀ s', St H0 os0 L m D s' -> Q (!vs.isEmpty) s') : wpAny (model pw w) A (truthy (.ref a)) Q E s := by
 refine PyProof.Rows.truthy_tuple (S.tp ha) (by simp; lia) ?_
 have := h { s with toks := s.toks + 1 + 1 } (S.tok _)
 simpa using this
theorem r_truthyT1 {a : Addr} {v : Value} {vs : List Value} {Q : QB} (S : St H0 os0 L m D s) (ha : (a, .tup (v :: vs)) ∈ D) (hb : vs.length < 2 ^ 61) (h : ∀ s', St H0 os0 L m D s' -> Q true s') : wpAny (model pw w) A (truthy (.ref a)) Q E s :=
 r_truthyT S ha (by simp; lia) h
theorem r_truthyT0 {a : Addr} {Q : QB} (S : St H0 os0 L m D s) (ha : (a, .tup []) ∈ D) (h : ∀ s', St H0 os0 L m D s' -> Q false s') : wpAny (model pw w) A (truthy (.ref a)) Q E s :=
 r_truthyT S ha (by simp) h
theorem r_itemTm1 {a : Addr} {vs : List Value} {v : Value} {t : Tok} {value slice : Expr} {Q : QV} (S : St H0 os0 L m D s) (ha : (a, .tup (vs ++ [v])) ∈ D) (hb : vs.length < 2 ^ 61) (h : Q v s)
  (hs : autoParam (isSlice slice = false) aR._auto_1) : wpAny (model pw w) A (subscriptTail value slice (.ref a) (.int (-1) t)) Q E s :=
 item_tupleT (j := vs.length) (S.tp ha) (by walk_at "o") (by walk_at "o") (by unfold seqIndex?; simp; lia) (by simp) h (zU hs _ _)
theorem getItem_tup_m1 {t sl : Addr} {v : Value} {u : Tok} {Q : QV} (ht : IsTup s.heap t #[v]) (hs : s.heap.IsSliceOf sl .none (.int (-1) u) .none)
  (h : Q (.ref s.heap.objs.size) { s with heap := s.heap.push { cls := .type "tuple", data := .seq #[] } }) : wpAny (model pw w) A (getItem (.ref t) (.ref sl)) Q E s := by
 obtain ⟨os, hos, hcs, hds⟩ := id hs
 have hTs : s.TypeIs (.ref sl) "slice" := ⟨os, hos, hcs⟩
 unfold getItem
 with_reducible refine wpAny_holding ?_
 refine wB (wpAny_sequenceKey ht.typeIs (by decide) ?_)
 refine wB (wpAny_callSpecial?_slot (name := Str.ofString "__getitem__") ht.typeIs slot_tuple_getitem
  (wpAny_call_entry slot_tuple_getitem ht.typeIs entry_tuple_getitem ?_ (args_tuple_getitem _ _)))
 show wpAny _ _ (Builtin.Tuple.tupleItemsOf (.ref t) >>= _) _ _ s
 refine wB (tupleItemsOf_ ht ?_)
 refine wB (wpAny_typeOf hTs ?_)
 first | refine ifp (by decide) ?_ | rw [if_pos (by decide)]
 have hap : wpAny (model pw w) A.in1 (Builtin.Slice.sliceApplied (.ref sl) (pure ((1 : Nat) : Int))) (fun r s' => r = ((0 : Int), (1 : Int), 0) ∧ s' = s) E s := by
  unfold Builtin.Slice.sliceApplied Builtin.Slice.sliceFields
  refine wB (wB (wpAny_field hos hds (x := .none) rfl (wB (wpAny_field hos hds (x := .int (-1) u) rfl (wB (wpAny_field hos hds (x := .none) rfl (wP ?_)))))))
  refine wB (slicePart_none ?_)
  show wpAny _ _ (if ((1 : Int) == 0) = true then _ else _) _ _ s
  first | refine ifn (by decide) ?_ | rw [if_neg (by decide)]
  refine wB (slicePart_none (wB (slicePart_int (wB (wP ?_)))))
  exact wP ⟨by decide, rfl⟩
 refine wB (wM hap (fun r s' q => ?_) fun _ _ q => q)
 obtain ⟨rfl, rfl⟩ := q
 show wpAny _ _ (if ((0 : Int) == 0 && (1 : Int) == 1 && (0 : Nat) == 1) = true then _ else _) _ _ _
 first | refine ifn (by decide) ?_ | rw [if_neg (by decide)]
 have hpick : (((List.range 0).filterMap fun (k : Nat) => (#[v] : Array Value)[((0 : Int) + (k : Int) * 1).toNat]?).toArray) = #[] := rfl
 rw [hpick]
 have hz : sizeOk (.seq #[]) := Nat.zero_le _
 first
  | exact wB (m := Builtin.Tuple.tupleExact _) (wpAny_newObj_type (wP ⟨_, rfl, wP h⟩) hz)
  | exact wB (m := Builtin.Tuple.tupleExact _) (wpAny_newObj_type (wB (wP (wP ⟨_, rfl, wP h⟩))) hz)
  | exact wB (wB (m := Builtin.Tuple.tupleExact _) (wpAny_newObj_type (wP (wP ⟨_, rfl, wP h⟩)) hz))
  | exact wB (wB (m := Builtin.Tuple.tupleExact _) (wpAny_newObj_type (wP ⟨_, rfl, wP h⟩) hz))
theorem r_tslice {value e : Expr} {p pos : Pos} {Q : QV}
  (h : wpAny (model pw w) A (PySem.eval value env) (fun o s₁ => wpAny (model pw w) A (PySem.eval e env) (fun vu s₂ => ∃ t v u H0 os0 L m D, o = .ref t ∧ vu = .int (-1) u ∧ St H0 os0 L m D s₂ ∧ (t, .tup [v]) ∈ D ∧ ∀ a s', St H0 os0 L m ((a, .tup []) :: D) s' -> Q (.ref a) s') E s₁) E s)
  (ht : autoParam (∀ o r, letTemporaryGo value o r = pure ()) aJ._auto_1) :
  wpAny (model pw w) A (PySem.eval (.Subscript value (.Slice none (some e) none p) pos) env) Q E s := by
 refine wpAny_Subscript_Slice (T := "tuple") slot_tuple_getitem.lookup (wM h (fun o s₁ h₁ => wpAny_Slice (evalPart_none_step (evalPart_some_step (wM h₁ (fun vu s₂ h₂ => evalPart_none_step ?_) fun _ _ q => q)))) fun _ _ q => q) ht
 obtain ⟨t, v, u, H0, os0, L, m, D, rfl, rfl, S, ht, hk⟩ := h₂
 have S2 := S.push (t := s₂.toks) (o := { cls := .type "slice", data := .fields #[.none, .int (-1) u, .none] }) (k := .raw { cls := .type "slice", data := .fields #[.none, .int (-1) u, .none] }) (Heap.get?_push_size _ rfl)
 have S3 := S2.tl
 refine ⟨(S3.tp ht).typeIs, getItem_tup_m1 (S3.tp ht) (Heap.IsSliceOf.new ..) ?_⟩
 exact hk _ _ (S3.push (t := s₂.toks) (k := .tup []) ⟨0, Heap.get?_push_size _ rfl⟩)
theorem r_unpackItems {a : Addr} {vs : List Value} {n : Nat} {Q : QL} (S : St H0 os0 L m D s) (hh : A.handled = none) (ha : (a, .tup vs) ∈ D) (h : ∀ s', St H0 os0 L m D s' -> Q vs s') (hn : autoParam (n = vs.length) aR._auto_1) :
  wpAny (model pw w) A (unpackItems (.ref a) n none) Q E s := by
 subst hn
 exact unpackItems_tuple hh (S.tp ha) fun h' he => h _ (S.extBut (t := s.toks) he)
theorem r_assignRev2 {v1 v2 : Value} {n1 n2 : Str} {Q : QU} (h : wpAny (model pw w) A (storeName env n2 v2) (fun _ s₂ => wpAny (model pw w) A (storeName env n1 v1) Q E s₂) E s) :
  wpAny (model pw w) A (assignInOrder ([n1, n2].reverse.map fun n => bindName env n) [v1, v2].reverse) Q E s :=
 zA (bindName_ (wM h (fun _ _ q => zA (bindName_ (wM q (fun _ _ q => wpAny_assignInOrder_none q) fun _ _ q => q))) fun _ _ q => q))
theorem r_setadd {a : Addr} {led : Bool} {i : Int} {t : Tok} {F : Ob -> Led} {Q : QV} (S : St H0 os0 L m D s) (ha : At a (.raw (setObj0 led)) D F) (h : ∀ s', St H0 os0 L m (F (.obj fun _ => True)) s' -> Q .none s') :
  wpAny (model pw w) A (call (.builtin "set.add") [.ref a, .int i t]) Q E s := by
 have ho : s.heap.get? a = some (setObj0 led) := S.get ha.mem
 refine call_set_add (knd := PySem.intKind pw w) (k := i) (intKind_is pw w i t) rfl ((PyProof.Rows.setObjOf_fresh (knd := PySem.intKind pw w) led).setOf ho (by unfold scanBound; lia)) (by unfold scanBound; lia) fun h' hs hS => ?_
 obtain ⟨o, es, ep, tb, ho', _⟩ := hS
 exact h _ (S.change (k' := .obj fun _ => True) ha hs ⟨o, ho', trivial⟩)
theorem set_ok {a : Addr} {led : Bool} (S : St H0 os0 L m D s) (ha : (a, .raw (setObj0 led)) ∈ D) : (s.TypeIs (.ref a) "set" ∧ (∀ b, Value.ref a = .ref b -> ∃ ob, s.heap.get? b = some ob ∧ ob.dict = none)) := by
 have ho : s.heap.get? a = some (setObj0 led) := S.get ha
 exact ⟨⟨_, ho, rfl⟩, fun b e => by cases e; exact ⟨_, ho, rfl⟩⟩
theorem r_dict3 {k1 k2 k3 v1 v2 v3 : Expr} {pos : Pos} {Q : QV} (S : St H0 os0 L m D s)
  (h : ∀ d s', St H0 os0 L m ((d, dicO w []) :: D) s' -> wpAny (model pw w) A (PySem.eval k1 env) (fun a1 s₁ => wpAny (model pw w) A (PySem.eval v1 env) (fun b1 s₂ => wpAny (model pw w) A (PySem.eval k2 env) (fun a2 s₃ => wpAny (model pw w) A (PySem.eval v2 env) (fun b2 s₄ =>
   wpAny (model pw w) A (PySem.eval k3 env) (fun a3 s₅ => wpAny (model pw w) A (PySem.eval v3 env) (fun b3 s₆ => ∃ kvs m D₁ F, Carries (PySem.strKind pw w) [(a1, b1), (a2, b2), (a3, b3)] kvs ∧ St H0 os0 L m D₁ s₆ ∧ At d (dicO w []) D₁ F ∧
    ∀ s', St H0 os0 L m (F (dicO w (merged [] kvs))) s' -> Q (.ref d) s') E s₅) E s₄) E s₃) E s₂) E s₁) E s') :
  wpAny (model pw w) A (PySem.eval (.Dict [some k1, some k2, some k3] [v1, v2, v3] pos) env) Q E s := by
 refine wpAny_Dict_pairs (knd := PySem.strKind pw w) (pairs := [(PySem.eval k1 env, do let x ← PySem.eval v1 env; standAt pos; pure x), (PySem.eval k2 env, do let x ← PySem.eval v2 env; standAt pos; pure x), (PySem.eval k3 env, do let x ← PySem.eval v3 env; standAt pos; pure x)]) rfl (by simp) (by simp) ?_
 have S1 := S.push (t := s.toks) (o := { cls := .type "dict", data := .dict #[] }) (k := dicO w []) (Heap.dictOf_iff.mp (Heap.DictOf.new s.heap))
 have pad : ∀ {e : Expr} {s : Shared} {Q : QV}, wpAny (model pw w) A (PySem.eval e env) Q E s -> wpAny (model pw w) A (do let x ← PySem.eval e env; standAt pos; pure x) Q E s := fun q =>
  wB (wM q (fun v s h => wB (wpAny_standAt (wP h))) fun _ _ q => q)
 refine evalPairs_cons (wM (h _ _ S1) (fun a1 s₁ q => pad (wM q (fun b1 s₂ q => evalPairs_cons (wM q (fun a2 s₃ q => pad (wM q (fun b2 s₄ q => evalPairs_cons (wM q (fun a3 s₅ q => pad (wM q (fun b3 s₆ q => evalPairs_nil ?_)
  fun _ _ q => q)) fun _ _ q => q)) fun _ _ q => q)) fun _ _ q => q)) fun _ _ q => q)) fun _ _ q => q)
 obtain ⟨kvs, m, D₁, F, hc, S6, hd, hk⟩ := q
 exact ⟨kvs, hc, S6.dic hd.mem, fun h' hm hs => hk _ (S6.change hd hs (Heap.dictOf_iff.mp hm))⟩
theorem r_dict1 {k1 v1 : Expr} {pos : Pos} {Q : QV} (S : St H0 os0 L m D s)
  (h : ∀ d s', St H0 os0 L m ((d, dicO w []) :: D) s' -> wpAny (model pw w) A (PySem.eval k1 env) (fun a1 s₁ => wpAny (model pw w) A (PySem.eval v1 env) (fun b1 s₂ => ∃ kvs m D₁ F, Carries (PySem.strKind pw w) [(a1, b1)] kvs ∧ St H0 os0 L m D₁ s₂ ∧ At d (dicO w []) D₁ F ∧
    ∀ s', St H0 os0 L m (F (dicO w (merged [] kvs))) s' -> Q (.ref d) s') E s₁) E s') :
  wpAny (model pw w) A (PySem.eval (.Dict [some k1] [v1] pos) env) Q E s := by
 refine wpAny_Dict_pairs (knd := PySem.strKind pw w) (pairs := [(PySem.eval k1 env, do let x ← PySem.eval v1 env; standAt pos; pure x)]) rfl (by simp) (by simp) ?_
 have S1 := S.push (t := s.toks) (o := { cls := .type "dict", data := .dict #[] }) (k := dicO w []) (Heap.dictOf_iff.mp (Heap.DictOf.new s.heap))
 have pad : ∀ {e : Expr} {s : Shared} {Q : QV}, wpAny (model pw w) A (PySem.eval e env) Q E s -> wpAny (model pw w) A (do let x ← PySem.eval e env; standAt pos; pure x) Q E s := fun q =>
  wB (wM q (fun v s h => wB (wpAny_standAt (wP h))) fun _ _ q => q)
 refine evalPairs_cons (wM (h _ _ S1) (fun a1 s₁ q => pad (wM q (fun b1 s₂ q => evalPairs_nil ?_) fun _ _ q => q)) fun _ _ q => q)
 obtain ⟨kvs, m, D₁, F, hc, S6, hd, hk⟩ := q
 exact ⟨kvs, hc, S6.dic hd.mem, fun h' hm hs => hk _ (S6.change hd hs (Heap.dictOf_iff.mp hm))⟩
theorem r_forNone {target iter : Expr} {body rest : List Stmt} {pos : Pos} {Q : QF} (_S : St H0 os0 L m D s) (hh : A.handled = none)
  (h : wpAny (model pw w) A (PySem.eval iter env) (fun x s₁ => ∃ l m D, x = .ref l ∧ St H0 os0 L m D s₁ ∧ (l, .tup []) ∈ D ∧ ∀ s', St H0 os0 L m D s' -> wpAny (model pw w) A (execs rest env) Q E s') (fun _ _ => False) s)
  (hs : autoParam (∀ x, foldedSetIterable iter env x = pure x) aI._auto_1) :
  wpAny (model pw w) A (execs (.For target iter body [] pos :: rest) env) Q E s := by
 refine r_for (fun s' => wpAny (model pw w) A (execs rest env) Q E s') (wM h (fun x s₁ q => ?_) fun _ _ q => q) (fun _ q => q) hs
 obtain ⟨l, m, D, rfl, S, hl, hk⟩ := q
 refine r_iter_tup S hl fun it s S => r_loop (Source.tup hh target it l []) (fun i m' D' => m' = m ∧ D' = D) _ (fun i m' D' q => by rw [q.2]; exact hl) S ⟨rfl, rfl⟩ ?_ ?_
 ·intro i m' D' v N s hi; exact absurd hi (Nat.not_lt_zero _)
 ·rintro m' D' s ⟨rfl, rfl⟩ S
  exact wpAny_execs_nil (hk _ S)
end
noncomputable def nestNs (w : World) (d : Addr) (t : Tok) : Ob := .raw (dictOf (putL "dict" (PyData.keyHash w.params "dict") (.str "dict" t) (.ref d) []) (putN "dict" [] 0))
noncomputable def nestL (w : World) (x dx d : Addr) (t : Tok) (kvs : List (Str × Value)) : Led := [(d, dicO w kvs), (x, .raw (instObj 566 dx)), (dx, nestNs w d t)]
theorem nest_init (gd : Gd w H0) {x dx : Addr} {R : Result -> Shared -> Prop} (S : St H0 os0 L m ((x, .raw (instObj 566 dx)) :: (dx, .raw (dictOf [] 0)) :: D) s) (hd : A.depth < recursionLimit)
  (h : ∀ d t s', St H0 os0 L m (nestL w x dx d t [] ++ D) s' -> R (.ok (.ret .none)) s') : codeAny (model pw w) A (.call (.ref 548) ⟨[.ref x], []⟩) R s := by
 refine r_enter (binds := [("self", .ref x)]) gd S (gd.K 548 _ rfl) rfl (by kernel_rfl) rfl (.of_eq rfl) (by walk_at "o") rfl rfl fun L₁ s₁ S => ?_
 dsimp only [mOf, List.foldl] at S
 walk_at "g"
 refine r_setown (C := 566) gd (by assumption) (by walk_at "m") (.tail (.tail (.tail .head))) (by kernel_rfl) (by kernel_rfl) (by kernel_rfl) (by kernel_rfl) (by rfl) (by decide) fun t s S => ?_
 walk_at "g"
 exact h _ _ _ (S.out (.keep .head))
theorem nest_get (gd : Gd w H0) {x dx d key : Addr} {t : Tok} {b : Bool} {R : Result -> Shared -> Prop} (S : St H0 os0 L m D s) (hk : (key, .tup []) ∈ D) (hx : (x, .raw (instObj 566 dx)) ∈ D) (hdx : (dx, nestNs w d t) ∈ D) (hd : A.depth < recursionLimit) (hh : A.handled = none)
  (h : ∀ s', St H0 os0 L m D s' -> R (.ok (.ret (.ref d))) s') : codeAny (model pw w) A (.call (.ref 556) ⟨[.ref x, .ref key], [("access_lists", .bool b)]⟩) R s := by
 refine r_enter (binds := [("self", .ref x), ("key", .ref key), ("access_lists", .bool b)]) gd S (gd.K 556 _ rfl) rfl (by kernel_rfl) rfl (.of_eq rfl) (by walk_at "o") rfl rfl fun L₁ s₁ S => ?_
 dsimp only [mOf, List.foldl] at S
 walk_at "g"
 refine r_getown (C := 566) (attr := none) gd (by assumption) (.tail _ hx) (.tail _ hdx) (by rfl) (by kernel_rfl) (by kernel_rfl) (by kernel_rfl) (by kernel_rfl) (by rfl) fun s S => ?_
 walk_at "g"
 refine r_forNone (by assumption) hh ?_
 walk_at "g"
 rename_i S
 refine ⟨_, _, _, rfl, S, .tail _ hk, fun s S => ?_⟩
 walk_at "g"
 exact h _ (S.out .head)
noncomputable def flagNs (w : World) (d e : Addr) (t u : Tok) : Ob := .raw (dictOf (putL "_pending_flags" (PyData.keyHash w.params "_pending_flags") (.str "_pending_flags" u) (.ref e) (putL "_flags" (PyData.keyHash w.params "_flags") (.str "_flags" t) (.ref d) []))
  (putN "_pending_flags" (putL "_flags" (PyData.keyHash w.params "_flags") (.str "_flags" t) (.ref d) []) (putN "_flags" [] 0)))
noncomputable def flagL (w : World) (x dx d e : Addr) (t u : Tok) (k : Ob) (os : Obj) : Led :=
 [(e, .raw os), (d, k), (x, .raw (instObj 530 dx)), (dx, flagNs w d e t u)]
theorem flags_init (gd : Gd w H0) {x dx : Addr} {R : Result -> Shared -> Prop} (S : St H0 os0 L m ((x, .raw (instObj 530 dx)) :: (dx, .raw (dictOf [] 0)) :: D) s) (hd : A.depth < recursionLimit)
  (h : ∀ d e t u os s', St H0 os0 L m (flagL w x dx d e t u (dicO w []) os ++ D) s' -> R (.ok (.ret .none)) s') : codeAny (model pw w) A (.call (.ref 492) ⟨[.ref x], []⟩) R s := by
 refine r_enter (binds := [("self", .ref x)]) gd S (gd.K 492 _ rfl) rfl (by kernel_rfl) rfl (.of_eq rfl) (by walk_at "o") rfl rfl fun L₁ s₁ S => ?_
 dsimp only [mOf, List.foldl] at S
 walk_at "g"
 refine r_setown (C := 530) gd (by assumption) (by walk_at "m") (.tail (.tail (.tail .head))) (by kernel_rfl) (by kernel_rfl) (by kernel_rfl) (by kernel_rfl) (by rfl) (by decide) fun t s S => ?_
 walk_at "d"
 refine r_callb0 gd S (by rfl) (by rfl) rfl (r_set0 S fun e led s S => ?_)
 walk_at "g"
 refine r_setown (C := 530) gd (by assumption) (by walk_at "m") (.tail (.tail (.tail (.tail .head)))) (by kernel_rfl) (by kernel_rfl) (by kernel_rfl) (by kernel_rfl) (by rfl) (Nat.le_trans (putL_len _ _ _ _ _) (by simp)) fun u s S => ?_
 walk_at "g"
 exact h _ e t u _ _ (S.out (.keep (.keep .head)))
theorem flags_is (gd : Gd w H0) {x dx d e key : Addr} {t u tf : Tok} {xs : List Nat} {tk : Tok} {R : Result -> Shared -> Prop} (S : St H0 os0 L m D s) (hk : (key, .tup [.str (tx xs) tk]) ∈ D) (hx : (x, .raw (instObj 530 dx)) ∈ D) (hdx : (dx, flagNs w d e t u) ∈ D) (hdd : (d, dicO w []) ∈ D)
  (hd : A.depth < recursionLimit) (hh : A.handled = none)
  (h : ∀ s', St H0 os0 L m D s' -> R (.ok (.ret (.bool false))) s') : codeAny (model pw w) A (.call (.ref 527) ⟨[.ref x, .ref key, .int 0 tf], []⟩) R s := by
 refine r_enter (binds := [("self", .ref x), ("key", .ref key), ("flag", .int 0 tf)]) gd S (gd.K 527 _ rfl) rfl (by kernel_rfl) rfl (.of_eq rfl) (by walk_at "o") rfl rfl fun L₁ s₁ S => ?_
 dsimp only [mOf, List.foldl] at S
 walk_at "g"
 refine r_truthyT1 (by assumption) (.tail _ hk) (by simp) fun _ _ => ?_
 walk_at "g"
 refine r_getown (C := 530) (attr := none) gd (by assumption) (.tail _ hx) (.tail _ hdx) (by rfl) (by kernel_rfl) (by kernel_rfl) (by kernel_rfl) (by kernel_rfl) (by rfl) fun s S => ?_
 walk_at "g"
 refine r_forNone (by assumption) hh ?_
 walk_at "g"
 refine ⟨_, _, _, _, _, _, _, _, rfl, rfl, by assumption, .tail _ hk, fun a s S => ⟨_, _, _, rfl, S, .head _, fun s S => ?_⟩⟩
 walk_at "g"
 refine r_itemTm1 (vs := []) (by assumption) (.tail _ (.tail _ hk)) (by walk_at "s") ?_
 walk_at "g"
 refine r_din gd (by assumption) (.tail _ (.tail _ hdd)) fun s S => ?_
 walk_at "g"
 rw [show (valueAt ([] : List (Str × Value)) (tx xs)).isSome = false from rfl]
 walk_at "g"
 exact h _ ((by assumption : St H0 os0 L₁ _ _ _).out (.drop .head))
theorem flags_is0 (gd : Gd w H0) {x key : Addr} {tf : Tok} {i : Int} {R : Result -> Shared -> Prop} (S : St H0 os0 L m ((key, .tup []) :: D) s) (hd : A.depth < recursionLimit)
  (h : ∀ s', St H0 os0 L m ((key, .tup []) :: D) s' -> R (.ok (.ret (.bool false))) s') : codeAny (model pw w) A (.call (.ref 527) ⟨[.ref x, .ref key, .int i tf], []⟩) R s := by
 refine r_enter (binds := [("self", .ref x), ("key", .ref key), ("flag", .int i tf)]) gd S (gd.K 527 _ rfl) rfl (by kernel_rfl) rfl (.of_eq rfl) (by walk_at "o") rfl rfl fun L₁ s₁ S => ?_
 dsimp only [mOf, List.foldl] at S
 walk_at "g"
 refine r_truthyT0 (by assumption) (by walk_at "m") fun _ _ => ?_
 walk_at "g"
 exact h _ ((by assumption : St H0 os0 L₁ _ _ _).out .head)
theorem flags_set (gd : Gd w H0) {x dx d e key : Addr} {t u tf : Tok} {xs : List Nat} {tk : Tok} {os : Obj} {R : Result -> Shared -> Prop} (S : St H0 os0 L m ((key, .tup [.str (tx xs) tk]) :: (flagL w x dx d e t u (dicO w []) os ++ D)) s) (hd : A.depth < recursionLimit) (hh : A.handled = none)
  (h : ∀ s', St H0 os0 L m ((key, .tup [.str (tx xs) tk]) :: D) s' -> R (.ok (.ret .none)) s') : codeAny (model pw w) A (.call (.ref 520) ⟨[.ref x, .ref key, .int 0 tf], [("recursive", .bool true)]⟩) R s := by
 refine r_enter (binds := [("self", .ref x), ("key", .ref key), ("flag", .int 0 tf), ("recursive", .bool true)]) gd S (gd.K 520 _ rfl) rfl (by kernel_rfl) rfl (.of_eq rfl) (by walk_at "o") rfl rfl fun L₁ s₁ S => ?_
 dsimp only [mOf, List.foldl, flagL, List.cons_append, List.nil_append] at S
 walk_at "g"
 refine r_getown (C := 530) (attr := none) gd (by assumption) (by walk_at "m") (by walk_at "m") (by rfl) (by kernel_rfl) (by kernel_rfl) (by kernel_rfl) (by kernel_rfl) (by rfl) fun s S => ?_
 walk_at "g"
 refine ⟨_, _, _, _, _, _, _, _, rfl, rfl, by assumption, by walk_at "m", fun a s S => ?_⟩
 walk_at "g"
 refine r_itemTm1 (vs := []) (by assumption) (by walk_at "m") (by walk_at "s") ?_
 walk_at "g"
 refine r_forNone (by assumption) hh ?_
 walk_at "g"
 rename_i S
 refine ⟨_, _, _, rfl, S, by walk_at "m", fun s S => ?_⟩
 walk_at "g"
 refine r_dnin gd (by assumption) (by walk_at "m") fun s S => ?_
 walk_at "g"
 rw [show (valueAt ([] : List (Str × Value)) (tx xs)).isSome = false from rfl]
 walk_at "g"
 refine r_dict3 (by assumption) fun d2 s S => ?_
 walk_at "d"
 refine r_callb0 gd (by assumption) (by rfl) boot_set rfl (r_set0 (by assumption) fun e1 led1 s S => ?_)
 walk_at "d"
 refine r_callb0 gd (by assumption) (by rfl) boot_set rfl (r_set0 (by assumption) fun e2 led2 s S => ?_)
 walk_at "g"
 refine ⟨[("flags", .ref e1), ("recursive_flags", .ref e2), ("nested", .ref _)], _, _, _, ⟨strKind_is .., rfl, strKind_is .., rfl, strKind_is .., rfl, trivial⟩, by assumption, by walk_at "a", fun s S => ?_⟩
 try dsimp only at S
 walk_at "g"
 refine r_dset (kvs := []) (by assumption) (by walk_at "a") (by simp) fun s S => ?_
 try dsimp only at S
 walk_at "g"
 refine r_dget (kvs := stored [] (tx xs) (.ref d2)) (v := .ref d2) (by assumption) (by walk_at "m") (by simp [stored, valueAt]) fun s S => ?_
 walk_at "g"
 refine r_dget (kvs := merged [] [("flags", .ref e1), ("recursive_flags", .ref e2), ("nested", .ref _)]) (v := .ref e2) (by assumption) (by walk_at "m") (by rfl) fun s S => ?_
 walk_at "g"
 refine ⟨set_ok (led := led2) (by assumption) (by walk_at "m"), ?_⟩
 walk_at "g"
 refine r_setadd (led := led2) (by assumption) (by walk_at "a") fun s S => ?_
 try dsimp only at S
 walk_at "g"
 exact h _ ((S.out (.drop (.drop (.drop (.drop (.drop (.drop .head))))))).sub (.cons_cons _ (.cons _ (.cons _ (.cons _ (.cons _ (.refl _)))))))
@[reducible] def CwQ (H0 : Heap) (M : Model) (A : Around) (f : Addr) (first : List Value) (R : Result -> Shared -> Prop) : QL := fun vs s₁ => (∀ (b : Addr) (o : Obj), H0.get? b = some o -> s₁.heap.get? b = some o) ∧ codeAny M A (.call (.ref f) ⟨first ++ vs, []⟩) R s₁
theorem r_cw {pos : Pos} {f : Addr} {first : List Value} {e : Expr} {rest : List Expr} {Q : QV} (gd : Gd w H0) (hk : keepIn (Kf w.params) (.ref f) = true)
  (h : wpAny (model pw w) A (spliced (backTo pos (starEach (e :: rest) env))) (CwQ H0 (model pw w) A f first (Back Q E)) E s)
  (he : autoParam (starEach (e :: rest) env = (false, PySem.eval e env) :: starEach rest env) aR._auto_1) (hplain : autoParam ((backTo pos (starEach rest env)).any (·.1) = false) aR._auto_1) :
  wpAny (model pw w) A (callWith pos (.ref f) first (backTo pos (starEach (e :: rest) env)) (backToKw pos (keywordEach [] env))) Q E s :=
 callWith_K gd.K hk (wM h (fun vs s₁ h₁ => ⟨gd.K.keeps h₁.1, wpAny_call h₁.2⟩) fun _ _ q => q) he hplain
theorem r_cwk {pos : Pos} {f : Addr} {first : List Value} {e : Expr} {rest : List Expr} {kws : List Keyword} {Q : QV} (gd : Gd w H0) (hk : keepIn (Kf w.params) (.ref f) = true) (hall : (backToKw pos (keywordEach kws env)).all (·.1.isSome) = true)
  (h : wpAny (model pw w) A (spliced (backTo pos (starEach (e :: rest) env))) (fun vs s₁ => wpAny (model pw w) A (evalAll ((backToKw pos (keywordEach kws env)).map (·.2)))
   (fun ks s₂ => (∀ b o, H0.get? b = some o -> s₂.heap.get? b = some o) ∧ codeAny (model pw w) A (.call (.ref f) ⟨first ++ vs, ((backToKw pos (keywordEach kws env)).filterMap (·.1)).zip ks⟩) (Back Q E) s₂) E s₁) E s)
  (he : autoParam (starEach (e :: rest) env = (false, PySem.eval e env) :: starEach rest env) aR._auto_1) (hplain : autoParam (((backTo pos (starEach (e :: rest) env)).any (·.1) || (backToKw pos (keywordEach kws env)).any (·.1.isNone)) = false) aR._auto_1) :
  wpAny (model pw w) A (callWith pos (.ref f) first (backTo pos (starEach (e :: rest) env)) (backToKw pos (keywordEach kws env))) Q E s :=
 callWith_KW gd.K hk hall (wM h (fun vs s₁ h₁ => wM h₁ (fun ks s₂ h₂ => ⟨gd.K.keeps h₂.1, wpAny_call h₂.2⟩) fun _ _ q => q) fun _ _ q => q) hplain he
theorem r_clsval {C : Addr} {name : Str} {v : Value} {expr : Bool} {Q : QV} (gd : Gd w H0) (S : St H0 os0 L m D s) (hr : readsIn (Kf w.params) C (.type "type") = true) (e : findCls (Kf w.params) (.ref C) (.type "type") name = some (.val v)) (hh : handedIn v = true)
  (h : ∀ s', St H0 os0 L m D s' -> Q v s') : wpAny (model pw w) A (getAttr (.ref C) name expr) Q E s := cls_value (gd.K.keeps S.stays) hr e hh (h _ (S.tok _))
def VSpecR (w : World) (H0 : Heap) (os0 : OsState) (k : Nat) (item rest : List Nat) (V : Value -> Led -> Prop) : Prop :=
 ∀ {L : Addr} {m : Str -> Option Value} {D : Led} {s : Shared} {A : Around} {R : Result -> Shared -> Prop} {l : List Nat} {p : Nat} {t0 t1 : Tok} {pf : Value}, St H0 os0 L m D s -> A.depth + k < recursionLimit -> A.handled = none →
  l.length ≤ 16777216 -> l.drop p = item ++ rest →
  (∀ a v N t s', V v N -> St H0 os0 L m ((a, .tup [.int ((p + item.length : Nat) : Int) t, v]) :: (N ++ D)) s' -> R (.ok (.ret (.ref a))) s') →
  codeAny (model pw w) A (.call (.ref 782) ⟨[.str (tx l) t0, .int (p : Nat) t1, pf], []⟩) R s
theorem VSpec.behind {k : Nat} {item ys : List Nat} {c : Nat} {V : Value -> Led -> Prop} (h : VSpec w H0 os0 k item V) (hc : c ≠ 39) : VSpecR w H0 os0 k item (c :: ys) V :=
 fun S hd hh hn hl h' => h S hd hh hn hl hc h'
theorem parse_kv_spec (gd : Gd w H0) (hs : Sets w H0) {k : Nat} {l xs item rest : List Nat} {p : Nat} {t0 t1 : Tok} {pf : Value} {V : Value -> Led -> Prop} {R : Result -> Shared -> Prop} (S : St H0 os0 L m D s) (hd : A.depth + (k + 3) < recursionLimit) (hh : A.handled = none)
  (hn : l.length ≤ 16777216) (hl : l.drop p = xs ++ 32 :: 61 :: 32 :: (item ++ rest)) (hx : ∀ d ∈ xs, bareKey.contains d = true) (hne : xs ≠ []) (hi : ∃ c r, item = c :: r ∧ tomlWs.contains c = false) (hV : VSpecR w H0 os0 k item rest V)
  (h : ∀ a kk v N t t' s', V v N -> St H0 os0 L m ((a, .tup [.int ((p + xs.length + 1 + 1 + 1 + item.length : Nat) : Int) t, .ref kk, v]) :: (N ++ (kk, .tup [.str (tx xs) t']) :: D)) s' -> R (.ok (.ret (.ref a))) s') :
  codeAny (model pw w) A (.call (.ref 697) ⟨[.str (tx l) t0, .int (p : Nat) t1, pf], []⟩) R s := by
 obtain ⟨c0, r0, e0, h0⟩ := hi
 have hl1 : l.drop (p + xs.length + 1) = 61 :: 32 :: (item ++ rest) := drop_next (zD hl)
 have hl2 : l.drop (p + xs.length + 1 + 1) = [32] ++ (item ++ rest) := drop_next hl1
 have hp2 : p + xs.length + 1 + 1 ≤ l.length := drop_lt hl1
 have hl3 : l.drop (p + xs.length + 1 + 1 + 1) = item ++ rest := zD hl2
 refine r_enter (binds := [("src", .str (tx l) t0), ("pos", .int (p : Nat) t1), ("parse_float", pf)]) gd S (gd.K 697 _ rfl) rfl (by kernel_rfl) rfl (.of_eq rfl) (by walk_at "o") rfl rfl fun L₁ s₁ S => ?_
 dsimp only [mOf, List.foldl] at S
 walk_at "g"
 refine parse_key_spec (A := A.deeper _) gd (by assumption) hs (show A.depth + 3 < recursionLimit by walk_at "o") hh hn hl hx hne fun a kk t t' s S => ?_
 walk_at "g"
 replace S := (by assumption : St H0 os0 L₁ _ _ _).tl
 refine r_tryN ?_
 walk_at "g"
 refine r_chrC (by assumption) hl1 hn fun _ _ _ => ?_
 walk_at "g"
 first | refine ifn (by decide) ?_ | rw [if_neg (by decide)]
 walk_at "g"
 refine zK (A := A.deeper _) gd (by assumption) (show A.depth + 1 < recursionLimit by walk_at "o") hh hs.ws (by decide) hn hp2 hl2 (fun c hc => by cases hc with | head => rfl | tail _ hc => cases hc) (fun d r e => by rw [e0] at e; cases e; exact h0) (fun e => by rw [e0] at e; cases e) fun _ _ _ => ?_
 walk_at "g"
 refine hV (A := A.deeper _) (by assumption) (show A.depth + 1 + k < recursionLimit by walk_at "o") hh hn hl3 fun a v N t s hv S => ?_
 walk_at "g"
 rename_i S
 exact h _ kk v N t t' _ hv (S.out (.keep (.drop (Out.app (.keep .head) N))))
theorem parse_inline_spec (gd : Gd w H0) (hs : Sets w H0) {l xs item ys : List Nat} {p : Nat} {t0 t1 : Tok} {pf : Value} {k : Nat} (hk : 3 ≤ k) {V : Value -> Led -> Prop} {R : Result -> Shared -> Prop} (S : St H0 os0 L m D s) (hd : A.depth + (k + 4) < recursionLimit) (hh : A.handled = none)
  (hn : l.length ≤ 16777216) (hl : l.drop p = 123 :: 32 :: (xs ++ 32 :: 61 :: 32 :: (item ++ 32 :: 125 :: ys))) (hx : ∀ d ∈ xs, bareKey.contains d = true) (hne : xs ≠ []) (hi : ∃ c r, item = c :: r ∧ tomlWs.contains c = false) (hV : VSpec w H0 os0 k item V)
  (h : ∀ a v N d t s', V v N -> St H0 os0 L m ((a, .tup [.int ((p + 2 + xs.length + 3 + item.length + 2 : Nat) : Int) t, .ref d]) :: (d, dicO w [(tx xs, v)]) :: (N ++ D)) s' -> R (.ok (.ret (.ref a))) s') :
  codeAny (model pw w) A (.call (.ref 732) ⟨[.str (tx l) t0, .int (p : Nat) t1, pf], []⟩) R s := by
 refine r_enter (binds := [("src", .str (tx l) t0), ("pos", .int (p : Nat) t1), ("parse_float", pf)]) gd S (gd.K 732 _ rfl) rfl (by kernel_rfl) rfl (.of_eq rfl) (by walk_at "o") rfl rfl fun L₁ s₁ S => ?_
 dsimp only [mOf, List.foldl] at S
 refine genx fun Q1 E1 hQ => ?_
 walk_at "g"
 refine r_callf0 gd (by assumption) (by rfl) (by rfl) ?_
 refine r_make (C := 566) (fI := 548) gd (by assumption) (by kernel_rfl) (by kernel_rfl) (by kernel_rfl) fun x1 dx1 s S => ?_
 refine nest_init gd S (show A.depth + 1 + 1 < recursionLimit by walk_at "o") fun d1 tk1 s S => ⟨rfl, ?_⟩
 walk_at "g"
 refine r_callf0 gd (by assumption) (by rfl) (by rfl) ?_
 refine r_make (C := 530) (fI := 492) gd (by assumption) (by kernel_rfl) (by kernel_rfl) (by kernel_rfl) fun x2 dx2 s S => ?_
 refine flags_init gd S (show A.depth + 1 + 1 < recursionLimit by walk_at "o") fun d2 e2 tk2 u2 os2 s S => ⟨rfl, ?_⟩
 walk_at "g"
 have hl1 : l.drop (p + 1) = [32] ++ (xs ++ 32 :: 61 :: 32 :: (item ++ 32 :: 125 :: ys)) := drop_next hl
 have hp1 : p + 1 ≤ l.length := drop_lt hl
 have hl2 : l.drop (p + 1 + [32].length) = xs ++ 32 :: 61 :: 32 :: (item ++ 32 :: 125 :: ys) := zD hl1
 obtain ⟨x0, xr, e0⟩ : ∃ x xr, xs = x :: xr := by cases xs with | nil => exact absurd rfl hne | cons x r => exact ⟨x, r, rfl⟩
 have hx0 := hx x0 (e0 ▸ .head _)
 have hx0w : tomlWs.contains x0 = false := by
  cases q : tomlWs.contains x0 with
  | false => rfl
  | true =>
   have : x0 = 32 ∨ x0 = 9 := by simpa [tomlWs] using q
   rcases this with rfl | rfl <;> exact absurd hx0 (by decide)
 have hx0b : x0 ≠ 125 := fun e => by rw [e] at hx0; exact absurd hx0 (by decide)
 refine zK (A := A.deeper _) gd (by assumption) (show A.depth + 1 < recursionLimit by walk_at "o") hh hs.ws (by decide) hn hp1 hl1 (fun c hc => by cases hc with | head => rfl | tail _ hc => cases hc) (fun d r e => by rw [e0] at e; cases e; exact hx0w) (fun e => by rw [e0] at e; cases e) fun _ _ _ => ?_
 walk_at "g"
 refine r_starts (e := [125]) (by assumption) (by simp) fun _ _ => ?_
 rw [starts_no (d := x0) (by rw [hl2, e0]; rfl) hx0b]
 walk_at "g"
 refine r_whileRet ?_
 walk_at "g"
 refine parse_kv_spec (A := A.deeper _) gd hs (by assumption) (show A.depth + 1 + (k + 3) < recursionLimit by walk_at "o") hh hn hl2 hx hne hi (hV.behind (by decide)) fun a kk v N t t' s hv S => ?_
 replace S := S.perm (D' := (a, .tup [.int ((p + 1 + [32].length + xs.length + 1 + 1 + 1 + item.length : Nat) : Int) t, .ref kk, v]) :: (kk, .tup [.str (tx xs) t']) :: (flagL w x2 dx2 d2 e2 tk2 u2 (dicO w []) os2 ++ (nestL w x1 dx1 d1 tk1 [] ++ (N ++ (L, .ns m) :: D))))
  ((by simpa [List.append_assoc] using List.perm_append_comm_assoc N ((kk, Ob.tup [.str (tx xs) t']) :: (flagL w x2 dx2 d2 e2 tk2 u2 (dicO w []) os2 ++ nestL w x1 dx1 d1 tk1 [])) ((L, .ns m) :: D) : (N ++ (kk, Ob.tup [.str (tx xs) t']) :: (flagL w x2 dx2 d2 e2 tk2 u2 (dicO w []) os2 ++ (nestL w x1 dx1 d1 tk1 [] ++ (L, .ns m) :: D))).Perm _).cons _)
 dsimp only [flagL, nestL, List.cons_append, List.nil_append] at S
 have hl3 : l.drop (p + 1 + [32].length + xs.length + 1 + 1 + 1 + item.length) = [32] ++ 125 :: ys :=
  zD (drop_next (c := 32) (drop_next (c := 61) (drop_next (c := 32) (zD hl2))))
 have hp3 : p + 1 + [32].length + xs.length + 1 + 1 + 1 + item.length ≤ l.length := by have := drop_lt hl3; lia
 have e : p + 1 + [32].length + xs.length + 1 + 1 + 1 + item.length + [32].length + 1 = p + 2 + xs.length + 3 + item.length + 2 := by simp +arith
 rw [← e] at h
 clear e
 revert S hl3 hp3 h
 refine gnl (p + 1 + [32].length + xs.length + 1 + 1 + 1 + item.length) ?_
 intro p2 h S hl3 hp3
 refine S.gen3 "src" "nested_dict" "flags" (by walk_at "l") (by walk_at "l") (by walk_at "l") fun m2 l1 l2 l3 S => ?_
 walk_at "g"
 refine ⟨_, _, _, _, _, _, _, _, rfl, rfl, by assumption, by walk_at "m", fun a s S => ?_⟩
 walk_at "g"
 refine r_itemTm1 (vs := []) (by assumption) (by walk_at "m") (by walk_at "s") ?_
 walk_at "g"
 refine methodCall_KW ?_
 walk_at "g"
 refine r_methfn (C := 530) (f := 527) gd (by assumption) (by walk_at "m") (by walk_at "m") (by kernel_rfl) (by kernel_rfl) (by kernel_rfl) (by rfl) ?_
 try dsimp only
 refine r_cw gd (by rfl) ?_
 iterate 5 walk_at "d"
 refine r_clsval gd (by assumption) (by kernel_rfl) (by rfl) (by rfl) fun s S => ?_
 walk_at "g"
 refine flags_is (A := A.deeper _) gd (by assumption) (by walk_at "m") (by walk_at "m") (by walk_at "m") (by walk_at "m") (show A.depth + 1 < recursionLimit by walk_at "o") hh fun s S => ?_
 replace S := S.sub (.cons _ (.cons_cons _ (.cons _ (.cons _ (.cons _ (.cons _ (.cons _ (.cons _ (.refl _)))))))))
 refine S.gen6 "src" "pos" "value" "key_stem" "key_parent" "nested_dict" (by walk_at "l") (by walk_at "l") (by walk_at "l") (by walk_at "l") (by walk_at "l") (by walk_at "l") fun m2 l1 l2 l3 l4 l5 l6 S => ?_
 walk_at "g"
 refine r_tryN ?_
 walk_at "g"
 refine methodCall_KW ?_
 walk_at "g"
 refine r_methfn (C := 566) (f := 556) gd (by assumption) (by walk_at "m") (by walk_at "m") (by kernel_rfl) (by kernel_rfl) (by kernel_rfl) (by rfl) ?_
 try dsimp only
 refine r_cwk gd (by rfl) (by rfl) ?_
 walk_at "g"
 refine nest_get (A := A.deeper _) gd (by assumption) (by walk_at "m") (by walk_at "m") (by walk_at "m") (show A.depth + 1 < recursionLimit by walk_at "o") hh fun s S => ?_
 walk_at "g"
 refine r_din gd (by assumption) (by walk_at "m") fun s S => ?_
 walk_at "g"
 rw [show (valueAt ([] : List (Str × Value)) (tx xs)).isSome = false from rfl]
 walk_at "g"
 refine r_dset (kvs := []) (by assumption) (by walk_at "a") (by simp) fun s S => ?_
 refine S.gen3 "src" "pos" "nested_dict" (by walk_at "l") (by walk_at "l") (by walk_at "l") fun m3 l1 l2 l3 S => ?_
 walk_at "g"
 refine zK (A := A.deeper _) gd (by assumption) (show A.depth + 1 < recursionLimit by walk_at "o") hh hs.ws (by decide) hn hp3 hl3 (fun c hc => by cases hc with | head => rfl | tail _ hc => cases hc) (fun d r e => by cases e; rfl) (fun e => by cases e) fun _ _ _ => ?_
 walk_at "g"
 have hl4 : l.drop (p2 + [32].length) = 125 :: ys := zD hl3
 have hlt := drop_lt hl4
 refine r_sliceQ (by assumption) (by walk_at "o") (by rw [tx_len]; lia) (by rw [tx_len]; exact hn) fun _ s S => ?_
 rw [slice_one hl4]
 walk_at "g"
 first | refine ifp (by decide) ?_ | rw [if_pos (by decide)]
 walk_at "g"
 refine r_getown (C := 566) (attr := none) gd (by assumption) (by walk_at "m") (by walk_at "m") (by rfl) (by kernel_rfl) (by kernel_rfl) (by kernel_rfl) (by kernel_rfl) (by rfl) fun s S => ?_
 walk_at "g"
 rename_i S
 exact hQ _ _ <| h _ v N d1 _ _ hv (S.out (.keep (.drop (.keep (.drop (.drop (Out.app .head N)))))))
def TabV (w : World) (xs : List Nat) (V : Value -> Led -> Prop) (v : Value) (M : Led) : Prop := ∃ d u N, v = .ref d ∧ M = (d, dicO w [(tx xs, u)]) :: N ∧ V u N
theorem pv_inline (gd : Gd w H0) (hs : Sets w H0) {k : Nat} (hk : 3 ≤ k) {xs item : List Nat} {V : Value -> Led -> Prop} (hx : ∀ d ∈ xs, bareKey.contains d = true) (hne : xs ≠ []) (hi : ∃ c r, item = c :: r ∧ tomlWs.contains c = false) (hV : VSpec w H0 os0 k item V) :
  VSpec w H0 os0 (k + 5) (123 :: 32 :: (xs ++ 32 :: 61 :: 32 :: (item ++ [32, 125]))) (TabV w xs V) := by
 intro L m D s A R l ys p c t0 t1 pf S hd hh hn hl hc h
 have hl' : l.drop p = 123 :: 32 :: (xs ++ 32 :: 61 :: 32 :: (item ++ 32 :: 125 :: c :: ys)) := by rw [hl]; simp
 refine r_enter (binds := [("src", .str (tx l) t0), ("pos", .int (p : Nat) t1), ("parse_float", pf)]) gd S (gd.K 782 _ rfl) rfl (by kernel_rfl) rfl (.of_eq rfl) (by walk_at "o") rfl rfl fun L₁ s₁ S => ?_
 dsimp only [mOf, List.foldl] at S
 walk_at "g"
 refine r_tryN ?_
 walk_at "g"
 refine r_chrC (by assumption) hl' hn fun _ _ _ => ?_
 walk_at "g"
 first | refine ifn (by decide) ?_ | rw [if_neg (by decide)]
 walk_at "g"
 first | refine ifn (by decide) ?_ | rw [if_neg (by decide)]
 walk_at "g"
 first | refine ifn (by decide) ?_ | rw [if_neg (by decide)]
 walk_at "g"
 first | refine ifn (by decide) ?_ | rw [if_neg (by decide)]
 walk_at "g"
 first | refine ifn (by decide) ?_ | rw [if_neg (by decide)]
 walk_at "g"
 first | refine ifp (by decide) ?_ | rw [if_pos (by decide)]
 walk_at "g"
 refine parse_inline_spec (A := A.deeper _) gd hs hk (by assumption) (show A.depth + 1 + (k + 4) < recursionLimit by walk_at "o") hh hn hl' hx hne hi hV fun a v N d t s hv S => ?_
 walk_at "g"
 have e : p + 2 + xs.length + 3 + item.length + 2 = p + (123 :: 32 :: (xs ++ 32 :: 61 :: 32 :: (item ++ [32, 125]))).length := by simp; lia
 rw [e] at S
 exact h _ _ ((d, dicO w [(tx xs, v)]) :: N) _ _ ⟨d, v, N, rfl, rfl, hv⟩ (S.out (.keep (.keep (Out.app .head N))))
@[reducible] noncomputable def cellO (v : Option Value) : Ob := .obj fun o => o.data = .cell v
noncomputable def cellLed (cs : List (Str × Addr)) (cm : Str -> Option Value) : Led := cs.map fun x => (x.2, cellO (cm x.1))
theorem OnStk.enterC {A : Around} {L L₁ f : Addr} {m : Str -> Option Value} {D : Led} {N : Led} {fd : FuncData} (x : OnStk A L D) (hk : autoParam (fd.scope.kind = .function) aR._auto_1) :
  OnStk (A.deeper (callEnvC fd L₁ f)) L₁ (N ++ (L, .ns m) :: D) := by
 obtain ⟨l, e, q⟩ := x
 refine ⟨callEnvC fd L₁ f :: l, by simp [Around.deeper, e], fun env he => ?_⟩
 cases he with
 | head => exact ⟨hk, L₁, rfl, .inl rfl⟩
 | tail _ he =>
  obtain ⟨k, a, g, r⟩ := q env he
  refine ⟨k, a, g, .inr ?_⟩
  rcases r with rfl | ⟨m', hm⟩
  ·exact ⟨m, List.mem_append_right _ (.head _)⟩
  ·exact ⟨m', List.mem_append_right _ (.tail _ hm)⟩
theorem free_above (S : St H0 os0 L m D s) {c : Addr} (h : s.heap.objs.size ≤ c) : H0.get? c = none ∧ c ≠ L ∧ ∀ p ∈ D, p.1 ≠ c := by
 have hn : s.heap.get? c = none := by
  cases e : s.heap.get? c with
  | none => rfl
  | some o => exact absurd (Heap.lt_size e) (Nat.not_lt.mpr h)
 refine ⟨?_, ?_, ?_⟩
 ·cases e : H0.get? c with
  | none => rfl
  | some o => rw [S.stays _ _ e] at hn; cases hn
 ·rintro rfl
  obtain ⟨o, es, ep, e, _⟩ := S.ns
  rw [e] at hn; cases hn
 ·intro p hp q
  obtain ⟨o, e⟩ := (S.ob p hp).1.get
  rw [q, hn] at e; cases e
theorem St.cells {L₁ : Addr} {m₁ : Str -> Option Value} {s₁ : Shared} {cm : Str -> Option Value} (S₀ : St H0 os0 L m D s) (hL : s.heap.objs.size ≤ L₁) (S : St H0 os0 L₁ m₁ ((L, .ns m) :: D) s₁) :
  ∀ (cs : List (Str × Addr)), (∀ x ∈ cs, s₁.heap.IsCell x.2 (cm x.1)) -> (cs.Pairwise fun x y => x.2 ≠ y.2) -> (∀ x ∈ cs, L₁ < x.2) -> St H0 os0 L₁ m₁ (cellLed cs cm ++ (L, .ns m) :: D) s₁
 | [], _, _, _ => S
 | x :: cs, h1, h2, h3 => by
  have ih := St.cells S₀ hL S cs (fun y hy => h1 y (.tail _ hy)) (List.Pairwise.of_cons h2) fun y hy => h3 y (.tail _ hy)
  have hx := h3 x (.head _)
  obtain ⟨f1, f2, f3⟩ := free_above S₀ (c := x.2) (Nat.le_of_lt (Nat.lt_of_le_of_lt hL hx))
  refine ⟨ih.ns, ih.stays, ih.top, ?_, fun p hp => ?_, ih.gens, ih.os⟩
  ·have nd := List.nodup_cons.mp ih.nodup
   show (L₁ :: x.2 :: (cellLed cs cm ++ (L, .ns m) :: D).map (·.1)).Nodup
   rw [List.nodup_cons, List.nodup_cons]
   refine ⟨fun q => ?_, fun q => ?_, nd.2⟩
   ·cases q with
    | head => exact absurd hx (Nat.lt_irrefl _)
    | tail _ q => exact nd.1 q
   ·obtain ⟨p, hp, e⟩ := List.mem_map.mp q
    rcases List.mem_append.mp hp with hp | hp
    ·obtain ⟨y, hy, rfl⟩ := List.mem_map.mp hp
     exact (List.pairwise_cons.mp h2).1 y hy e.symm
    ·cases hp with
     | head => exact f2 e.symm
     | tail _ hp => exact f3 p hp e
  ·cases hp with
   | head => exact ⟨h1 x (.head _), f1⟩
   | tail _ hp => exact ih.ob p hp
theorem r_enterC {f : Addr} {o : Obj} {fd : FuncData} {body : List Stmt} {vals : List Value} {binds : List (Str × Value)} {R : Result -> Shared -> Prop} (gd : Gd w H0) (S : St H0 os0 L m D s)
  (ho : H0.get? f = some o) (hd : o.data = .func fd) (hcd : codeIn (Kf w.params) fd.code fd.qualname = true) (hbody : fd.body = .stmts body) (hbind : bindArgs fd ⟨vals, []⟩ = pure binds) (hclo : fd.closure = []) (hroom : A.depth < recursionLimit)
  (hkind : ∀ n, (binds.all fun x => fd.scope.names.lookup x.1 == some .local || (fd.scope.names.lookup x.1 == some .cell && ((cellsFrom n fd.scope.names []).lookup x.1).isSome)) = true)
  (hun : ∀ n, ∀ x ∈ cellsFrom n fd.scope.names [], (cellsFrom n fd.scope.names []).lookup x.1 = some x.2)
  (h : ∀ L₁ s₁, St H0 os0 L₁ (bindL (callEnvC fd L₁ f).kindOf binds fun _ => none) (cellLed (cellsFrom (L₁ + 1) fd.scope.names []) (bindC (callEnvC fd L₁ f).kindOf binds fun _ => none) ++ (L, .ns m) :: D) s₁ →
   wpAny (model pw w) (A.deeper (callEnvC fd L₁ f)) (execs body (callEnvC fd L₁ f)) (FinQ R) (LvE (model pw w) (A.deeper (callEnvC fd L₁ f)) (callEnvC fd L₁ f) R) s₁)
  (hco : autoParam (fd.scope.isCoroutine = false) aR._auto_1) (hgen : autoParam (fd.scope.isGenerator = false) aR._auto_1) (hk : autoParam (fd.scope.kind = .function) aR._auto_1) :
  codeAny (model pw w) A (.call (.ref f) ⟨vals, []⟩) R s := by
 refine codeAny_call_cells hroom (S.stays _ _ ho) hd (gd.nl.keeps S.stays) (codeRec_of (gd.K.keeps S.stays) hcd) hbody hbind hclo (fun x hx => ?_) (fun s₁ X => ?_) hco hgen hk
 ·have := List.all_eq_true.mp (hkind (s.heap.objs.size + 1)) x hx
  simpa using this
 ·obtain ⟨⟨⟨h₁, tk, rfl⟩, hns, hkeep, hfresh⟩, hcell, hap, hab⟩ := X
  have S1 : St H0 os0 s.heap.objs.size (bindL (callEnvC fd s.heap.objs.size f).kindOf binds fun _ => none) ((L, .ns m) :: D) { s with heap := h₁, toks := tk } := S.enter (by
   cases e : s.heap.get? s.heap.objs.size with
   | none => rfl
   | some o => exact absurd (Heap.lt_size e) (Nat.lt_irrefl _)) hns hkeep rfl rfl
  refine h _ _ (St.cells S (Nat.le_refl _) S1 _ (fun x hx => ?_) hap fun x hx => hab x.1 x.2 hx)
  exact hcell _ _ (hun _ x hx)
theorem r_nameC {x : Str} {pos : Pos} {c : Addr} {v : Value} {M : Model} {Q : QV} (S : St H0 os0 L m D s) (hv : (c, cellO (some v)) ∈ D) (h : Q v s)
  (hc : autoParam (env.cells.lookup x = some c) aR._auto_1) (hk : autoParam (env.scope.kind = .function) aR._auto_1) (hl : autoParam (env.kindOf x = some .cell) aR._auto_1) (hd : autoParam ((x == ("__debug__" : Str)) = false) aD._auto_1) :
  wpAny M A (PySem.eval (.Name x pos) env) Q E s := by
 obtain ⟨o, ho, hd'⟩ : ∃ o, s.heap.get? c = some o ∧ o.data = .cell (some v) := S.get hv
 exact wpAny_Name (wpAny_loadName_cell hk hl hc ⟨o, ho, hd'⟩ h) hd
theorem r_storeC {x : Str} {c : Addr} {v₀ : Option Value} {v : Value} {M : Model} {F : Ob -> Led} {Q : QU} (S : St H0 os0 L m D s) (hv : At c (cellO v₀) D F) (h : ∀ s', St H0 os0 L m (F (cellO (some v))) s' -> Q () s')
  (hc : autoParam (env.cells.lookup x = some c) aR._auto_1) (hk : autoParam (env.scope.kind = .function) aR._auto_1) (hl : autoParam (env.kindOf x = some .cell) aR._auto_1) :
  wpAny M A (storeName env x v) Q E s := by
 obtain ⟨o, ho, hd'⟩ : ∃ o, s.heap.get? c = some o ∧ o.data = .cell v₀ := S.get hv.mem
 refine wpAny_storeName_cell hk hl hc ⟨o, ho, hd'⟩ fun h' hc' hs => h _ (S.change (t := s.toks) hv hs hc')
structure Gx (w : World) (H0 : Heap) : Prop extends Gd w H0 where
 bm : ∃ o, H0.get? 4 = some o ∧ o.cls = .type "module" ∧ o.dict = some builtinsNs ∧ o.data = .plain
@[reducible] noncomputable def kodeO : Ob := .obj fun o => ∃ ps, o = ({ cls := .none, data := .fields ps } : Obj) ∧ TriplesOk ps.toList
@[reducible] noncomputable def rangeObj (a b : Int) (t u v : Tok) : Obj := { cls := .type "range", dict := none, data := .fields #[.int a t, .int b u, .int 1 v], slots := #[] }
theorem St.changeE {a : Addr} {k k' : Ob} {f : Ob -> Led} {h' : Heap} {t : Nat} (S : St H0 os0 L m D s) (x : At a k D f) (hs : Heap.ExtBut a s.heap h') (hk : k'.On h' a) :
  St H0 os0 L m (f k') { s with heap := h', toks := t } := by
 have ha := S.ob _ x.mem
 have hL := S.ne x.mem
 obtain ⟨o, es, ep, q, r⟩ := S.ns
 refine ⟨⟨o, es, ep, hs _ _ (Ne.symm hL) q, r⟩, fun b o e => hs b o (fun q => by rw [q, ha.2] at e; cases e) (S.stays b o e), S.top, by rw [x.keys]; exact S.nodup, fun p hp => ?_, S.gens, S.os⟩
 rcases x.of k' p hp with rfl | q
 ·exact ⟨hk, ha.2⟩
 ·by_cases e : p.1 = a
  ·have nd := (List.nodup_cons.mp S.nodup).2
   rw [← x.keys k'] at nd
   have : p = (a, k') := key_unique nd hp (x.again k').mem e
   rw [this]
   exact ⟨hk, ha.2⟩
  ·exact ⟨(S.ob p q).1.keep fun o e' => hs _ o e e', (S.ob p q).2⟩
theorem St.withGens (S : St H0 os0 L m D s) {s' : Shared} (hh : s'.heap = s.heap) (hg : AllFin s'.gens) (ho : s'.os = s.os) : St H0 os0 L m D s' :=
 ⟨hh ▸ S.ns, hh ▸ S.stays, S.top, S.nodup, fun p hp => hh ▸ S.ob p hp, hg, ho.trans S.os⟩
theorem St.gone2 {c i : Addr} {k1 k2 : Ob} {s' : Shared} (S : St H0 os0 L m ((c, k1) :: (i, k2) :: D) s) (hk : ∀ b o, b ≠ c -> b ≠ i -> s.heap.get? b = some o -> s'.heap.get? b = some o) (hg : AllFin s'.gens) (ho : s'.os = s.os) :
  St H0 os0 L m D s' := by
 have h1 := S.ob _ (.head _)
 have h2 := S.ob _ (.tail _ (.head _))
 have n1 := S.ne (.head _)
 have n2 := S.ne (.tail _ (.head _))
 have nd := (List.nodup_cons.mp S.nodup).2
 have nd1 := List.nodup_cons.mp nd
 have nd2 := List.nodup_cons.mp nd1.2
 refine ⟨let ⟨o, es, ep, e, r⟩ := S.ns; ⟨o, es, ep, hk _ _ (Ne.symm n1) (Ne.symm n2) e, r⟩, fun b o e => hk b o (fun q => by rw [q, h1.2] at e; cases e) (fun q => by rw [q, h2.2] at e; cases e) (S.stays b o e), S.top, S.tl.tl.nodup, fun p hp => ?_, hg, ho.trans S.os⟩
 have hm := List.mem_map_of_mem (f := Prod.fst) hp
 have hp' := S.ob p (.tail _ (.tail _ hp))
 exact ⟨hp'.1.keep fun o e => hk _ o (fun q => nd1.1 (q ▸ List.mem_cons_of_mem _ hm)) (fun q => nd2.1 (q ▸ hm)) e, hp'.2⟩
theorem r_range2 {a b : Int} {t u : Tok} {Q : QV} (S : St H0 os0 L m D s) (h : ∀ r v s', St H0 os0 L m ((r, .raw (rangeObj a b t u v)) :: D) s' -> Q (.ref r) s') :
  wpAny (model pw w) A (call (.type "range") [.int a t, .int b u]) Q E s :=
 call_range_2 (h _ s.toks _ (S.push (k := .raw _) (Heap.get?_push_size _ rfl)))
inductive CodeRec (H0 : Heap) (c P : Addr) : Prop
 | mk (o : Obj) (vs : Array Value) (file : Str) (tf : Tok) (flags : Int) (tg : Tok) (inF : Bool) (text : Int) (tt : Tok) (_ : H0.get? c = some o) (_ : o.data = .fields vs) (_ : vs.getD 11 .none = .ref P) (_ : vs.getD 18 .none = .str file tf)
  (_ : vs.getD 7 .none = .int flags tg) (_ : vs.getD 9 .none = .bool inF) (_ : vs.getD 10 .none = .int text tt) (_ : o.cls = .type "code") (_ : vs[11]? = some (.ref P))
theorem r_gencode {c P : Addr} {qn : Str} {scope : Scope} {pos : Pos} {F : Ob -> Led} {Q : QV} (S : St H0 os0 L m D s) (hP : At P kodeO D F) (hc : env.code = .ref c)
  (ho : CodeRec H0 c P)
  (h : ∀ code s', St H0 os0 L m D s' -> s'.gens = s.gens -> Q code s') : wpAny (model pw w) A (genexprCode env pos qn scope) Q E s := by
 obtain ⟨o, vs, file, tf, flags, tg, inF, text, tt, hoc, hd, r1, r2, r3, r4, r5, hcc, h11⟩ := ho
 obtain ⟨op, hop, ps, rfl, htr⟩ : ∃ op, s.heap.get? P = some op ∧ ∃ ps, op = ({ cls := .none, data := .fields ps } : Obj) ∧ TriplesOk ps.toList := S.get hP.mem
 have hne : c ≠ P := fun e => by have := (S.ob _ hP.mem).2; rw [← e, hoc] at this; cases this
 have hok : s.heap.IsCode c P ps := ⟨o, vs, file, tf, flags, tg, inF, text, tt, _, S.stays _ _ hoc, hd, r1, r2, r3, r4, r5, hop, rfl, htr, hne⟩
 cases hnf : codeAmong pos ps.toList with
 | some cv => exact wpAny_genexprCode_hit hc hok hnf (h cv s S rfl)
 | none =>
  refine wpAny_genexprCodeX hc hok ⟨⟨o, vs, S.stays _ _ hoc, hcc, hd, h11⟩, hop⟩ hnf fun c' h' tk he _ _ hcode' _ htab' _ => ?_
  obtain ⟨_, _, _, _, _, _, _, _, _, op', _, _, _, _, _, _, _, hop', hpd', htr', _⟩ := hcode'
  have := S.changeE (k' := kodeO) (t := tk) hP he ⟨_, htab'.2, _, rfl, htr'⟩
  rw [hP.self] at this
  exact h _ _ this rfl
theorem allFin_end {g : Array GenState} {x : GenState} (h : AllFin g) : AllFin (((g.push x).setIfInBounds g.size .running).setIfInBounds g.size .finished) := by
 refine ⟨by simp, fun y hy => ?_⟩
 obtain ⟨i, hi, rfl⟩ := Array.mem_iff_getElem.mp hy
 by_cases e : i = g.size
 ·subst e; simp
 ·have hi' : i < g.size := by simp at hi; lia
  rw [Array.getElem_setIfInBounds (by simpa using hi)]
  first | refine ifn (Ne.symm e) ?_ | rw [if_neg (Ne.symm e)]
  rw [Array.getElem_setIfInBounds (by simpa using hi)]
  rw [if_neg (Ne.symm e), Array.getElem_push_lt hi']
  exact h.2 _ (Array.getElem_mem hi')
theorem walks_none (I : Addr) (a : Int) (A' : Around) (hh : A'.handled = none) : Walks pw w A' I [I] [I] 0 (fun _ _ => False) (fun _ h => IsRangeIter h I a 0 1) where
 sub := fun _ hb => hb
 frame := fun _ _ _ st hk => hk I (.head _) _ st
 item := fun i s Q E hi st hQ => absurd hi (Nat.not_lt_zero _)
 done := fun s Q E st hQ => wpAny_pyNext_range_end hh st (Int.le_refl _) fun h' he' => hQ h' s.toks fun b o hb e => he' b o (fun h => hb (by simp [h])) e
 self := fun _ _ _ _ st hQ => wpAny_pyIter_rangeiter st hQ
@[elab_as_elim] theorem rngE {xv : Value} {P : Value -> Prop} (q : ∃ r a t u v, xv = .ref r ∧ St H0 os0 L m ((r, .raw (rangeObj a a t u v)) :: D) s ∧ -(2 ^ 62) ≤ a ∧ a < 2 ^ 62)
  (k : ∀ r a t u v, St H0 os0 L m ((r, .raw (rangeObj a a t u v)) :: D) s -> -(2 ^ 62) ≤ a -> a < 2 ^ 62 -> P (.ref r)) : P xv := by
 obtain ⟨r, a, t, u, v, rfl, S1, ha1, ha2⟩ := q
 exact k r a t u v S1 ha1 ha2
theorem r_genNone {x y : Str} {p1 p3 py pos posA posF : Pos} {elt iter target : Expr} {scope : Scope} {cl : List (Str × Addr)} {body rest : List Stmt} {c P : Addr} {F : Ob -> Led} {Q : QF}
  (gd : Gx w H0) (hh : A.handled = none) (hroom : A.depth < recursionLimit) (_S : St H0 os0 L m D s) (hP : At P kodeO D F)
  (hclos : closureFor scope env = pure cl) (hcode : env.code = .ref c)
  (ho : CodeRec H0 c P)
  (hit : wpAny (model pw w) A (eval iter env) (fun xv s₁ => ∃ r a t u v, xv = .ref r ∧ St H0 os0 L m ((r, .raw (rangeObj a a t u v)) :: D) s₁ ∧ -(2 ^ 62) ≤ a ∧ a < 2 ^ 62) E s)
  (h : ∀ g s', St H0 os0 L (upd m x g) D s' -> wpAny (model pw w) A (execs rest env) Q E s')
  (hL : autoParam (env.locals = L) aR._auto_1) (hG : autoParam (env.globals = mainGlobals) aR._auto_1) (hl : autoParam (env.kindOf x = some .local) aR._auto_1) (hk : autoParam (env.scope.kind = .function) aR._auto_1)
  (hco : autoParam (scope.isCoroutine = false) aR._auto_1) (hcell : autoParam (∀ y ∈ scope.names, y.2 ≠ .cell) aD._auto_1) (h0 : autoParam (scope.names.lookup (".0" : Str) = some NameKind.local) aR._auto_1) (hy : autoParam (scope.names.lookup y = some NameKind.local) aR._auto_1) (hkind : autoParam (scope.kind = .function) aR._auto_1)
  (hf : autoParam (∀ x, genFold iter env x = pure x) aI._auto_1) (hd : autoParam ((x == ("__debug__" : Str)) = false) aD._auto_1) :
  wpAny (model pw w) A (execs (.Assign [.Name x p1] (.GeneratorExp elt [⟨.Name y py, iter, [], 0⟩] scope pos) posA :: .For target (.Name x p3) body [] posF :: rest) env) Q E s := by
 have hp : (env.scope.kind == .class || (env.scope.kind == .module && env.locals != env.globals)) = false := by rw [hk]; rfl
 refine zC (zN (wpAny_GeneratorExp_make hco hclos hcell h0 hkind hroom (wM hit (fun xv s₁ q => ?_) fun _ _ e => e) hf))
 refine rngE q fun r a t u v S1 ha1 ha2 => ?_
 refine wpAny_pyIter_range (S1.get (k := .raw _) (.head _)) (small_one ha1 ha2 ha1 ha2) ?_
 have e0 : Builtin.Range.rangeSize a a 1 = 0 := by rw [rangeSize_one]; simp
 rw [e0]
 have S2 := S1.push (t := s₁.toks) (o := { cls := .type "range_iterator", data := .fields #[rawInt a, rawInt 0, rawInt 1] }) (k := .raw { cls := .type "range_iterator", data := .fields #[rawInt a, rawInt 0, rawInt 1] }) (Heap.get?_push_size _ rfl)
 revert S2
 refine gnlE (s₁.heap.objs.size) ?_
 intro I hI S2
 refine ⟨gd.nl.keeps S2.stays, r_gencode S2 (.tail (.tail hP)) hcode ho fun code s₃ S3 hg3 => ?_⟩
 obtain ⟨mg, hmg⟩ := mainNs_of gd.toGd
 obtain ⟨ob, hob, hoc, hod, hop⟩ := gd.bm
 refine wpAny_builtinsFor (bm := 4) (hG ▸ hmg.keeps S3.stays) (mg_of gd.K hmg (by rfl)) (by decide) (S3.stays _ _ hob) hoc hod hop ?_
 intro h' hn' hs'
 have S4 := S3.push (t := s₃.toks) (o := { cls := .type "frame", data := .dict #[] }) (k := .obj fun _ => True) ⟨_, Heap.get?_push_size _ rfl, trivial⟩
 revert S4 hn' hs'
 refine gnlE (s₃.heap.objs.size) ?_
 intro C hC hn' hs' S4
 have S5 := S4.changeE (t := s₃.toks) (k' := .ns fun y => if y = ".0" then some (.ref I) else none) .head hs'.extBut hn'
 have S6 := S5.push (t := s₃.toks) (o := { cls := .type "generator", data := .fields #[.int s₃.gens.size 0, .str "<genexpr>" (s₃.toks + 1), .str (env.qual ++ "<genexpr>") (s₃.toks + 1 + 1)] })
  (k := .raw { cls := .type "generator", data := .fields #[.int s₃.gens.size 0, .str "<genexpr>" (s₃.toks + 1), .str (env.qual ++ "<genexpr>") (s₃.toks + 1 + 1)] }) (Heap.get?_push_size _ rfl)
 dsimp only at S6
 revert S6
 refine gnlE (h'.objs.size) ?_
 intro G hGa S6
 revert S6
 refine gnl (h'.push { cls := .type "generator", data := .fields #[.int s₃.gens.size 0, .str "<genexpr>" (s₃.toks + 1), .str (env.qual ++ "<genexpr>") (s₃.toks + 1 + 1)] }) ?_
 intro h6 S6
 refine wpAny_storeName_local hl (hL ▸ S6.ns) (fun h7 hn7 hs7 => ?_) hp
 subst hL
 have S7 := S6.store (t := s₃.toks + 1 + 1 + 1 + 1) hn7 hs7
 dsimp only at S7
 refine zC (wpAny_For ?_ (by intro _; rfl))
 refine wpAny_Name (wpAny_loadName_local hk hl S7.ns upd_eq ?_) hd
 have hgen : h7.IsGen G s₃.gens.size := ⟨_, _, _, S7.get (k := .raw _) (.head _), rfl, rfl, rfl⟩
 refine wpAny_pyIter_gen hgen ?_
 refine codeAny_forLoop_any (fun n st => st = { s₃ with gens := s₃.gens.push (.fresh (.compStart (.GeneratorExp elt [⟨.Name y py, iter, [], 0⟩] scope pos) 0 (.ref I) .none (genEnv scope cl C code builtinsNs env))), toks := s₃.toks + 1 + 1 + 1 + 1, heap := h7 }) (fun n st q => ?_) 0 rfl
 subst q
 have hgs : (s₃.gens.push (.fresh (.compStart (.GeneratorExp elt [⟨.Name y py, iter, [], 0⟩] scope pos) 0 (.ref I) .none (genEnv scope cl C code builtinsNs env))))[s₃.gens.size]? = some (.fresh (.compStart (.GeneratorExp elt [⟨.Name y py, iter, [], 0⟩] scope pos) 0 (.ref I) .none (genEnv scope cl C code builtinsNs env))) := Array.getElem?_push_size ..
 have hCI : C ≠ I := by
  have := (List.nodup_cons.mp (List.nodup_cons.mp (List.nodup_cons.mp S7.nodup).2).2).1
  exact fun e => this (by simp [e])
 refine wpAny_pyNext_genexp (n := 0) (P := fun n s₀ s₁ => n = 0 ∧ GenSince C [I] s₀ s₁) (Y := genProto C [I] [I] (fun _ => true) 0 (fun _ _ => True)) hh (gd.nl.keeps S7.stays) hroom hgen hgs ⟨rfl, ?_⟩ (fun v s₁ gs' hv => ?_) (fun s₁ hp h' hk => ?_)
 ·exact seg_genStart (A := A.in1) (cenv := genEnv scope cl C code builtinsNs env) hh (fun A' hA => walks_none I a A' hA) (fun _ => true) (fun _ _ => True) h7 hy (by simp [genEnv, hkind]) hco (by simpa [genEnv] using hCI) ⟨fun _ _ _ _ _ _ _ q => q.elim, fun _ _ _ _ _ _ _ q => q.elim⟩
   _ _ _ (S7.get (k := .raw _) (.tail _ (.tail _ (.head _)))) (S7.get (k := .ns _) (.tail _ (.head _))) (GenSince.refl _ _ _) (fun _ _ _ _ e => e)
 ·obtain ⟨_, _, hkap⟩ := hv
  exact False.elim (hkap s₁ fun _ _ _ e => e)
 ·obtain ⟨_, h₁, tk₁, rfl, hk₁⟩ := hp
  refine wpAny_execs_nil ?_
  refine h _ _ (St.tl (St.gone2 (c := C) (i := I) S7.tl (fun b o hb hb' e => hk b o (hk₁ b o hb (by simpa using hb') e)) (allFin_end S3.gens) ?_))
  rfl
noncomputable def dropO (h : Heap) (a : Addr) : Heap := ⟨h.objs.setIfInBounds a ⟨.none, none, .freed, #[]⟩, h.life⟩
theorem dropO_ne {h : Heap} {a b : Addr} (e : b ≠ a) : (dropO h a).get? b = h.get? b := by
 unfold Heap.get? dropO
 rw [Array.getElem?_setIfInBounds_ne (Ne.symm e)]
theorem dropO_eq {h : Heap} {a : Addr} : (dropO h a).get? a = none := by
 unfold Heap.get? dropO
 rw [Array.getElem?_setIfInBounds_self]
 by_cases q : a < h.objs.size
 ·rw [if_pos q]
 ·rw [if_neg q]
theorem dropO_sub {h : Heap} {a b : Addr} {o : Obj} (e : (dropO h a).get? b = some o) : h.get? b = some o := by
 by_cases q : b = a
 ·subst q; rw [dropO_eq] at e; cases e
 ·rwa [dropO_ne q] at e
noncomputable def nf (o : Obj) : Bool := match o.data with | .freed => false | _ => true
theorem alive_nf {o : Obj} (h : nf o = true) : alive o = some o := by
 obtain ⟨c, d, dt, sl⟩ := o
 cases dt <;> first | rfl | cases h
theorem kf_get : ∀ w : World, ((Kf w.params).map fun p => (TF w).get p.1) = (Kf w.params).map fun p => some p.2 := fun w => by kernel_rfl
theorem kf_ok : ∀ w : World, ((Kf w.params).all fun p => !inX p.1 && !Nat.beq p.1 685 && Nat.blt p.1 849 && nf p.2) = true := fun w => by kernel_rfl
theorem chk_nl : ∀ w : World, (fun O => (finalH w O).noLimitOk) = fun _ => true := fun w => by kernel_rfl
theorem chk_685 : ∀ w : World, (fun O => (finalH w O).get? 685) = fun _ => some { cls := .none, data := .fields #[] } := fun w => by kernel_rfl
theorem chk_1 : ∀ w : World, (fun O => ((finalH w O).get? 1).isSome) = fun _ => true := fun w => by kernel_rfl
theorem gx_of {w : World} {O : Nat -> Obj} {h : Heap} (k : ∀ b o, b ≠ 685 -> (finalH w O).get? b = some o -> h.get? b = some o) (hsz : 849 ≤ h.objs.size) : Gx w h := by
 have n2 := congrArg Prod.snd (congrFun (chk_ns w) O)
 have n2 : (finalH w O).isNs builtinsNs = true := n2
 have bv : (finalH w O).bltView = bltViewBooted := congrFun (chk_bv w) O
 refine ⟨⟨?_, ?_, ?_, ?_, ?_⟩, ?_⟩
 ·refine Frag.in_of (as := (Kf w.params).map (·.1)) rfl ?_
  rw [List.map_map]
  refine List.map_congr_left fun p hp => ?_
  have h1 : (TF w).get p.1 = some p.2 := List.map_inj_left.mp (kf_get w) p hp
  have h2 := List.all_eq_true.mp (kf_ok w) p hp
  simp only [Bool.and_eq_true, Bool.not_eq_true', Nat.blt_eq] at h2
  obtain ⟨⟨⟨a1, a2⟩, a3⟩, a4⟩ := h2
  have a2 : p.1 ≠ 685 := fun e => by rw [e] at a2; exact absurd a2 (by decide)
  refine k _ _ a2 ?_
  rw [← alive_nf a4]
  refine abs_get a3 ?_
  rw [put_ovr, get_ovr1, h1]
  show some (if inX p.1 = true then O p.1 else _) = _
  rw [a1]
  rfl
 ·have e : (finalH w O).noLimitOk = true := congrFun (chk_nl w) O
  unfold Heap.noLimitOk at e
  obtain ⟨e1, e2⟩ := Bool.and_eq_true_iff.mp e
  exact Heap.NoLimit.at ⟨_, Heap.Ns.of_isNs e1, Option.isNone_iff_eq_none.mp e2⟩ fun o q => k _ _ (by decide) q
 ·exact ⟨_, (Heap.Ns.of_isNs n2).at fun o q => k _ _ (by decide) q, fun x hx => Heap.of_bltView n2 bv x hx⟩
 ·exact Nat.lt_of_lt_of_le (by decide) hsz
 ·have e : ((finalH w O).get? 1).isSome = true := congrFun (chk_1 w) O
  obtain ⟨o, q⟩ := Option.isSome_iff_exists.mp e
  exact ⟨o, k _ _ (by decide) q⟩
 ·obtain ⟨o, e, q⟩ := bm_at w O
  exact ⟨o, k _ _ (by decide) e, q⟩
theorem chars_eq (l : List Nat) : (fun x : Str => decide (x ∈ sgs l)) = inChars l := by
 funext x
 obtain ⟨⟨c⟩⟩ := x
 rw [Bool.eq_iff_iff, decide_eq_true_eq]
 unfold sgs inChars
 rcases c with _ | ⟨c, _ | ⟨d, r⟩⟩ <;> simp [sg]
theorem setFS_at {w : World} {O : Nat -> Obj} {h : Heap} {a : Nat} {l : List Str} (k : ∀ b o, b ≠ 685 -> (finalH w O).get? b = some o -> h.get? b = some o) (ha : inX a = true) (hb : a < 455) (h1 : ((T1 w).get a).isSome = true) (h2 : ((TF w).get a).isSome = true)
  (F : FS w (absHeap (put O (T1 w) 1 0) 455 {}) a l) : FS w h a l := by
 refine F.at fun o e => k _ _ (fun q : a = 685 => by subst q; exact absurd hb (by decide)) ?_
 rw [get_open hb ha h1] at e
 rw [← e]
 exact get_open (Nat.lt_trans hb (by decide)) ha h2
theorem there_all : ∀ w : World, ([427, 432, 433, 441, 442, 450].map fun a => (((T1 w).get a).isSome, ((TF w).get a).isSome)) = [427, 432, 433, 441, 442, 450].map fun _ => (true, true) := fun w => by kernel_rfl
theorem froz_of {w : World} {h : Heap} {a : Nat} {l : List Nat} (F : FS w h a (sgs l)) : FrozAt (PySem.strKind pw w) h a (inChars l) l.length := by
 have := FS.froz (prog := pw) (s := ⟨h, #[], {}, 0, default⟩) F
 rw [chars_eq, show (sgs l).length = l.length from List.length_map ..] at this
 exact this
theorem sets_of {w : World} {O : Nat -> Obj} {h : Heap} (k : ∀ b o, b ≠ 685 -> (finalH w O).get? b = some o -> h.get? b = some o) (F : SetsFS w (absHeap (put O (T1 w) 1 0) 455 {})) : Sets w h := by
 have t := fun a ha => List.map_inj_left.mp (there_all w) a ha
 have t1 := fun a ha => congrArg Prod.fst (t a ha)
 have t2 := fun a ha => congrArg Prod.snd (t a ha)
 exact ⟨froz_of (setFS_at k (by decide) (by decide) (t1 427 (by decide)) (t2 427 (by decide)) F.basic), froz_of (setFS_at k (by decide) (by decide) (t1 432 (by decide)) (t2 432 (by decide)) F.multi),
  froz_of (setFS_at k (by decide) (by decide) (t1 433 (by decide)) (t2 433 (by decide)) F.ws), froz_of (setFS_at k (by decide) (by decide) (t1 441 (by decide)) (t2 441 (by decide)) F.wsnl),
  froz_of (setFS_at k (by decide) (by decide) (t1 442 (by decide)) (t2 442 (by decide)) F.bare), froz_of (setFS_at k (by decide) (by decide) (t1 450 (by decide)) (t2 450 (by decide)) F.init)⟩
theorem chk_law : ∀ w : World, (fun O => (finalH w O).nsMap mainGlobals "law") = fun _ => some (.ref 848) := fun w => by kernel_rfl
noncomputable def o848 : Obj := kO (sA 113) "law" .none (qs "law_ik0240_01" 2652) 847
theorem chk_848 : ∀ w : World, (fun O => (finalH w O).get? 848) = fun _ => some o848 := fun w => by kernel_rfl
noncomputable def fdOf (o : Obj) : Option FuncData := match o.data with | .func fd => some fd | _ => none
theorem law_fd (w : World) : ∃ fd, o848.data = .func fd ∧ pw.theDef "law" = some (fd.params, (match fd.body with | .stmts b => b | _ => []), fd.scope) ∧ fd.name = "law" ∧ fd.qualname = "law" ∧
  fd.body = .stmts (match fd.body with | .stmts b => b | _ => []) ∧ fd.globals = mainNs ∧ fd.closure = [] ∧ fd.builtins = builtinsNs ∧ fd.params.defaults = [] ∧ fd.defaults = .none ∧ kwWritten? fd.params.kwonlyargs fd.params.kw_defaults = some [] ∧ fd.kwdefaults = .none := by
 refine ⟨_, rfl, ?_, ?_, ?_, ?_, ?_, ?_, ?_, ?_, ?_, ?_, ?_⟩ <;> kernel_rfl
theorem pin_law (w : World) (O : Nat -> Obj) : isTheDefsW pw (finalH w O) "law" := by
 have n1 : (finalH w O).isNs mainGlobals = true := congrArg Prod.fst (congrFun (chk_ns w) O)
 have c1 : (finalH w O).nsMap mainGlobals "law" = some (.ref 848) := congrFun (chk_law w) O
 have c2 : (finalH w O).get? 848 = some o848 := congrFun (chk_848 w) O
 obtain ⟨fd, h1, h2, h3, h4, h5, h6, h7, h8, h9, h10, h11, h12⟩ := law_fd w
 exact ⟨848, _, fd, _, _, _, (Pin.globalOf_eq n1 _).trans c1, c2, h1, h2, h3, h4, rfl, h5, rfl, h6, h7, h8, .inl ⟨h9, h10⟩, [], h11, .inl ⟨rfl, h12⟩⟩
abbrev lawR : RowW := PySem.Challenge.rw_ik0240_01.row.toRowW
theorem lawR_args : lawR.args = [.list .int] := rfl
theorem lawR_recs : lawR.records = [] := rfl
theorem pre_ints {args : List WData} (h : lawR.claim.pre args = true) : ∃ ns : List Int, args = [.list (ns.map .int)] ∧ ns.length ≤ 63 := by
 obtain ⟨h1, h2⟩ := pre_splitW h
 rw [lawR_args, lawR_recs] at h1
 obtain ⟨d, r, rfl, hd, hr⟩ := hasAllW_cons h1
 obtain rfl := hasAllW_nil hr
 obtain ⟨xs, rfl, hx⟩ := hasW_list hd
 obtain ⟨ns, rfl⟩ := items_int hx
 refine ⟨ns, rfl, ?_⟩
 have h3 : ((WTm.and (.not (.lit (.bool (decide ((63 : Int) < ((ns.map WData.int).length : Int)))))) (.lit (.bool true))).holds [] { args := [.list (ns.map .int)] }) = true := h2
 cases q : decide ((63 : Int) < ((ns.map WData.int).length : Int)) with
 | true =>
  rw [q] at h3
  exact absurd (h3 : false = true) Bool.false_ne_true
 | false =>
  have := of_decide_eq_false q
  rw [List.length_map] at this
  exact Int.ofNat_le.mp (Int.not_lt.mp this)
theorem reads_ints {R : WRecords} {cl : Str -> Option Addr} {h : Heap} : ∀ (vs : List Value) (ns : List Int) (as : List Addr), ReadsAllW R cl h vs (ns.map .int) as -> vs.length = ns.length ∧ ∀ v ∈ vs, ∃ z t, v = .int z t
 | [], [], _, _ => ⟨rfl, fun _ hv => nomatch hv⟩
 | [], _ :: _, _, x => nomatch x
 | v :: vs, ns, as, x => by
  obtain ⟨d, ds, a, b, e, _, r, ra⟩ := x.cons_inv
  cases ns with
  | nil => cases e
  | cons n ns =>
   obtain ⟨e1, e2⟩ := List.cons.inj e
   subst e1 e2
   obtain ⟨t, e3, _⟩ := readsW_int_inv r
   obtain ⟨e4, q⟩ := reads_ints vs ns b ra
   exact ⟨congrArg Nat.succ e4, fun u hu => (List.mem_cons.mp hu).elim (fun z => ⟨n, t, z.trans e3⟩) (q u)⟩
theorem reads_arg {R : WRecords} {cl : Str -> Option Addr} {h : Heap} {ns : List Int} {vs : List Value} {as : List Addr} (x : ReadsAllW R cl h vs [.list (ns.map .int)] as) :
  ∃ sl nvs, vs = [.ref sl] ∧ h.IsList sl nvs ∧ nvs.toList.length = ns.length ∧ (∀ v ∈ nvs.toList, ∃ z t, v = .int z t) ∧ sl ∈ as := by
 cases vs with
 | nil => nomatch x
 | cons v vs =>
  obtain ⟨d, ds, a, b, e, ea, r, ra⟩ := x.cons_inv
  obtain ⟨e1, e2⟩ := List.cons.inj e
  subst e1 e2
  cases vs with
  | cons u us =>
   obtain ⟨_, _, _, _, e3, _⟩ := ra.cons_inv
   cases e3
  | nil =>
   obtain ⟨sl, o, its, n, ai, e4, h1, h2, h3, h4, e5⟩ := readsW_list_open r
   obtain ⟨q1, q2⟩ := reads_ints _ _ _ h4
   exact ⟨_, _, congrArg (fun z => [z]) e4, ⟨_, h1, h2, _, h3⟩, q1, q2, ea ▸ List.mem_append_left _ (e5 ▸ .head _)⟩
theorem post_true (ds : List WData) : lawR.claim.post ds (.bool true) ds = true := by kernel_rfl
@[reducible] noncomputable def outO (dx n f : Addr) : Obj := { cls := .ref 638, dict := some dx, data := .seq #[.ref n, .ref f] }
theorem r_issub {Q : QV} (gd : Gd w H0) (S : St H0 os0 L m D s) (h : Q (.bool true) s) : wpAny (model pw w) A (call (.builtin "issubclass") [.ref 638, .type "tuple"]) Q E s := by
 refine call_issubclass (S := fun _ R s => (Kf w.params).In s.heap ∧ R (.ok (.ret (.bool true))) s) (fun prog' w' A' R' s' hs' => issubclass_outer ?_) ⟨gd.K.keeps S.stays, h⟩
 exact (Looks.of_peek (r := Fin.done (.ret (.bool true))) hs'.1 (by kernel_rfl)).here hs'.2
theorem r_typeof {x dx n f : Addr} {Q : QV} (S : St H0 os0 L m D s) (hx : (x, .raw (outO dx n f)) ∈ D) (h : Q (.ref 638) s) : wpAny (model pw w) A (call (.type "type") [.ref x]) Q E s := by
 have ho : s.heap.get? x = some (outO dx n f) := S.get (k := .raw _) hx
 refine wpAny_call (codeAny_of_tree ?_)
 show wpAny _ _ (callAny (.type "type") _) _ _ _
 refine wP ⟨Code.quiet_builtin _ (by decide +kernel), codeAny_builtin F.entry_type_call ?_⟩
 rw [Around.under_plain (weight_type_call_type "type" [.ref x] []) (units_type_call_type "type" [.ref x] [])]
 refine nd_load ho ?_
 exact (Looks.of_pure (r := Fin.done (.ret (.ref 638))) (by kernel_rfl)).here h
theorem kind_tget : builtinKind "tuple.__getitem__" = some .slot := by decide +kernel
theorem split_tget : splitId "tuple.__getitem__" = some ("tuple", "__getitem__") := by decide +kernel
theorem args_tget (a b : Value) : argsOk "tuple.__getitem__" ⟨a :: [b], []⟩ := F.args_tuple_getitem_2 a b
theorem tget_run {x dx n f : Addr} {i : Nat} {u : Tok} {y : Value} {prog : Program} {R : Fin -> Shared -> Prop} (hl : s.heap.get? x = some (outO dx n f)) (hy : (#[Value.ref n, .ref f])[i]? = some y)
  (h : R (.done (.ret y)) s) : wpAny (model prog w) A (Builtin.«tuple.__getitem__» ⟨[.ref x, .int (i : Nat) u], []⟩) R E s := by
 match i with
 | 0 =>
  cases hy
  refine nd_load hl ?_
  exact (Looks.of_pure (r := Fin.done (.ret (.ref n))) (by kernel_rfl)).here h
 | 1 =>
  cases hy
  refine nd_load hl ?_
  exact (Looks.of_pure (r := Fin.done (.ret (.ref f))) (by kernel_rfl)).here h
 | _ + 2 => cases hy
theorem r_methtype {T : String} {name : Str} {v : Value} {pl : Sem Bool} {Q : Value × List Value -> Shared -> Prop} (gd : Gd w H0) (S : St H0 os0 L m D s) (ht : typeOf (.type T) = pure (.type "type")) (hs : Manifest.isStub T = false)
  (e : findCls (Kf w.params) (.type T) (.type "type") name = some (.val v)) (hh : handedIn v = true) (h : ∀ s', St H0 os0 L m D s' -> Q (v, []) s') : wpAny (model pw w) A (getMethod (.type T) name pl) Q E s := by
 have X := gd.K.keeps S.stays
 revert e X
 refine gnl (Kf w.params) ?_
 intro K e X
 have hstub : opaqueClassAbove (.type T) = pure none := by unfold opaqueClassAbove; dsimp only; rw [hs]; rfl
 have L0 : Looks (model pw w) s.heap (typeOf (.type T)) (.type "type") := Looks.of_pure ht
 have hg : findIn K (.type "type") "__getattribute__" = some (some (.builtin "type.__getattribute__")) := type_tga
 unfold getMethod specialOf
 refine wB (wB (L0.here ((looks_findIn X hg).here ?_)))
 try dsimp only
 rw [if_pos canon_tga]
 refine wB (wM (Q := fun v => Q (v, [])) (E := E) ?_ (fun _ _ z => wP z) fun _ _ z => z)
 have LO : Looks (model pw w) s.heap (opaqueClassAbove (.type T)) none := Looks.of_pure hstub
 refine cls_open X LO L0 hg (looks_hook X (r := none) (by rfl)) (by show subIn K _ _ = _; rfl) e
  (wP (by show wpAny _ _ (handedOut v) _ _ _; rw [handedOut_of hh]; exact wP (h _ (S.tok _))))
theorem r_cwb {pos : Pos} {f : String} {first : List Value} {e : Expr} {rest : List Expr} {Q : QV} (hk : keeperOf (.builtin f) = pure .machine)
  (h : wpAny (model pw w) A (spliced (backTo pos (starEach (e :: rest) env))) (fun vs s₁ => wpAny (model pw w) A (call (.builtin f) (first ++ vs)) Q E s₁) E s)
  (he : autoParam (starEach (e :: rest) env = (false, PySem.eval e env) :: starEach rest env) aR._auto_1) (hplain : autoParam ((backTo pos (starEach rest env)).any (·.1) = false) aR._auto_1) :
  wpAny (model pw w) A (callWith pos (.builtin f) first (backTo pos (starEach (e :: rest) env)) (backToKw pos (keywordEach [] env))) Q E s := by
 show wpAny (model pw w) A (callWith pos (.builtin f) first (backTo pos (starEach (e :: rest) env)) []) Q E s
 rw [he] at h ⊢
 exact callWith_of (P := fun _ => True) (by show ((false || (backTo pos (starEach rest env)).any (·.1)) || false) = false; rw [hplain]; rfl)
  (fun _ _ => ⟨.machine, .inr (.inl rfl), Looks.of_pure hk⟩) (evalArgs_plain (wM h (fun vs s₁ h₁ => ⟨trivial, h₁⟩) fun _ _ q => q))
theorem r_kget {x C dx : Addr} {ox od : Obj} {name : Str} {v : Value} {expr : Bool} {Q : QV} (gd : Gd w H0) (S : St H0 os0 L m D s) (hx : (Kf w.params).lookup x = some ox) (hc : ox.cls = .ref C) (hn : notCls ox = true)
  (hdx : ox.dict = some dx) (hd : (Kf w.params).lookup dx = some od) (hg : plainGet (Kf w.params) C name = true) (hf : findObj (Kf w.params) C (some od) name = some (.value v)) (hh : handedIn v = true) (h : ∀ s', St H0 os0 L m D s' -> Q v s') :
  wpAny (model pw w) A (getAttr (.ref x) name expr) Q E s := by
 have X := gd.K.keeps S.stays
 refine get_value X (ox := ox) (od := some od) ⟨X _ _ hx, hc, hn, ?_⟩ (plainGet_of hg).1 hf hh (h _ (S.tok _))
 rw [hdx]
 exact X _ _ hd
theorem sub_out : subIn (Kf w.params) (.ref 638) (.type "tuple") = some true := by kernel_rfl
theorem isTup {x dx n f : Addr} (gd : Gd w H0) (ho : s.heap.get? x = some (outO dx n f)) (S : St H0 os0 L m D s) : Looks (model pw w) s.heap (isInstance (.ref x) (.type "tuple")) true := by
 have L0 : Looks (model pw w) s.heap (typeOf (.ref x)) (.ref 638) := (Looks.ld ho).andThen .now
 exact L0.andThen (looks_subIn (gd.K.keeps S.stays) sub_out)
theorem r_tget {x dx n f : Addr} {i : Nat} {u : Tok} {y : Value} {Q : QV} (gd : Gd w H0) (S : St H0 os0 L m D s) (hx : (x, .raw (outO dx n f)) ∈ D) (hy : (#[Value.ref n, .ref f])[i]? = some y)
  (h : Q y s) : wpAny (model pw w) A (call (.builtin "tuple.__getitem__") [.ref x, .int (i : Nat) u]) Q E s := by
 have ho : s.heap.get? x = some (outO dx n f) := S.get (k := .raw _) hx
 have hi := isTup gd ho S
 have hck : ∀ (Q' : QU) (E' : QV), Q' () s -> wpAny (model pw w) A.in1 (checkBuiltinCall "tuple.__getitem__" ⟨[.ref x, .int (i : Nat) u], []⟩) Q' E' s := fun Q' E' q => @check_slot (model pw w) A.in1 E' s "tuple.__getitem__" "tuple" "__getitem__" (.ref x) [.int (i : Nat) u] [] Q' kind_tget split_tget hi (args_tget _ _) q
 refine wpAny_call (codeAny_call_builtin F.slot_tuple_getitem.plain F.entry_tuple_getitem (hck _ _ ?_))
 exact tget_run ho hy h
theorem kind_tga : builtinKind "tuple.__getattribute__" = some .slot := by decide +kernel
theorem split_tga : splitId "tuple.__getattribute__" = some ("tuple", "__getattribute__") := by decide +kernel
theorem get_tup {x dx n f : Addr} {name : Str} {g a : Value} {expr : Bool} {Q : QV} (gd : Gd w H0) (S : St H0 os0 L m D s) (hx : (x, .raw (outO dx n f)) ∈ D) (hd : (dx, .raw emptyDict) ∈ D)
  (hf : findObj (Kf w.params) 638 (some emptyDict) name = some (.bind g a))
  (h : codeAny (model pw w) A.in1 (.call g ⟨[a, .ref x, .ref 638], []⟩) (fun r s' => match r with | .ok (.ret v) => wpAny (model pw w) A (handedOut v) Q E s' | _ => False) { s with toks := s.toks + 1 }) :
  wpAny (model pw w) A (getAttr (.ref x) name expr) Q E s := by
 have ho : s.heap.get? x = some (outO dx n f) := S.get (k := .raw _) hx
 have hod' : s.heap.get? dx = some emptyDict := S.get (k := .raw _) hd
 have X := gd.K.keeps S.stays
 have hi := isTup gd ho S
 have L1 : Looks (model pw w) s.heap (typeLookup (.ref 638) "__getattribute__") (some (.builtin "tuple.__getattribute__")) := looks_findIn X (by kernel_rfl)
 have L2 : Looks (model pw w) s.heap (typeLookup (.ref 638) "__getattr__") none := looks_findIn X (by kernel_rfl)
 have I : InstAt s.heap x (outO dx n f) 638 (some emptyDict) := ⟨ho, rfl, rfl, hod'⟩
 have L3 := looks_find (M := model pw w) X I hf
 have L0 := I.type (M := model pw w)
 obtain ⟨hh, gg, d, t, os⟩ := s
 dsimp only at L0 L1 L2 L3 hi
 unfold getAttr getAttrBy
 refine wB (wpAny_mkText (wpAny_holding (wB (L0.at (wB (L1.at ?_))))))
 try dsimp only
 first | refine ifn (by decide) ?_ | rw [if_neg (by decide)]
 unfold getAttrByItsOwn hookBefore
 rw [show onTheHeap (.ref 638) = true from rfl, if_pos rfl]
 refine wB (L2.at ?_)
 refine wB (wpAny_attempt (wpAny_holding ?_))
 unfold callGetattribute
 rw [show onTheHeap (.builtin "tuple.__getattribute__") = false from rfl, Bool.and_false, if_neg (by decide)]
 unfold boundAndCalled
 rw [F.slot_tuple_getattribute.bind (.ref x)]
 refine wB (wP ?_)
 have hck : ∀ (tk : Tok) (s' : Shared) (Q' : QU) (E' : QV), s'.heap = hh -> Q' () s' -> wpAny (model pw w) A.in1 (checkBuiltinCall "tuple.__getattribute__" ⟨[.ref x, .str name tk], []⟩) Q' E' s' := fun tk s' Q' E' e q => @check_slot (model pw w) A.in1 E' s' "tuple.__getattribute__" "tuple" "__getattribute__" (.ref x) [.str name tk] [] Q' kind_tga split_tga (e ▸ hi) (F.args_tuple_getattribute_2 _ _) q
 refine wpAny_call (codeAny_call_builtin F.slot_tuple_getattribute.plain F.entry_tuple_ga (hck _ _ _ _ rfl ?_))
 unfold Builtin.«object.__getattribute__»
 repeat (first | with_reducible refine wpAny_call ?_ | lk)
 refine codeAny_mono h fun r s' z => ?_
 rcases r with e | (v | _ | _ | _) <;> first | exact z | exact z.elim | skip
 exact wP z
theorem r_outget {x dx n f g : Addr} {name : Str} {i : Nat} {y : Value} {expr : Bool} {Q : QV} {og od : Obj} {dg : Addr} {k : Tok} (gd : Gd w H0) (S : St H0 os0 L m D s) (hx : (x, .raw (outO dx n f)) ∈ D) (hd : (dx, .raw emptyDict) ∈ D) (hdep : A.depth < recursionLimit)
  (hf : findObj (Kf w.params) 638 (some emptyDict) name = some (.bind (.ref 384) (.ref g)))
  (hy : (#[Value.ref n, .ref f])[i]? = some y) (hhy : handedIn y = true)
  (hog : (Kf w.params).lookup g = some og) (hoc : og.cls = .ref 401) (hon : notCls og = true) (hdg : og.dict = some dg) (hod : (Kf w.params).lookup dg = some od)
  (hfi : findObj (Kf w.params) 401 (some od) "index" = some (.value (.int (i : Nat) k)))
  (h : ∀ s', St H0 os0 L m D s' -> Q y s') :
  wpAny (model pw w) A (getAttr (.ref x) name expr) Q E s := by
 have ho : s.heap.get? x = some (outO dx n f) := S.get (k := .raw _) hx
 have hod' : s.heap.get? dx = some emptyDict := S.get (k := .raw _) hd
 refine get_tup gd S hx hd hf ?_
 have S0 := S.tok (s.toks + 1)
 refine r_enter (binds := [("self", .ref g), ("obj", .ref x), ("objtype", .ref 638)]) gd S0 (gd.K 384 _ rfl) rfl (by kernel_rfl) rfl (.of_defaults rfl (S0.stays _ _ (gd.K 377 _ rfl)) rfl rfl (by rfl)) hdep rfl rfl fun L₁ s₁ S => ?_
 dsimp only [mOf, List.foldl] at S
 walk_at "g"
 refine is_ref_none ?_
 iterate 6 walk_at "d"
 refine r_callb (v := .builtin "issubclass") gd (by assumption) (by kernel_rfl) (by kernel_rfl) (by rfl) ?_
 walk_at "d"
 refine r_callb (v := .type "type") gd (by assumption) (by kernel_rfl) (by kernel_rfl) (by rfl) ?_
 walk_at "g"
 refine r_typeof (by assumption) (.tail _ hx) ?_
 walk_at "d"
 refine r_builtin (v := .type "tuple") gd (by assumption) (by kernel_rfl) (by kernel_rfl) ?_
 walk_at "g"
 refine r_issub gd (by assumption) ?_
 walk_at "g"
 refine methodCall_KW ?_
 refine r_builtin (v := .type "tuple") gd (by assumption) (by kernel_rfl) (by kernel_rfl) ?_
 with_reducible refine r_methtype (v := .builtin "tuple.__getitem__") gd (by assumption) ?h1 ?h2 ?h3 ?h4 fun s S => ?_
 case h1 => kernel_rfl
 case h2 => kernel_rfl
 case h3 => kernel_rfl
 case h4 => rfl
 try dsimp only
 refine r_cwb (by rfl) ?_
 walk_at "g"
 refine r_kget gd (by assumption) hog hoc hon hdg hod (by kernel_rfl) hfi (by rfl) fun s S => ?_
 walk_at "g"
 refine r_tget gd S (.tail _ hx) hy ?_
 walk_at "g"
 exact handed_on hhy (h _ (S.out .head))
theorem r_nameC2 {x : Str} {pos : Pos} {c : Addr} {v : Value} {M : Model} {Q : QV} (hc : env.cells.lookup x = some c) (S : St H0 os0 L m D s) (hv : (c, cellO (some v)) ∈ D) (h : Q v s)
  (hk : autoParam (env.scope.kind = .function) aR._auto_1) (hl : autoParam (env.kindOf x = some .cell) aR._auto_1) (hd : autoParam ((x == ("__debug__" : Str)) = false) aD._auto_1) :
  wpAny M A (PySem.eval (.Name x pos) env) Q E s := r_nameC S hv h hc hk hl hd
theorem r_storeC2 {x : Str} {c : Addr} {v₀ : Option Value} {v : Value} {M : Model} {F : Ob -> Led} {Q : QU} (hc : env.cells.lookup x = some c) (S : St H0 os0 L m D s) (hv : At c (cellO v₀) D F) (h : ∀ s', St H0 os0 L m (F (cellO (some v))) s' -> Q () s')
  (hk : autoParam (env.scope.kind = .function) aR._auto_1) (hl : autoParam (env.kindOf x = some .cell) aR._auto_1) :
  wpAny M A (storeName env x v) Q E s := r_storeC S hv h hc hk hl
theorem at_of {a : Addr} {k : Ob} {F : Ob -> Led} (_S : St H0 os0 L m D s) (h : At a k D F) : At a k D F := h
theorem r_lenT {t : Addr} {vs : List Value} {Q : QV} (S : St H0 os0 L m D s) (ht : (t, .tup vs) ∈ D) (hb : vs.length < 2 ^ 62) (h : ∀ t s', St H0 os0 L m D s' -> Q (.int (vs.length : Nat) t) s') :
  wpAny (model pw w) A (call (.builtin "len") [.ref t]) Q E s := by
 refine PyProof.Rows.len_tuple (S.tp ht) (by simp; lia) ?_
 simpa using h _ _ (S.tok _)
theorem r_addT0 {t b : Addr} {ws : List Value} {Q : QV} (S : St H0 os0 L m D s) (ht : (t, .tup []) ∈ D) (hb : (b, .tup ws) ∈ D) (h : Q (.ref b) s) :
  wpAny (model pw w) A (binaryOp .Add (.ref t) (.ref b)) Q E s := by
 obtain ⟨n, ho⟩ := S.get ht
 obtain ⟨n2, ho2⟩ := S.get hb
 exact concat_meets ⟨_, ho, rfl⟩ ⟨_, ho2, rfl⟩ noFill_tuple_add seq_tuple_add PySem.F.slot_tuple_add PySem.F.entry_tuple_add (PySem.F.args_tuple_add_2 _ _)
   (tuple_addW0 t b #[] ws.toArray n n2 none none #[] #[] rfl) ⟨ho, ho2, h⟩
@[reducible] noncomputable def dlObj : Obj := { cls := .type "tuple", data := .seq [Value.type "dict", .type "list"].toArray }
theorem r_dlQ {Q : QV} (S : St H0 os0 L m D s) (h : ∀ a s', St H0 os0 L m ((a, .raw dlObj) :: D) s' -> Q (.ref a) s') : TupQ Q [.type "dict", .type "list"] s :=
 ⟨zL (by simp), h _ _ (S.push (t := s.toks) (k := .raw dlObj) (Heap.get?_push_size _ rfl))⟩
theorem r_isList {a tp : Addr} {vs : List Value} {Q : QV} (S : St H0 os0 L m D s) (ha : (a, .list vs) ∈ D) (ht : (tp, .raw dlObj) ∈ D) (h : ∀ s', St H0 os0 L m D s' -> Q (.bool true) s') :
  wpAny (model pw w) A (call (.builtin "isinstance") [.ref a, .ref tp]) Q E s := by
 obtain ⟨n, hL⟩ := S.get ha
 exact IsiPair.tupleOfB (Tx := "list") (.cons (.of_false_list (by decide +kernel) PySem.F.isi_meta_dict PySem.F.sub_list_dict) (.cons (.of_true PySem.F.isi_meta_list PySem.F.sub_list_list) .nil))
  ⟨_, hL, rfl⟩ (S.get (k := .raw _) ht) rfl fun tk => h _ (S.tok tk)
theorem St.front {p : Addr × Ob} {D' : Led} (S : St H0 os0 L m D s) (x : Rem p D D') : St H0 os0 L m (p :: D') s := S.perm x.perm
theorem perm_kv (N X Y D : Led) (l : Addr × Ob) : (N ++ (X ++ (l :: (Y ++ D)))).Perm (X ++ (Y ++ (N ++ l :: D))) :=
 (List.perm_append_comm_assoc N X _).trans (List.Perm.append_left X ((List.Perm.append_left N List.perm_middle.symm).trans (List.perm_append_comm_assoc N Y _)))
@[reducible] noncomputable def outRest (x dx nx fx hd : Addr) (D : Led) : Led := (x, .raw (outO dx nx fx)) :: (dx, .raw emptyDict) :: (hd, .tup []) :: (685, kodeO) :: D
theorem r_outdata {x dx nx fx : Addr} {expr : Bool} {Q : QV} (gd : Gd w H0) (S : St H0 os0 L m D s) (hx : (x, .raw (outO dx nx fx)) ∈ D) (hd : (dx, .raw emptyDict) ∈ D) (hdep : A.depth < recursionLimit)
  (h : ∀ s', St H0 os0 L m D s' -> Q (.ref nx) s') : wpAny (model pw w) A (getAttr (.ref x) "data" expr) Q E s :=
 r_outget (g := 630) (i := 0) gd S hx hd hdep (by kernel_rfl) rfl rfl (by rfl) (by rfl) (by rfl) (by rfl) (by rfl) (by rfl) h
theorem r_outflags {x dx nx fx : Addr} {expr : Bool} {Q : QV} (gd : Gd w H0) (S : St H0 os0 L m D s) (hx : (x, .raw (outO dx nx fx)) ∈ D) (hd : (dx, .raw emptyDict) ∈ D) (hdep : A.depth < recursionLimit)
  (h : ∀ s', St H0 os0 L m D s' -> Q (.ref fx) s') : wpAny (model pw w) A (getAttr (.ref x) "flags" expr) Q E s :=
 r_outget (g := 633) (i := 1) gd S hx hd hdep (by kernel_rfl) rfl rfl (by rfl) (by rfl) (by rfl) (by rfl) (by rfl) (by rfl) h
theorem binds556 (gd : Gd w H0) (S : St H0 os0 L m D s) {o : Obj} {fd : FuncData} (ho : (Kf w.params).lookup 556 = some o) (hd : o.data = .func fd) {x key : Addr} :
  BindsTo s fd ⟨[.ref x, .ref key], []⟩ [("self", .ref x), ("key", .ref key), ("access_lists", .bool true)] := by
 intro M A E Q hq
 cases ho
 cases hd
 refine (Looks.of_peek (gd.K.keeps S.stays) ?_).here hq
 kernel_rfl
theorem nest_get0 (gd : Gd w H0) {x dx d key : Addr} {t : Tok} {R : Result -> Shared -> Prop} (S : St H0 os0 L m D s) (hk : (key, .tup []) ∈ D) (hx : (x, .raw (instObj 566 dx)) ∈ D) (hdx : (dx, nestNs w d t) ∈ D) (hd : A.depth < recursionLimit) (hh : A.handled = none)
  (h : ∀ s', St H0 os0 L m D s' -> R (.ok (.ret (.ref d))) s') : codeAny (model pw w) A (.call (.ref 556) ⟨[.ref x, .ref key], []⟩) R s := by
 refine r_enter (binds := [("self", .ref x), ("key", .ref key), ("access_lists", .bool true)]) gd S (gd.K 556 _ rfl) rfl (by kernel_rfl) rfl (binds556 gd S rfl rfl) (by walk_at "o") rfl rfl fun L₁ s₁ S => ?_
 dsimp only [mOf, List.foldl] at S
 walk_at "g"
 refine r_getown (C := 566) (attr := none) gd (by assumption) (.tail _ hx) (.tail _ hdx) (by rfl) (by kernel_rfl) (by kernel_rfl) (by kernel_rfl) (by kernel_rfl) (by rfl) fun s S => ?_
 walk_at "g"
 refine r_forNone (by assumption) hh ?_
 walk_at "g"
 rename_i S
 refine ⟨_, _, _, rfl, S, .tail _ hk, fun s S => ?_⟩
 walk_at "g"
 exact h _ (S.out .head)
theorem kv_rule_spec (gd : Gx w H0) (hs : Sets w H0) {k : Nat} {l xs item rest : List Nat} {p : Nat} {t0 t1 : Tok} {pf : Value} {V : Value -> Led -> Prop} {x dx nx fx hdr ndx nd fdx fd fe : Addr} {nt ft fu : Tok} {os : Obj} {R : Result -> Shared -> Prop}
  (S : St H0 os0 L m (flagL w fx fdx fd fe ft fu (dicO w []) os ++ (nestL w nx ndx nd nt [] ++ outRest x dx nx fx hdr D)) s) (hd : A.depth + (k + 4) < recursionLimit) (hh : A.handled = none)
  (hn : l.length ≤ 16777216) (hl : l.drop p = xs ++ 32 :: 61 :: 32 :: (item ++ rest)) (hx : ∀ d ∈ xs, bareKey.contains d = true) (hne : xs ≠ []) (hi : ∃ c r, item = c :: r ∧ tomlWs.contains c = false) (hV : VSpecR w H0 os0 k item rest V)
  (hlst : ∀ v N, V v N -> ∃ a vs, v = .ref a ∧ (a, Ob.list vs) ∈ N)
  (h : ∀ v N t s', V v N -> St H0 os0 L m (nestL w nx ndx nd nt [(tx xs, v)] ++ outRest x dx nx fx hdr (N ++ D)) s' -> R (.ok (.ret (.int ((p + xs.length + 3 + item.length : Nat) : Int) t))) s') :
  codeAny (model pw w) A (.call (.ref 690) ⟨[.str (tx l) t0, .int (p : Nat) t1, .ref x, .ref hdr, pf], []⟩) R s := by
 refine r_enterC (binds := [("src", .str (tx l) t0), ("pos", .int (p : Nat) t1), ("out", .ref x), ("header", .ref hdr), ("parse_float", pf)]) gd.toGd S (gd.K 690 _ rfl) rfl (by kernel_rfl) rfl rfl rfl (by walk_at "o") (fun _ => rfl)
  (fun n x hx => by
   have hx : x ∈ [(("key" : Str), n + 1), ("header", n)] := hx
   rcases List.mem_cons.mp hx with rfl | hx
   ·rfl
   ·rcases List.mem_cons.mp hx with rfl | hx
    ·rfl
    ·cases hx) fun L₁ s₁ S => ?_
 have gd' := gd.toGd
 replace S : St H0 os0 L₁ (upd (upd (upd (upd (fun _ => none) "src" (.str (tx l) t0)) "pos" (.int (p : Nat) t1)) "out" (.ref x)) "parse_float" pf)
  ((L₁ + 1 + 1, cellO none) :: (L₁ + 1, cellO (some (.ref hdr))) :: (L, .ns m) :: (flagL w fx fdx fd fe ft fu (dicO w []) os ++ (nestL w nx ndx nd nt [] ++ outRest x dx nx fx hdr D))) s₁ := S
 refine genx fun Q1 E1 hQ => ?_
 walk_at "g"
 refine parse_kv_spec (A := A.deeper _) gd.toGd hs S (show A.depth + 1 + (k + 3) < recursionLimit by walk_at "o") hh hn hl hx hne hi hV fun a kk v N t t' s hv S => ?_
 with_reducible refine hid fun G hG => ?_
 obtain ⟨la, lvs, rfl, hla⟩ := hlst v N hv
 refine hG ?_
 replace S := S.perm (D' := (a, .tup [.int ((p + xs.length + 1 + 1 + 1 + item.length : Nat) : Int) t, .ref kk, .ref la]) :: (kk, .tup [.str (tx xs) t']) :: (L₁ + 1 + 1, cellO none) :: (L₁ + 1, cellO (some (.ref hdr))) ::
   (flagL w fx fdx fd fe ft fu (dicO w []) os ++ (nestL w nx ndx nd nt [] ++ ((x, .raw (outO dx nx fx)) :: (dx, .raw emptyDict) :: (hdr, .tup []) :: (685, kodeO) :: (N ++ (L, .ns m) :: D)))))
  ((perm_kv N [_, _, _] (flagL w fx fdx fd fe ft fu (dicO w []) os ++ (nestL w nx ndx nd nt [] ++ [(x, .raw (outO dx nx fx)), (dx, .raw emptyDict), (hdr, .tup []), (685, kodeO)])) D (L, .ns m)).cons _)
 dsimp only [flagL, nestL, List.cons_append, List.nil_append] at S
 rw [show p + xs.length + 3 + item.length = p + xs.length + 1 + 1 + 1 + item.length by walk_at "o"] at h
 revert S h
 refine gnl (p + xs.length + 1 + 1 + 1 + item.length) ?_
 intro p2 h S
 refine S.gen1 "out" (by walk_at "l") fun m2 l1 S => ?_
 walk_at "g"
 refine ⟨_, _, _, _, _, _, _, _, rfl, rfl, by assumption, by walk_at "m", fun kp s S => ?_⟩
 walk_at "g"
 refine r_itemTm1 (vs := []) (by assumption) (by walk_at "m") (by walk_at "s") ?_
 walk_at "g"
 refine r_addT0 (by assumption) (by walk_at "m") (by walk_at "m") ?_
 walk_at "st"
 refine r_genNone (c := 689) (P := 685) gd hh (show A.depth + 1 < recursionLimit by walk_at "o") (by assumption) (by walk_at "a") (by rfl) rfl ⟨_, _, _, _, _, _, _, _, _, gd.K 689 _ rfl, rfl, rfl, rfl, rfl, rfl, rfl, rfl, rfl⟩ ?_ ?_
 ·refine r_callb (v := .type "range") gd' (by assumption) (by kernel_rfl) (by kernel_rfl) (by rfl) ?_
  iterate 3 walk_at "d"
  refine r_callb (v := .builtin "len") gd' (by assumption) (by kernel_rfl) (by kernel_rfl) (by rfl) ?_
  walk_at "g"
  refine r_lenT (by assumption) (by walk_at "m") (by simp) fun t s S => ?_
  walk_at "g"
  refine r_range2 (by assumption) fun r v s S => ?_
  exact ⟨r, 1, _, _, _, rfl, S, by decide, by decide⟩
 ·intro g s S
  replace S := S.tl
  refine S.gen5 "out" "pos" "value" "key_stem" "abs_key_parent" (by walk_at "l") (by walk_at "l") (by walk_at "l") (by walk_at "l") (by walk_at "l") fun m3 l1 l2 l3 l4 l5 S => ?_
  walk_at "g"
  refine methodCall_KW ?_
  walk_at "g"
  refine r_outflags gd' (by assumption) (by walk_at "m") (by walk_at "m") (show A.depth + 1 < recursionLimit by walk_at "o") fun s S => ?_
  walk_at "g"
  refine r_methfn (C := 530) (f := 527) gd' (by assumption) (by walk_at "m") (by walk_at "m") (by kernel_rfl) (by kernel_rfl) (by kernel_rfl) (by rfl) ?_
  try dsimp only
  refine r_cw gd' (by rfl) ?_
  iterate 5 walk_at "d"
  refine r_clsval gd' (by assumption) (by kernel_rfl) (by rfl) (by rfl) fun s S => ?_
  walk_at "g"
  refine flags_is0 (A := A.deeper _) gd' (by assumption) (show A.depth + 1 < recursionLimit by walk_at "o") fun s S => ?_
  walk_at "g"
  refine r_tryN ?_
  walk_at "g"
  refine methodCall_KW ?_
  walk_at "g"
  refine r_outdata gd' (by assumption) (by walk_at "m") (by walk_at "m") (show A.depth + 1 < recursionLimit by walk_at "o") fun s S => ?_
  walk_at "g"
  refine r_methfn (C := 566) (f := 556) gd' (by assumption) (by walk_at "m") (by walk_at "m") (by kernel_rfl) (by kernel_rfl) (by kernel_rfl) (by rfl) ?_
  try dsimp only
  refine r_cw gd' (by rfl) ?_
  walk_at "g"
  refine nest_get0 (A := A.deeper _) gd' (by assumption) (by walk_at "m") (by walk_at "m") (by walk_at "m") (show A.depth + 1 < recursionLimit by walk_at "o") hh fun s S => ?_
  walk_at "g"
  refine r_din gd' (by assumption) (by walk_at "m") fun s S => ?_
  walk_at "g"
  rw [show (valueAt ([] : List (Str × Value)) (tx xs)).isSome = false from rfl]
  iterate 4 walk_at "d"
  refine r_callb (v := .builtin "isinstance") gd' (by assumption) (by kernel_rfl) (by kernel_rfl) (by rfl) ?_
  iterate 5 walk_at "d"
  refine r_builtin (v := .type "dict") gd' (by assumption) (by kernel_rfl) (by kernel_rfl) ?_
  walk_at "d"
  refine r_builtin (v := .type "list") gd' (by assumption) (by kernel_rfl) (by kernel_rfl) ?_
  walk_at "st"
  try dsimp only
  refine r_dlQ (by assumption) fun tp s S => ?_
  walk_at "g"
  refine r_isList S (by
   repeat first | exact List.mem_append_left _ hla | refine List.Mem.tail _ ?_) (by walk_at "m") fun s S => ?_
  walk_at "g"
  refine methodCall_KW ?_
  walk_at "g"
  refine r_outflags gd' (by assumption) (by walk_at "m") (by walk_at "m") (show A.depth + 1 < recursionLimit by walk_at "o") fun s S => ?_
  walk_at "g"
  refine r_methfn (C := 530) (f := 520) gd' (by assumption) (by walk_at "m") (by walk_at "m") (by kernel_rfl) (by kernel_rfl) (by kernel_rfl) (by rfl) ?_
  try dsimp only
  refine r_cwk gd' (by rfl) (by rfl) ?_
  walk_at "g"
  refine r_addT0 (by assumption) (by walk_at "m") (by walk_at "m") ?_
  iterate 3 walk_at "d"
  refine r_clsval gd' (by assumption) (by kernel_rfl) (by rfl) (by rfl) fun s S => ?_
  walk_at "g"
  replace S := ((((S.front (p := (fdx, _)) (by walk_at "r")).front (p := (fx, _)) (by walk_at "r")).front (p := (fd, _)) (by walk_at "r")).front (p := (fe, _)) (by walk_at "r")).front (p := (kk, _)) (by walk_at "r")
  refine flags_set (A := A.deeper _) gd' S (show A.depth + 1 < recursionLimit by walk_at "o") hh fun s S => ?_
  walk_at "g"
  refine r_dset (kvs := []) (by assumption) (by walk_at "a") (by simp) fun s S => ?_
  walk_at "g"
  exact hQ _ _ <| h _ N _ _ hv (S.out (.drop (.drop (.drop (.drop (.drop (.drop (.keep (.keep (.keep (.keep (.keep (.keep (.keep (Out.app .head N)))))))))))))))
noncomputable def o638 (p : Params) : Obj := ((Kf p).lookup 638).getD { cls := .none, data := .freed }
noncomputable def cd638 (p : Params) : ClassData := match (o638 p).data with | .cls cd => cd | _ => default
theorem look638 (p : Params) : (Kf p).lookup 638 = some (o638 p) := by kernel_rfl
theorem data638 (p : Params) : (o638 p).data = .cls (cd638 p) := by kernel_rfl
theorem slot638 (p : Params) : ((o638 p).slots[4]?).join = some .none := by kernel_rfl
theorem mro638 (p : Params) : (cd638 p).mro = [.ref 638, .type "tuple", .type "object"] := by kernel_rfl
theorem bases638 (p : Params) : (cd638 p).bases = [.type "tuple"] := by kernel_rfl
theorem del638 (p : Params) : (cd638 p).hasDel = false := by kernel_rfl
theorem cls638 (p : Params) : clsIn (Kf p) 638 = some (cd638 p) := by kernel_rfl
section
variable {w : World} {M : Model} {h : Heap}
theorem lk_mro (X : (Kf w.params).In h) : Looks M h (mroOf (.ref 638)) [.ref 638, .type "tuple", .type "object"] := .of_peek X (by kernel_rfl)
theorem lk_made (X : (Kf w.params).In h) : Looks M h (Bind.madeBy (.ref 638)) none := .of_peek X (by kernel_rfl)
theorem lk_here (X : (Kf w.params).In h) : Looks M h (Bind.madeHere "tuple.__new__" (.ref 638)) () := .of_peek X (by kernel_rfl)
end
theorem plain_tnew : plainId "tuple.__new__" = true := by decide +kernel
section
variable {w : World} {M : Model} {h : Heap}
theorem lk_isType (X : (Kf w.params).In h) : Looks M h (isType (.ref 638)) true := .of_peek X (by kernel_rfl)
theorem lk_init (X : (Kf w.params).In h) : Looks M h (typeLookup (.ref 638) "__init__") (some (.builtin "object.__init__")) := looks_findIn X (by kernel_rfl)
theorem tnew_check {A : Around} {E : QV} {s : Shared} {Q : QU} {b : Value} (X : (Kf w.params).In s.heap) (q : Q () s) : wpAny M A (checkBuiltinCall "tuple.__new__" ⟨[.ref 638, b], []⟩) Q E s :=
 (Looks.of_peek X (by kernel_rfl)).here q
end
theorem tnew_run {tp n f : Addr} {Q : Fin -> Shared -> Prop} (gd : Gd w H0) (S : St H0 os0 L m D s) (ht : (tp, .tup [.ref n, .ref f]) ∈ D)
  (h : ∀ x dx s', St H0 os0 L m ((x, .raw (outO dx n f)) :: (dx, .raw emptyDict) :: D) s' -> Q (.done (.ret (.ref x))) s') : wpAny (model pw w) A (Builtin.«tuple.__new__» ⟨[.ref 638, .ref tp], []⟩) Q E s := by
 have X := gd.K.keeps S.stays
 have L1 := lk_isType (M := model pw w) X
 have L2 : Looks (model pw w) s.heap (isSubtype (.ref 638) (.type "tuple")) true := looks_subIn X sub_out
 have L3 := lk_here (M := model pw w) X
 have L4 := lk_init (M := model pw w) X
 obtain ⟨n0, hT⟩ := S.get ht
 have fin : ∀ h', (∀ b o', s.heap.get? b = some o' -> h'.get? b = some o') -> wpAny (model pw w) A (do ret (← newObj (.ref 638) (.seq #[.ref n, .ref f]) (some (← alloc { cls := .type "dict", data := .dict #[] })))) Q E { s with heap := h' } := fun h' hk => by
  have S1 : St H0 os0 L m D { s with heap := h' } := S.ext (s' := { s with heap := h' }) hk S.gens rfl
  refine wB (wpAny_alloc (wB ?_))
  have S2 := S1.push (t := s.toks) (o := emptyDict) (k := .raw emptyDict) (Heap.get?_push_size _ rfl)
  revert S2
  refine gnl (h'.objs.size) ?_
  intro dx S2
  show wpAny _ _ (newObj _ _ _) _ _ { s with heap := h'.push emptyDict }
  unfold newObj
  try dsimp only
  first | refine ifn (by rw [sizeLine_eq]; simp) ?_ | rw [if_neg (by rw [sizeLine_eq]; simp)]
  unfold newObjAsIs classHasDel
  refine wB (wpAny_alloc ?_)
  have S3 := S2.push (t := s.toks) (o := outO dx n f) (k := .raw (outO dx n f)) (Heap.get?_push_size _ rfl)
  dsimp only at S3 ⊢
  refine wB (wB (wpAny_load ((gd.K.keeps S3.stays) _ _ (look638 w.params)) ?_))
  rw [data638]
  refine wP ?_
  rw [del638]
  exact wP (wP (h _ dx _ S3))
 obtain ⟨hh, g, d, t, os⟩ := s
 dsimp only at L1 L2 L3 L4
 unfold Builtin.«tuple.__new__»
 dsimp only at hT
 repeat (first | with_reducible exact fin _ (by assumption) | with_reducible refine wpAny_collect_seq (T := "tuple") (items := #[.ref n, .ref f]) _ (.inr rfl) hT rfl rfl (fun h' hk => ?_) (by rw [sizeLine_eq]; simp) | simp only [bne_self_eq_false, Bool.false_eq_true, if_false] | lk)
theorem r_tnew {tp n f : Addr} {Q : QV} (gd : Gd w H0) (S : St H0 os0 L m D s) (ht : (tp, .tup [.ref n, .ref f]) ∈ D)
  (h : ∀ x dx s', St H0 os0 L m ((x, .raw (outO dx n f)) :: (dx, .raw emptyDict) :: D) s' -> Q (.ref x) s') : wpAny (model pw w) A (call (.builtin "tuple.__new__") [.ref 638, .ref tp]) Q E s := by
 have hck : ∀ (Q' : QU) (E' : QV), Q' () s -> wpAny (model pw w) A.in1 (checkBuiltinCall "tuple.__new__" ⟨[.ref 638, .ref tp], []⟩) Q' E' s := fun Q' E' q => @tnew_check w (model pw w) A.in1 E' s Q' (.ref tp) (gd.K.keeps S.stays) q
 refine wpAny_call (codeAny_call_builtin plain_tnew F.entry_tuple_new (hck _ _ ?_))
 exact tnew_run gd S ht h
theorem out_new (gd : Gd w H0) {n f : Addr} {R : Result -> Shared -> Prop} (S : St H0 os0 L m D s) (hd : A.depth < recursionLimit)
  (h : ∀ x dx s', St H0 os0 L m ((x, .raw (outO dx n f)) :: (dx, .raw emptyDict) :: D) s' -> R (.ok (.ret (.ref x))) s') : codeAny (model pw w) A (.call (.ref 588) ⟨[.ref 638, .ref n, .ref f], []⟩) R s := by
 refine r_enter (binds := [("_cls", .ref 638), ("data", .ref n), ("flags", .ref f)]) gd S (gd.K 588 _ rfl) rfl (by kernel_rfl) rfl (.of_eq rfl) hd rfl rfl fun L₁ s₁ S => ?_
 dsimp only [mOf, List.foldl] at S
 refine zC (zE ?_)
 walk_at "g"
 refine methodCall_KW ?_
 refine r_builtin (v := .type "tuple") gd (by assumption) (by kernel_rfl) (by kernel_rfl) ?_
 with_reducible refine r_methtype (v := .builtin "tuple.__new__") gd (by assumption) ?h1 ?h2 ?h3 ?h4 fun s S => ?_
 case h1 => kernel_rfl
 case h2 => kernel_rfl
 case h3 => kernel_rfl
 case h4 => rfl
 try dsimp only
 refine r_cwb (by rfl) ?_
 walk_at "g"
 refine r_tnew gd (by assumption) (by walk_at "m") fun x dx s S => ?_
 walk_at "g"
 exact h _ _ _ (S.out (.keep (.keep (.drop .head))))
theorem o638_eq (p : Params) : o638 p = ⟨(o638 p).cls, (o638 p).dict, .cls (cd638 p), (o638 p).slots⟩ := by
 have := data638 p
 revert this
 refine gnl (o638 p) ?_
 intro o this
 obtain ⟨a, b, c, d⟩ := o
 cases this
 rfl
theorem init_run {x : Addr} {a b : Value} {Q : Fin -> Shared -> Prop} {dx n f : Addr} (gd : Gd w H0) (S : St H0 os0 L m D s) (hx : (x, .raw (outO dx n f)) ∈ D) (h : Q (.done (.ret .none)) s) :
  wpAny (model pw w) A (Builtin.«object.__init__» ⟨[.ref x, a, b], []⟩) Q E s := by
 have X := gd.K.keeps S.stays
 have ho : s.heap.get? x = some (outO dx n f) := S.get (k := .raw _) hx
 refine nd_load ho ?_
 exact (Looks.of_peek (r := Fin.done (.ret .none)) X (by kernel_rfl)).here h
theorem cls_new {A : Around} {expr : Bool} {Q : QV} (X : (Kf w.params).In s.heap) (h : ∀ s', s'.heap = s.heap -> s'.gens = s.gens -> s'.os = s.os -> Q (.ref 588) s') : wpAny (model pw w) A (getAttr (.ref 638) "__new__" expr) Q E s := by
 refine cls_bind (g := .builtin "staticmethod.__get__") (a := .ref 639) (obj := .none) (tp := .ref 638) X (mc := .type "type") (by kernel_rfl) (by kernel_rfl) ?_
 refine wpAny_call (sm_get (K := Kf w.params) (f := .ref 588) (rest := []) X (by kernel_rfl) ?_)
 exact wP (h _ rfl rfl rfl)
theorem oi_args3 (a b c : Value) : argsOk "object.__init__" ⟨[a, b, c], []⟩ := by unfold argsOk; kernel_rfl
theorem r_mkout (gd : Gd w H0) {n f : Addr} {R : Result -> Shared -> Prop} (S : St H0 os0 L m D s) (hd : A.depth + 1 < recursionLimit)
  (h : ∀ x dx s', St H0 os0 L m ((x, .raw (outO dx n f)) :: (dx, .raw emptyDict) :: D) s' -> R (.ok (.ret (.ref x))) s') : codeAny (model pw w) A (.call (.ref 638) ⟨[.ref n, .ref f], []⟩) R s := by
 have X := gd.K.keeps S.stays
 have hC : s.heap.get? 638 = some ⟨(o638 w.params).cls, (o638 w.params).dict, .cls (cd638 w.params), (o638 w.params).slots⟩ := o638_eq w.params ▸ X _ _ (look638 w.params)
 have call : Looks (model pw w) s.heap (specialOf (.ref 638) "__call__") (some (.builtin "type.__call__")) := looks_specialIn X (by kernel_rfl)
 have typ : Looks (model pw w) s.heap (isInstance (.ref 638) (.type "type")) true := looks_instIn X (by kernel_rfl)
 have hm := lk_mro (M := model pw w) X
 have made := lk_made (M := model pw w) X
 refine codeAny_of_tree ?_
 show wpAny _ _ (callAny (.ref 638) _) _ _ _
 refine nd_load hC ?_
 show wpAny _ _ (callAny.viaDunder (.ref 638) _) _ _ _
 obtain ⟨hh, g, d, t, os⟩ := s
 dsimp only at call typ hm made
 unfold callAny.viaDunder
 refine wB (call.at ?_)
 try dsimp only
 rw [tc_bind]
 refine wB (wP (wB (wP ?_)))
 refine wP (a := Fin.again (.call (.builtin "type.__call__") ⟨[.ref 638, .ref n, .ref f], []⟩)) (And.intro rfl ?_)
 refine codeAny_call_builtin_at (Code.quiet_builtin _ (by decide +kernel)) entry_typeCall (@check_slot (model pw w) _ _ _ "type.__call__" "type" "__call__" (.ref 638) [.ref n, .ref f] [] _ tc_kind tc_split typ (tc_args _ _ _) ?_)
 unfold Builtin.«type.__call__»
 have nw : ∀ (A' : Around) (E' : QV) (Q' : QV), (∀ s', s'.heap = hh -> s'.gens = g -> s'.os = os -> Q' (.ref 588) s') -> wpAny (model pw w) A' (getAttr (.ref 638) "__new__") Q' E' ⟨hh, g, d, t, os⟩ := fun A' E' Q' q => cls_new X q
 repeat (first | (with_reducible refine wpAny_call ?_) | (with_reducible refine nw _ _ _ fun s' e1 e2 e3 => ?_) | lk)
 have S' := S.sameRest (s' := s') e1 e2 e3
 refine out_new gd S' (show A.depth + 1 < recursionLimit from hd) fun x dx s2 S2 => ?_
 have X2 := gd.K.keeps S2.stays
 have ho : s2.heap.get? x = some (outO dx n f) := S2.get (k := .raw _) (.head _)
 have t1 : Looks (model pw w) s2.heap (typeOf (.ref x)) (.ref 638) := (Looks.ld ho).andThen .now
 have s1 : Looks (model pw w) s2.heap (isSubtype (.ref 638) (.ref 638)) true := looks_mroIn X2 (by kernel_rfl)
 have so : Looks (model pw w) s2.heap (isInstance (.ref x) (.type "object")) true := t1.andThen (looks_mroIn X2 (by kernel_rfl))
 have i1 := lk_init (M := model pw w) X2
 have b1 : Looks (model pw w) s2.heap (bindSpecial (.builtin "object.__init__") (.ref x)) (.builtin "object.__init__", [.ref x]) := Looks.of_pure (oi_bind _)
 have fin : ∀ (A' : Around) (Q' : Result -> Shared -> Prop), Q' (.ok (.ret .none)) s2 -> codeAny (model pw w) A' (.call (.builtin "object.__init__") ⟨[.ref x, .ref n, .ref f], []⟩) Q' s2 := fun A' Q' q => by
  refine codeAny_call_builtin oi_plain entry_oi (@check_slot (model pw w) _ _ _ "object.__init__" "object" "__init__" (.ref x) [.ref n, .ref f] [] _ oi_kind oi_split so (oi_args3 _ _ _) ?_)
  exact init_run gd S2 (.head _) q
 obtain ⟨h2, g2, d2, t2, os2⟩ := s2
 dsimp only at t1 s1 i1 b1
 show wpAny _ _ _ _ _ _
 unfold isInstance callSpecial? specialOf
 repeat (first | (with_reducible refine wpAny_call ?_) | lk)
 refine fin _ _ ?_
 refine wP ?_
 try dsimp only
 first | refine ifn (by decide) ?_ | rw [if_neg (by decide)]
 exact wP (h _ _ _ S2)
section
open PySem.Builtin PySem.Builtin.Str
@[reducible] def OnlyBrk (M : Model) (A : Around) (E : QV) (env : Env) (rest : List Stmt) (Q : QF) : QF := fun f s₃ => match f with | .brk => wpAny M A (execs rest env) Q E s₃ | _ => False
theorem r_replaceNone {l : List Nat} {t u v : Tok} {Q : QV} (h13 : ∀ c ∈ l, c ≠ 13) (h : Q (.str (tx l) t) s) :
  wpAny (model pw w) A (call (.builtin "str.replace") [.str (tx l) t, .str (tx [13, 10]) u, .str (tx [10]) v]) Q E s := by
 have ho : occurrences (tx l) (tx [13, 10]) 0 (tx l).length ((tx l).length + 1) = [] := by
  rcases StrLaws.occ_head_from (tx l) (tx [13, 10]) 0 ((tx l).length + 1) (by walk_at "o") with ⟨h1, _⟩ | ⟨i, r, h1, h2, h3, h4⟩
  ·exact h1
  ·exfalso
   rw [at_tx] at h3
   have h5 := congrArg List.head? h3.2
   rw [List.head?_take, if_neg (by simp), List.head?_drop] at h5
   exact h13 13 (List.mem_of_getElem? (by simpa using h5)) rfl
 refine call_gives F.slot_str_replace (typeIs_str _ _ _) F.entry_str_replace (F.args_str_replace_3 _ _ _) (gives_str_replace _ _ _ _ _ _ (by rw [ho]; intro q; simp at q)) ?_
 rw [ho]
 exact h
theorem r_whileBrk {test : Expr} {body rest : List Stmt} {pos : Pos} {Q : QF}
  (h : wpAny (model pw w) A (isTrue test env (PySem.eval test env)) (WhQ (model pw w) A NoE env body (OnlyBrk (model pw w) A E env rest Q) fun _ => False) NoE s) :
  wpAny (model pw w) A (execs (.While test body [] pos :: rest) env) Q E s := by
 refine r_while (fun _ s' => s' = s) (fun s' => wpAny (model pw w) A (execs rest env) Q E s') (fun n s' e => ?_) 0 rfl fun _ q => q
 subst e
 refine wM h (fun b s₂ q => ?_) fun _ _ q => q
 cases b with
 | true =>
  delta WhQ at q ⊢
  rw [if_pos rfl] at q ⊢
  replace q := q
  refine wM q (fun f s₃ q => ?_) fun _ _ q => q
  cases f with
  | brk => exact q
  | _ => exact q.elim
 | false => delta WhQ at q; rw [if_neg (by simp)] at q; exact q.elim
theorem TryQ.brk2 {M : Model} {rest : List Stmt} {Q : QF} (h : Q .brk s) : TryQ M A rest env Q E .brk s := h
theorem boot_float : bootBuiltins (Str.ofString "float") = some (.type "float") := by kernel_rfl
theorem binds478 (gd : Gd w H0) (S : St H0 os0 L m D s) {o : Obj} {fd : FuncData} (ho : (Kf w.params).lookup 478 = some o) (hd : o.data = .func fd) {x : Value} :
  BindsTo s fd ⟨[x], []⟩ [("s", x), ("parse_float", .type "float")] := by
 intro M A E Q hq
 cases ho
 cases hd
 refine (Looks.of_peek (gd.K.keeps S.stays) ?_).here hq
 kernel_rfl
theorem pv_arrR (gd : Gd w H0) (hs : Sets w H0) {k : Nat} (hk : 3 ≤ k) {items : List (List Nat × (Value -> Led -> Prop))} {b0 text rest : List Nat}
  (hlen : items.length ≤ 1000) (hi : ∀ x ∈ items, ItemOk x.1 ∧ VSpec w H0 os0 k x.1 x.2) (hb0 : Blank b0) (ht : Arr items text) : VSpecR w H0 os0 (k + 2) (91 :: (b0 ++ text)) rest (ArrV (items.map (·.2))) := by
 intro L m D s A R l p t0 t1 pf S hd hh hn hl h
 refine r_enter (binds := [("src", .str (tx l) t0), ("pos", .int (p : Nat) t1), ("parse_float", pf)]) gd S (gd.K 782 _ rfl) rfl (by kernel_rfl) rfl (.of_eq rfl) (by walk_at "o") rfl rfl fun L₁ s₁ S => ?_
 dsimp only [mOf, List.foldl] at S
 walk_at "g"
 refine r_tryN ?_
 walk_at "g"
 refine r_chrC (c := 91) (r := b0 ++ text ++ rest) (by assumption) (by rw [hl]; rfl) hn fun _ _ _ => ?_
 walk_at "g"
 first | refine ifn (by decide) ?_ | rw [if_neg (by decide)]
 walk_at "g"
 first | refine ifn (by decide) ?_ | rw [if_neg (by decide)]
 walk_at "g"
 first | refine ifn (by decide) ?_ | rw [if_neg (by decide)]
 walk_at "g"
 first | refine ifn (by decide) ?_ | rw [if_neg (by decide)]
 walk_at "g"
 first | refine ifp (by decide) ?_ | rw [if_pos (by decide)]
 walk_at "g"
 refine parse_array_spec (A := A.deeper _) gd hs hk hlen hi hb0 ht (by assumption) (show A.depth + 1 + (k + 1) < recursionLimit by walk_at "o") hh hn hl fun a v N t s hv S => ?_
 walk_at "g"
 have e : p + 1 + b0.length + text.length = p + (91 :: (b0 ++ text)).length := by simp; lia
 rw [e] at S
 exact h _ _ _ _ _ hv (S.out (.keep (Out.app .head N)))
theorem pv_arr0R (gd : Gd w H0) (hs : Sets w H0) {b0 rest : List Nat} (hb0 : Blank b0) : VSpecR w H0 os0 5 (91 :: (b0 ++ [93])) rest (ArrV []) := by
 intro L m D s A R l p t0 t1 pf S hd hh hn hl h
 refine r_enter (binds := [("src", .str (tx l) t0), ("pos", .int (p : Nat) t1), ("parse_float", pf)]) gd S (gd.K 782 _ rfl) rfl (by kernel_rfl) rfl (.of_eq rfl) (by walk_at "o") rfl rfl fun L₁ s₁ S => ?_
 dsimp only [mOf, List.foldl] at S
 walk_at "g"
 refine r_tryN ?_
 walk_at "g"
 refine r_chrC (c := 91) (r := b0 ++ [93] ++ rest) (by assumption) (by rw [hl]; rfl) hn fun _ _ _ => ?_
 walk_at "g"
 first | refine ifn (by decide) ?_ | rw [if_neg (by decide)]
 walk_at "g"
 first | refine ifn (by decide) ?_ | rw [if_neg (by decide)]
 walk_at "g"
 first | refine ifn (by decide) ?_ | rw [if_neg (by decide)]
 walk_at "g"
 first | refine ifn (by decide) ?_ | rw [if_neg (by decide)]
 walk_at "g"
 first | refine ifp (by decide) ?_ | rw [if_pos (by decide)]
 walk_at "g"
 refine parse_array_empty (A := A.deeper _) gd hs hb0 (by assumption) (show A.depth + 1 + 4 < recursionLimit by walk_at "o") hh hn hl fun a v N t s hv S => ?_
 walk_at "g"
 have e : p + 1 + b0.length + 1 = p + (91 :: (b0 ++ [93])).length := by simp; lia
 rw [e] at S
 exact h _ _ _ _ _ hv (S.out (.keep (Out.app .head N)))
theorem safe_float_spec (gd : Gd w H0) {R : Result -> Shared -> Prop} (S : St H0 os0 L m D s) (hd : A.depth < recursionLimit)
  (h : ∀ s', St H0 os0 L m D s' -> R (.ok (.ret (.type "float"))) s') : codeAny (model pw w) A (.call (.ref 803) ⟨[.type "float"], []⟩) R s := by
 refine r_enterC (binds := [("parse_float", .type "float")]) gd S (gd.K 803 _ rfl) rfl (by kernel_rfl) rfl rfl rfl hd (fun _ => rfl)
  (fun n x hx => by
   have hx : x ∈ [(("parse_float" : Str), n)] := hx
   rcases List.mem_cons.mp hx with rfl | hx
   ·rfl
   ·cases hx) fun L₁ s₁ S => ?_
 replace S : St H0 os0 L₁ (fun _ => none) ((L₁ + 1, cellO (some (.type "float"))) :: (L, .ns m) :: D) s₁ := S
 refine zC (zE ?_)
 iterate 4 walk_at "d"
 refine r_builtin (v := .type "float") gd (by assumption) (by kernel_rfl) boot_float ?_
 refine wpAny_is_self (by decide) ?_
 iterate 3 walk_at "d"
 refine r_builtin (v := .type "float") gd (by assumption) (by kernel_rfl) boot_float ?_
 walk_at "g"
 rename_i S
 exact h _ (S.out (.drop .head))
end
@[reducible] noncomputable def queueT : List Nat := [113, 117, 101, 117, 101]
theorem r_tryD {cls : String} {x : Str} {np hp pos : Pos} {body : List Stmt} {b₀ : Stmt} {suite rest : List Stmt} {Q : QF} (gd : Gd w H0) (S : St H0 os0 L m D s) (P : (Str -> Option Value) -> Prop)
  (hn : nsIn (Kf w.params) mainGlobals x = some none) (hv : bootBuiltins x = some (.type cls))
  (h1 : wpAny (model pw w) A (execs body env) (TryQ (model pw w) A rest env Q E) (Raised w A H0 os0 L env cls fun m' D' => P m' ∧ D' = D) s)
  (h2 : ∀ m e s', P m -> St H0 os0 L m D s' -> wpAny (model pw w) (A.mark (some (.ref e))) (execs (b₀ :: suite) env) (TryQ (model pw w) A rest env Q E) (fun _ _ => False) s')
  (hexc : autoParam (isSubtype (.type cls) (.type "BaseException") = pure true) aR._auto_1) (hnt : autoParam (isSubtype (.type ((Manifest.find? cls).elim "type" fun x => x.metatype)) (.type "tuple") = pure false) aR._auto_1)
  (hsub : autoParam (isSubtype (.type cls) (.type cls) = pure true) aR._auto_1)
  (hG : autoParam (env.globals = mainGlobals) aR._auto_1) (hB : autoParam (env.builtins = builtinsNs) aR._auto_1) (hk : autoParam (env.scope.kind = .function) aR._auto_1) (hl : autoParam (env.kindOf x = some .globalImplicit) aR._auto_1) (hd : autoParam ((x == ("__debug__" : Str)) = false) aD._auto_1)
  (hnn : autoParam (x ≠ "__name__") aD._auto_1) :
  wpAny (model pw w) A (execs (.Try body [.ExceptHandler (some (.Name x np)) none (b₀ :: suite) hp] [] [] pos :: rest) env) Q E s :=
 r_try gd S (fun m' D' => P m' ∧ D' = D) hn hv h1 (fun m D' e s' hP S' => by obtain ⟨h, rfl⟩ := hP; exact h2 m e s' h S') hexc hnt hsub hG hB hk hl hd hnn
theorem loads_spec (gd : Gx w H0) (hs : Sets w H0) {k : Nat} {l item : List Nat} {t0 : Tok} {V : Value -> Led -> Prop} {R : Result -> Shared -> Prop}
  (S : St H0 os0 L m ((685, kodeO) :: D) s) (hd : A.depth + (k + 6) < recursionLimit) (hh : A.handled = none) (hstk : OnStk A L ((685, kodeO) :: D))
  (hl : l = queueT ++ 32 :: 61 :: 32 :: item) (hn : l.length ≤ 16777216) (h13 : ∀ c ∈ l, c ≠ 13)
  (hi : ∃ c r, item = c :: r ∧ tomlWs.contains c = false) (hV : VSpecR w H0 os0 k item [] V) (hlst : ∀ v N, V v N -> ∃ a vs, v = .ref a ∧ (a, Ob.list vs) ∈ N)
  (h : ∀ d v N s', V v N -> St H0 os0 L m ((d, dicO w [(tx queueT, v)]) :: (685, kodeO) :: (N ++ D)) s' -> R (.ok (.ret (.ref d))) s') :
  codeAny (model pw w) A (.call (.ref 478) ⟨[.str (tx l) t0], []⟩) R s := by
 have gd' := gd.toGd
 have hlen : l.length = 8 + item.length := by rw [hl]; simp; lia
 have hl0 : l.drop 0 = queueT ++ 32 :: 61 :: 32 :: (item ++ []) := by rw [hl]; simp
 have hle : l.drop (0 + queueT.length + 3 + item.length) = [] := List.drop_of_length_le (by rw [hlen]; simp)
 refine r_enter (binds := [("s", .str (tx l) t0), ("parse_float", .type "float")]) gd' S (gd'.K 478 _ rfl) rfl (by kernel_rfl) rfl (binds478 gd' S rfl rfl) (by walk_at "o") rfl rfl fun L₁ s₁ S => ?_
 dsimp only [mOf, List.foldl] at S
 refine genx fun Q1 E1 hQ => ?_
 refine zC (zE ?_)
 walk_at "g"
 refine r_meth F.plainAttrs_str F.slot_str_replace F.type_str_replace ?_
 walk_at "g"
 refine r_replaceNone h13 ?_
 walk_at "g"
 refine r_callf0 gd' (by assumption) (by rfl) (by rfl) ?_
 refine r_make (C := 566) (fI := 548) gd' (by assumption) (by kernel_rfl) (by kernel_rfl) (by kernel_rfl) fun nx ndx s S => ?_
 refine nest_init gd' S (show A.depth + 1 + 1 < recursionLimit by walk_at "o") fun nd nt s S => ⟨rfl, ?_⟩
 walk_at "g"
 refine r_callf0 gd' (by assumption) (by rfl) (by rfl) ?_
 refine r_make (C := 530) (fI := 492) gd' (by assumption) (by kernel_rfl) (by kernel_rfl) (by kernel_rfl) fun fx fdx s S => ?_
 refine flags_init gd' S (show A.depth + 1 + 1 < recursionLimit by walk_at "o") fun fd fe ft fu os s S => ⟨rfl, ?_⟩
 walk_at "g"
 refine r_mkout (A := A.deeper _) gd' (by assumption) (show A.depth + 1 + 1 < recursionLimit by walk_at "o") fun x dx s S => ?_
 walk_at "g"
 refine safe_float_spec (A := A.deeper _) gd' (by assumption) (show A.depth + 1 < recursionLimit by walk_at "o") fun s S => ?_
 walk_at "g"
 rename_i S
 refine S.gen5 "src" "pos" "out" "header" "parse_float" (by walk_at "l") (by walk_at "l") (by walk_at "l") (by walk_at "l") (by walk_at "l") fun m1 l1 l2 l3 l4 l5 S => ?_
 refine r_whileBrk ?_
 walk_at "g"
 refine zK (A := A.deeper _) (p := 0) (xs := []) gd' (by assumption) (show A.depth + 1 < recursionLimit by walk_at "o") hh hs.ws (by decide) hn (by walk_at "o") hl0 (fun c hc => by cases hc) (fun d r e => by cases e; rfl) (fun e => by cases e) fun t s S => ?_
 walk_at "g"
 refine r_tryN ?_
 walk_at "g"
 refine r_chrC (c := 113) (by assumption) hl0 hn fun _ _ _ => ?_
 walk_at "g"
 first | refine ifn (by decide) ?_ | rw [if_neg (by decide)]
 walk_at "g"
 refine r_in (by assumption) hs.init (by decide) fun s S => ?_
 walk_at "g"
 rw [inChars_chr1]
 refine ifp (by decide) ?_
 walk_at "g"
 rename_i S
 dsimp only [flagL, nestL, List.cons_append, List.nil_append] at S
 replace S := ((((((((((S.front (p := (685, _)) (by walk_at "r")).front (p := (_, Ob.tup [])) (by walk_at "r")).front (p := (dx, _)) (by walk_at "r")).front (p := (x, _)) (by walk_at "r")).front (p := (ndx, _)) (by walk_at "r")).front (p := (nx, _)) (by walk_at "r")).front (p := (nd, _)) (by walk_at "r")).front (p := (fdx, _)) (by walk_at "r")).front (p := (fx, _)) (by walk_at "r")).front (p := (fd, _)) (by walk_at "r")).front (p := (fe, _)) (by walk_at "r")
 refine kv_rule_spec (A := A.deeper _) (k := k) (p := 0) (xs := queueT) (item := item) (rest := []) (fx := fx) (fdx := fdx) (fd := fd) (fe := fe) (nx := nx) (ndx := ndx) (nd := nd) (x := x) (dx := dx) (os := os) (ft := ft) (fu := fu) (nt := nt)
  gd hs S (show A.depth + 1 + (k + 4) < recursionLimit by walk_at "o") hh hn hl0 (by decide) (by decide) hi hV hlst fun v N t s hv S => ?_
 dsimp only [nestL, List.cons_append, List.nil_append] at S
 refine S.gen2 "src" "out" (by walk_at "l") (by walk_at "l") fun m2 l1 l2 S => ?_
 walk_at "g"
 have sub : ∀ q ∈ (L, Ob.ns m) :: (685, kodeO) :: D, ∀ (l1 l2 : Led) (h5 : Addr), q ∈ l1 ++ ((h5, Ob.tup []) :: (685, kodeO) :: (l2 ++ (L, Ob.ns m) :: D)) := by
  intro q hq l1 l2 h5
  rcases List.mem_cons.mp hq with rfl | hq
  ·simp
  ·rcases List.mem_cons.mp hq with rfl | hq
   ·simp
   ·simp [hq]
 refine zK (A := A.deeper _) (p := 0 + queueT.length + 3 + item.length) (xs := []) (ys := []) gd' (by assumption) (show A.depth + 1 < recursionLimit by walk_at "o") hh hs.ws (by decide) hn (by rw [hlen]; simp) (by rw [hle]; rfl) (fun c hc => by cases hc) (fun d r e => by cases e)
  (fun _ => hstk.enter.sub fun q hq => sub q hq [_, _, _, _, _] N _) fun t s S => ?_
 walk_at "g"
 refine skip_comment_end (A := A.deeper _) (p := 0 + queueT.length + 3 + item.length) gd' (by assumption) (show A.depth + 1 < recursionLimit by walk_at "o") hh (hstk.enter.sub fun q hq => sub q hq [_, _, _, _, _] N _) hn hle (by rw [hlen]; simp) fun t s S => ?_
 walk_at "g"
 rename_i S
 refine r_tryD (cls := "IndexError") gd' S (fun m' => m' "out" = some (.ref x)) (by rfl) (by rfl) ?_ ?_
 ·walk_at "g"
  exact r_chrEnd (by assumption) hh hle (by rw [hlen]; simp) hn fun ev s' X => ⟨_, _, ⟨by walk_at "l", rfl⟩, Noted.new X (hstk.enter.sub fun q hq => sub q hq [_, _, _, _, _] N _) (hstk.fr) rfl⟩
 ·intro m' e s h1 S
  walk_at "g"
  refine r_outdata gd' (by assumption) (by walk_at "m") (by walk_at "m") (show A.depth + 1 < recursionLimit by walk_at "o") fun s S => ?_
  walk_at "g"
  refine r_getown (C := 566) (attr := none) gd' (by assumption) (by walk_at "m") (by walk_at "m") (by rfl) (by kernel_rfl) (by kernel_rfl) (by kernel_rfl) (by kernel_rfl) (by rfl) fun s S => ?_
  walk_at "g"
  exact hQ _ _ <| h nd v N _ hv (S.out (.keep (.drop (.drop (.drop (.drop (.drop (.keep (Out.app .head N)))))))))
theorem loaded_spec (gd : Gx w H0) (hs : Sets w H0) {k : Nat} {l item : List Nat} {t0 : Tok} {V : Value -> Led -> Prop} {R : Result -> Shared -> Prop}
  (S : St H0 os0 L m ((685, kodeO) :: D) s) (hd : A.depth + (k + 7) < recursionLimit) (hh : A.handled = none) (hstk : OnStk A L ((685, kodeO) :: D))
  (hl : l = queueT ++ 32 :: 61 :: 32 :: item) (hn : l.length ≤ 16777216) (h13 : ∀ c ∈ l, c ≠ 13)
  (hi : ∃ c r, item = c :: r ∧ tomlWs.contains c = false) (hV : VSpecR w H0 os0 k item [] V) (hlst : ∀ v N, V v N -> ∃ a vs, v = .ref a ∧ (a, Ob.list vs) ∈ N)
  (h : ∀ d v N s', V v N -> St H0 os0 L m ((d, dicO w [(tx queueT, v)]) :: (685, kodeO) :: (N ++ D)) s' -> R (.ok (.ret (.ref d))) s') :
  codeAny (model pw w) A (.call (.ref 810) ⟨[.str (tx l) t0], []⟩) R s := by
 have gd' := gd.toGd
 refine r_enter (binds := [("text_here", .str (tx l) t0)]) gd' S (gd'.K 810 _ rfl) rfl (by kernel_rfl) rfl (.of_eq rfl) (by walk_at "o") rfl rfl fun L₁ s₁ S => ?_
 dsimp only [mOf, List.foldl] at S
 replace S := S.front (p := (685, _)) (by walk_at "r")
 refine r_tryN ?_
 walk_at "g"
 have sub : ∀ q ∈ (L, Ob.ns m) :: (685, kodeO) :: D, q ∈ (685, kodeO) :: (L, Ob.ns m) :: D := fun q hq => by
  rcases List.mem_cons.mp hq with rfl | hq
  ·exact .tail _ (.head _)
  ·rcases List.mem_cons.mp hq with rfl | hq
   ·exact .head _
   ·exact .tail _ (.tail _ hq)
 refine loads_spec (A := A.deeper _) gd hs S (show A.depth + 1 + (k + 6) < recursionLimit by walk_at "o") hh (hstk.enter.sub sub) hl hn h13 hi hV hlst fun d v N s hv S => ?_
 walk_at "g"
 exact h d v N _ hv (S.out (.keep (.keep (Out.app .head N))))
theorem r_isi_str_dict {x : Str} {t : Tok} {Q : QV} (S : St H0 os0 L m D s) (h : ∀ s', St H0 os0 L m D s' -> Q (.bool false) s') : wpAny (model pw w) A (call (.builtin "isinstance") [.str x t, .type "dict"]) Q E s :=
 call_isinstance (isinstance_false_str (by decide +kernel) PySem.F.isi_meta_dict PySem.F.sub_str_dict) (h _ (S.tok _))
theorem r_isi_str_list {x : Str} {t : Tok} {Q : QV} (S : St H0 os0 L m D s) (h : ∀ s', St H0 os0 L m D s' -> Q (.bool false) s') : wpAny (model pw w) A (call (.builtin "isinstance") [.str x t, .type "list"]) Q E s :=
 call_isinstance (isinstance_false_str (by decide +kernel) PySem.F.isi_meta_list PySem.F.sub_str_list) (h _ (S.tok _))
theorem r_isi_list_dict {a : Addr} {vs : List Value} {Q : QV} (S : St H0 os0 L m D s) (ha : (a, .list vs) ∈ D) (h : ∀ s', St H0 os0 L m D s' -> Q (.bool false) s') : wpAny (model pw w) A (call (.builtin "isinstance") [.ref a, .type "dict"]) Q E s := by
 obtain ⟨n, hL⟩ := S.get ha
 exact call_isinstance (isinstance_false_list (by decide +kernel) PySem.F.isi_meta_dict PySem.F.sub_list_dict) ⟨⟨_, hL, rfl⟩, h _ (S.tok _)⟩
theorem r_isi_list_list {a : Addr} {vs : List Value} {Q : QV} (S : St H0 os0 L m D s) (ha : (a, .list vs) ∈ D) (h : Q (.bool true) s) : wpAny (model pw w) A (call (.builtin "isinstance") [.ref a, .type "list"]) Q E s := by
 obtain ⟨n, hL⟩ := S.get ha
 exact call_isinstance_yes ⟨_, hL, rfl⟩ PySem.F.isi_meta_list PySem.F.sub_list_list h
theorem r_isi_dict_dict {d : Addr} {kvs : List (Str × Value)} {Q : QV} (S : St H0 os0 L m D s) (hd : (d, dicO w kvs) ∈ D) (h : Q (.bool true) s) : wpAny (model pw w) A (call (.builtin "isinstance") [.ref d, .type "dict"]) Q E s :=
 call_isinstance_yes (S.dic hd).typeIs PySem.F.isi_meta_dict PySem.F.sub_dict_dict h
noncomputable def joinL (c : List Nat) : List (List Nat) -> List Nat
 | [] => []
 | [x] => x
 | x :: y :: r => x ++ (c ++ joinL c (y :: r))
theorem Blank.space {b : List Nat} (h : Blank b) : Blank (b ++ [32]) := by
 induction h with
 | ws xs hx =>
  refine .ws _ fun c hc => ?_
  rcases List.mem_append.mp hc with q | q
  ·exact hx c q
  ·rw [List.mem_singleton.mp q]; rfl
 | rem xs ds ys hx hd hy ih =>
  have := Blank.rem xs ds (ys ++ [32]) hx hd ih
  simpa using this
theorem arr_join {b b2 : List Nat} (hb : Blank b) (hb2 : Blank b2) (last : Bool) : ∀ items : List (List Nat × (Value -> Led -> Prop)), items ≠ [] →
  Arr items (joinL (b ++ 44 :: b2) (items.map (·.1)) ++ ((if last then b ++ 44 :: b2 else []) ++ [32, 93]))
 | [], h => absurd rfl h
 | [x], _ => by
  cases last with
  | true =>
   have := Arr.lastC x b (b2 ++ [32]) hb hb2.space
   simpa [joinL] using this
  | false =>
   have := Arr.last x [32] (.ws _ fun c hc => by cases hc with | head => rfl | tail _ q => cases q)
   simpa [joinL] using this
 | x :: y :: r, _ => by
  have := Arr.more x b b2 (y :: r) _ hb hb2 (arr_join hb hb2 last (y :: r) (by simp))
  simpa [joinL] using this
noncomputable def cmA : Nat -> List Nat
 | 1 => [10]
 | 2 => [32, 35, 32, 93, 44, 32, 39, 120, 39, 10]
 | _ => []
noncomputable def cmZ : Nat -> List Nat
 | 0 => [32]
 | 1 => [9]
 | 2 => [32]
 | _ => [35, 32, 91, 10]
noncomputable def open0 : Nat -> List Nat
 | 0 => []
 | 1 => [10]
 | _ => [32, 35, 32, 91, 10]
theorem zJ {xs : List Nat} (h : xs.all (fun c => tomlWsNl.contains c) = true) : Blank xs := .ws _ fun c hc => List.all_eq_true.mp h c hc
theorem blank_rem {xs ds ys : List Nat} (h : xs.all (fun c => tomlWsNl.contains c) = true) (hd : ds.all (fun c => !illBasic.contains c) = true) (hy : Blank ys) : Blank (xs ++ (35 :: (ds ++ (10 :: ys)))) :=
 .rem xs ds ys (fun c hc => List.all_eq_true.mp h c hc) (fun c hc => by simpa using List.all_eq_true.mp hd c hc) hy
theorem cmA_blank (n : Nat) : Blank (cmA n) := by
 match n with
 | 0 => exact zJ (by decide)
 | 1 => exact zJ (by decide)
 | 2 => exact blank_rem (xs := [32]) (ds := [32, 93, 44, 32, 39, 120, 39]) (ys := []) (by decide) (by decide) (zJ (by decide))
 | n + 3 => exact zJ (xs := []) (by decide)
theorem cmZ_blank (n : Nat) : Blank (cmZ n) := by
 match n with
 | 0 => exact zJ (by decide)
 | 1 => exact zJ (by decide)
 | 2 => exact zJ (by decide)
 | n + 3 => exact blank_rem (xs := []) (ds := [32, 91]) (ys := []) (by decide) (by decide) (zJ (by decide))
theorem open0_blank (n : Nat) : Blank (open0 n) := by
 match n with
 | 0 => exact zJ (by decide)
 | 1 => exact zJ (by decide)
 | n + 2 => exact blank_rem (xs := [32]) (ds := [32, 91]) (ys := []) (by decide) (by decide) (zJ (by decide))
noncomputable def rowT : List Nat := [114, 111, 119]
noncomputable def itemT (st : Nat) (t : List Nat) : List Nat := match st with
 | 0 => 39 :: (t ++ [39])
 | 1 => 34 :: (t ++ [34])
 | 2 => 39 :: 39 :: 39 :: 10 :: (t ++ [39, 39, 39])
 | 3 => 91 :: ([32] ++ ((39 :: (t ++ [39])) ++ ([] ++ 44 :: ([32] ++ [93]))))
 | _ => 123 :: 32 :: (rowT ++ 32 :: 61 :: 32 :: ((34 :: (t ++ [34])) ++ [32, 125]))
def itemV (w : World) (st : Nat) (t : List Nat) : Value -> Led -> Prop := match st with
 | 0 => IsText t
 | 1 => IsText t
 | 2 => IsText t
 | 3 => ArrV [IsText t]
 | _ => TabV w rowT (IsText t)
structure RowOk (t : List Nat) : Prop where
 ne : t ≠ []
 ok : ∀ d ∈ t, d ≠ 39 ∧ d ≠ 34 ∧ d ≠ 92 ∧ d ≠ 13 ∧ illBasic.contains d = false ∧ illMulti.contains d = false
theorem VSpec.mono {w : World} {H0 : Heap} {os0 : OsState} {k k' : Nat} {item : List Nat} {V : Value -> Led -> Prop} (h : VSpec w H0 os0 k item V) (hk : k ≤ k') : VSpec w H0 os0 k' item V :=
 fun S hd hh hn hl hc h' => h S (by lia) hh hn hl hc h'
theorem item_spec {w : World} {H0 : Heap} {os0 : OsState} (gd : Gd w H0) (hs : Sets w H0) {st : Nat} {t : List Nat} (h : RowOk t) : VSpec w H0 os0 8 (itemT st t) (itemV w st t) := by
 obtain ⟨x, xs, rfl⟩ : ∃ x xs, t = x :: xs := by cases t with | nil => exact absurd rfl h.ne | cons x r => exact ⟨x, r, rfl⟩
 have lit : VSpec w H0 os0 2 (39 :: (x :: xs ++ [39])) (IsText (x :: xs)) := pv_lit gd hs fun d hd => ⟨(h.ok d hd).1, (h.ok d hd).2.2.2.2.1⟩
 have bas : VSpec w H0 os0 3 (34 :: (x :: xs ++ [34])) (IsText (x :: xs)) := pv_basic gd hs fun d hd => ⟨(h.ok d hd).2.1, (h.ok d hd).2.2.1, (h.ok d hd).2.2.2.2.1⟩
 have lit3 : VSpec w H0 os0 3 (39 :: (x :: xs ++ [39])) (IsText (x :: xs)) := @VSpec.mono w H0 os0 2 3 _ _ lit (by lia)
 have mul : VSpec w H0 os0 3 (39 :: 39 :: 39 :: 10 :: (x :: xs ++ [39, 39, 39])) (IsText (x :: xs)) := pv_multi gd hs (xs := x :: xs) fun d hd => ⟨(h.ok d hd).1, (h.ok d hd).2.2.2.2.2⟩
 have arr : VSpec w H0 os0 (3 + 2) (91 :: ([32] ++ ((39 :: (x :: xs ++ [39])) ++ ([] ++ 44 :: ([32] ++ [93]))))) (ArrV ([(39 :: (x :: xs ++ [39]), IsText (x :: xs))].map (·.2))) :=
  pv_arr (os0 := os0) gd hs (k := 3) (Nat.le_refl _) (items := [(39 :: (x :: xs ++ [39]), IsText (x :: xs))]) (b0 := [32]) (by simp)
   (fun y hy => by
    cases hy with
    | head => exact ⟨⟨39, _, rfl, by decide, by decide, by decide⟩, @lit3⟩
    | tail _ q => cases q) (zJ (by decide)) (Arr.lastC (39 :: (x :: xs ++ [39]), IsText (x :: xs)) [] [32] (zJ (by decide)) (zJ (by decide)))
 have inl : VSpec w H0 os0 (3 + 5) (123 :: 32 :: (rowT ++ 32 :: 61 :: 32 :: ((34 :: (x :: xs ++ [34])) ++ [32, 125]))) (TabV w rowT (IsText (x :: xs))) :=
  pv_inline gd hs (k := 3) (Nat.le_refl _) (xs := rowT) (by decide) (by decide) ⟨34, _, rfl, by decide⟩ bas
 match st with
 | 0 => exact @VSpec.mono w H0 os0 2 8 _ _ lit (by lia)
 | 1 => exact @VSpec.mono w H0 os0 3 8 _ _ bas (by lia)
 | 2 => exact @VSpec.mono w H0 os0 3 8 _ _ mul (by lia)
 | 3 => exact @VSpec.mono w H0 os0 (3 + 2) 8 _ _ arr (by lia)
 | n + 4 => exact @VSpec.mono w H0 os0 (3 + 5) 8 _ _ inl (by lia)
theorem item_ok (st : Nat) (t : List Nat) : ItemOk (itemT st t) := by
 match st with
 | 0 => exact ⟨39, _, rfl, by decide, by decide, by decide⟩
 | 1 => exact ⟨34, _, rfl, by decide, by decide, by decide⟩
 | 2 => exact ⟨39, _, rfl, by decide, by decide, by decide⟩
 | 3 => exact ⟨91, _, rfl, by decide, by decide, by decide⟩
 | n + 4 => exact ⟨123, _, rfl, by decide, by decide, by decide⟩
noncomputable def docItem (man : Nat) (rows : List (Nat × List Nat)) (last : Bool) : List Nat :=
 91 :: (open0 (man % 3) ++ (joinL (cmA (man % 4) ++ 44 :: cmZ (man % 4)) (rows.map fun x => itemT x.1 x.2) ++ ((if last then cmA (man % 4) ++ 44 :: cmZ (man % 4) else []) ++ [32, 93])))
theorem doc_spec {w : World} {H0 : Heap} {os0 : OsState} (gd : Gd w H0) (hs : Sets w H0) {man : Nat} {rows : List (Nat × List Nat)} {last : Bool} (hr : ∀ x ∈ rows, RowOk x.2) (hl : rows.length ≤ 1000) (h0 : rows = [] -> last = false) :
  VSpecR w H0 os0 10 (docItem man rows last) [] (ArrV (rows.map fun x => itemV w x.1 x.2)) := by
 cases rows with
 | nil =>
  have : VSpecR w H0 os0 5 (91 :: (open0 (man % 3) ++ [32] ++ [93])) [] (ArrV []) := pv_arr0R (os0 := os0) gd hs (rest := []) (open0_blank (man % 3)).space
  rw [h0 rfl]
  unfold docItem
  simp only [List.map_nil, joinL, Bool.false_eq_true, if_false, List.nil_append]
  intro L m D s A R l p t0 t1 pf S hd hh hn hl h
  have e : 91 :: (open0 (man % 3) ++ [32] ++ [93]) = 91 :: (open0 (man % 3) ++ [32, 93]) := by simp
  rw [e] at this
  exact this S (by lia) hh hn hl h
 | cons x r =>
  have : VSpecR w H0 os0 10 _ [] _ := pv_arrR (os0 := os0) gd hs (k := 8) (by lia) (items := (x :: r).map fun x => (itemT x.1 x.2, itemV w x.1 x.2)) (b0 := open0 (man % 3)) (rest := []) (by simpa using hl)
   (fun y hy => by
    obtain ⟨z, hz, rfl⟩ := List.mem_map.mp hy
    exact ⟨item_ok _ _, item_spec gd hs (hr z hz)⟩) (open0_blank _) (arr_join (cmA_blank (man % 4)) (cmZ_blank (man % 4)) last _ (by simp))
  rw [List.map_map, List.map_map] at this
  exact @this
def Thing (w : World) (D : Led) (v : Value) (t : List Nat) : Prop :=
 (∃ k, v = .str (tx t) k) ∨ (∃ a k, v = .ref a ∧ (a, Ob.list [.str (tx t) k]) ∈ D) ∨ (∃ d k, v = .ref d ∧ (d, dicO w [(tx rowT, .str (tx t) k)]) ∈ D)
theorem rows_spec (gd : Gd w H0) {l : Addr} {vs : List Value} {ts : List (List Nat)} {R : Result -> Shared -> Prop} (S : St H0 os0 L m D s) (hd : A.depth + 1 < recursionLimit) (hh : A.handled = none)
  (hl : (l, .list vs) ∈ D) (hb : vs.length ≤ 1000) (hn : vs.length = ts.length) (ht : ∀ i, i < vs.length -> Thing w D (vs.getD i .none) (ts.getD i []))
  (h : ∀ r ws s', StrsAre ws (ts.map tx) -> St H0 os0 L m ((r, .list ws) :: D) s' -> R (.ok (.ret (.ref r))) s') :
  codeAny (model pw w) A (.call (.ref 831) ⟨[.ref l], []⟩) R s := by
 refine r_enter (binds := [("things", .ref l)]) gd S (gd.K 831 _ rfl) rfl (by kernel_rfl) rfl (.of_eq rfl) (by walk_at "o") rfl rfl fun L₁ s₁ S => ?_
 dsimp only [mOf, List.foldl] at S
 walk_at "g"
 rename_i r _ _ _ S
 refine r_for (fun s => ∃ ws m', StrsAre ws (ts.map tx) ∧ m' "rows" = some (.ref r) ∧ St H0 os0 L₁ m' ((r, .list ws) :: (L, .ns m) :: D) s)
  (r_name S (by walk_at "l") <| r_iter_list S (.tail _ (.tail _ hl)) fun it s S =>
   r_loop (Source.list (A := A.deeper _) hh _ it l vs) (fun i m' D' => ∃ ws, D' = (r, .list ws) :: (L, .ns m) :: D ∧ StrsAre ws ((ts.take i).map tx) ∧ m' "rows" = some (.ref r)) _ (fun _ _ _ q => by obtain ⟨ws, rfl, _⟩ := q; exact .tail _ (.tail _ hl)) S ⟨[], rfl, by simpa using StrsAre.nil, by walk_at "l"⟩ ?_ ?_) ?_
 ·intro i m' D' v N s hi hJ hV S
  refine genb fun Q1 hQ1 => ?_
  obtain ⟨ws, rfl, h1, h2⟩ := hJ
  obtain ⟨hv, rfl⟩ := hV
  have T := ht i hi
  rw [show vs.getD i .none = v by simp [List.getD, hv]] at T
  have hw : ws.length ≤ 1000 := by have := Internal.StrsAre.length_eq h1; simp at this; lia
  have hz : ws.length ≤ sizeLine := zL (by walk_at "o")
  have push : ∀ k, StrsAre (ws ++ [.str (tx (ts.getD i [])) k]) ((ts.take (i + 1)).map tx) := fun k => by
   have e : ts.take (i + 1) = ts.take i ++ [ts.getD i []] := by
    rw [List.take_succ, List.getElem?_eq_getElem (by walk_at "o")]
    simp [List.getD, show i < ts.length by walk_at "o"]
   rw [e, List.map_append]
   exact StrsAre.push h1
  dsimp only [List.nil_append, List.cons_append] at S
  rcases T with ⟨k, rfl⟩ | ⟨a, k, rfl, ha⟩ | ⟨d, k, rfl, hdd⟩
  ·walk_at "g"
   refine r_callb (v := .builtin "isinstance") gd (by assumption) (by kernel_rfl) (by kernel_rfl) (by rfl) ?_
   iterate 3 walk_at "d"
   refine r_builtin (v := .type "dict") gd (by assumption) (by kernel_rfl) (by kernel_rfl) ?_
   walk_at "g"
   refine r_isi_str_dict (by assumption) fun s S => ?_
   iterate 4 walk_at "d"
   refine r_callb (v := .builtin "isinstance") gd (by assumption) (by kernel_rfl) (by kernel_rfl) (by rfl) ?_
   iterate 3 walk_at "d"
   refine r_builtin (v := .type "list") gd (by assumption) (by kernel_rfl) (by kernel_rfl) ?_
   walk_at "g"
   refine r_isi_str_list (by assumption) fun s S => ?_
   walk_at "g"
   refine r_append ?_
   walk_at "g"
   refine r_appendO (by assumption) (by walk_at "m") ?_
   walk_at "g"
   refine zY (by assumption) (by walk_at "a") hz fun s S => ?_
   walk_at "g"
   exact hQ1 _ _ ⟨_, _, ⟨_, rfl, push k, by walk_at "l"⟩, S⟩
  ·walk_at "g"
   refine r_callb (v := .builtin "isinstance") gd (by assumption) (by kernel_rfl) (by kernel_rfl) (by rfl) ?_
   iterate 3 walk_at "d"
   refine r_builtin (v := .type "dict") gd (by assumption) (by kernel_rfl) (by kernel_rfl) ?_
   walk_at "g"
   refine r_isi_list_dict (vs := [.str (tx (ts.getD i [])) k]) (by assumption) (.tail _ (.tail _ (.tail _ ha))) fun s S => ?_
   iterate 4 walk_at "d"
   refine r_callb (v := .builtin "isinstance") gd (by assumption) (by kernel_rfl) (by kernel_rfl) (by rfl) ?_
   iterate 3 walk_at "d"
   refine r_builtin (v := .type "list") gd (by assumption) (by kernel_rfl) (by kernel_rfl) ?_
   walk_at "g"
   refine r_isi_list_list (vs := [.str (tx (ts.getD i [])) k]) (by assumption) (.tail _ (.tail _ (.tail _ ha))) ?_
   walk_at "g"
   refine r_append ?_
   walk_at "g"
   refine r_appendO (by assumption) (by walk_at "m") ?_
   walk_at "g"
   refine r_itemN (vs := [.str (tx (ts.getD i [])) k]) (j := 0) (by assumption) (.tail _ (.tail _ (.tail _ ha))) (by walk_at "s") (by walk_at "s") ?_
   refine zY (by assumption) (by walk_at "a") hz fun s S => ?_
   walk_at "g"
   exact hQ1 _ _ ⟨_, _, ⟨_, rfl, push k, by walk_at "l"⟩, S⟩
  ·walk_at "g"
   refine r_callb (v := .builtin "isinstance") gd (by assumption) (by kernel_rfl) (by kernel_rfl) (by rfl) ?_
   iterate 3 walk_at "d"
   refine r_builtin (v := .type "dict") gd (by assumption) (by kernel_rfl) (by kernel_rfl) ?_
   walk_at "g"
   refine r_isi_dict_dict (by assumption) (.tail _ (.tail _ (.tail _ hdd))) ?_
   walk_at "g"
   refine r_append ?_
   walk_at "g"
   refine r_appendO (by assumption) (by walk_at "m") ?_
   walk_at "g"
   refine r_dget (kvs := [(tx rowT, .str (tx (ts.getD i [])) k)]) (v := .str (tx (ts.getD i [])) k) (by assumption) (.tail _ (.tail _ (.tail _ hdd))) (by rfl) fun s S => ?_
   refine zY (by assumption) (by walk_at "a") hz fun s S => ?_
   walk_at "g"
   exact hQ1 _ _ ⟨_, _, ⟨_, rfl, push k, by walk_at "l"⟩, S⟩
 ·rintro m' D' s ⟨ws, rfl, h1, h2⟩ S
  refine wpAny_execs_nil ⟨ws, m', ?_, h2, S⟩
  rwa [hn, List.take_length] at h1
 ·rintro s ⟨ws, m', h1, h2, S⟩
  walk_at "g"
  exact h r ws _ h1 (S.out (.keep .head))
theorem lex_append {x y a b : List Nat} (h : x.length = y.length) : x ++ a < y ++ b ↔ x < y ∨ (x = y ∧ a < b) := by
 induction x generalizing y with
 | nil =>
  obtain rfl : y = [] := by cases y with | nil => rfl | cons _ _ => simp at h
  simp
 | cons u x ih => cases y with
  | nil => simp at h
  | cons v y =>
   have h' : x.length = y.length := by simpa using h
   rw [List.cons_append, List.cons_append, List.cons_lt_cons_iff, List.cons_lt_cons_iff, ih h']
   constructor
   ·rintro (q | ⟨rfl, q | ⟨rfl, q⟩⟩)
    ·exact .inl (.inl q)
    ·exact .inl (.inr ⟨rfl, q⟩)
    ·exact .inr ⟨rfl, q⟩
   ·rintro ((q | ⟨rfl, q⟩) | ⟨q, r⟩)
    ·exact .inl q
    ·exact .inr ⟨rfl, .inl q⟩
    ·cases q; exact .inr ⟨rfl, .inr ⟨rfl, r⟩⟩
theorem hit1 (k i : Nat) : decide (k &&& 2 ^ i = 2 ^ i) = k.testBit i := by
 rw [Bool.eq_iff_iff, decide_eq_true_eq]
 constructor
 ·intro h
  have h1 := congrArg (Nat.testBit · i) h
  simpa [Nat.testBit_and, Nat.testBit_two_pow_self] using h1
 ·intro h
  apply Nat.eq_of_testBit_eq
  intro n
  rw [Nat.testBit_and, Nat.testBit_two_pow]
  by_cases e : i = n
  ·subst e; simp [h]
  ·simp [e]
theorem bit_dig (k i : Nat) : k / 2 ^ i % 2 = (k.testBit i).toNat := by
 rw [Nat.testBit_eq_decide_div_mod_eq]
 rcases Nat.mod_two_eq_zero_or_one (k / 2 ^ i) with h | h <;> rw [h] <;> rfl
noncomputable def third (lo hi : Nat) (o x : Bool) : Nat := if o && x then hi else if o then lo else if x then 120 else 45
noncomputable def triad (lo hi : Nat) (r w x o : Bool) : List Nat := [if r then 114 else 45, if w then 119 else 45, third lo hi o x]
noncomputable def dig (r w x o : Bool) : Nat := (2 * r.toNat + w.toNat) * 4 + [0, 3, 1, 2].getD (2 * o.toNat + x.toNat) 0
noncomputable def kch : List Nat := [63, 112, 99, 63, 100, 63, 98, 63, 45, 63, 108, 63, 115, 63, 63, 63]
theorem and_high (k : Nat) : k &&& 61440 = k / 4096 % 16 * 4096 := by
 have e : k / 4096 % 16 * 4096 = ((k >>> 12) &&& 15) <<< 12 := by
  rw [Nat.shiftLeft_eq, Nat.shiftRight_eq_div_pow, show (15 : Nat) = 2 ^ 4 - 1 from rfl, Nat.and_two_pow_sub_one_eq_mod]
 rw [e]
 apply Nat.eq_of_testBit_eq
 intro i
 rw [Nat.testBit_and, Nat.testBit_shiftLeft, Nat.testBit_and, Nat.testBit_shiftRight]
 by_cases h : 12 ≤ i
 ·obtain ⟨j, rfl⟩ : ∃ j, i = 12 + j := ⟨i - 12, by lia⟩
  have e3 : (61440 : Nat).testBit (12 + j) = (15 : Nat).testBit j := by
   rw [show (61440 : Nat) = 15 <<< 12 from rfl, Nat.testBit_shiftLeft]
   simp
  rw [e3]
  simp
 ·have e3 : (61440 : Nat).testBit i = false := by
   rw [show (61440 : Nat) = 15 <<< 12 from rfl, Nat.testBit_shiftLeft]
   simp [h]
  rw [e3]
  simp [h]
noncomputable def fmK (v : Nat) : Nat := match ((fmTab.getD 0 (0, [])).2.find? fun y => decide (v = y.2.1)) with
 | some y => y.2.2.2.1
 | none => 63
theorem fmK_all : ∀ q : Fin 16, fmK (q.val * 4096) = kch.getD q.val 0 := by decide
theorem fm_kind (k : Nat) : fmCh k 0 = kch.getD (k / 4096 % 16) 0 := by
 have e : fmCh k 0 = fmK (k &&& 61440) := rfl
 rw [e, and_high]
 exact fmK_all ⟨_, Nat.mod_lt _ (by decide)⟩
theorem hit2 (k i j : Nat) (_ : i ≠ j) : decide (k &&& (2 ^ i ||| 2 ^ j) = 2 ^ i ||| 2 ^ j) = (k.testBit i && k.testBit j) := by
 rw [Bool.eq_iff_iff, decide_eq_true_eq, Bool.and_eq_true]
 constructor
 ·intro h
  have h1 := congrArg (Nat.testBit · i) h
  have h2 := congrArg (Nat.testBit · j) h
  simp [Nat.testBit_and, Nat.testBit_or, Nat.testBit_two_pow_self] at h1 h2
  exact ⟨h1, h2⟩
 ·rintro ⟨h1, h2⟩
  apply Nat.eq_of_testBit_eq
  intro n
  rw [Nat.testBit_and, Nat.testBit_or, Nat.testBit_two_pow, Nat.testBit_two_pow]
  by_cases e : i = n
  ·subst e; simp [h1]
  ·by_cases e2 : j = n
   ·subst e2; simp [h2]
   ·simp [e, e2]
theorem fm_one (k i n b a c t u : Nat) (hi : i ≠ 0) (he : fmTab.getD i (0, []) = (a, [(c, 2 ^ b, t, n, u)])) : fmCh k i = if k.testBit b then n else 45 := by
 unfold fmCh fmHit
 rw [he, if_neg hi]
 simp only [if_neg hi]
 have := hit1 k b
 cases e : k.testBit b with
 | true => rw [e] at this; simp [this, List.find?]
 | false => rw [e] at this; simp [this, List.find?]
theorem fm_third (k i s x lo hi a c1 c2 c3 t1 t2 t3 u1 u2 u3 : Nat) (h0 : i ≠ 0) (hsx : s ≠ x) (he : fmTab.getD i (0, []) = (a, [(c1, 2 ^ s ||| 2 ^ x, t1, hi, u1), (c2, 2 ^ s, t2, lo, u2), (c3, 2 ^ x, t3, 120, u3)])) :
  fmCh k i = third lo hi (k.testBit s) (k.testBit x) := by
 unfold fmCh fmHit third
 rw [he]
 simp only [if_neg h0]
 have e1 := hit2 k s x hsx
 have e2 := hit1 k s
 have e3 := hit1 k x
 simp only [List.find?, e1, e2, e3]
 cases k.testBit s <;> cases k.testBit x <;> rfl
theorem fm_text (k : Nat) : zM k = [kch.getD (k / 4096 % 16) 0] ++ (triad 83 115 (k.testBit 8) (k.testBit 7) (k.testBit 6) (k.testBit 11) ++ (triad 83 115 (k.testBit 5) (k.testBit 4) (k.testBit 3) (k.testBit 10) ++
  triad 84 116 (k.testBit 2) (k.testBit 1) (k.testBit 0) (k.testBit 9))) := by
 show [fmCh k 0, fmCh k 1, fmCh k 2, fmCh k 3, fmCh k 4, fmCh k 5, fmCh k 6, fmCh k 7, fmCh k 8, fmCh k 9] = _
 rw [fm_kind, fm_one k 1 114 8 _ _ _ _ (by decide) rfl, fm_one k 2 119 7 _ _ _ _ (by decide) rfl, fm_third k 3 11 6 83 115 _ _ _ _ _ _ _ _ _ _ (by decide) (by decide) rfl,
  fm_one k 4 114 5 _ _ _ _ (by decide) rfl, fm_one k 5 119 4 _ _ _ _ (by decide) rfl, fm_third k 6 10 3 83 115 _ _ _ _ _ _ _ _ _ _ (by decide) (by decide) rfl,
  fm_one k 7 114 2 _ _ _ _ (by decide) rfl, fm_one k 8 119 1 _ _ _ _ (by decide) rfl, fm_third k 9 9 0 84 116 _ _ _ _ _ _ _ _ _ _ (by decide) (by decide) rfl]
 rfl
noncomputable def lowOk (m : Nat) : Bool :=
 m / 64 % 8 / 2 * 4 + [0, 3, 1, 2].getD (2 * (m / 2048 % 2) + m / 64 % 8 % 2) 0 == dig (m.testBit 8) (m.testBit 7) (m.testBit 6) (m.testBit 11) &&
 m / 8 % 8 / 2 * 4 + [0, 3, 1, 2].getD (2 * (m / 1024 % 2) + m / 8 % 8 % 2) 0 == dig (m.testBit 5) (m.testBit 4) (m.testBit 3) (m.testBit 10) &&
 m / 1 % 8 / 2 * 4 + [0, 3, 1, 2].getD (2 * (m / 512 % 2) + m / 1 % 8 % 2) 0 == dig (m.testBit 2) (m.testBit 1) (m.testBit 0) (m.testBit 9)
theorem low_all : (List.range 4096).all lowOk = true := by decide +kernel
theorem tbit (k i : Nat) (h : decide (i < 12) = true) : k.testBit i = (k % 4096).testBit i := by
 rw [show (4096 : Nat) = 2 ^ 12 from rfl, Nat.testBit_mod_two_pow, h, Bool.true_and]
theorem rk_eq (k : Nat) : rk k = ((kindRank.getD (k / 4096 % 16) 0 * 16 + dig (k.testBit 8) (k.testBit 7) (k.testBit 6) (k.testBit 11)) * 16 + dig (k.testBit 5) (k.testBit 4) (k.testBit 3) (k.testBit 10)) * 16 + dig (k.testBit 2) (k.testBit 1) (k.testBit 0) (k.testBit 9) := by
 have hl : k &&& 4095 = k % 4096 := by rw [show (4095 : Nat) = 2 ^ 12 - 1 from rfl, Nat.and_two_pow_sub_one_eq_mod]
 have hq : (k &&& 61440) / 4096 = k / 4096 % 16 := by rw [and_high, Nat.mul_div_cancel _ (by decide)]
 have h := List.all_eq_true.mp low_all (k % 4096) (List.mem_range.mpr (Nat.mod_lt _ (by decide)))
 unfold lowOk at h
 obtain ⟨h, h3⟩ := Bool.and_eq_true_iff.mp h
 obtain ⟨h1, h2⟩ := Bool.and_eq_true_iff.mp h
 rw [tbit k 8 rfl, tbit k 7 rfl, tbit k 6 rfl, tbit k 11 rfl, tbit k 5 rfl, tbit k 4 rfl, tbit k 3 rfl, tbit k 10 rfl, tbit k 2 rfl, tbit k 1 rfl, tbit k 0 rfl, tbit k 9 rfl, ← eq_of_beq h1, ← eq_of_beq h2, ← eq_of_beq h3]
 unfold rk
 rw [hq]
 unfold rkStep
 rw [hl]
 simp only [← Nat.add_assoc]
 rfl
theorem triad_a : ∀ r w x o r' w' x' o' : Bool, (triad 83 115 r w x o < triad 83 115 r' w' x' o' ↔ dig r w x o < dig r' w' x' o') ∧ (triad 83 115 r w x o = triad 83 115 r' w' x' o' ↔ dig r w x o = dig r' w' x' o') := by decide
theorem triad_b : ∀ r w x o r' w' x' o' : Bool, (triad 84 116 r w x o < triad 84 116 r' w' x' o' ↔ dig r w x o < dig r' w' x' o') ∧ (triad 84 116 r w x o = triad 84 116 r' w' x' o' ↔ dig r w x o = dig r' w' x' o') := by decide
theorem kind_o : ∀ q q' : Fin 16, ([kch.getD q 0] < [kch.getD q' 0] ↔ kindRank.getD q 0 < kindRank.getD q' 0) ∧ ([kch.getD q 0] = [kch.getD q' 0] ↔ kindRank.getD q 0 = kindRank.getD q' 0) := by decide
theorem dig_lt (r w x o : Bool) : dig r w x o < 16 := by cases r <;> cases w <;> cases x <;> cases o <;> decide
theorem lex_num {x y a b : List Nat} {r r' d d' : Nat} (h : x.length = y.length) (hd : d < 16) (hd' : d' < 16) (h1 : (x < y ↔ r < r') ∧ (x = y ↔ r = r')) (h2 : (a < b ↔ d < d') ∧ (a = b ↔ d = d')) :
  (x ++ a < y ++ b ↔ r * 16 + d < r' * 16 + d') ∧ (x ++ a = y ++ b ↔ r * 16 + d = r' * 16 + d') := by
 refine ⟨?_, ?_⟩
 ·rw [lex_append h, h1.1, h1.2, h2.1]
  constructor
  ·rintro (q | ⟨rfl, q⟩) <;> lia
  ·intro q
   by_cases e : r < r'
   ·exact .inl e
   ·exact .inr ⟨by lia, by lia⟩
 ·constructor
  ·intro q
   obtain ⟨q1, q2⟩ := List.append_inj q h
   rw [h1.2.mp q1, h2.2.mp q2]
  ·intro q
   rw [h1.2.mpr (by lia), h2.2.mpr (by lia)]
theorem fm_order (k j : Nat) : (zM k < zM j ↔ rk k < rk j) ∧ (zM k = zM j ↔ rk k = rk j) := by
 rw [fm_text, fm_text, rk_eq, rk_eq]
 have h0 := kind_o ⟨k / 4096 % 16, Nat.mod_lt _ (by decide)⟩ ⟨j / 4096 % 16, Nat.mod_lt _ (by decide)⟩
 have h1 := lex_num (by rfl) (dig_lt _ _ _ _) (dig_lt _ _ _ _) h0 (triad_a (k.testBit 8) (k.testBit 7) (k.testBit 6) (k.testBit 11) (j.testBit 8) (j.testBit 7) (j.testBit 6) (j.testBit 11))
 have h2 := lex_num (by rfl) (dig_lt _ _ _ _) (dig_lt _ _ _ _) h1 (triad_a (k.testBit 5) (k.testBit 4) (k.testBit 3) (k.testBit 10) (j.testBit 5) (j.testBit 4) (j.testBit 3) (j.testBit 10))
 have h3 := lex_num (by rfl) (dig_lt _ _ _ _) (dig_lt _ _ _ _) h2 (triad_b (k.testBit 2) (k.testBit 1) (k.testBit 0) (k.testBit 9) (j.testBit 2) (j.testBit 1) (j.testBit 0) (j.testBit 9))
 simpa only [List.append_assoc] using h3
noncomputable def signs : List Nat := [63, 112, 99, 100, 98, 45, 108, 115, 114, 119, 83, 120, 84, 116]
theorem triad_signs (lo hi : Nat) (h1 : lo ∈ signs) (h2 : hi ∈ signs) (r w x o : Bool) : ∀ d ∈ triad lo hi r w x o, d ∈ signs := by
 intro d hd
 have hm : (if r then 114 else 45) ∈ signs := by cases r <;> decide
 have hw : (if w then 119 else 45) ∈ signs := by cases w <;> decide
 have ht : third lo hi o x ∈ signs := by
  unfold third
  cases o <;> cases x
  ·exact (by decide : 45 ∈ signs)
  ·exact (by decide : 120 ∈ signs)
  ·exact h1
  ·exact h2
 unfold triad at hd
 simp only [List.mem_cons, List.not_mem_nil, or_false] at hd
 rcases hd with rfl | rfl | rfl
 ·exact hm
 ·exact hw
 ·exact ht
theorem kind_signs : ∀ q : Fin 16, kch.getD q 0 ∈ signs := by decide
theorem fm_signs (k : Nat) : ∀ d ∈ zM k, d ∈ signs := by
 rw [fm_text]
 intro d hd
 rcases List.mem_append.mp hd with h | h
 ·rw [List.mem_singleton.mp h]
  exact kind_signs ⟨k / 4096 % 16, Nat.mod_lt _ (by decide)⟩
 ·rcases List.mem_append.mp h with h | h
  ·exact triad_signs 83 115 (by decide) (by decide) _ _ _ _ d h
  ·rcases List.mem_append.mp h with h | h
   ·exact triad_signs 83 115 (by decide) (by decide) _ _ _ _ d h
   ·exact triad_signs 84 116 (by decide) (by decide) _ _ _ _ d h
theorem signs_ok : ∀ d ∈ signs, d ≠ 39 ∧ d ≠ 34 ∧ d ≠ 92 ∧ d ≠ 13 ∧ illBasic.contains d = false ∧ illMulti.contains d = false := by decide
theorem fm_rowOk (k : Nat) : RowOk (zM k) := ⟨by unfold zM; simp, fun d hd => signs_ok d (fm_signs k d hd)⟩
theorem fm_len (k : Nat) : (zM k).length = 10 := by unfold zM; simp
theorem fm_tx (k : Nat) : fm k = tx (zM k) := rfl
theorem lenP {n c : Nat} {b : List Nat} (a : List Nat) (h : b.length ≤ n + c) : (a ++ b).length ≤ n + (c + a.length) := by
 rw [List.length_append, Nat.add_comm a.length, ← Nat.add_assoc]
 exact Nat.add_le_add_right h _
theorem lenS {n c : Nat} {a : List Nat} (b : List Nat) (h : a.length ≤ n + c) : (a ++ b).length ≤ n + (c + b.length) := by
 rw [List.length_append, ← Nat.add_assoc]
 exact Nat.add_le_add_right h _
theorem lenT {x n c : Nat} (h : x ≤ n + c) (hc : Nat.ble c 12 = true) : x ≤ n + 12 := Nat.le_trans h (Nat.add_le_add_left (Nat.le_of_ble_eq_true hc) _)
theorem itemT_len (st : Nat) (t : List Nat) : (itemT st t).length ≤ t.length + 12 :=
 match st with
 | 0 => lenT (lenP (b := t ++ [39]) [39] (lenS [39] (Nat.le_add_right _ 0))) rfl
 | 1 => lenT (lenP (b := t ++ [34]) [34] (lenS [34] (Nat.le_add_right _ 0))) rfl
 | 2 => lenT (lenP (b := t ++ [39, 39, 39]) [39, 39, 39, 10] (lenS [39, 39, 39] (Nat.le_add_right _ 0))) rfl
 | 3 => lenT (lenP [91, 32] (lenS [44, 32, 93] (lenP (b := t ++ [39]) [39] (lenS [39] (Nat.le_add_right _ 0))))) rfl
 | _ + 4 => lenT (lenP [123, 32, 114, 111, 119, 32, 61, 32] (lenS [32, 125] (lenP (b := t ++ [34]) [34] (lenS [34] (Nat.le_add_right _ 0))))) rfl
theorem item_len (st : Nat) (k : Nat) : (itemT st (zM k)).length ≤ 22 := Nat.le_trans (itemT_len st _) (Nat.le_of_eq (congrArg (· + 12) (fm_len k)))
def nC (l : List Nat) : Prop := ∀ d ∈ l, d ≠ 13
theorem nC_app {a b : List Nat} (h : nC a) (h' : nC b) : nC (a ++ b) := fun d q => (List.mem_append.mp q).elim (h d) (h' d)
theorem nCk (l : List Nat) (h : l.all (· != 13) = true) : nC l := fun d q => bne_iff_ne.mp (List.all_eq_true.mp h d q)
theorem itemT_mem {st : Nat} {t : List Nat} (h : nC t) : nC (itemT st t) :=
 match st with
 | 0 => nC_app (b := t ++ [39]) (nCk [39] rfl) (nC_app h (nCk _ rfl))
 | 1 => nC_app (b := t ++ [34]) (nCk [34] rfl) (nC_app h (nCk _ rfl))
 | 2 => nC_app (b := t ++ [39, 39, 39]) (nCk [39, 39, 39, 10] rfl) (nC_app h (nCk _ rfl))
 | 3 => nC_app (nCk [91, 32] rfl) (nC_app (b := [44, 32, 93]) (nC_app (b := t ++ [39]) (nCk [39] rfl) (nC_app h (nCk _ rfl))) (nCk _ rfl))
 | _ + 4 => nC_app (nCk [123, 32, 114, 111, 119, 32, 61, 32] rfl) (nC_app (b := [32, 125]) (nC_app (b := t ++ [34]) (nCk [34] rfl) (nC_app h (nCk _ rfl))) (nCk _ rfl))
def Told (w : World) (st : Nat) (t : List Nat) (v : Value) (N : Led) : Prop := match st with
 | 0 => ∃ k, v = .str (tx t) k
 | 1 => ∃ k, v = .str (tx t) k
 | 2 => ∃ k, v = .str (tx t) k
 | 3 => ∃ a k, v = .ref a ∧ (a, Ob.list [.str (tx t) k]) ∈ N
 | _ => ∃ d k, v = .ref d ∧ (d, dicO w [(tx rowT, .str (tx t) k)]) ∈ N
theorem Told.sub {w : World} {st : Nat} {t : List Nat} {v : Value} {N N' : Led} (h : Told w st t v N) (hs : ∀ p ∈ N, p ∈ N') : Told w st t v N' := by
 match st with
 | 0 => exact h
 | 1 => exact h
 | 2 => exact h
 | 3 => exact h.imp fun _ => Exists.imp fun _ => And.imp_right (hs _)
 | _ + 4 => exact h.imp fun _ => Exists.imp fun _ => And.imp_right (hs _)
noncomputable def sty (man i : Nat) : Nat := (man + i) % 5
noncomputable def zW (man : Nat) (ts : List (List Nat)) : List (Nat × List Nat) := ts.mapIdx fun i t => (sty man i, t)
theorem joinL_len (c : List Nat) (K : Nat) : ∀ xs : List (List Nat), (∀ x ∈ xs, x.length ≤ K) -> (joinL c xs).length ≤ xs.length * (K + c.length)
 | [], _ => by simp [joinL]
 | [x], h => by have := h x (.head _); simp [joinL]; lia
 | x :: y :: r, h => by
  have h1 := h x (.head _)
  have := joinL_len c K (y :: r) fun z hz => h z (.tail _ hz)
  simp only [joinL, List.length_append, List.length_cons] at this ⊢
  rw [Nat.add_mul _ 1]
  lia
theorem strs_getD {vs : List Value} {ys : List Str} (h : StrsAre vs ys) : ∀ {i : Nat}, i < ys.length -> ∃ k, vs.getD i .none = .str (ys.getD i ⟨#[]⟩) k := by
 induction h with
 | nil => intro i hi; simp at hi
 | cons y t r ih =>
  intro i hi
  cases i with
  | zero => exact ⟨t, rfl⟩
  | succ i => simpa using ih (by simpa using hi)
theorem join_tx (c : List Nat) (xs : List (List Nat)) : Txt.join (tx c) (xs.map tx) = tx (joinL c xs) := by
 have key : ∀ (r : List (List Nat)) (acc : Array Nat), (r.map tx).foldl (fun (acc : Array Nat) (p : Str) => acc ++ (tx c).cps ++ p.cps) acc = acc ++ ((r.map fun x => c ++ x).flatten).toArray := by
  intro r
  induction r with
  | nil => intro acc; simp
  | cons x r ih =>
   intro acc
   rw [List.map_cons, List.foldl_cons, ih]
   apply Array.toList_inj.mp
   simp [tx]
 have hj : ∀ (x : List Nat) (r : List (List Nat)), joinL c (x :: r) = x ++ (r.map fun x => c ++ x).flatten := by
  intro x r
  induction r generalizing x with
  | nil => simp [joinL]
  | cons y r ih => rw [joinL, ih]; simp
 cases xs with
 | nil => rfl
 | cons x r =>
  have := key r x.toArray
  show (⟨(r.map tx).foldl (fun acc p => acc ++ (tx c).cps ++ p.cps) x.toArray⟩ : Str) = _
  rw [this, hj]
  show (⟨x.toArray ++ _⟩ : Str) = ⟨_⟩
  congr 1
  apply Array.toList_inj.mp
  simp
theorem r_strT (l : List Nat) {x : Str} {kd : Nat} {pos : Pos} {M : Model} {Q : QV} (S : St H0 os0 L m D s) (e : x = tx l) (h : ∀ t s', St H0 os0 L m D s' -> Q (.str (tx l) t) s') :
  wpAny M A (PySem.eval (.Constant (.str x) kd pos) env) Q E s := by
 subst e
 exact r_str S h
theorem r_wrap (pre post : List Nat) {c1 c2 : Str} {k1 k2 : Nat} {p1 p2 p3 p4 p5 : Pos} {x : Str} {t : List Nat} {k : Tok} {Q : QV} (S : St H0 os0 L m D s) (hx : m x = some (.str (tx t) k)) (hz : t.length ≤ 1000) (hz1 : pre.length ≤ 1000) (hz2 : post.length ≤ 1000)
  (e1 : c1 = tx pre) (e2 : c2 = tx post) (h : ∀ t' s', St H0 os0 L m D s' -> Q (.str (tx (pre ++ (t ++ post))) t') s')
  (hL : autoParam (env.locals = L) aR._auto_1) (hk : autoParam (env.scope.kind = .function) aR._auto_1) (hl : autoParam (env.kindOf x = some .local) aR._auto_1) (hd : autoParam ((x == ("__debug__" : Str)) = false) aD._auto_1) :
  wpAny (model pw w) A (PySem.eval (.BinOp (.BinOp (.Constant (.str c1) k1 p1) .Add (.Name x p2) p3) .Add (.Constant (.str c2) k2 p4) p5) env) Q E s :=
 zB <| zB <| r_strT pre S e1 fun t1 s S => r_name S hx (r_catS S (by walk_at "o") fun t2 s S => r_strT post S e2 fun t3 s S => r_catS S (by simp; lia) fun t4 s S => by
  rw [List.append_assoc]
  exact h t4 s S) hL hk hl hd
inductive WrI (w : World) (L : Addr) (m : Str -> Option Value) (D : Led) (il tl : Addr) (man : Nat) (t0 : Tok) (ts : List (List Nat)) (i : Nat) (m' : Str -> Option Value) (D' : Led) : Prop
 | mk (its tls : List Value) (N : Led) (_ : D' = (tl, .list tls) :: (il, .list its) :: (N ++ (L, .ns m) :: D)) (_ : StrsAre its ((zW man (ts.take i)).map fun x => tx (itemT x.1 x.2))) (_ : tls.length = i)
  (_ : ∀ j, j < i -> Told w (sty man j) (ts.getD j []) (tls.getD j .none) N) (_ : m' "items" = some (.ref il)) (_ : m' "told" = some (.ref tl)) (_ : m' "manner" = some (.int (man : Nat) t0))
inductive WrE (w : World) (H0 : Heap) (os0 : OsState) (L L₁ : Addr) (m : Str -> Option Value) (D : Led) (il tl : Addr) (man : Nat) (t0 : Tok) (ts : List (List Nat)) (s : Shared) : Prop
 | mk (its tls : List Value) (N : Led) (m' : Str -> Option Value) (_ : St H0 os0 L₁ m' ((tl, .list tls) :: (il, .list its) :: (N ++ (L, .ns m) :: D)) s) (_ : StrsAre its ((zW man ts).map fun x => tx (itemT x.1 x.2))) (_ : tls.length = ts.length)
  (_ : ∀ j, j < ts.length -> Told w (sty man j) (ts.getD j []) (tls.getD j .none) N) (_ : m' "items" = some (.ref il)) (_ : m' "told" = some (.ref tl)) (_ : m' "manner" = some (.int (man : Nat) t0))
inductive WrC (H0 : Heap) (os0 : OsState) (L₁ : Addr) (D' : Led) (il tl : Addr) (man : Nat) (t0 uc : Tok) (CM LA : List Nat) (s : Shared) : Prop
 | mk (m' : Str -> Option Value) (k : Tok) (_ : St H0 os0 L₁ m' D' s) (_ : m' "last" = some (.str (tx LA) k)) (_ : m' "comma" = some (.str (tx CM) uc)) (_ : m' "items" = some (.ref il)) (_ : m' "told" = some (.ref tl)) (_ : m' "manner" = some (.int (man : Nat) t0))
theorem told_of {w : World} {st : Nat} {T : List Nat} {k : Tok} {la d : Addr} {N : Led} (h : st < 5) : Told w st T ([Value.str (tx T) k, .str (tx T) k, .str (tx T) k, .ref la, .ref d].getD st .none) ((d, dicO w [(tx rowT, .str (tx T) k)]) :: (la, Ob.list [.str (tx T) k]) :: N) := by
 match st with
 | 0 => exact ⟨k, rfl⟩
 | 1 => exact ⟨k, rfl⟩
 | 2 => exact ⟨k, rfl⟩
 | 3 => exact ⟨la, k, rfl, .tail _ (.head _)⟩
 | 4 => exact ⟨d, k, rfl, .head _⟩
 | n + 5 => exact absurd h (Nat.not_lt_of_le (Nat.le_add_left 5 n))
theorem styled_next {man i : Nat} {ts : List (List Nat)} (hi : i < ts.length) : (zW man (ts.take (i + 1))).map (fun x => tx (itemT x.1 x.2)) = (zW man (ts.take i)).map (fun x => tx (itemT x.1 x.2)) ++ [tx (itemT (sty man i) (ts.getD i []))] := by
 have hts : ts.take (i + 1) = ts.take i ++ [ts.getD i []] := by
  rw [List.take_add_one, List.getElem?_eq_getElem hi]
  simp [List.getD, hi]
 rw [hts]
 unfold zW
 rw [List.mapIdx_append, List.map_append]
 simp [Nat.min_eq_left (Nat.le_of_lt hi)]
theorem written_spec (gd : Gd w H0) {l : Addr} {vs : List Value} {ts : List (List Nat)} {man : Nat} {t0 : Tok} {R : Result -> Shared -> Prop} (S : St H0 os0 L m D s) (hd : A.depth + 1 < recursionLimit) (hh : A.handled = none)
  (hl : (l, .list vs) ∈ D) (hS : StrsAre vs (ts.map tx)) (hn : ts.length ≤ 100) (hc : ∀ t ∈ ts, t.length ≤ 10)
  (h : ∀ r tl tls N t s', tls.length = ts.length -> (∀ i, i < ts.length -> Told w (sty man i) (ts.getD i []) (tls.getD i .none) N) →
   St H0 os0 L m ((r, .list [.str (tx (queueT ++ 32 :: 61 :: 32 :: docItem man (zW man ts) (!ts.isEmpty && decide (man / 4 % 2 = 1)))) t, .ref tl]) :: (tl, .list tls) :: (N ++ D)) s' -> R (.ok (.ret (.ref r))) s') :
  codeAny (model pw w) A (.call (.ref 824) ⟨[.ref l, .int (man : Nat) t0], []⟩) R s := by
 have hlen : vs.length = ts.length := by have := Internal.StrsAre.length_eq hS; simpa using this
 refine r_enter (binds := [("rows", .ref l), ("manner", .int (man : Nat) t0)]) gd S (gd.K 824 _ rfl) rfl (by kernel_rfl) rfl (.of_eq rfl) (by walk_at "o") rfl rfl fun L₁ s₁ S => ?_
 dsimp only [mOf, List.foldl] at S
 refine genx fun Qx Ex hQ => ?_
 refine zC <| zN <| r_list <| spliced_none <| r_lstQ S (by walk_at "s") fun il s S => r_store S fun s S => ?_
 refine zC <| zN <| r_list <| spliced_none <| r_lstQ S (by walk_at "s") fun tl s S => r_store S fun s S => ?_
 refine r_for (WrE w H0 os0 L L₁ m D il tl man t0 ts)
  (r_name S (by walk_at "l") <| r_iter_list S (.tail _ (.tail _ (.tail _ hl))) fun it s S =>
   r_loop (Source.list (A := A.deeper _) hh _ it l vs) (WrI w L m D il tl man t0 ts) _
    (fun _ _ _ q => by obtain ⟨its, tls, N, rfl, _⟩ := q; exact .tail _ (.tail _ (List.mem_append_right _ (.tail _ hl)))) S
    ⟨[], [], [], rfl, by simpa [zW] using StrsAre.nil, rfl, fun j hj => absurd hj (Nat.not_lt_zero _), by walk_at "l", by walk_at "l", by walk_at "l"⟩ ?_ ?_) ?_
 ·intro i m' D' v N0 s hi hJ hV S
  refine genb fun Q1 hQ1 => ?_
  with_reducible refine hid fun G hG => ?_
  obtain ⟨its, tls, N, rfl, h1, h2, h3, h4, h5, h6⟩ := hJ
  obtain ⟨hv, rfl⟩ := hV
  refine hG ?_
  have hi' : i < ts.length := hlen ▸ hi
  have hit : its.length = i := by
   have := Internal.StrsAre.length_eq h1
   simp [zW] at this
   lia
  obtain ⟨T, hT⟩ : ∃ T, ts.getD i [] = T := ⟨_, rfl⟩
  obtain ⟨k, rfl⟩ : ∃ k, v = .str (tx T) k := by
   obtain ⟨k, e⟩ := strs_getD hS (i := i) (by simpa using hi')
   refine ⟨k, ?_⟩
   have e2 : vs.getD i .none = v := by simp [List.getD, hv]
   rw [← e2, e, ← hT]
   simp [List.getD, hi']
  have hci : T.length ≤ 1000 := Nat.le_trans (hc T (by rw [← hT]; simp [List.getD, hi'])) (by decide)
  dsimp only [List.nil_append, List.cons_append] at S
  refine assign_Name <| r_store S fun s S => ?_
  refine zC <| zN <| zB <| zB <| r_name S (by walk_at "l") <| r_callb gd S (by rfl) boot_len rfl (zS <| r_name S (by walk_at "l") <| spliced_none <| r_len S (.tail _ (.tail _ (.head _))) (by walk_at "o") fun t s S =>
   r_addN S fun t s S => r_natc 5 S fun t s S => r_mod S (by decide) fun t s S => r_store S fun s S => ?_) rfl rfl rfl rfl
  rw [hit] at S
  replace S := S
  have hsty : (man + i) % 5 = sty man i := rfl
  have hst5 : sty man i < 5 := Nat.mod_lt _ (by decide)
  rw [hsty] at S
  refine S.gen5 "signs" "style" "items" "told" "manner" (by walk_at "l") (by walk_at "l") (by walk_at "l") (by walk_at "l") (by walk_at "l") fun m2 g1 g2 g3 g4 g5 S => ?_
  have hz : its.length ≤ sizeLine := zL (by walk_at "o")
  have hz2 : tls.length ≤ sizeLine := zL (by walk_at "o")
  refine zC <| zE <| r_append <| r_name S (by walk_at "l") <| r_appendO S (.tail _ (.tail _ (.head _))) <| zG <| r_tuple <|
   zS <| r_wrap [39] [39] S (by walk_at "l") hci (by simp) (by simp) rfl rfl fun t1 s S =>
   zS <| r_wrap [34] [34] S (by walk_at "l") hci (by simp) (by simp) rfl rfl fun t2 s S =>
   zS <| r_wrap [39, 39, 39, 10] [39, 39, 39] S (by walk_at "l") hci (by simp) (by simp) rfl rfl fun t3 s S =>
   zS <| r_wrap [91, 32, 39] [39, 44, 32, 93] S (by walk_at "l") hci (by simp) (by simp) rfl rfl fun t4 s S =>
   zS <| r_wrap [123, 32, 114, 111, 119, 32, 61, 32, 34] [34, 32, 125] S (by walk_at "l") hci (by simp) (by simp) rfl rfl fun t5 s S =>
   spliced_none <| r_tupQ S (by walk_at "s") fun a s S => r_name S (by walk_at "l") <| r_itemT S (.head _) (by simpa using hst5) (by walk_at "s") <| zY S (.tail (.tail (.tail .head))) hz fun s S => ?_
  have hitem : ∃ u, [Value.str (tx ([39] ++ (T ++ [39]))) t1, .str (tx ([34] ++ (T ++ [34]))) t2, .str (tx ([39, 39, 39, 10] ++ (T ++ [39, 39, 39]))) t3, .str (tx ([91, 32, 39] ++ (T ++ [39, 44, 32, 93]))) t4,
    .str (tx ([123, 32, 114, 111, 119, 32, 61, 32, 34] ++ (T ++ [34, 32, 125]))) t5].getD (sty man i) .none = .str (tx (itemT (sty man i) T)) u := by
   have : sty man i = 0 ∨ sty man i = 1 ∨ sty man i = 2 ∨ sty man i = 3 ∨ sty man i = 4 := by walk_at "o"
   rcases this with e | e | e | e | e <;> rw [e]
   ·exact ⟨_, rfl⟩
   ·exact ⟨_, rfl⟩
   ·exact ⟨_, rfl⟩
   ·exact ⟨t4, by simp [itemT]⟩
   ·exact ⟨t5, by simp [itemT, rowT]⟩
  obtain ⟨u, hu⟩ := hitem
  rw [hu] at S
  replace S := S
  refine zC <| zE <| r_append <| r_name S (by walk_at "l") <| r_appendO S (.tail _ (.tail _ (.head _))) <| zG <| r_tuple <|
   zS <| r_name S (by walk_at "l") <| zS <| r_name S (by walk_at "l") <| zS <| r_name S (by walk_at "l") <|
   zS <| r_list (zS <| r_name S (by walk_at "l") <| spliced_none <| r_lstQ S (by walk_at "s") fun la s S =>
   zS <| r_dict1 S fun d s S => r_strT rowT S rfl fun t6 s S => r_name S (by walk_at "l") ⟨[(tx rowT, .str (tx T) k)], _, _, _, ⟨strKind_is .., rfl, trivial⟩, S, .head, fun s S =>
   spliced_none <| r_tupQ S (by walk_at "s") fun a2 s S => r_name S (by walk_at "l") <| r_itemT S (.head _) (by simpa using hst5) (by walk_at "s") <| zY S (.tail (.tail (.tail (.tail (.tail .head))))) hz2 fun s S => ?_⟩)
  have hT1 := told_of (w := w) (T := T) (k := k) (la := la) (d := d) (N := N) hst5
  revert S hT1
  refine gnl ([Value.str (tx T) k, .str (tx T) k, .str (tx T) k, .ref la, .ref d].getD (sty man i) .none) ?_
  intro tv S hT1
  have S2 := (S.sub (D' := [(d, dicO w [(tx rowT, .str (tx T) k)]), (la, Ob.list [.str (tx T) k])] ++ ([(it, Ob.iter "list_iterator" (.ref l) (i + 1)), (tl, .list (tls ++ [tv])), (il, .list (its ++ [.str (tx (itemT (sty man i) T)) u]))] ++ (N ++ (L, .ns m) :: D)))
   (.cons _ (.cons_cons _ (.cons_cons _ (.cons _ (List.Sublist.refl _)))))).perm (List.perm_append_comm_assoc _ _ _)
  refine wpAny_execs_nil (hQ1 _ _ ⟨_, (tl, .list (tls ++ [tv])) :: (il, .list (its ++ [Value.str (tx (itemT (sty man i) T)) u])) :: (((d, dicO w [(tx rowT, .str (tx T) k)]) :: (la, Ob.list [.str (tx T) k]) :: N) ++ (L, .ns m) :: D),
   ⟨its ++ [Value.str (tx (itemT (sty man i) T)) u], tls ++ [tv], (d, dicO w [(tx rowT, .str (tx T) k)]) :: (la, .list [.str (tx T) k]) :: N, rfl, by rw [styled_next hi', hT]; exact StrsAre.push h1, by rw [List.length_append, h2]; rfl, fun j hj => ?_, g3, g4, g5⟩, S2⟩)
  rw [← h2] at hj
  by_cases e : j < tls.length
  ·rw [show (tls ++ [tv]).getD j .none = tls.getD j .none by simp [List.getD, List.getElem?_append_left e]]
   exact (h3 j (h2 ▸ e)).sub fun q hq => .tail _ (.tail _ hq)
  ·obtain rfl : j = tls.length := by walk_at "o"
   rw [show (tls ++ [tv]).getD tls.length .none = tv by simp [List.getD], h2, hT]
   exact hT1
 ·rintro m' D' s ⟨its, tls, N, rfl, h1, h2, h3, h4, h5, h6⟩ S
  refine wpAny_execs_nil ⟨its, tls, N, m', S, ?_, h2.trans hlen, fun j hj => h3 j (hlen ▸ hj), h4, h5, h6⟩
  rwa [hlen, List.take_length] at h1
 ·rintro s ⟨its, tls, N, m', S, h1, h2, h3, h4, h5, h6⟩
  have hil : its.length = ts.length := by have := Internal.StrsAre.length_eq h1; simpa [zW] using this
  obtain ⟨CM, hcm⟩ : ∃ CM, cmA (man % 4) ++ 44 :: cmZ (man % 4) = CM := ⟨_, rfl⟩
  have hcl : CM.length ≤ 20 := by
   have : man % 4 = 0 ∨ man % 4 = 1 ∨ man % 4 = 2 ∨ man % 4 = 3 := by walk_at "o"
   rw [← hcm]
   rcases this with e | e | e | e <;> rw [e] <;> decide
  refine zC <| zN <| zG <| r_tuple <| zS <| r_strT [44, 32] S rfl fun t1 s S => zS <| r_strT [10, 44, 9] S rfl fun t2 s S => zS <| r_strT [32, 35, 32, 93, 44, 32, 39, 120, 39, 10, 44, 32] S rfl fun t3 s S =>
   zS <| r_strT [44, 35, 32, 91, 10] S rfl fun t4 s S => spliced_none <| r_tupQ S (by walk_at "s") fun a s S => zB <| r_name S (by walk_at "l") <| r_natc 4 S fun t s S => r_mod S (by decide) fun t s S =>
   r_itemT S (.head _) (by simp; lia) (by walk_at "s") <| r_store S fun s S => ?_
  have hcomma : ∃ u, [Value.str (tx [44, 32]) t1, .str (tx [10, 44, 9]) t2, .str (tx [32, 35, 32, 93, 44, 32, 39, 120, 39, 10, 44, 32]) t3, .str (tx [44, 35, 32, 91, 10]) t4].getD (man % 4) .none = .str (tx CM) u := by
   have : man % 4 = 0 ∨ man % 4 = 1 ∨ man % 4 = 2 ∨ man % 4 = 3 := by walk_at "o"
   rw [← hcm]
   rcases this with e | e | e | e <;> rw [e] <;> exact ⟨_, rfl⟩
  obtain ⟨uc, huc⟩ := hcomma
  rw [huc] at S
  replace S := S.tl
  refine r_cut (WrC H0 os0 L₁ ((tl, .list tls) :: (il, .list its) :: (N ++ (L, .ns m) :: D)) il tl man t0 uc CM (if (!ts.isEmpty && decide (man / 4 % 2 = 1)) = true then CM else [])) ?_ ?_
  ·refine zN <| IfExp_ <| isTrue_and <| isTrue_plain <| r_name S (by walk_at "l") <| r_truthy_list S (.tail _ (.head _)) (by walk_at "o") fun s S => ?_
   cases ts with
   | nil =>
    obtain rfl : its = [] := List.length_eq_zero_iff.mp hil
    refine ite_f (ite_f ?_)
    exact r_strT [] S rfl fun t s S => r_store S fun s S => ⟨rfl, _, _, S, by walk_at "l", by walk_at "l", by walk_at "l", by walk_at "l", by walk_at "l"⟩
   | cons T0 Tr =>
    have e : its.isEmpty = false := by
     cases its with
     | nil => simp at hil
     | cons _ _ => rfl
    rw [e]
    refine ite_nf <| isTrue_and <| zT <| zB <| zB <| r_name S (by walk_at "l") <| r_natc 4 S fun t s S => r_fdiv S (by decide) (by decide) fun t s S => r_natc 2 S fun t s S => r_mod S (by decide) fun t s S => r_natc 1 S fun t s S =>
     r_eqN <| wpAny_truthy_bool ?_
    by_cases c : man / 4 % 2 = 1
    ·rw [decide_eq_true c]
     refine ite_t <| isTrue_and_nil <| ite_t ?_
     exact r_name S (by walk_at "l") <| r_store S fun s S => ⟨rfl, _, _, S, by walk_at "l", by walk_at "l", by walk_at "l", by walk_at "l", by walk_at "l"⟩
    ·rw [decide_eq_false c]
     refine ite_f (ite_f ?_)
     exact r_strT [] S rfl fun t s S => r_store S fun s S => ⟨rfl, _, _, S, by walk_at "l", by walk_at "l", by walk_at "l", by walk_at "l", by walk_at "l"⟩
  ·rintro s ⟨m', kl, S, q1, q2, q3, q4, q5⟩
   obtain ⟨LA, hla⟩ : ∃ LA, (if (!ts.isEmpty && decide (man / 4 % 2 = 1)) = true then CM else []) = LA := ⟨_, rfl⟩
   rw [hla] at q1
   have hlal : LA.length ≤ 20 := by
    rw [← hla]
    split
    ·exact hcl
    ·exact Nat.zero_le _
   have hopl : (open0 (man % 3)).length ≤ 5 := by
    have : man % 3 = 0 ∨ man % 3 = 1 ∨ man % 3 = 2 := by walk_at "o"
    rcases this with e | e | e <;> rw [e] <;> decide
   have hjl : (joinL CM ((zW man ts).map fun x => itemT x.1 x.2)).length ≤ 5000 := by
    have := joinL_len CM 22 ((zW man ts).map fun x => itemT x.1 x.2) (fun x hx => by
     obtain ⟨y, hy, rfl⟩ := List.mem_map.mp hx
     refine Nat.le_trans (itemT_len _ _) ?_
     unfold zW at hy
     obtain ⟨i, hi, rfl⟩ := List.mem_mapIdx.mp hy
     have := hc _ (List.getElem_mem hi)
     show ts[i].length + 12 ≤ 22
     lia)
    simp [zW] at this
    have h3 : ts.length * (22 + CM.length) ≤ 100 * (22 + 20) := Nat.mul_le_mul hn (by walk_at "o")
    simp [zW]
    lia
   with_reducible refine zC ?_
   with_reducible refine zR ?_
   with_reducible refine r_list ?_
   with_reducible refine zS ?_ (he := ?he)
   case he => rfl
   with_reducible refine zB ?_
   with_reducible refine zB ?_
   with_reducible refine zB ?_
   with_reducible refine zB ?_
   with_reducible refine r_strT [113, 117, 101, 117, 101, 32, 61, 32, 91] S ?e fun t s S => ?_
   case e => rfl
   with_reducible refine zG ?_
   refine r_tuple <| zS <| r_strT [] S rfl fun t1 s S => zS <| r_strT [10] S rfl fun t2 s S => zS <| r_strT [32, 35, 32, 91, 10] S rfl fun t3 s S => spliced_none <| r_tupQ S (by walk_at "s") fun a s S => zB <|
    r_name S (by walk_at "l") <| r_natc 3 S fun t s S => r_mod S (by decide) fun t s S => r_itemT S (.head _) (by simp; lia) (by walk_at "s") ?_
   have hop : ∃ u, [Value.str (tx []) t1, .str (tx [10]) t2, .str (tx [32, 35, 32, 91, 10]) t3].getD (man % 3) .none = .str (tx (open0 (man % 3))) u := by
    have : man % 3 = 0 ∨ man % 3 = 1 ∨ man % 3 = 2 := by walk_at "o"
    rcases this with e | e | e <;> rw [e] <;> exact ⟨_, rfl⟩
   obtain ⟨uo, huo⟩ := hop
   rw [huo]
   have hsum : (((zW man ts).map fun x => tx (itemT x.1 x.2)).map (·.length)).sum + ((zW man ts).map fun x => tx (itemT x.1 x.2)).length * (tx CM).length ≤ 16777216 := by
    have : (((zW man ts).map fun x => tx (itemT x.1 x.2)).map (·.length)).sum ≤ ts.length * 22 := by
     have key : ∀ l : List Nat, (∀ x ∈ l, x ≤ 22) -> l.sum ≤ l.length * 22 := by
      intro l
      induction l with
      | nil => intro _; simp
      | cons x r ih =>
       intro hx
       have h1 := hx x (.head _)
       have := ih fun y hy => hx y (.tail _ hy)
       simp only [List.sum_cons, List.length_cons]
       lia
     have := key (((zW man ts).map fun x => tx (itemT x.1 x.2)).map (·.length)) (fun x hx => by
      obtain ⟨y, hy, rfl⟩ := List.mem_map.mp hx
      obtain ⟨z, hz, rfl⟩ := List.mem_map.mp hy
      rw [tx_len]
      refine Nat.le_trans (itemT_len _ _) ?_
      unfold zW at hz
      obtain ⟨i, hi, rfl⟩ := List.mem_mapIdx.mp hz
      have := hc _ (List.getElem_mem hi)
      show ts[i].length + 12 ≤ 22
      lia)
     simpa [zW] using this
    have h3 : ((zW man ts).map fun x => tx (itemT x.1 x.2)).length * (tx CM).length ≤ 100 * 20 := Nat.mul_le_mul (by simpa [zW] using hn) (by rw [tx_len]; exact hcl)
    lia
   with_reducible refine r_catS S (by simp; lia) fun t s S => ?_
   refine r_meth F.plainAttrs_str F.slot_str_join F.type_str_join (r_name S (by walk_at "l") ⟨str_ok, zS <| r_name S (by walk_at "l") <| spliced_none <| r_join S (.tail _ (.tail _ (.head _))) h1 hsum fun t s S => ?_⟩)
   have ej : Txt.join (tx CM) ((zW man ts).map fun x => tx (itemT x.1 x.2)) = tx (joinL CM ((zW man ts).map fun x => itemT x.1 x.2)) := by
    rw [← join_tx, List.map_map]
    rfl
   rw [ej]
   with_reducible refine r_catS S (by simp; lia) fun t s S => ?_
   refine r_name S (by walk_at "l") ?_
   with_reducible refine r_catS S (by simp; lia) fun t s S => ?_
   with_reducible refine r_strT [32, 93] S ?e fun t s S => ?_
   case e => rfl
   with_reducible refine r_catS S (by simp; lia) fun t s S => ?_
   refine zS <| r_name S (by walk_at "l") <| spliced_none <| r_lstQ S (by walk_at "s") fun r s S => ?_
   have et : [113, 117, 101, 117, 101, 32, 61, 32, 91] ++ open0 (man % 3) ++ joinL CM ((zW man ts).map fun x => itemT x.1 x.2) ++ LA ++ [32, 93] = queueT ++ 32 :: 61 :: 32 :: docItem man (zW man ts) (!ts.isEmpty && decide (man / 4 % 2 = 1)) := by
    unfold docItem
    rw [hcm, hla]
    simp [queueT]
   rw [et] at S
   exact hQ _ _ <| h r tl tls N _ _ h2 h3 (S.out (.keep (.drop (.keep (.drop (Out.app .head N))))))
noncomputable def sOf : Value -> Str
 | .str x _ => x
 | _ => ⟨#[]⟩
def IsS (v : Value) : Prop := ∃ x t, v = .str x t
noncomputable def vlt (a b : Value) : Bool := decide ((sOf a).cps.toList < (sOf b).cps.toList)
noncomputable def sd (new : Value) (sp : Nat) (vs : List Value) (pos : Nat) : List Value :=
 if sp < pos then
  if vlt new (vs.getD ((pos - 1) / 2) .none) then sd new sp (vs.set pos (vs.getD ((pos - 1) / 2) .none)) ((pos - 1) / 2) else vs.set pos new
 else vs.set pos new
termination_by pos
decreasing_by exact half_lt (Nat.lt_of_le_of_lt (Nat.zero_le _) ‹_›)
section
variable {w : World} {H0 : Heap} {os0 : OsState} {L : Addr} {m : Str -> Option Value} {D : Led} {s : Shared} {A : Around} {E : QV}
theorem r_vlt {a b : Value} {Q : QB} (ha : IsS a) (hb : IsS b) (h : Q (vlt a b) s) : wpAny (model pw w) A (compareOp .Lt a b) (fun c s' => wpAny (model pw w) A (truthy c) Q E s') E s := by
 obtain ⟨x, tx, rfl⟩ := ha
 obtain ⟨y, ty, rfl⟩ := hb
 exact PyProof.Rows.lt_str (wpAny_truthy_bool h)
theorem getD_mem {vs : List Value} {j : Nat} (h : j < vs.length) : vs.getD j .none ∈ vs := by simp [List.getD, h]
theorem AllS.set {vs : List Value} {j : Nat} {v : Value} (h : ∀ v ∈ vs, IsS v) (hv : IsS v) : ∀ u ∈ vs.set j v, IsS u := fun u hu => by
 rcases List.mem_or_eq_of_mem_set hu with q | q
 ·exact h u q
 ·exact q ▸ hv
theorem siftdown_spec (gd : Gd w H0) {l : Addr} {vs : List Value} {F : Ob -> Led} {sp pos : Nat} {t1 t2 : Tok} {R : Result -> Shared -> Prop} (S : St H0 os0 L m D s) (hl : At l (.list vs) D F)
  (hS : ∀ v ∈ vs, IsS v) (hp : pos < vs.length) (hbig : vs.length < 2 ^ 62) (hd : A.depth < recursionLimit)
  (h : ∀ s' , St H0 os0 L m (F (.list (sd (vs.getD pos .none) sp vs pos))) s' -> R (.ok (.ret .none)) s') :
  codeAny (model pw w) A (.call (.ref 144) ⟨[.ref l, .int sp t1, .int pos t2], []⟩) R s := by
 refine r_enter (binds := [("heap", .ref l), ("startpos", .int sp t1), ("pos", .int pos t2)]) gd S (gd.K 144 _ rfl) rfl (by kernel_rfl) rfl (.of_eq rfl) hd rfl rfl fun L₁ s₁ S₁ => ?_
 dsimp only [mOf, List.foldl] at S₁
 refine zC (zN (zG (r_name S₁ (by walk_at "l") (r_name S₁ (by walk_at "l") (r_itemN S₁ (.tail _ hl.mem) hp hbig (r_store S₁ fun s₂ S₂ => ?_))))))
 try dsimp only
 obtain ⟨x, tx, ex⟩ : IsS (vs.getD pos .none) := hS _ (by simp [List.getD, hp])
 refine r_while (fun n s => ∃ vs' m', St H0 os0 L₁ m' ((L, .ns m) :: F (.list vs')) s ∧ m' "heap" = some (.ref l) ∧ (∃ t, m' "startpos" = some (.int sp t)) ∧ (∃ t, m' "pos" = some (.int (n : Nat) t)) ∧
  m' "newitem" = some (vs.getD pos .none) ∧ n < vs'.length ∧ vs'.length < 2 ^ 62 ∧ (∀ v ∈ vs', IsS v) ∧ sd (vs.getD pos .none) sp vs' n = sd (vs.getD pos .none) sp vs pos)
  (fun s => ∃ n vs' m', St H0 os0 L₁ m' ((L, .ns m) :: F (.list vs')) s ∧ m' "heap" = some (.ref l) ∧ (∃ t, m' "pos" = some (.int (n : Nat) t)) ∧ m' "newitem" = some (vs.getD pos .none) ∧ n < vs'.length ∧ vs'.length < 2 ^ 62 ∧
   vs'.set n (vs.getD pos .none) = sd (vs.getD pos .none) sp vs pos) ?_ pos ?_ ?_
 ·intro n s hI
  with_reducible refine genw fun T' P' hT hP => ?_
  with_reducible refine hid fun G hG => ?_
  obtain ⟨vs', m', S, h1, ⟨t1, h2⟩, ⟨t2, h3⟩, h4, h5, h7, h8, h9⟩ := hI
  refine hG ?_
  refine zT (r_name S h3 (r_name S h2 (PyProof.Rows.gt_int (wpAny_truthy_bool ?_))))
  rw [sd] at h9
  replace h9 := h9
  by_cases c : sp < n
  ·rw [if_pos c] at h9
   replace h9 := h9
   first | refine ifp (by simpa using c) ?_ | rw [if_pos (by simpa using c)]
   refine zC (zN (zB (zB (r_name S h3 (r_int S fun t s S => sub_int (r_int (S.tok _) fun t s S => wpAny_rshift1_int (by walk_at "o") (r_store (S.tok _) fun s S => ?_)))))))
   try dsimp only
   have e : ((n : Int) - 1) / 2 = (((n - 1) / 2 : Nat) : Int) := by walk_at "o"
   rw [e] at S
   replace S := S
   have hq : (n - 1) / 2 < vs'.length := Nat.lt_of_le_of_lt (Nat.le_trans (Nat.div_le_self _ _) (Nat.sub_le _ _)) (by assumption)
   refine zC (zN (zG (r_name S (by walk_at "l") (r_name S (by walk_at "l") (r_itemN (vs := vs') S (.tail _ (hl.again _).mem) hq h7 (r_store S fun s S => ?_))))))
   try dsimp only
   obtain ⟨y, ty, ey⟩ : IsS (vs'.getD ((n - 1) / 2) .none) := h8 _ (by simp [List.getD, hq])
   refine zC (zI (zT (r_name S (v := .str x tx) (by rw [← ex]; walk_at "l") (r_name S (v := .str y ty) (by rw [← ey]; walk_at "l") (PyProof.Rows.lt_str (wpAny_truthy_bool ?_))))))
   have ec : vlt (vs.getD pos .none) (vs'.getD ((n - 1) / 2) .none) = decide (x.cps.toList < y.cps.toList) := by rw [ex, ey]; rfl
   by_cases c2 : x.cps.toList < y.cps.toList
   ·rw [ec, if_pos (by simpa using c2)] at h9
    first | refine ifp (by simpa using c2) ?_ | rw [if_pos (by simpa using c2)]
    refine zC (zQ (r_name S (by walk_at "l") (r_name S (by walk_at "l") (r_name S (by walk_at "l") (r_setitemN S (.tail (hl.again _)) h5 h7 fun s S => ?_)))))
    try dsimp only
    refine zC (zN (r_name S (by walk_at "l") (r_store S fun s S => ?_)))
    try dsimp only
    refine zC (wpAny_Continue ?_)
    refine hT _ _ ⟨(n - 1) / 2, half_lt (Nat.lt_of_le_of_lt (Nat.zero_le _) (by assumption : sp < n)), _, _, S, by walk_at "l", ⟨t1, by walk_at "l"⟩, ⟨_, by walk_at "l"⟩, by walk_at "l", by simpa using hq, by simpa using h7, ?_, h9⟩
    intro v hv
    rcases List.mem_or_eq_of_mem_set hv with q | q
    ·exact h8 v q
    ·rw [q]; exact ⟨_, _, ey⟩
   ·rw [ec, if_neg (by simpa using c2)] at h9
    first | refine ifn (by simpa using c2) ?_ | rw [if_neg (by simpa using c2)]
    refine wpAny_execs_nil (zC (wpAny_Break ?_))
    exact hT _ _ ⟨n, vs', _, S, by walk_at "l", ⟨_, by walk_at "l"⟩, by walk_at "l", h5, h7, h9⟩
  ·rw [if_neg c] at h9
   first | refine ifn (by simpa using c) ?_ | rw [if_neg (by simpa using c)]
   exact hP _ ⟨n, vs', _, S, h1, ⟨_, h3⟩, h4, h5, h7, h9⟩
 ·exact ⟨vs, _, by rw [hl.self]; exact S₂, by walk_at "l", ⟨t1, by walk_at "l"⟩, ⟨t2, by walk_at "l"⟩, by walk_at "l", hp, hbig, hS, rfl⟩
 ·rintro s ⟨n, vs', m', S, h1, ⟨t, h3⟩, h4, h5, h7, e⟩
  refine zC (zQ (r_name S h4 (r_name S h1 (r_name S h3 (r_setitemN S (.tail (hl.again _)) h5 h7 fun s S => ?_)))))
  try dsimp only
  exact wpAny_execs_nil (h _ ((e ▸ S).ret .head))
theorem sd_len (new : Value) (sp : Nat) (vs : List Value) (pos : Nat) : (sd new sp vs pos).length = vs.length := by
 induction pos using Nat.strongRecOn generalizing vs with
 | ind pos ih =>
  rw [sd]
  split
  ·rename_i h
   split
   ·rw [ih _ (by walk_at "o"), List.length_set]
   ·rw [List.length_set]
  ·rw [List.length_set]
theorem two_lt (p : Nat) : p < 2 * p + 1 ∧ p < 2 * p + 2 := by lia
noncomputable def suLoop (vs : List Value) (pos : Nat) : List Value × Nat :=
 if 2 * pos + 1 < vs.length then
  let c := if 2 * pos + 2 < vs.length ∧ vlt (vs.getD (2 * pos + 1) .none) (vs.getD (2 * pos + 2) .none) = false then 2 * pos + 2 else 2 * pos + 1
  suLoop (vs.set pos (vs.getD c .none)) c
 else (vs, pos)
termination_by vs.length - pos
decreasing_by simp only [List.length_set]; exact Nat.sub_lt_sub_left (Nat.lt_trans (two_lt pos).1 ‹_›) (by split; exact (two_lt pos).2; exact (two_lt pos).1)
noncomputable def su (vs : List Value) (pos : Nat) : List Value :=
 sd (vs.getD pos .none) pos ((suLoop vs pos).1.set (suLoop vs pos).2 (vs.getD pos .none)) (suLoop vs pos).2
inductive SuI (H0 : Heap) (os0 : OsState) (L L₁ : Addr) (m : Str -> Option Value) (F : Ob -> Led) (l : Addr) (vs : List Value) (pos : Nat) (n : Nat) (s : Shared) : Prop
 | mk (vs' : List Value) (m' : Str -> Option Value) (p : Nat) (_ : St H0 os0 L₁ m' ((L, .ns m) :: F (.list vs')) s) (_ : m' "heap" = some (.ref l)) (_ : ∃ t, m' "startpos" = some (.int pos t)) (_ : ∃ t, m' "pos" = some (.int (p : Nat) t)) (_ : ∃ t, m' "childpos" = some (.int ((2 * p + 1 : Nat) : Int) t))
  (_ : ∃ t, m' "endpos" = some (.int (vs.length : Nat) t)) (_ : m' "newitem" = some (vs.getD pos .none)) (_ : p < vs'.length) (_ : vs'.length = vs.length) (_ : ∀ v ∈ vs', IsS v) (_ : suLoop vs' p = suLoop vs pos) (_ : n = vs.length - p)
inductive SuE (H0 : Heap) (os0 : OsState) (L L₁ : Addr) (m : Str -> Option Value) (F : Ob -> Led) (l : Addr) (vs : List Value) (pos : Nat) (s : Shared) : Prop
 | mk (vs' : List Value) (m' : Str -> Option Value) (p : Nat) (_ : St H0 os0 L₁ m' ((L, .ns m) :: F (.list vs')) s) (_ : m' "heap" = some (.ref l)) (_ : ∃ t, m' "startpos" = some (.int pos t)) (_ : ∃ t, m' "pos" = some (.int (p : Nat) t))
  (_ : m' "newitem" = some (vs.getD pos .none)) (_ : p < vs'.length) (_ : vs'.length = vs.length) (_ : ∀ v ∈ vs', IsS v) (_ : (vs', p) = suLoop vs pos)
inductive SuC (H0 : Heap) (os0 : OsState) (L L₁ : Addr) (m : Str -> Option Value) (F : Ob -> Led) (l : Addr) (vs : List Value) (pos : Nat) (vs' : List Value) (p : Nat) (s : Shared) : Prop
 | mk (c' : Nat) (m' : Str -> Option Value) (_ : St H0 os0 L₁ m' ((L, .ns m) :: F (.list vs')) s) (_ : m' "heap" = some (.ref l)) (_ : ∃ t, m' "startpos" = some (.int pos t)) (_ : ∃ t, m' "pos" = some (.int (p : Nat) t)) (_ : ∃ t, m' "childpos" = some (.int (c' : Nat) t))
  (_ : ∃ t, m' "endpos" = some (.int (vs.length : Nat) t)) (_ : m' "newitem" = some (vs.getD pos .none)) (_ : p < c') (_ : c' < vs'.length) (_ : suLoop (vs'.set p (vs'.getD c' .none)) c' = suLoop vs pos)
theorem siftup_spec (gd : Gd w H0) {l : Addr} {vs : List Value} {F : Ob -> Led} {pos : Nat} {t1 : Tok} {R : Result -> Shared -> Prop} (S : St H0 os0 L m D s) (hl : At l (.list vs) D F)
  (hS : ∀ v ∈ vs, IsS v) (hp : pos < vs.length) (hbig : vs.length < 2 ^ 60) (hd : A.depth + 1 < recursionLimit)
  (h : ∀ s' , St H0 os0 L m (F (.list (su vs pos))) s' -> R (.ok (.ret .none)) s') :
  codeAny (model pw w) A (.call (.ref 151) ⟨[.ref l, .int pos t1], []⟩) R s := by
 refine r_enter (binds := [("heap", .ref l), ("pos", .int pos t1)]) gd S (gd.K 151 _ rfl) rfl (by kernel_rfl) rfl (.of_eq rfl) (by walk_at "o") rfl rfl fun L₁ s₁ S => ?_
 dsimp only [mOf, List.foldl] at S
 refine genx fun Q1 E1 hQ => ?_
 have hl₁ : At l (.list vs) ((L, .ns m) :: D) _ := .tail hl
 refine zC (zN (r_callb gd S (by rfl) (boot_len) rfl (zS (r_name S (by walk_at "l") (spliced_none (r_len S hl₁.mem (by walk_at "o") fun t s S => r_store S fun s S => ?_)))) rfl rfl rfl rfl))
 try dsimp only
 refine zC (zN (r_name S (by walk_at "l") (r_store S fun s S => ?_)))
 try dsimp only
 refine zC (zN (zG (r_name S (by walk_at "l") (r_name S (by walk_at "l") (r_itemN S hl₁.mem hp (by walk_at "o") (r_store S fun s S => ?_))))))
 try dsimp only
 have hnew : IsS (vs.getD pos .none) := hS _ (getD_mem hp)
 have two : ∀ k : Nat, (2 : Int) * k + 1 = ((2 * k + 1 : Nat) : Int) := fun k => by walk_at "o"
 refine zC (zN (zB (zB (r_int S fun t s S => r_name S (by walk_at "l") (r_mul S (.of_left (by decide)) fun t s S => r_int S fun t s S => r_add S fun t s S => r_store S fun s S => ?_)))))
 try dsimp only
 rw [two] at S
 replace S := S
 refine r_while (SuI H0 os0 L L₁ m F l vs pos) (SuE H0 os0 L L₁ m F l vs pos) ?_ _ ⟨vs, _, pos, by rw [hl.self]; exact S, by walk_at "l", ⟨_, by walk_at "l"⟩, ⟨_, by walk_at "l"⟩, ⟨_, by walk_at "l"⟩, ⟨_, by walk_at "l"⟩, by walk_at "l", hp, rfl, hS, rfl, rfl⟩ ?_
 ·intro n s hI
  with_reducible refine genw fun T' P' hT hP => ?_
  with_reducible refine hid fun G hG => ?_
  obtain ⟨vs', m', p, S, h1, ⟨t1, h2⟩, ⟨t2, h3⟩, ⟨t3, h4⟩, ⟨t4, h5⟩, h6, h7, h8, h9, h10, rfl⟩ := hI
  refine hG ?_
  refine zT (r_name S h4 (r_name S h5 (PyProof.Rows.lt_int (wpAny_truthy_bool ?_))))
  rw [suLoop] at h10
  replace h10 := h10
  by_cases c : 2 * p + 1 < vs.length
  ·rw [if_pos (h8 ▸ c)] at h10
   replace h10 := h10
   refine ifp (dec_lt c) ?_
   refine zC (zN (zB (r_name S h4 (r_int S fun t s S => r_add S fun t s S => r_store S fun s S => ?_))))
   try dsimp only
   have two' : (((2 * p + 1 : Nat) : Int) + 1) = ((2 * p + 2 : Nat) : Int) := by walk_at "o"
   rw [two'] at S
   replace S := S
   refine r_cut (SuC H0 os0 L L₁ m F l vs pos vs' p) ?_ ?_
   ·with_reducible refine genq fun Q2 hQ2 => ?_
    by_cases c2 : 2 * p + 2 < vs.length
    ·refine zI (isTrue_and (zT (r_name S (by walk_at "l") (r_name S (by walk_at "l") (PyProof.Rows.lt_int (wpAny_truthy_bool ?_))))))
     refine ifp (dec_lt c2) ?_
     refine isTrue_and (isTrue_not (zT (zG (r_name S (by walk_at "l") (r_name S (by walk_at "l") (r_itemN S (.tail _ (hl.again _).mem) (by walk_at "o") (by walk_at "o") (zG (r_name S (by walk_at "l") (r_name S (by walk_at "l") (r_itemN S (.tail _ (hl.again _).mem) (by walk_at "o") (by walk_at "o") (r_vlt (h9 _ (getD_mem (by walk_at "o"))) (h9 _ (getD_mem (by walk_at "o"))) ?_)))))))))))
     cases e2 : vlt (vs'.getD (2 * p + 1) .none) (vs'.getD (2 * p + 2) .none) with
     | true =>
      rw [e2] at h10
      refine wpAny_execs_nil <| hQ2 _ _ ⟨rfl, 2 * p + 1, _, S, by walk_at "l", ⟨_, by walk_at "l"⟩, ⟨_, by walk_at "l"⟩, ⟨_, by walk_at "l"⟩, ⟨_, by walk_at "l"⟩, by walk_at "l", by walk_at "o", by walk_at "o", ?_⟩
      simpa using h10
     | false =>
      rw [e2] at h10
      refine isTrue_and_nil ?_
      first | refine ifp rfl ?_ | rw [if_pos rfl]
      refine zC (zN (r_name S (by walk_at "l") (r_store S fun s S => ?_)))
      refine wpAny_execs_nil <| hQ2 _ _ ⟨rfl, 2 * p + 2, _, S, by walk_at "l", ⟨_, by walk_at "l"⟩, ⟨_, by walk_at "l"⟩, ⟨_, by walk_at "l"⟩, ⟨_, by walk_at "l"⟩, by walk_at "l", by walk_at "o", by walk_at "o", ?_⟩
      simpa [h8, c2] using h10
    ·refine zI (isTrue_and (zT (r_name S (by walk_at "l") (r_name S (by walk_at "l") (PyProof.Rows.lt_int (wpAny_truthy_bool ?_))))))
     refine ifn (dec_nlt c2) ?_
     refine wpAny_execs_nil <| hQ2 _ _ ⟨rfl, 2 * p + 1, _, S, by walk_at "l", ⟨_, by walk_at "l"⟩, ⟨_, by walk_at "l"⟩, ⟨_, by walk_at "l"⟩, ⟨_, by walk_at "l"⟩, by walk_at "l", by walk_at "o", by walk_at "o", ?_⟩
     simpa [h8, c2] using h10
   ·rintro s ⟨c', m', S, h1, ⟨t1, h2⟩, ⟨t2, h3⟩, ⟨t3, h4⟩, ⟨t4, h5⟩, h6, hc, hc', e⟩
    refine zC (zQ (zG (r_name S h1 (r_name S h4 (r_itemN S (.tail _ (hl.again _).mem) hc' (by walk_at "o") (r_name S h1 (r_name S h3 (r_setitemN S (.tail (hl.again _)) h7 (by walk_at "o") fun s S => ?_))))))))
    try dsimp only
    refine zC (zN (r_name S h4 (r_store S fun s S => ?_)))
    try dsimp only
    refine zC (zN (zB (zB (r_int S fun t s S => r_name S (by walk_at "l") (r_mul S (.of_left (by decide)) fun t s S => r_int S fun t s S => r_add S fun t s S => r_store S fun s S => ?_)))))
    try dsimp only
    rw [two] at S
    exact wpAny_execs_nil <| hT _ _ ⟨vs.length - c', Nat.sub_lt_sub_left (h8 ▸ h7) hc, _, _, c', S, by walk_at "l", ⟨_, by walk_at "l"⟩, ⟨_, by walk_at "l"⟩, ⟨_, by walk_at "l"⟩, ⟨_, by walk_at "l"⟩, by walk_at "l", by simpa using hc', by simpa using h8, AllS.set h9 (h9 _ (getD_mem hc')), e, rfl⟩
  ·rw [if_neg (h8 ▸ c)] at h10
   refine ifn (dec_nlt c) ?_
   exact hP _ ⟨vs', m', p, S, h1, ⟨_, h2⟩, ⟨_, h3⟩, h6, h7, h8, h9, h10⟩
 ·rintro s ⟨vs', m', p, S, h1, ⟨t2, h2⟩, ⟨t3, h3⟩, h4, h5, h6, h7, e⟩
  refine zC (zQ (r_name S h4 (r_name S h1 (r_name S h3 (r_setitemN S (.tail (hl.again _)) h5 (by walk_at "o") fun s S => ?_)))))
  try dsimp only
  refine zC (zE (r_callf gd S (by rfl) (by rfl) (zS (r_name S h1 (zS (r_name S h2 (zS (r_name S h3 (spliced_none ⟨S.stays, siftdown_spec gd S (.tail (hl.again _)) (AllS.set h7 hnew) (by simpa using h5) (by simp; lia) ?_ fun s S => ?_⟩)))))))))
  ·simpa [Around.deeper] using hd
  ·try dsimp only at S ⊢
   have S' := S.ret .head
   refine wpAny_execs_nil (hQ _ _ (h _ ?_))
   unfold su
   rw [← e]
   simpa [List.getD, h5] using S'
end
noncomputable def hpush (vs : List Value) (v : Value) : List Value := sd v 0 (vs ++ [v]) vs.length
noncomputable def hpop (vs : List Value) : Value × List Value :=
 if vs.dropLast = [] then (vs.getLastD .none, []) else (vs.dropLast.getD 0 .none, su (vs.dropLast.set 0 (vs.getLastD .none)) 0)
noncomputable def hrepl (vs : List Value) (v : Value) : Value × List Value := (vs.getD 0 .none, su (vs.set 0 v) 0)
noncomputable def hpp (vs : List Value) (v : Value) : Value × List Value := if vs ≠ [] ∧ vlt (vs.getD 0 .none) v = true then hrepl vs v else (v, vs)
section
variable {w : World} {H0 : Heap} {os0 : OsState} {L : Addr} {m : Str -> Option Value} {D : Led} {s : Shared} {A : Around} {E : QV}
theorem r_doc5 {env : Env} {x : Str} {kd : Nat} {p pos : Pos} {rest : List Stmt} {Q : QF} (S : St H0 os0 L m D s) (h : ∀ s', St H0 os0 L m D s' -> wpAny (model pw w) A (execs rest env) Q E s')
  (hi : autoParam (interactive env = false) aR._auto_1) (hs : autoParam (swapsWith (.Constant (.str x) kd p) none pos.line env = pure false) aR._auto_1) :
  wpAny (model pw w) A (execs (.Expr (.Constant (.str x) kd p) pos :: rest) env) Q E s :=
 zC (zE (r_str S fun _ s' S' => h s' S') hi hs)
theorem heappush_spec (gd : Gd w H0) {l : Addr} {vs : List Value} {v : Value} {F : Ob -> Led} {R : Result -> Shared -> Prop} (S : St H0 os0 L m D s) (hl : At l (.list vs) D F)
  (hS : ∀ v ∈ vs, IsS v) (hv : IsS v) (hbig : vs.length ≤ 1000) (hd : A.depth + 1 < recursionLimit)
  (h : ∀ s' , St H0 os0 L m (F (.list (hpush vs v))) s' -> R (.ok (.ret .none)) s') :
  codeAny (model pw w) A (.call (.ref 109) ⟨[.ref l, v], []⟩) R s := by
 refine r_enter (binds := [("heap", .ref l), ("item", v)]) gd S (gd.K 109 _ rfl) rfl (by kernel_rfl) rfl (.of_eq rfl) (by walk_at "o") rfl rfl fun L₁ s₁ S => ?_
 dsimp only [mOf, List.foldl] at S
 refine r_doc5 S fun s S => ?_
 refine zC <| zE <| r_append <| r_name S (by walk_at "l") <| r_appendO S (.tail _ hl.mem) <| r_name S (by walk_at "l") <| zY S (.tail hl) (by rw [sizeLine_eq]; lia) fun s S => ?_
 try dsimp only at S ⊢
 refine zC <| zE <| r_callf gd S (by rfl) (by rfl) <| zS <| r_name S (by walk_at "l") <| zS <| r_int S fun t s S => zS <| zB <|
  r_callb gd S (by rfl) boot_len rfl (zS <| r_name S (by walk_at "l") <| spliced_none <| r_len S (.tail _ (hl.again _).mem) (by simp; lia) fun t s S => r_int S fun t s S => r_sub S fun t s S => spliced_none ⟨S.stays, ?_⟩) rfl rfl rfl rfl
 have e : (((vs ++ [v]).length : Nat) : Int) - 1 = (vs.length : Nat) := by simp
 rw [e]
 refine siftdown_spec (sp := 0) gd S (.tail (hl.again _)) (fun u hu => ?_) (by simp) (by simp; lia) (by simpa [Around.deeper] using hd) fun s S => ?_
 ·rcases List.mem_append.mp hu with q | q
  ·exact hS u q
  ·rw [List.mem_singleton.mp q]; exact hv
 ·refine wpAny_execs_nil (h _ ?_)
  have S' := S.ret .head
  simpa [hpush, List.getD] using S'
theorem heapreplace_spec (gd : Gd w H0) {l : Addr} {vs : List Value} {v : Value} {F : Ob -> Led} {R : Result -> Shared -> Prop} (S : St H0 os0 L m D s) (hl : At l (.list vs) D F)
  (hS : ∀ v ∈ vs, IsS v) (hv : IsS v) (hne : vs ≠ []) (hbig : vs.length ≤ 1000) (hd : A.depth + 2 < recursionLimit)
  (h : ∀ s' , St H0 os0 L m (F (.list (hrepl vs v).2)) s' -> R (.ok (.ret (hrepl vs v).1)) s') :
  codeAny (model pw w) A (.call (.ref 123) ⟨[.ref l, v], []⟩) R s := by
 have hlen : 0 < vs.length := List.length_pos_iff.mpr hne
 refine r_enter (binds := [("heap", .ref l), ("item", v)]) gd S (gd.K 123 _ rfl) rfl (by kernel_rfl) rfl (.of_eq rfl) (by walk_at "o") rfl rfl fun L₁ s₁ S => ?_
 dsimp only [mOf, List.foldl] at S
 refine r_doc5 S fun s S => ?_
 refine zC <| zN <| zG <| r_name S (by walk_at "l") <| r_int S fun t s S => r_itemN (j := 0) S (.tail _ hl.mem) hlen (by walk_at "o") <| r_store S fun s S => ?_
 try dsimp only at S ⊢
 refine zC <| zQ <| r_name S (by walk_at "l") <| r_name S (by walk_at "l") <| r_int S fun t s S => r_setitemN (j := 0) S (.tail hl) hlen (by walk_at "o") fun s S => ?_
 try dsimp only at S ⊢
 refine zC <| zE <| r_callf gd S (by rfl) (by rfl) <| zS <| r_name S (by walk_at "l") <| zS <| r_int S fun t s S => spliced_none ⟨S.stays,
  siftup_spec (pos := 0) gd S (.tail (hl.again _)) (AllS.set hS hv) (by simpa using hlen) (by simp; lia) (by simpa [Around.deeper] using hd) fun s S => ?_⟩
 try dsimp only at S ⊢
 exact zC <| zR <| r_name S (by walk_at "l") <| h _ (S.ret .head)
theorem heappop_spec (gd : Gd w H0) {l : Addr} {vs : List Value} {F : Ob -> Led} {R : Result -> Shared -> Prop} (S : St H0 os0 L m D s) (hl : At l (.list vs) D F)
  (hS : ∀ v ∈ vs, IsS v) (hne : vs ≠ []) (hbig : vs.length ≤ 1000) (hd : A.depth + 2 < recursionLimit)
  (h : ∀ s' , St H0 os0 L m (F (.list (hpop vs).2)) s' -> R (.ok (.ret (hpop vs).1)) s') :
  codeAny (model pw w) A (.call (.ref 116) ⟨[.ref l], []⟩) R s := by
 have hlen : 0 < vs.length := List.length_pos_iff.mpr hne
 have hlast : vs.getLast? = some (vs.getLastD .none) := by
  cases vs with
  | nil => exact absurd rfl hne
  | cons a r => simp [List.getLast?_cons, List.getLastD_cons]
 have hlS : IsS (vs.getLastD .none) := hS _ (List.mem_of_getLast? hlast)
 refine r_enter (binds := [("heap", .ref l)]) gd S (gd.K 116 _ rfl) rfl (by kernel_rfl) rfl (.of_eq rfl) (by walk_at "o") rfl rfl fun L₁ s₁ S => ?_
 dsimp only [mOf, List.foldl] at S
 refine r_doc5 S fun s S => ?_
 refine zC <| zN <| r_pop S (by walk_at "l") (.tail hl) hlast (by rw [sizeLine_eq]; lia) fun s S => r_store S fun s S => ?_
 try dsimp only at S ⊢
 refine zC <| zI <| isTrue_plain <| r_name S (by walk_at "l") <| r_truthy_list S (.tail _ (hl.again _).mem) (by simp; lia) fun s S => ?_
 by_cases c : vs.dropLast = []
 ·rw [c] at S ⊢
  simp only [List.isEmpty_nil, Bool.not_true, Bool.false_eq_true, if_false]
  refine wpAny_execs_nil <| zC <| zR <| r_name S (by walk_at "l") ?_
  simp only [hpop, if_pos c] at h
  exact h _ (S.ret .head)
 ·have hdl : 0 < vs.dropLast.length := List.length_pos_iff.mpr c
  have hd1 : vs.dropLast.length ≤ 1000 := by simp; lia
  have hSd : ∀ u ∈ vs.dropLast, IsS u := fun u hu => hS u (List.dropLast_subset _ hu)
  simp only [List.isEmpty_eq_false_iff.mpr c, Bool.not_false, if_true]
  simp only [hpop, if_neg c] at h
  generalize vs.dropLast = us at *
  generalize vs.getLastD Value.none = y at *
  refine zC <| zN <| zG <| r_name S (by walk_at "l") <| r_int S fun t s S => r_itemN (j := 0) S (.tail _ (hl.again _).mem) hdl (by walk_at "o") <| r_store S fun s S => ?_
  try dsimp only at S ⊢
  refine zC <| zQ <| r_name S (by walk_at "l") <| r_name S (by walk_at "l") <| r_int S fun t s S => r_setitemN (j := 0) S (.tail (hl.again _)) hdl (by walk_at "o") fun s S => ?_
  try dsimp only at S ⊢
  refine zC <| zE <| r_callf gd S (by rfl) (by rfl) <| zS <| r_name S (by walk_at "l") <| zS <| r_int S fun t s S => spliced_none ⟨S.stays,
   siftup_spec (pos := 0) gd S (.tail (hl.again _)) (AllS.set hSd hlS) (by simpa using hdl) (by simp; lia) (by simpa [Around.deeper] using hd) fun s S => ?_⟩
  try dsimp only at S ⊢
  exact zC <| zR <| r_name S (by walk_at "l") <| h _ (S.ret .head)
theorem heappushpop_spec (gd : Gd w H0) {l : Addr} {vs : List Value} {v : Value} {F : Ob -> Led} {R : Result -> Shared -> Prop} (S : St H0 os0 L m D s) (hl : At l (.list vs) D F)
  (hS : ∀ v ∈ vs, IsS v) (hv : IsS v) (hbig : vs.length ≤ 1000) (hd : A.depth + 2 < recursionLimit) (hh : A.handled = none)
  (h : ∀ s' , St H0 os0 L m (F (.list (hpp vs v).2)) s' -> R (.ok (.ret (hpp vs v).1)) s') :
  codeAny (model pw w) A (.call (.ref 130) ⟨[.ref l, v], []⟩) R s := by
 refine r_enter (binds := [("heap", .ref l), ("item", v)]) gd S (gd.K 130 _ rfl) rfl (by kernel_rfl) rfl (.of_eq rfl) (by walk_at "o") rfl rfl fun L₁ s₁ S => ?_
 dsimp only [mOf, List.foldl] at S
 refine r_doc5 S fun s S => ?_
 refine r_cut (fun s => ∃ m', St H0 os0 L₁ m' ((L, .ns m) :: F (.list (hpp vs v).2)) s ∧ m' "item" = some (hpp vs v).1) ?_ (fun s ⟨m', S, e⟩ => zC <| zR <| r_name S e <| h _ (S.ret .head))
 refine zI <| isTrue_and <| isTrue_plain <| r_name S (by walk_at "l") <| r_truthy_list S (.tail _ hl.mem) (by walk_at "o") fun s S => ?_
 by_cases c : vs = []
 ·have e : hpp vs v = (v, vs) := by unfold hpp; rw [if_neg (fun q => q.1 c)]
  first | refine ifn (by simp [c]) ?_ | rw [if_neg (by simp [c])]
  exact wpAny_execs_nil ⟨rfl, _, by rw [e, hl.self]; exact S, by rw [e]; walk_at "l"⟩
 ·have hlen : 0 < vs.length := List.length_pos_iff.mpr c
  first | refine ifp (by simp [List.isEmpty_eq_false_iff.mpr c]) ?_ | rw [if_pos (by simp [List.isEmpty_eq_false_iff.mpr c])]
  refine isTrue_and <| zT <| zG <| r_name S (by walk_at "l") <| r_int S fun t s S => r_itemN (j := 0) S (.tail _ hl.mem) hlen (by walk_at "o") <| r_name S (by walk_at "l") <| r_vlt (hS _ (getD_mem hlen)) hv ?_
  cases c2 : vlt (vs.getD 0 .none) v with
  | false =>
   have e : hpp vs v = (v, vs) := by unfold hpp; rw [if_neg (fun q => by rw [c2] at q; cases q.2)]
   first | refine ifn (by simp) ?_ | rw [if_neg (by simp)]
   exact wpAny_execs_nil ⟨rfl, _, by rw [e, hl.self]; exact S, by rw [e]; walk_at "l"⟩
  | true =>
   have e : hpp vs v = hrepl vs v := by unfold hpp; rw [if_pos ⟨c, c2⟩]
   first | refine ifp rfl ?_ | rw [if_pos rfl]
   refine isTrue_and_nil ?_
   first | refine ifp rfl ?_ | rw [if_pos rfl]
   refine zC <| Assign_Tuple <| r_tuple <| zS <| zG <| r_name S (by walk_at "l") <| r_int S fun t s S => r_itemN (j := 0) S (.tail _ hl.mem) hlen (by walk_at "o") <| zS <| r_name S (by walk_at "l") <| spliced_none <|
    r_tupQ S (by walk_at "s") fun a s S => r_unpack S hh (.head _) fun s S => ?_
   refine assignInOrder_cons <| assign_Name <| r_store S fun s S => assignInOrder_cons <| r_setSub <| r_name S (by walk_at "l") <| r_int S fun t s S => r_setitemN (j := 0) S (.tail (.tail hl)) hlen (by walk_at "o") fun s S => assignInOrder_nil ?_
   replace S := S.tl
   try dsimp only at S ⊢
   refine zC <| zE <| r_callf gd S (by rfl) (by rfl) <| zS <| r_name S (by walk_at "l") <| zS <| r_int S fun t s S => spliced_none ⟨S.stays,
    siftup_spec (pos := 0) gd S (.tail (hl.again _)) (AllS.set hS hv) (by simpa using hlen) (by simp; lia) (by simpa [Around.deeper] using hd) fun s S => ?_⟩
   try dsimp only at S ⊢
   exact wpAny_execs_nil ⟨rfl, _, by rw [e]; exact S, by rw [e]; walk_at "l"⟩
end
theorem sub_ri_reversed : isSubtype (.type "range_iterator") (.type "reversed") = pure false := by rw [isSubtype_type]; kernel_rfl
@[reducible] noncomputable def riO (x n c : Int) : Obj := { cls := .type "range_iterator", dict := none, data := .fields #[rawInt x, rawInt n, rawInt c], slots := #[] }
theorem call_range_reversed {prog : Program} {r : Addr} {b : Int} {t u v : Tok} {Q : QV} (hr : IsRange s.heap r 0 b 1 t u v) (hb : 0 < b) (hb2 : b < 2 ^ 60)
  (h : Q (.ref s.heap.objs.size) { s with heap := s.heap.push (riO (b - 1) b (-1)) }) : wpAny (model prog w) A (call (.builtin "range.__reversed__") [.ref r]) Q E s := by
 have hT : s.TypeIs (.ref r) "range" := ⟨_, hr, rfl⟩
 refine wpAny_call_entry F.slot_range_reversed hT F.entry_range_reversed ?_ (F.args_range_reversed_1 _)
 unfold Builtin.«range.__reversed__»
 refine wB (wpAny_of_eq (a := Value.ref r) rfl ?_)
 unfold Builtin.Range.rangeFields
 refine wB ?_
 refine wB (wpAny_field hr rfl (x := .int 0 t) rfl ?_)
 refine wB (wpAny_of_eq (a := some 0) rfl ?_)
 refine wB (wpAny_field hr rfl (x := .int b u) rfl ?_)
 refine wB (wpAny_of_eq (a := some b) rfl ?_)
 refine wB (wpAny_field hr rfl (x := .int 1 v) rfl ?_)
 refine wB (wpAny_of_eq (a := some 1) rfl ?_)
 refine wP ?_
 try dsimp only
 have e : Builtin.Range.rangeSize 0 b 1 = b := by rw [rangeSize_one, if_pos hb]; lia
 rw [e]
 have es : (Builtin.Range.rangeFitsLong 0 && Builtin.Range.rangeFitsLong b && Builtin.Range.rangeFitsLong 1 && Builtin.Range.rangeFitsLong (-1) && Builtin.Range.rangeFitsLong (0 - 1) && Builtin.Range.rangeFitsLong b) = true := by
  simp only [Builtin.Range.rangeFitsLong, Bool.and_eq_true, decide_eq_true_eq]
  lia
 rw [es]
 have e2 : (0 : Int) + (b - 1) * 1 = b - 1 := by walk_at "o"
 rw [e2]
 exact wB (wpAny_newObj_type (wP ⟨_, rfl, h⟩))
theorem code_reversed_newR {prog : Program} {r : Addr} {b : Int} {t u v : Tok} {Q₁ : QV} (hr : IsRange s.heap r 0 b 1 t u v) (hb : 0 < b) (hb2 : b < 2 ^ 60)
  (h : Q₁ (.ref s.heap.objs.size) { s with heap := s.heap.push (riO (b - 1) b (-1)) }) :
  codeAny (model prog w) A (.call (.builtin "reversed.__new__") ⟨[.type "reversed", .ref r], []⟩) (wants Q₁ E) s := by
 have hT : s.TypeIs (.ref r) "range" := ⟨_, hr, rfl⟩
 refine codeAny_of_tree ?_
 show wpAny _ A.in1 (do checkBuiltinCall "reversed.__new__" ⟨[.type "reversed", .ref r], []⟩; again (.builtin "reversed.__new__" ⟨[.type "reversed", .ref r], []⟩)) _ _ s
 refine wB (wpAny_of_eq (F.newCall_reversed_1 _) (wP ⟨plainId_quiet F.plain_reversed_new _, codeAny_builtin F.entry_reversed_new ?_⟩))
 rw [Around.under_plainId F.plain_reversed_new _]
 unfold Builtin.«reversed.__new__»
 refine wB (wpAny_of_eq (newClass_reversed _) ?_)
 try dsimp only
 refine wB (wpAny_of_eq (a := ()) (by first | rfl | kernel_rfl) ?_)
 refine wB (wpAny_of_eq (a := ()) (by first | rfl | kernel_rfl) ?_)
 try dsimp only
 refine wB (wpAny_specialOf hT F.slot_range_reversed.lookup ?_)
 try dsimp only
 refine wB (wpAny_of_eq (F.slot_range_reversed.bind _) ?_)
 try dsimp only
 first
 | rw [if_neg (show ¬ ((Value.builtin "range.__reversed__" == Value.none) = true) from Bool.false_ne_true)]
 | (show wpAny _ _ (if (Value.builtin "range.__reversed__" == Value.none) = true then _ else _) _ _ _; rw [if_neg (show ¬ ((Value.builtin "range.__reversed__" == Value.none) = true) from Bool.false_ne_true)])
 refine wB (wpAny_rule ?_)
 refine wB (m := runValue (.call (.builtin "range.__reversed__") ⟨[.ref r], []⟩)) (show wpAny _ _ (call (.builtin "range.__reversed__") [.ref r]) _ _ _ from call_range_reversed hr hb hb2 ?_)
 first
 | exact wP h
 | exact wB (wP (wP h))
theorem r_reversedR {r : Addr} {b : Int} {t u v : Tok} {Q : QV} (S : St H0 os0 L m D s) (hr : (r, Ob.raw (rangeObj 0 b t u v)) ∈ D) (hb : 0 < b) (hb2 : b < 2 ^ 60)
  (h : ∀ it s', St H0 os0 L m ((it, .raw (riO (b - 1) b (-1))) :: D) s' -> Q (.ref it) s') : wpAny (model pw w) A (call (.type "reversed") [.ref r]) Q E s := by
 refine callType_other (U := "range_iterator") (Q₁ := fun obj s₁ => obj = .ref s.heap.objs.size ∧ s₁ = { s with heap := s.heap.push (riO (b - 1) b (-1)) }) (by decide +kernel) F.create_reversed ⟨_, _, F.mro_reversed⟩ F.made_reversed sub_ri_reversed (F.typeCall_reversed_1 _) (code_reversed_newR (S.get hr) hb hb2 ⟨rfl, rfl⟩) ?_
 rintro obj s₁ ⟨rfl, rfl⟩
 exact ⟨⟨_, Heap.get?_push_size _ rfl, rfl⟩, h _ _ (S.push (t := s.toks) (k := .raw _) (Heap.get?_push_size _ rfl))⟩
theorem r_range1 {b : Int} {u : Tok} {Q : QV} (S : St H0 os0 L m D s) (h : ∀ r t v s', St H0 os0 L m ((r, .raw (rangeObj 0 b t u v)) :: D) s' -> Q (.ref r) s') :
  wpAny (model pw w) A (call (.type "range") [.int b u]) Q E s :=
 call_range_1 (h _ s.toks (s.toks + 1) _ (S.push (k := .raw _) (Heap.get?_push_size _ rfl)))
theorem Source.rangeIter (hh : A.handled = none) {x : Str} {px : Pos} (it : Addr) (a c : Int) (n : Nat) : Source w A H0 os0 (.Name x px) it (fun i => [(it, .raw (riO (a + i * c) ((n : Int) - i) c))]) n
  (fun i v N => (∃ t, v = .int (a + i * c) t) ∧ N = []) (fun _ => True) where
 item := fun {L m D i s Q E} S _ hi hQ => by
  have ho : IsRangeIter s.heap it (a + i * c) ((n : Int) - i) c := S.get (k := .raw _) (.head _)
  refine wpAny_pyNext_range_item ho (by walk_at "o") fun h' hit' hs => ?_
  have e1 : a + (i : Int) * c + c = a + ((i + 1 : Nat) : Int) * c := by rw [Int.natCast_add, Int.add_mul]; simp [Int.add_assoc]
  have e2 : (n : Int) - i - 1 = (n : Int) - ((i + 1 : Nat) : Int) := by walk_at "o"
  rw [e1, e2] at hit'
  have S' := S.change (t := s.toks + 1) (k' := .raw (riO (a + ((i + 1 : Nat) : Int) * c) ((n : Int) - ((i + 1 : Nat) : Int)) c)) .head hs hit'
  unfold letOwnedTupleGo
  exact wP (hQ _ [] _ ⟨⟨_, rfl⟩, rfl⟩ S')
 done := fun {L m D s Q E} S _ hQ => wpAny_pyNext_range_end hh (S.get (k := .raw _) (.head _)) (by walk_at "o") fun h' he => hQ _ (iter_done (t := s.toks) S he)
theorem heapify_spec (gd : Gd w H0) {l : Addr} {vs : List Value} {F : Ob -> Led} {R : Result -> Shared -> Prop} (S : St H0 os0 L m D s) (hl : At l (.list vs) D F)
  (hS : ∀ v ∈ vs, IsS v) (hlen : vs.length = 3) (hd : A.depth + 2 < recursionLimit) (hh : A.handled = none)
  (h : ∀ s' , St H0 os0 L m (F (.list (su vs 0))) s' -> R (.ok (.ret .none)) s') :
  codeAny (model pw w) A (.call (.ref 137) ⟨[.ref l], []⟩) R s := by
 refine r_enter (binds := [("x", .ref l)]) gd S (gd.K 137 _ rfl) rfl (by kernel_rfl) rfl (.of_eq rfl) (by walk_at "o") rfl rfl fun L₁ s₁ S => ?_
 dsimp only [mOf, List.foldl] at S
 refine r_doc5 S fun s S => ?_
 refine zC <| zN <| r_callb gd S (by rfl) boot_len rfl (zS <| r_name S (by walk_at "l") <| spliced_none <| r_len S (.tail _ hl.mem) (by walk_at "o") fun t s S => r_store S fun s S => ?_) rfl rfl rfl rfl
 try dsimp only at S ⊢
 rw [hlen] at S
 replace S := S
 refine r_for (fun s => ∃ m' r o, St H0 os0 L₁ m' ((r, .raw o) :: (L, .ns m) :: F (.list (su vs 0))) s)
  (r_callb (v := .type "reversed") gd S (by rfl) (by kernel_rfl) rfl (zS <| r_callb (v := .type "range") gd S (by rfl) (by kernel_rfl) rfl (zS <| zB <| r_name S (by walk_at "l") <| r_natc 2 S fun t s S => r_fdiv (a := 3) (b := 2) S (by decide) (by decide) fun t s S => spliced_none <|
   r_range1 S fun r t v s S => spliced_none <| r_reversedR S (.head _) (by decide) (by decide) fun it s S => ?_) rfl rfl rfl rfl) rfl rfl rfl rfl) ?_
 ·refine wpAny_pyIter_rangeiter (S.get (k := .raw _) (.head _)) ?_
  refine r_loop (Source.rangeIter (A := A.deeper _) hh it 0 (-1) 1) (fun i m' D' => (i = 0 ∧ (m' = upd (upd (fun _ => none) "x" (.ref l)) "n" (.int (3 : Nat) _) ∧ D' = (r, .raw (rangeObj 0 ((3 / 2 : Nat) : Int) _ _ v)) :: (L, .ns m) :: D)) ∨ (i = 1 ∧ ∃ r o, D' = (r, .raw o) :: (L, .ns m) :: F (.list (su vs 0)))) _
   (fun _ _ _ _ => trivial) S (.inl ⟨rfl, rfl, rfl⟩) ?_ ?_
  ·rintro i m' D' v N s hi (⟨rfl, rfl, rfl⟩ | ⟨rfl, _⟩) ⟨⟨t, rfl⟩, rfl⟩ S
   ·refine assign_Name <| r_store S fun s S => ?_
    try dsimp only at S ⊢
    refine zC <| zE <| r_callf gd S (by rfl) (by rfl) <| zS <| r_name S (by walk_at "l") <| zS <| r_name (v := .int (0 : Nat) t) S upd_eq <| spliced_none ⟨S.stays,
     siftup_spec (pos := 0) gd S (.tail (.tail (.tail hl))) hS (by walk_at "o") (by walk_at "o") (by simpa [Around.deeper] using hd) fun s S => ?_⟩
    try dsimp only at S ⊢
    exact wpAny_execs_nil ⟨_, _, .inr ⟨rfl, _, _, rfl⟩, S⟩
   ·lia
  ·rintro m' D' s (⟨h, _⟩ | ⟨_, r, o, rfl⟩) S
   ·lia
   ·exact wpAny_execs_nil ⟨_, _, _, S⟩
 ·rintro s ⟨m', r, o, S⟩
  exact wpAny_execs_nil (h _ (S.tl.ret .head))
section
open PySem.SeqAt
def OneD (h : Heap) (d : Addr) (k : Str) (v : Value) : Prop :=
 d ≠ sysModules ∧ ∃ n hs t, h.get? d = some { cls := .type "dict", dict := none, data := .dict #[⟨hs, .str k t, v⟩] n, slots := #[] }
section
variable {prog : Program} {w : World} {A : Around} {E : QV} {s : Shared}
theorem find_one {d : Addr} {k : Str} {hs hh : Int} {t u : Tok} {v : Value} {n : Nat} {Q : Option Nat -> Shared -> Prop} (ho : s.heap.get? d = some { cls := .type "dict", dict := none, data := .dict #[⟨hs, .str k t, v⟩] n, slots := #[] })
  (h : Q (some 0) s) : wpAny (model prog w) A (dictFind d (.str k u) hh) Q E s := by
 unfold dictFind
 with_reducible refine wpAny_holding ?_
 refine wB (wpAny_dictEntries ho rfl ?_)
 dsimp only
 rw [if_pos (show ((#[⟨hs, .str k t, v⟩] : Array DictEntry).all fun e => isExactStrKey e.key) = true by simp [isExactStrKey])]
 unfold foundByValue
 have hf : ((#[⟨hs, .str k t, v⟩] : Array DictEntry).findIdx? fun e => e.key.isStr k) = some 0 := by
  have : (Value.str k t).isStr k = true := by simp [Value.isStr]
  simp [Array.findIdx?, Array.findIdx?.loop, this]
 rw [hf]
 dsimp only
 refine wB (wpAny_dictEpoch ho rfl (wB ?_))
 refine (SeqRoads2.EqGives.str k k t u) prog w A E s _ ?_
 rw [show (k.cps.toList == k.cps.toList) = true from beq_self_eq_true _]
 refine wB (wpAny_dictEpoch ho rfl ?_)
 show wpAny _ _ (if (n != n) = true then _ else _) _ E _
 rw [if_neg (by simp)]
 exact wB (wpAny_rule (wP h))
theorem samePairs_one {id : String} {d b : Addr} {k : Str} {v u : Value} {Q : QB} (hd : OneD s.heap d k v) (hb : OneD s.heap b k u) (he : EqAt A s v u true)
  (h : Q true s) : wpAny (model prog w) A (Builtin.Dict.samePairs id d b) Q E s := by
 obtain ⟨hd0, n, hs, t, hd⟩ := hd
 obtain ⟨hb0, n2, hs2, t2, hb⟩ := hb
 unfold Builtin.Dict.samePairs Builtin.Dict.showsAll
 rw [beq_eq_false_iff_ne.mpr hd0, beq_eq_false_iff_ne.mpr hb0]
 refine wB (wP ?_)
 refine wB (wP ?_)
 refine wB (wpAny_dictEntries hd rfl ?_)
 refine wB (wpAny_dictEntries hb rfl ?_)
 show wpAny _ _ (if ((1 : Nat) != 1) = true then _ else _) _ E _
 rw [if_neg (by simp)]
 refine wB (wpAny_dictEpoch hd rfl ?_)
 have er : (forIn (m := Sem) [:#[DictEntry.mk hs (.str k t) v].size]) = (fun (b : Option Bool × Unit) f => forIn (m := Sem) [0] b f) := by
  funext b f
  rw [Std.Legacy.Range.forIn_eq_forIn_range', show ([:#[DictEntry.mk hs (.str k t) v].size] : Std.Legacy.Range).size = 1 by simp [Std.Legacy.Range.size]]
  rfl
 rw [er]
 simp only [List.forIn_cons, List.forIn_nil]
 refine wB (wB (wB (wpAny_dictEntries hd rfl ?_)))
 rw [show (#[DictEntry.mk hs (.str k t) v] : Array DictEntry)[0]? = some ⟨hs, .str k t, v⟩ from rfl]
 dsimp only
 refine wB (wpAny_holding (wB (find_one hb ?_)))
 refine wB (wpAny_dictEntries hb rfl ?_)
 rw [show (#[DictEntry.mk hs2 (.str k t2) u] : Array DictEntry)[0]? = some ⟨hs2, .str k t2, u⟩ from rfl]
 dsimp only
 refine wpAny_holding (he prog w E _ ?_)
 show wpAny _ _ (if (!true) = true then _ else _) _ E _
 rw [if_neg (by simp)]
 refine wB (wpAny_dictEpoch hd rfl ?_)
 show wpAny _ _ (if (n != n) = true then _ else _) _ E _
 rw [if_neg (by simp)]
 exact wP (wP (wP h))
theorem dict_eq_one {d b : Addr} {k : Str} {v u : Value} (hd : OneD s.heap d k v) (hb : OneD s.heap b k u) (hu : A.units < cLine) (he : EqAt A.in1 s v u true) : RcAt A s (.ref d) (.ref b) true := fun prog w E Q h => by
 obtain ⟨n, hs, t, hdo⟩ := hd.2
 obtain ⟨n2, hs2, t2, hbo⟩ := hb.2
 refine wpAny_richCompare_same_room (op := .Eq) (T := "dict") ⟨_, hdo, rfl⟩ ⟨_, hbo, rfl⟩ F.slot_dict_eq (wpAny_call_entry F.slot_dict_eq ⟨_, hdo, rfl⟩ F.entry_dict_eq ?_ (F.args_dict_eq_2 _ _)) hu
 show wpAny _ _ (Builtin.Dict.dictSlotArgs "__eq__" ⟨[.ref d, .ref b], []⟩ >>= _) _ _ s
 refine wB (wpAny_of_eq (a := (Value.ref d, Value.ref b)) (by rfl) ?_)
 dsimp only
 refine wB (wpAny_isInstance (T := "dict") (b := true) ⟨_, hbo, rfl⟩ PySem.F.sub_dict_dict ?_)
 rw [if_neg (by simp)]
 refine wB (wpAny_of_eq (a := d) (by rfl) ?_)
 refine wB (wpAny_of_eq (a := b) (by rfl) ?_)
 refine wB (samePairs_one hd hb he ?_)
 exact wP ⟨_, rfl, (fun x => nomatch x), h⟩
theorem dict_ne_one {d b : Addr} {k : Str} {v u : Value} {Q : QV} (hd : OneD s.heap d k v) (hb : OneD s.heap b k u) (hu : A.units < cLine) (he : EqAt A.in1 s v u true) (h : Q (.bool false) s) :
  wpAny (model prog w) A (compareOp .NotEq (.ref d) (.ref b)) Q E s := by
 obtain ⟨n, hs, t, hdo⟩ := hd.2
 obtain ⟨n2, hs2, t2, hbo⟩ := hb.2
 refine wpAny_richCompare_same_room (op := .NotEq) (T := "dict") ⟨_, hdo, rfl⟩ ⟨_, hbo, rfl⟩ F.slot_dict_ne (wpAny_call_entry F.slot_dict_ne ⟨_, hdo, rfl⟩ F.entry_dict_ne ?_ (F.args_dict_ne_2 _ _)) hu
 show wpAny _ _ (Builtin.Dict.dictSlotArgs "__ne__" ⟨[.ref d, .ref b], []⟩ >>= _) _ _ s
 refine wB (wpAny_of_eq (a := (Value.ref d, Value.ref b)) (by rfl) ?_)
 dsimp only
 refine wB (wpAny_isInstance (T := "dict") (b := true) ⟨_, hbo, rfl⟩ PySem.F.sub_dict_dict ?_)
 rw [if_neg (by simp)]
 refine wB (wpAny_of_eq (a := d) (by rfl) ?_)
 refine wB (wpAny_of_eq (a := b) (by rfl) ?_)
 refine wB (samePairs_one hd hb he ?_)
 exact wP ⟨_, rfl, (fun x => nomatch x), h⟩
theorem all_true {l : List Nat} : (l.all fun _ => true) = true := List.all_eq_true.mpr fun _ _ => rfl
theorem list_eq_all {l b : Addr} {xs ys : List Value} {n n2 : Nat} (hl : IsL s.heap l xs.toArray n) (hb : IsL s.heap b ys.toArray n2) (hz : xs.length = ys.length) (hu : A.units < cLine)
  (he : ∀ i, i < xs.length -> EqAt A.in1 s (xs.getD i .none) (ys.getD i .none) true) : RcAt A s (.ref l) (.ref b) true := by
 have := RcAt.lists (e := fun _ => true) (IsL.isList hl) (IsL.isList hb) (by simpa using hz) hu (fun j h1 h2 => by
  have h1' : j < xs.length := by simpa using h1
  have := he j h1'
  simpa [List.getD, h1', hz ▸ h1'] using this)
 rw [all_true] at this
 exact this
theorem list_ne_all {l b : Addr} {xs ys : List Value} {n n2 : Nat} {Q : QV} (hl : IsL s.heap l xs.toArray n) (hb : IsL s.heap b ys.toArray n2) (hz : xs.length = ys.length) (hu : A.units < cLine)
  (he : ∀ i, i < xs.length -> EqAt A.in1 s (xs.getD i .none) (ys.getD i .none) true) (h : Q (.bool false) s) : wpAny (model prog w) A (compareOp .NotEq (.ref l) (.ref b)) Q E s := by
 have := RcNeAt.lists (e := fun _ => true) (IsL.isList hl) (IsL.isList hb) (by simpa using hz) hu (fun j h1 h2 => by
  have h1' : j < xs.length := by simpa using h1
  have := he j h1'
  simpa [List.getD, h1', hz ▸ h1'] using this)
 exact this prog w E Q (by rw [all_true]; exact h)
theorem eq_str_at {x : Str} {t u : Tok} : EqAt A s (.str x t) (.str x u) true := by
 have := (SeqRoads2.EqGives.str x x t u).at A s
 rwa [show (x.cps.toList == x.cps.toList) = true from beq_self_eq_true _] at this
theorem eq_refs_at {a b : Addr} (h : RcAt A s (.ref a) (.ref b) true) : EqAt A s (.ref a) (.ref b) true := by
 by_cases e : a = b
 ·subst e; exact EqAt.same _
 ·exact EqAt.of_refs e h
end
end
abbrev Cmp := Nat -> Nat -> (QB) -> Shared -> Prop
noncomputable def rng (n : Nat) : Array Nat := List.toArray (List.range n)
theorem rng_get {n i : Nat} (h : i < n) : (rng n).getD i 0 = i := by simp [rng, Array.getD, h]
theorem rng_size (n : Nat) : (rng n).size = n := by simp [rng]
theorem rng_get? (n i : Nat) : (rng n)[i]? = if i < n then some i else none := by
 by_cases h : i < n
 ·simp [rng, h]
 ·simp [rng, h]
structure Put (n l : Nat) (p : Array Nat) : Prop where
 size : p.size = n
 get : ∀ k, k < n -> p[k]? = some (if k < l then k else if k = l then n - 1 else k - 1)
theorem Put.last {n : Nat} (h : 1 ≤ n) : Put n (n - 1) (rng n) := ⟨rng_size n, fun k hk => by
 rw [rng_get?, if_pos hk]
 by_cases c : k < n - 1
 ·rw [if_pos c]
 ·obtain rfl : k = n - 1 := Nat.le_antisymm (Nat.le_sub_one_of_lt hk) (Nat.le_of_not_lt c)
  rw [if_neg c, if_pos rfl]⟩
theorem Put.bubble1 {m l : Nat} (h : l ≤ m) : Put (m + 1) l (PyProof.Rows.bubble (rng (m + 1)) m (m - l)) := ⟨by rw [bubble_size, rng_size], fun k hk => by
 rw [getElem?_bubble (by rw [rng_size]; exact Nat.lt_succ_self m) _ (Nat.sub_le m l)]
 simp only [rng_get?]
 rw [Nat.sub_sub_self h]
 by_cases h1 : k = l
 ·subst h1
  rw [if_pos rfl, if_neg (Nat.lt_irrefl _), if_pos rfl, if_pos (Nat.lt_succ_self m)]
  rfl
 ·rw [if_neg h1]
  by_cases h2 : k < l
  ·rw [if_neg (fun q => Nat.lt_asymm h2 q.1), if_pos hk, if_pos h2]
  ·rw [if_pos ⟨Nat.lt_of_le_of_ne (Nat.le_of_not_lt h2) (Ne.symm h1), Nat.le_of_lt_succ hk⟩, if_neg h2, if_neg h1, if_pos (Nat.lt_of_le_of_lt (Nat.sub_le k 1) hk)]⟩
theorem Put.bubble {n l : Nat} (h : l ≤ n - 1) (hn : 1 ≤ n) : Put n l (PyProof.Rows.bubble (rng n) (n - 1) (n - 1 - l)) := by
 cases n with
 | zero => cases hn
 | succ m => exact Put.bubble1 h
theorem Put.first1 {m : Nat} : Put (m + 1) 0 (kas_rev (kas_rev (rng (m + 1)) 0 m) 0 (m + 1)) := ⟨by rw [kas_rev, kas_rev, mirror_size, mirror_size, rng_size], fun k hk => by
 unfold kas_rev
 rw [getElem?_mirror_all (by rw [mirror_size, rng_size]; exact Nat.le_refl _), if_pos ⟨Nat.zero_le _, hk⟩, getElem?_mirror_all (by rw [rng_size]; exact Nat.le_succ m), Nat.zero_add, Nat.zero_add, Nat.add_sub_cancel]
 simp only [rng_get?]
 cases k with
 | zero =>
  rw [if_neg (fun q => Nat.lt_irrefl _ q.2), if_neg (Nat.lt_irrefl _), if_pos rfl]
  exact if_pos (Nat.lt_succ_self m)
 | succ j =>
  obtain ⟨d, rfl⟩ := Nat.exists_eq_add_of_le (Nat.le_of_lt_succ hk)
  have e : j + 1 + d - 1 - (j + 1 + d - (j + 1)) = j := by rw [Nat.add_sub_cancel_left, Nat.add_right_comm, Nat.add_sub_cancel, Nat.add_sub_cancel]
  rw [e, if_pos ⟨Nat.zero_le _, Nat.sub_lt (Nat.add_pos_left (Nat.succ_pos j) d) (Nat.succ_pos j)⟩, if_neg (Nat.not_lt_zero _), if_neg (Nat.succ_ne_zero j)]
  exact if_pos (Nat.lt_trans (Nat.lt_succ_self j) hk)⟩
theorem Put.first {n : Nat} (hn : 1 ≤ n) : Put n 0 (kas_rev (kas_rev (rng n) 0 (n - 1)) 0 n) := by
 cases n with
 | zero => cases hn
 | succ m => exact Put.first1
theorem Put.two : Put 2 0 (kas_rev (rng 2) 0 2) := ⟨by rw [kas_rev, mirror_size, rng_size], fun k hk => by
 unfold kas_rev
 rw [getElem?_mirror_all (by rw [rng_size]; lia), if_pos (by lia)]
 simp only [rng_get?]
 have : k = 0 ∨ k = 1 := by lia
 rcases this with rfl | rfl <;> rfl⟩
section
variable {cmp : Cmp} {n : Nat} {key : Nat -> Nat} {s : Shared} (hc : ∀ i j (C : QB), i < n -> j < n -> C (decide (key i < key j)) s -> cmp i j C s)
include hc
theorem asc_go (hs : ∀ i, 1 ≤ i -> i + 1 < n -> ¬ key i < key (i - 1)) {Q : Nat -> Shared -> Prop} (h1 : key (n - 1) < key (n - 2) -> Q (n - 1) s) (h2 : ¬ key (n - 1) < key (n - 2) -> Q n s) :
  ∀ f m, m + f = n -> 1 ≤ m -> m < n -> (kas_asc (rng n) f m).kasWp cmp Q s
 | 0, m, e, _, h => by lia
 | f + 1, m, e, hm, h => by
  show cmp ((rng n).getD m 0) ((rng n).getD (m - 1) 0) _ s
  rw [rng_get h, rng_get (by lia)]
  refine hc _ _ _ h (by lia) ?_
  by_cases hl : m + 1 < n
  ·rw [decide_eq_false (hs m hm hl)]
   exact asc_go hs h1 h2 f (m + 1) (by lia) (by lia) hl
  ·obtain rfl : m = n - 1 := by lia
   obtain rfl : f = 0 := by lia
   have e2 : n - 1 - 1 = n - 2 := by lia
   rw [e2]
   by_cases c : key (n - 1) < key (n - 2)
   ·rw [decide_eq_true c]
    exact h1 c
   ·rw [decide_eq_false c]
    have := h2 c
    rw [show n = n - 1 + 1 by lia] at this
    exact this
theorem place_go (hn : 1 ≤ n) (hs : ∀ i j, i ≤ j -> j + 1 < n -> key i ≤ key j) {Q : Nat -> Shared -> Prop}
  (h : ∀ l, l ≤ n - 1 -> (∀ i, i < l -> key i ≤ key (n - 1)) -> (∀ i, l ≤ i -> i < n - 1 -> key (n - 1) < key i) -> Q l s) :
  ∀ f l r, l ≤ r -> r ≤ n - 1 -> r - l ≤ f -> (∀ i, i < l -> key i ≤ key (n - 1)) -> (∀ i, r ≤ i -> i < n - 1 -> key (n - 1) < key i) -> (kas_place (rng n) (n - 1) f l r).kasWp cmp Q s
 | 0, l, r, h1, h2, h3, h4, h5 => by
  obtain rfl : l = r := Nat.le_antisymm h1 (Nat.le_of_sub_eq_zero (Nat.le_zero.mp h3))
  exact h l h2 h4 h5
 | f + 1, l, r, h1, h2, h3, h4, h5 => by
  unfold kas_place
  by_cases c : l ≥ r
  ·obtain rfl : l = r := Nat.le_antisymm h1 c
   rw [if_pos c]
   exact h l h2 h4 h5
  ·rw [if_neg c]
   have hm1 : l ≤ (l + r) / 2 := (Nat.le_div_iff_mul_le (by decide)).mpr (by rw [Nat.mul_two]; exact Nat.add_le_add_left h1 l)
   have hm2 : (l + r) / 2 < r := Nat.div_lt_of_lt_mul (by rw [Nat.two_mul]; exact Nat.add_lt_add_right (Nat.lt_of_not_le c) r)
   have hr : r ≤ f + 1 + l := Nat.sub_le_iff_le_add.mp h3
   have hn1 := Nat.sub_lt hn Nat.one_pos
   show cmp ((rng n).getD (n - 1) 0) ((rng n).getD ((l + r) / 2) 0) _ s
   show cmp _ _ (fun b s => (if b = true then kas_place (rng n) (n - 1) f l ((l + r) / 2) else kas_place (rng n) (n - 1) f ((l + r) / 2 + 1) r).kasWp cmp Q s) s
   revert hm1 hm2
   refine gnl ((l + r) / 2) ?_
   intro q hm1 hm2
   have hq := Nat.lt_of_lt_of_le hm2 (Nat.le_trans h2 (Nat.sub_le n 1))
   have hq1 := Nat.lt_of_le_of_lt (Nat.le_trans hm2 h2) hn1
   rw [rng_get hn1, rng_get hq]
   refine hc _ _ _ hn1 hq ?_
   by_cases c2 : key (n - 1) < key q
   ·rw [decide_eq_true c2]
    exact place_go hn hs h f l q hm1 (Nat.le_trans (Nat.le_of_lt hm2) h2) (Nat.sub_le_iff_le_add.mpr (Nat.le_of_lt_succ (Nat.lt_of_lt_of_le hm2 (by rw [Nat.add_right_comm] at hr; exact hr)))) h4
     fun i q1 q2 => Nat.lt_of_lt_of_le c2 (hs _ _ q1 (Nat.lt_of_lt_of_le (Nat.succ_lt_succ q2) (Nat.le_of_eq (Nat.sub_add_cancel hn))))
   ·rw [decide_eq_false c2]
    exact place_go hn hs h f (q + 1) r hm2 h2 (Nat.sub_le_iff_le_add.mpr (Nat.le_trans hr (by rw [Nat.add_assoc, Nat.add_comm 1 l]; exact Nat.add_le_add_left (Nat.succ_le_succ hm1) f)))
     (fun i q2 => Nat.le_trans (hs i q (Nat.le_of_lt_succ q2) hq1) (Nat.le_of_not_lt c2)) h5
omit hc in
theorem sort_last1 {m : Nat} (hc : ∀ i j (C : QB), i < m + 2 -> j < m + 2 -> C (decide (key i < key j)) s -> cmp i j C s) (hs : ∀ i j, i ≤ j -> j + 1 < m + 2 -> key i ≤ key j) {Q : Array Nat -> Shared -> Prop}
  (h : ∀ l p, l ≤ m + 1 -> (∀ i, i < l -> key i ≤ key (m + 1)) -> (∀ i, l ≤ i -> i < m + 1 -> key (m + 1) < key i) -> Put (m + 2) l p -> Q p s) : (kas_sort (m + 2)).kasWp cmp Q s := by
 have hs1 : ∀ i, 1 ≤ i -> i + 1 < m + 2 -> ¬ key i < key (i - 1) := fun i h1 h2 => Nat.not_lt.mpr (hs _ _ (Nat.sub_le i 1) h2)
 have tl : ∀ p : Array Nat, kas_descPart (m + 1) (m + 2) p = KasT.ret (m + 2, kas_rev p 0 (m + 2)) := fun p => by
  unfold kas_descPart
  rw [show m + 2 - (m + 1 + 1) = 0 from Nat.sub_self _]
  show (kas_asc (kas_rev p 0 (m + 2)) (m + 2 - (m + 2)) (m + 2)).bind _ = _
  rw [Nat.sub_self]
  rfl
 unfold kas_sort
 rw [KasT.kasWp_bind]
 unfold kas_count
 rw [KasT.kasWp_bind]
 show (kas_asc (rng (m + 2)) (m + 1) 1).kasWp cmp _ s
 refine asc_go hc hs1 (fun c => ?_) (fun c => ?_) (m + 1) 1 (Nat.add_comm 1 (m + 1)) (Nat.le_refl _) (Nat.succ_lt_succ (Nat.succ_pos m))
 ·rw [if_neg (by simp)]
  by_cases c1 : m + 2 - 1 > 1
  ·rw [if_pos c1]
   show cmp ((rng (m + 2)).getD 0 0) ((rng (m + 2)).getD m 0) _ s
   have hm : m < m + 2 := Nat.lt_succ_of_lt (Nat.lt_succ_self m)
   rw [rng_get (Nat.succ_pos _), rng_get hm]
   refine hc _ _ _ (Nat.succ_pos _) hm ?_
   by_cases c2 : key 0 < key m
   ·rw [decide_eq_true c2]
    show (if m + 1 < m + 2 then kas_bin (m + 2 - max (m + 1) 1) (rng (m + 2)) (max (m + 1) 1) else KasT.ret (rng (m + 2))).kasWp cmp Q s
    rw [if_pos (Nat.lt_succ_self _), Nat.max_eq_left (Nat.succ_le_succ (Nat.zero_le m)), show m + 2 - (m + 1) = 0 + 1 from Nat.add_sub_cancel_left (m + 1) 1]
    show (KasT.bind _ _).kasWp cmp Q s
    rw [KasT.kasWp_bind]
    refine place_go hc (Nat.succ_pos _) hs (fun l h1 h2 h3 => ?_) (m + 1) 0 (m + 1) (Nat.zero_le _) (Nat.le_refl _) (Nat.sub_le _ _) (fun i q => absurd q (Nat.not_lt_zero _)) (fun i q1 q2 => absurd (Nat.lt_of_le_of_lt q1 q2) (Nat.lt_irrefl _))
    exact h l _ h1 h2 h3 (Put.bubble1 h1)
   ·rw [decide_eq_false c2]
    show (kas_descPart (m + 1) (m + 2) (kas_rev (rng (m + 2)) 0 (m + 1))).kasWp cmp _ s
    rw [tl]
    show (if m + 2 < m + 2 then _ else KasT.ret (kas_rev (kas_rev (rng (m + 2)) 0 (m + 1)) 0 (m + 2))).kasWp cmp Q s
    rw [if_neg (Nat.lt_irrefl _)]
    exact h 0 _ (Nat.zero_le _) (fun i q => absurd q (Nat.not_lt_zero _)) (fun i q1 q2 => Nat.lt_of_lt_of_le c (Nat.le_trans (Nat.le_of_not_lt c2) (hs 0 i (Nat.zero_le _) (Nat.succ_lt_succ q2)))) Put.first1
  ·obtain rfl : m = 0 := Nat.le_zero.mp (Nat.le_of_succ_le_succ (Nat.le_of_not_lt c1))
   rw [if_neg c1]
   rw [tl]
   show (if 2 < 2 then _ else KasT.ret (kas_rev (rng 2) 0 2)).kasWp cmp Q s
   rw [if_neg (Nat.lt_irrefl _)]
   refine h 0 _ (Nat.zero_le _) (fun i q => absurd q (Nat.not_lt_zero _)) (fun i q1 q2 => ?_) Put.two
   obtain rfl : i = 0 := Nat.lt_one_iff.mp q2
   exact c
 ·rw [if_pos (by simp)]
  show (if m + 2 < m + 2 then _ else KasT.ret (rng (m + 2))).kasWp cmp Q s
  rw [if_neg (Nat.lt_irrefl _)]
  exact h (m + 1) _ (Nat.le_refl _) (fun i q => Nat.le_trans (hs i m (Nat.le_of_lt_succ q) (Nat.lt_succ_self _)) (Nat.le_of_not_lt c)) (fun i q1 q2 => absurd (Nat.lt_of_le_of_lt q1 q2) (Nat.lt_irrefl _)) (Put.last (Nat.succ_pos _))
omit hc in
theorem sort_last (hc : ∀ i j (C : QB), i < n -> j < n -> C (decide (key i < key j)) s -> cmp i j C s) (hn : 2 ≤ n) (hs : ∀ i j, i ≤ j -> j + 1 < n -> key i ≤ key j) {Q : Array Nat -> Shared -> Prop}
  (h : ∀ l p, l ≤ n - 1 -> (∀ i, i < l -> key i ≤ key (n - 1)) -> (∀ i, l ≤ i -> i < n - 1 -> key (n - 1) < key i) -> Put n l p -> Q p s) : (kas_sort n).kasWp cmp Q s := by
 obtain ⟨m, rfl⟩ := Nat.exists_eq_add_of_le' hn
 exact sort_last1 hc hs h
end
theorem getD_old {vs : List Value} {x : Value} {k : Nat} (h : k < vs.length) : some ((vs ++ [x]).getD k .none) = vs[k]? := by
 rw [List.getD_eq_getElem?_getD, List.getElem?_append_left h, List.getElem?_eq_getElem h]
 rfl
theorem getD_new {vs : List Value} {x : Value} : (vs ++ [x]).getD vs.length .none = x := by
 rw [List.getD_eq_getElem?_getD, List.getElem?_append_right (Nat.le_refl _), Nat.sub_self]
 rfl
theorem Put.vals {vs : List Value} {x : Value} {l : Nat} {p : Array Nat} (h : Put (vs.length + 1) l p) (hl : l ≤ vs.length) : (p.toList.map fun i => (vs ++ [x]).getD i Value.none) = vs.take l ++ x :: vs.drop l := by
 apply List.ext_getElem?
 intro k
 have ht : (vs.take l).length = l := by rw [List.length_take, Nat.min_eq_left hl]
 rw [List.getElem?_map, Array.getElem?_toList]
 by_cases hk : k < vs.length + 1
 ·rw [h.get k hk]
  by_cases h1 : k < l
  ·rw [if_pos h1, List.getElem?_append_left (by rw [ht]; exact h1), List.getElem?_take_of_lt h1]
   exact getD_old (Nat.lt_of_lt_of_le h1 hl)
  ·have hlk := Nat.le_of_not_lt h1
   rw [if_neg h1, List.getElem?_append_right (by rw [ht]; exact hlk), ht]
   by_cases h2 : k = l
   ·subst h2
    rw [if_pos rfl, Nat.sub_self]
    exact congrArg some getD_new
   ·obtain ⟨j, rfl⟩ := Nat.exists_eq_add_of_le (Nat.lt_of_le_of_ne hlk (Ne.symm h2))
    rw [Nat.succ_add] at hk h2 h1 ⊢
    rw [if_neg h2, show (l + j).succ - l = j + 1 by rw [Nat.succ_eq_add_one, Nat.add_assoc, Nat.add_sub_cancel_left], List.getElem?_cons_succ, List.getElem?_drop]
    exact getD_old (Nat.lt_of_succ_lt_succ hk)
 ·rw [Array.getElem?_eq_none (by rw [h.size]; exact Nat.le_of_not_lt hk), List.getElem?_eq_none (by rw [List.length_append, List.length_cons, ht, List.length_drop, ← Nat.add_assoc, Nat.add_sub_cancel' hl]; exact Nat.le_of_not_lt hk)]
  rfl
section
open PySem.SeqAt
open AutoSeq1 (wpAny_loadPart')
open MeetsSeq MeetsSeq2 MeetsSeq3 SeqRoads2
section
variable {prog : Program} {w : World} {A : Around} {E : QV} {s : Shared}
@[reducible] noncomputable def pairO (i : Int) (t : Tok) (x : Str) (u : Tok) (n : Nat) : Obj := seqObj "list" #[.int i t, .str x u] n
theorem lt_same (a b : Addr) (items items2 : Array Value) (n n2 k : Nat) (p q : Value) (hp : items[k]? = some p) (hq : items2[k]? = some q) (he : EqGives p q true) {S : PySem.Spec}
  (next : Meets (Builtin.«list.__eq__.loop» ⟨[.ref a, .ref b, rawInt (k + 1 : Nat), rawInt 0], []⟩) S) : Meets (Builtin.«list.__eq__.loop» ⟨[.ref a, .ref b, rawInt (k : Nat), rawInt 0], []⟩)
  (fun A R s => s.heap.get? a = some (seqObj "list" items n) ∧ s.heap.get? b = some (seqObj "list" items2 n2) ∧ S A R s) := by
 intro prog w A R s h
 obtain ⟨hp', g, d, tk, os⟩ := s; obtain ⟨hl, hb, h⟩ := h
 wp_walk using wpAny_loadPart' hl, wpAny_loadPart' hb
 have e1 : items[((k : Nat) : Int).toNat]? = some p := by simpa using hp
 have e2 : items2[((k : Nat) : Int).toNat]? = some q := by simpa using hq
 have hc : ((k : Int) + 1) = ((k + 1 : Nat) : Int) := by push_cast; rfl
 rw [e1, e2]
 refine wB (he prog w _ _ _ _ ?_)
 wp_walk
 rw [hc]
 exact ⟨plainId_quiet plain_eq_loop _, codeAny_builtin entry_eq_loop (by
  rw [Around.under_plainId plain_eq_loop _]
  exact next prog w A R _ h)⟩
theorem lt_diff (a b : Addr) (items items2 : Array Value) (n n2 k : Nat) (p q : Value) (hp : items[k]? = some p) (hq : items2[k]? = some q) (he : EqGives p q false) {c : Bool}
  (hlt : ∀ (prog : Program) (w : World) (A : Around) (E : QV) (s : Shared) (Q : QV), Q (.bool c) s -> wpAny (model prog w) A (richCompare .Lt p q) Q E s) : Meets (Builtin.«list.__eq__.loop» ⟨[.ref a, .ref b, rawInt (k : Nat), rawInt 0], []⟩)
  (fun _ R s => s.heap.get? a = some (seqObj "list" items n) ∧ s.heap.get? b = some (seqObj "list" items2 n2) ∧ R (.ok (.ret (.bool c))) s) := by
 intro prog w A R s h
 obtain ⟨hp', g, d, tk, os⟩ := s; obtain ⟨hl, hb, h⟩ := h
 wp_walk using wpAny_loadPart' hl, wpAny_loadPart' hb
 have e1 : items[((k : Nat) : Int).toNat]? = some p := by simpa using hp
 have e2 : items2[((k : Nat) : Int).toNat]? = some q := by simpa using hq
 rw [e1, e2]
 refine wB (he prog w _ _ _ _ ?_)
 wp_walk using wpAny_loadPart' hl, wpAny_loadPart' hb
 rw [e1, e2]
 refine wB (hlt prog w _ _ _ _ ?_)
 wp_walk
 exact h
theorem lt_end (a b : Addr) (items items2 : Array Value) (n n2 k : Nat) (h1 : items.size = k) (h2 : items2.size = k) : Meets (Builtin.«list.__eq__.loop» ⟨[.ref a, .ref b, rawInt (k : Nat), rawInt 0], []⟩)
  (fun _ R s => s.heap.get? a = some (seqObj "list" items n) ∧ s.heap.get? b = some (seqObj "list" items2 n2) ∧ R (.ok (.ret (.bool false))) s) := by
 intro prog w A R s h
 obtain ⟨hp', g, d, tk, os⟩ := s; obtain ⟨hl, hb, h⟩ := h
 wp_walk using wpAny_loadPart' hl, wpAny_loadPart' hb
 have e1 : items[((k : Nat) : Int).toNat]? = none := by simp; lia
 have e2 : items2[((k : Nat) : Int).toNat]? = none := by simp; lia
 rw [e1, e2]
 wp_walk using wpAny_loadPart' hl, wpAny_loadPart' hb
 show R (.ok (.ret (.bool (decide (items.size < items2.size))))) _
 rw [h1, h2, decide_eq_false (Nat.lt_irrefl _)]
 exact h
theorem lt_loop1 (a b : Addr) (i j : Int) (t t2 u u2 : Tok) (x y : Str) (n n2 : Nat) : Meets (Builtin.«list.__eq__.loop» ⟨[.ref a, .ref b, rawInt (1 : Nat), rawInt 0], []⟩)
  (fun _ R s => s.heap.get? a = some (pairO i t x u n) ∧ s.heap.get? b = some (pairO j t2 y u2 n2) ∧ R (.ok (.ret (.bool (decide (x.cps.toList < y.cps.toList))))) s) := by
 have he := EqGives.str x y u u2
 by_cases c : x.cps.toList = y.cps.toList
 ·rw [show (x.cps.toList == y.cps.toList) = true by simp [c]] at he
  rw [show decide (x.cps.toList < y.cps.toList) = false by rw [c]; exact decide_eq_false (List.lt_irrefl _)]
  intro prog w A R s h
  exact lt_same a b _ _ n n2 1 _ _ rfl rfl he (lt_end a b #[.int i t, .str x u] #[.int j t2, .str y u2] n n2 2 rfl rfl) prog w A R s ⟨h.1, h.2.1, h⟩
 ·rw [show (x.cps.toList == y.cps.toList) = false from beq_eq_false_iff_ne.mpr c] at he
  exact lt_diff a b _ _ n n2 1 _ _ rfl rfl he fun prog w A E s Q h => PyProof.Rows.lt_str h
theorem lt_loop0 (a b : Addr) (i j : Int) (t t2 u u2 : Tok) (x y : Str) (n n2 : Nat) : Meets (Builtin.«list.__eq__.loop» ⟨[.ref a, .ref b, rawInt (0 : Nat), rawInt 0], []⟩)
  (fun _ R s => s.heap.get? a = some (pairO i t x u n) ∧ s.heap.get? b = some (pairO j t2 y u2 n2) ∧ R (.ok (.ret (.bool (decide (i < j ∨ (i = j ∧ x.cps.toList < y.cps.toList)))))) s) := by
 have he := EqGives.int i j t t2
 by_cases c : i = j
 ·rw [show (i == j) = true by simp [c]] at he
  rw [show decide (i < j ∨ (i = j ∧ x.cps.toList < y.cps.toList)) = decide (x.cps.toList < y.cps.toList) by subst c; simp]
  intro prog w A R s h
  exact lt_same a b _ _ n n2 0 _ _ rfl rfl he (lt_loop1 a b i j t t2 u u2 x y n n2) prog w A R s ⟨h.1, h.2.1, h⟩
 ·rw [show (i == j) = false by simp [c]] at he
  rw [show decide (i < j ∨ (i = j ∧ x.cps.toList < y.cps.toList)) = decide (i < j) by simp [c]]
  exact lt_diff a b _ _ n n2 0 _ _ rfl rfl he fun prog w A E s Q h => PyProof.Rows.lt_int h
theorem list_lt_pairs (a b : Addr) (i j : Int) (t t2 u u2 : Tok) (x y : Str) (n n2 : Nat) : Meets (Builtin.«list.__lt__» ⟨[.ref a, .ref b], []⟩)
  (fun _ R s => s.heap.get? a = some (pairO i t x u n) ∧ s.heap.get? b = some (pairO j t2 y u2 n2) ∧ R (.ok (.ret (.bool (decide (i < j ∨ (i = j ∧ x.cps.toList < y.cps.toList)))))) s) := by
 intro prog w A R s h
 obtain ⟨hp, g, d, tk, os⟩ := s; obtain ⟨hl, hb, h⟩ := h
 have f3 := AutoSeq1.sub_list_list
 wp_walk using wpAny_loadPart' hl, wpAny_loadPart' hb
 exact ⟨plainId_quiet plain_eq_loop _, codeAny_builtin entry_eq_loop (by
  rw [Around.under_plainId plain_eq_loop _]
  exact lt_loop0 a b i j t t2 u u2 x y n n2 prog w A R _ ⟨hl, hb, h⟩)⟩
theorem lt_pairs {a b : Addr} {i j : Int} {t t2 u u2 : Tok} {x y : Str} {n n2 : Nat} {Q : QB} (ha : s.heap.get? a = some (pairO i t x u n)) (hb : s.heap.get? b = some (pairO j t2 y u2 n2)) (hu : A.units < cLine)
  (h : Q (decide (i < j ∨ (i = j ∧ x.cps.toList < y.cps.toList))) s) : wpAny (model prog w) A (keyLt' oneType' (.ref a) (.ref b)) Q E s := by
 rw [keyLt'_oneType, oneLt'_eq]
 simp only [if_true]
 refine wB (wpAny_cRoomFor hu ?_)
 refine wB (wpAny_callSpecialIfBound?_slot (name := Str.ofString "__lt__") (T := "list") ⟨_, ha, rfl⟩ F.slot_list_lt (call_meets F.slot_list_lt ⟨_, ha, rfl⟩ F.entry_list_lt (F.args_list_lt_2 _ _) (list_lt_pairs a b i j t t2 u u2 x y n n2) ⟨ha, hb, ?_⟩))
 exact wpAny_truthy_bool h
theorem list_sort_own {a : Addr} {vs : List Value} {n : Nat} {P : PySem.Fin -> Shared -> Prop} (ho : s.heap.get? a = some (seqObj "list" vs.toArray n)) (h2 : 2 ≤ vs.length) (h64 : vs.length < 64)
  (hT : ∀ h : Heap, (∀ b o, b ≠ a -> s.heap.get? b = some o -> h.get? b = some o) -> ∀ v ∈ vs, Looks (model prog w) h (typeOf v) (.type "list"))
  {G : Array Nat -> Prop} (ask : ∀ s' : Shared, (∀ b o, b ≠ a -> s.heap.get? b = some o -> s'.heap.get? b = some o) -> ∀ Q : Array Nat -> Shared -> Prop, (∀ p, G p -> Q p s') -> (kas_sort vs.length).kasWp (kas_ask prog w A oneType' vs) Q s')
  (h : ∀ p, G p -> P (.done (.ret .none)) { s with heap := sortedHeap s.heap a vs (p.toList.map fun i => vs.getD i Value.none).toArray }) :
  wpAny (model prog w) A (Builtin.«list.sort» ⟨[.ref a], []⟩) P E s := by
 have ha : a < s.heap.objs.size := Heap.lt_size ho
 obtain ⟨e1, ho1⟩ : ∃ e1, (s.heap.update a (Obj.mapSeq fun _ => (#[] : Array Value))).get? a = some (seqObj "list" #[] e1) := ⟨_, get?_update_seq ho fun _ => #[]⟩
 have hk : ∀ b o, b ≠ a -> s.heap.get? b = some o -> (((s.heap.update a (Obj.mapSeq fun _ => (#[] : Array Value))).push (seqObj "tuple" vs.toArray 0)).push (seqObj "list" #[] 0)).get? b = some o := fun b o hb e =>
  Heap.get?_push_of_some _ (Heap.get?_push_of_some _ ((Heap.get?_update_ne _ _ _ _ hb).trans e))
 have ho6 := Heap.get?_push_of_some (seqObj "list" #[] 0) (Heap.get?_push_of_some (seqObj "tuple" vs.toArray 0) ho1)
 rw [list_sort_plain]
 refine wB (listItems_at ho rfl ?_)
 refine wB (listUpdate_at ho rfl ?_ (by rw [List.size_toArray, sizeLine_eq]; lia) (Nat.zero_le _))
 refine wB (seqEpoch_at ho1 rfl ?_)
 refine wB (wpAny_newTuple ?_ (by show vs.length ≤ _; rw [sizeLine_eq]; lia))
 refine wB (wpAny_newList ?_ (Nat.zero_le _))
 refine wpAny_holding ?_
 show wpAny (model prog w) A _ P E { s with heap := ((s.heap.update a (Obj.mapSeq fun _ => (#[] : Array Value))).push (seqObj "tuple" vs.toArray 0)).push (seqObj "list" #[] 0) }
 dsimp only
 have hn2 : ¬ vs.toArray.size < 2 := by rw [List.size_toArray]; lia
 rw [if_neg hn2, if_neg hn2]
 refine wB (kas_kind h2 (hT _ hk) (by decide) (by decide) ?_)
 have est : SortSt.mk' oneType' (vs.toArray.zip vs.toArray) #[] 7 none = kas_st oneType' (pairsOf vs) (List.toArray (List.range vs.length)) := by
  have e := kas_range (pairsOf vs)
  rw [pairsOf_size] at e
  show SortSt.mk' oneType' (pairsOf vs) #[] 7 none = SortSt.mk' oneType' ((List.toArray (List.range vs.length)).map (kas_item (pairsOf vs))) #[] 7 none
  rw [e]
 have ask' := ask { s with heap := ((s.heap.update a (Obj.mapSeq fun _ => (#[] : Array Value))).push (seqObj "tuple" vs.toArray 0)).push (seqObj "list" #[] 0) } hk
  (fun p s' => G p ∧ s' = { s with heap := ((s.heap.update a (Obj.mapSeq fun _ => (#[] : Array Value))).push (seqObj "tuple" vs.toArray 0)).push (seqObj "list" #[] 0) }) (fun p hp => ⟨hp, rfl⟩)
 rw [kas_ask_eq] at ask'
 have run := kas_runs (E := E) (Q := fun _ st' s' => ∃ p : Array Nat, p.size = vs.length ∧ arrOf st' = p.map (kas_item (pairsOf vs)) ∧ failedOf st' = none ∧ G p ∧ s' = { s with heap := ((s.heap.update a (Obj.mapSeq fun _ => (#[] : Array Value))).push (seqObj "tuple" vs.toArray 0)).push (seqObj "list" #[] 0) })
  h2 h64 (fun p' st' s' a1 a2 a3 a4 => ⟨p', a1, a2, a3, a4.1, a4.2⟩) ask'
 rw [← est] at run
 refine wB (wM run ?_ fun _ _ e => e)
 rintro ⟨⟨⟩, st'⟩ s' ⟨p, hp, har, hf, hG, rfl⟩
 dsimp only
 have hout : (arrOf st').map (·.2) = List.toArray (p.toList.map fun i => vs.getD i Value.none) := by
  apply Array.toList_inj.mp
  rw [har, Array.map_map, Array.toList_map]
  exact List.map_congr_left fun i _ => by show (kas_item (pairsOf vs) i).2 = _; rw [kas_item_eq]
 have hsz : (List.toArray (p.toList.map fun i => vs.getD i Value.none)).size = vs.length := by rw [List.size_toArray, List.length_map, Array.length_toList, hp]
 rw [hout]
 refine wB (seqEpoch_at ho6 rfl ?_)
 refine wB (listUpdate_at ho6 rfl ?_ (Nat.zero_le _) (Nat.le_trans (Nat.le_of_eq hsz) (by rw [sizeLine_eq]; lia)))
 rw [hf]
 simp only [bne_self_eq_false, Bool.false_eq_true, if_false]
 exact wP (h p hG)
end
end
theorem bbO {α : Type} (p q : Bool) (x o : α) : (if p = true then x else if (q || false) = true then x else o) = if (q || p) = true then x else o := by cases p <;> cases q <;> rfl
theorem without_eq {h : Heap} {S T : List Addr} (e : ∀ i, S.contains i = T.contains i) : without h S = without h T := congrArg (fun f : Addr -> Bool => (⟨h.objs.mapIdx fun i o => if f i = true then { cls := .none, data := .freed } else o, h.life⟩ : Heap)) (funext e)
theorem without_twice (h : Heap) (a : Addr) (S : List Addr) : without (without h [a]) S = without h (a :: S) := by
 refine (congrArg (fun x => (⟨x, h.life⟩ : Heap)) Array.mapIdx_mapIdx).trans (congrArg (fun f => (⟨h.objs.mapIdx f, h.life⟩ : Heap)) (funext fun i => funext fun o => ?_))
 rw [List.contains_cons]
 show (if S.contains i = true then _ else if [a].contains i = true then _ else o) = _
 rw [List.contains_cons]
 exact bbO _ _ _ _
theorem framesOf_cons {env : Env} {l : List Env} {a : Addr} (h : env.frame = some a) : zO (env :: l) = a :: zO l := by simp [zO, h]
theorem exc_leaves {L₁ : Addr} {m₁ : Str -> Option Value} {envc : Env} {cls : String} {ev : Value} {Q : Shared -> Prop} (X : Exc H0 os0 L₁ m₁ ((L, .ns m) :: D) cls ev s) (hstk : OnStk A L D) (hA : ∃ o, A.frames = some (env :: o)) (hf : env.frame = some L)
  (hkc : envc.scope.kind = .function) (hfc : envc.frame = some L₁) (h : ∀ s', Noted w A H0 os0 L m D env cls ev s' -> Q s') :
  wpAny (model pw w) (A.deeper envc) («leaving» envc ev) (fun _ s' => Q s') E s := by
 obtain ⟨o, hfr⟩ := hA
 obtain ⟨e, ob, t, rfl, S, hc, hd⟩ := X
 have hFr : Frs L D (env :: o) := hstk.frs hfr
 have hFr1 : Frs L₁ ((L, .ns m) :: D) (envc :: env :: o) := fun env' he => by
  cases he with
  | head => exact ⟨hkc, L₁, hfc, .inl rfl⟩
  | tail _ he =>
   obtain ⟨k, a, ha, r⟩ := hFr env' he
   refine ⟨k, a, ha, .inr ?_⟩
   rcases r with rfl | ⟨m', hm⟩
   ·exact ⟨m, .head _⟩
   ·exact ⟨m', .tail _ hm⟩
 obtain ⟨he, hkb, hen, hFF⟩ := Exc.parts S hd hFr1
 have hfr1 : (A.deeper envc).frames = some (envc :: env :: o) := by simp [Around.deeper, hfr]
 refine wpAny_leaving_firstW hfr1 hFF hfc he hkb hen hd rfl (a0 := t) rfl fun h' hL => h _ ?_
 obtain ⟨k1, ⟨_, _, k2⟩, k3, k4⟩ := hL
 rw [hc] at k3
 have hfo : zO (envc :: env :: o) = L₁ :: zO (env :: o) := framesOf_cons hfc
 have hL1 : ∀ p ∈ (e, Ob.raw ob) :: D, p.1 ≠ L₁ := fun p hp q => by
  have nd := (List.nodup_cons.mp S.nodup).1
  refine nd (q ▸ ?_)
  rcases List.mem_cons.mp hp with rfl | hp
  ·exact .head _
  ·exact .tail _ (.tail _ (List.mem_map_of_mem (f := Prod.fst) hp))
 have hLL : L ≠ L₁ := fun q => (List.nodup_cons.mp S.nodup).1 (q ▸ .tail _ (.head _))
 have S0 : St H0 os0 L m ((e, .raw ob) :: D) { s with heap := without s.heap [L₁] } := by
  have Sr : St H0 os0 L m ((e, .raw ob) :: D) s := S.ret (.tail .head)
  have g : ∀ b o, b ≠ L₁ -> s.heap.get? b = some o -> (without s.heap [L₁]).get? b = some o := fun b o hb e => by
   rw [get_without, if_neg (by simpa using hb)]; exact e
  refine ⟨?_, fun b o e => g b o (fun q => by rw [q, S.top] at e; cases e) (Sr.stays b o e), Sr.top, Sr.nodup, fun p hp => ⟨(Sr.ob p hp).1.keep fun o e => g _ o (hL1 p hp) e, (Sr.ob p hp).2⟩, Sr.gens, Sr.os⟩
  obtain ⟨o, es, ep, q, r⟩ := Sr.ns
  exact ⟨o, es, ep, g _ _ hLL q, r⟩
 have hbase : without (without s.heap [L₁]) (e :: zO (env :: o)) = without s.heap (e :: zO (envc :: env :: o)) := by
  rw [without_twice, hfo]
  refine without_eq fun i => ?_
  rw [List.contains_cons, List.contains_cons, List.contains_cons, List.contains_cons]
  exact Bool.or_left_comm ..
 have hFly : Heap.FlyingW (without s.heap (e :: zO (envc :: env :: o))) (env :: o) e (.type cls) t h' := ⟨k1, hen, k2, k3⟩
 refine ⟨o, hfr, hFr, hf, fun E => ?_⟩
 refine wpAny_looks_onW hfr hf hFly fun h'' hH hu => ?_
 refine ⟨e, t, _, { s with heap := without s.heap [L₁] }, _, rfl, S0, rfl, by rw [hbase]; exact hH, ?_, rfl, rfl⟩
 have hu1 : (without s.heap [L₁]).UpToSlots s.heap := fun b o' e' _ => by
  rw [get_without] at e'
  replace e' := e'
  split at e'
  ·cases e'
  ·exact ⟨o'.slots, e'⟩
 exact Heap.UpToSlots.trans hu1 (Heap.UpToSlots.trans k4 hu)
theorem r_pop_none {x : Str} {np apos pos : Pos} {l : Addr} {Q : QV} (S : St H0 os0 L m D s) (hh : A.handled = none) (hx : m x = some (.ref l)) (hl : (l, .list []) ∈ D)
  (h : ∀ ev s', Exc H0 os0 L m D "IndexError" ev s' -> E ev s')
  (hL : autoParam (env.locals = L) aR._auto_1) (hk : autoParam (env.scope.kind = .function) aR._auto_1) (hkx : autoParam (env.kindOf x = some .local) aR._auto_1) (hd : autoParam ((x == ("__debug__" : Str)) = false) aD._auto_1)
  (hbase : autoParam (attributeBase (.Name x np) "pop" env (PySem.eval (.Name x np) env) = PySem.eval (.Name x np) env) aR._auto_1)
  (hfew : autoParam (((backTo pos (starEach [] env)).all (fun x => !x.1) && (backToKw pos (keywordEach [] env)).all (fun x => x.1.isSome) && decide (([] : List Expr).length + ([] : List Keyword).length + (if ([] : List Keyword).isEmpty then 0 else 1) < 30)) = true) aR._auto_1)
  (hline : autoParam ((apos.endLine == pos.line) = true) aR._auto_1) :
  wpAny (model pw w) A (PySem.eval (.Call (.Attribute (.Name x np) "pop" apos) [] [] pos) env) Q E s := by
 obtain ⟨n, q⟩ := S.get hl
 refine wpAny_Call_method hbase hfew hline PySem.F.plainAttrs_list PySem.F.slot_list_pop PySem.F.type_list_pop (r_name S hx ⟨⟨_, q, rfl⟩, fun a e => by cases e; exact ⟨_, q, rfl⟩, ?_⟩ hL hk hkx hd)
 exact seqMethod0_meets F.slot_list_pop F.entry_list_pop ⟨_, q, rfl⟩ (F.args_list_pop_1 _) (AutoSeq1.list_pop_list_0 l _ n rfl) ⟨q, hh, fun h' tk e X => h _ _ (Exc.of S X)⟩
theorem r_item_none {l : Addr} {k : Nat} {t : Tok} {value slice : Expr} {Q : QV} (S : St H0 os0 L m D s) (hh : A.handled = none) (hl : (l, .list []) ∈ D) (hk : k < 2 ^ 62)
  (h : ∀ ev s', Exc H0 os0 L m D "IndexError" ev s' -> E ev s') (hs : autoParam (isSlice slice = false) aR._auto_1) :
  wpAny (model pw w) A (subscriptTail value slice (.ref l) (.int (k : Nat) t)) Q E s :=
 have hL : s.heap.IsList l ([] : List Value).toArray := S.lst hl
 tail_any hL.typeIs slot_list_getitem.lookup (wpAny_getItem_list_out hh hL (.inr (by simp)) (by walk_at "o") (by walk_at "o") fun h' tk e X => h _ _ (Exc.of S X)) (zU hs _ _)
theorem heappop_none (gd : Gd w H0) {l : Addr} {R : Result -> Shared -> Prop} (S : St H0 os0 L m D s) (hl : (l, .list []) ∈ D) (hd : A.depth < recursionLimit) (hh : A.handled = none)
  (hstk : OnStk A L D) (hA : ∃ o, A.frames = some (env :: o)) (hf : env.frame = some L) (h : ∀ ev s', Noted w A H0 os0 L m D env "IndexError" ev s' -> R (.error ev) s') :
  codeAny (model pw w) A (.call (.ref 116) ⟨[.ref l], []⟩) R s := by
 refine r_enter (binds := [("heap", .ref l)]) gd S (gd.K 116 _ rfl) rfl (by kernel_rfl) rfl (.of_eq rfl) hd rfl rfl fun L₁ s₁ S => ?_
 dsimp only [mOf, List.foldl] at S
 refine r_doc5 S fun s S => ?_
 exact zC <| zN <| r_pop_none S hh (by walk_at "l") (.tail _ hl) fun ev s' X => exc_leaves X hstk hA hf rfl rfl fun s' N => h ev s' N
theorem heapreplace_none (gd : Gd w H0) {l : Addr} {v : Value} {R : Result -> Shared -> Prop} (S : St H0 os0 L m D s) (hl : (l, .list []) ∈ D) (hd : A.depth < recursionLimit) (hh : A.handled = none)
  (hstk : OnStk A L D) (hA : ∃ o, A.frames = some (env :: o)) (hf : env.frame = some L) (h : ∀ ev s', Noted w A H0 os0 L m D env "IndexError" ev s' -> R (.error ev) s') :
  codeAny (model pw w) A (.call (.ref 123) ⟨[.ref l, v], []⟩) R s := by
 refine r_enter (binds := [("heap", .ref l), ("item", v)]) gd S (gd.K 123 _ rfl) rfl (by kernel_rfl) rfl (.of_eq rfl) hd rfl rfl fun L₁ s₁ S => ?_
 dsimp only [mOf, List.foldl] at S
 refine r_doc5 S fun s S => ?_
 exact zC <| zN <| zG <| r_name S (by walk_at "l") <| r_natc 0 S fun t s S => r_item_none S hh (.tail _ hl) (by decide) fun ev s' X => exc_leaves X hstk hA hf rfl rfl fun s' N => h ev s' N
theorem barred_spec (gd : Gd w H0) {l : Addr} {wh : Nat} {v : Value} {t0 : Tok} {R : Result -> Shared -> Prop} (S : St H0 os0 L m D s) (hl : (l, .list []) ∈ D) (hd : A.depth + 1 < recursionLimit) (hh : A.handled = none)
  (hstk : OnStk A L D) (hu : A.units + 10 < cLine) (h : ∀ s', St H0 os0 L m D s' -> R (.ok (.ret (.bool true))) s') :
  codeAny (model pw w) A (.call (.ref 838) ⟨[.ref l, .int (wh : Nat) t0, v], []⟩) R s := by
 refine r_enter (binds := [("heap_now", .ref l), ("which", .int (wh : Nat) t0), ("signs", v)]) gd S (gd.K 838 _ rfl) rfl (by kernel_rfl) rfl (.of_eq rfl) (by walk_at "o") rfl rfl fun L₁ s₁ S => ?_
 dsimp only [mOf, List.foldl] at S
 refine r_try (cls := "IndexError") gd S (fun m' D' => m' = upd (upd (upd (fun _ => none) "heap_now" (.ref l)) "which" (.int (wh : Nat) t0)) "signs" v ∧ D' = (L, .ns m) :: D) (by rfl) (by kernel_rfl) ?_ ?_
 ·refine zC <| zI <| zT <| r_name S (by walk_at "l") <| r_natc 2 S fun t s S => r_eqN <| wpAny_truthy_bool ?_
  by_cases c : wh = 2
  ·rw [decide_eq_true c]
   refine ite_t ?_
   refine zC <| zE <| r_callf gd S (by rfl) (by rfl) <| zS <| r_name S (by walk_at "l") <| spliced_none ⟨S.stays, ?_⟩
   exact heappop_none gd S (.tail _ hl) (show A.depth + 1 < recursionLimit by walk_at "o") hh hstk.enter hstk.fr rfl fun ev s' N => ⟨_, _, ⟨rfl, rfl⟩, N⟩
  ·rw [decide_eq_false c]
   refine ite_f ?_
   refine zC <| zE <| r_callf gd S (by rfl) (by rfl) <| zS <| r_name S (by walk_at "l") <| zS <| r_name S (by walk_at "l") <| spliced_none ⟨S.stays, ?_⟩
   exact heapreplace_none gd S (.tail _ hl) (show A.depth + 1 < recursionLimit by walk_at "o") hh hstk.enter hstk.fr rfl fun ev s' N => ⟨_, _, ⟨rfl, rfl⟩, N⟩
 ·rintro m' D' e s ⟨rfl, rfl⟩ S
  refine zC <| zR <| wpAny_Compare1 <| r_name S (by walk_at "l") <| r_list <| spliced_none <| r_lstQ S (by walk_at "s") fun b s S => ?_
  obtain ⟨n, hq⟩ := S.get (.tail _ (.tail _ hl))
  obtain ⟨n2, hq2⟩ := S.get (.head _)
  refine list_eq_all hq hq2 rfl (show A.units + 3 < cLine by walk_at "o") (fun i hi => absurd hi (Nat.not_lt_zero _)) _ _ _ _ ?_
  exact h _ (S.out (.drop .head))
@[reducible] noncomputable def tests (ifs : List Expr) (env : Env) : Sem Bool := forIn ifs true fun c r => if r = true then do let ok ← isTrue c env (PySem.eval c env); pure (ForInStep.yield ok) else pure (ForInStep.yield r)
theorem comp_loop {elt target iter : Expr} {ifs : List Expr} {scope : Scope} {pos : Pos} {it acc : Value} {R : Result -> Shared -> Prop} (I : Nat -> Shared -> Prop)
  (turn : ∀ n s, I n s -> wpAny (model pw w) A (pyNext it) (fun r s₁ => match r with
   | none => R (.ok .next) s₁
   | some v => wpAny (model pw w) A (letOwnedTupleGo target it v) (fun _ s₂ => wpAny (model pw w) A (assign target env v) (fun _ s₂ =>
     wpAny (model pw w) A (tests ifs env) (fun ok s₃ =>
      if ok = true then wpAny (model pw w) A (PySem.eval elt env) (fun x s₄ =>
       wpAny (model pw w) A (call (.builtin "list.append") [acc, x]) (fun _ s₅ => ∃ m, m < n ∧ I m s₅) (fun _ _ => False) s₄) (fun _ _ => False) s₃
      else ∃ m, m < n ∧ I m s₃) (fun _ _ => False) s₂) (fun _ _ => False) s₂) (fun _ _ => False) s₁) (fun _ _ => False) s)
  (n : Nat) (h : I n s) :
  codeAny (model pw w) A (.compLoop (.ListComp elt [⟨target, iter, ifs, 0⟩] scope pos) 0 it acc env) R s := by
 refine codeAny_loop rfl I (fun n s hI => ?_) n h
 show wpAny _ A ((compTurn (.ListComp elt [⟨target, iter, ifs, 0⟩] scope pos) 0 it acc env).onRaise (fun x => do noteFrame x env; theTreesLotGoes x)) _ _ s
 refine wpAny_noted ?_
 rw [compTurn_list]
 refine wB (wpAny_standAt (wB (wM (turn n s hI) (fun r s₁ h₁ => ?_) fun _ _ h' => h'.elim)))
 cases r with
 | none => exact wP h₁
 | some v =>
  refine wB (wM h₁ (fun _ s₂ h₂ => ?_) fun _ _ h' => h'.elim)
  refine wB (wM h₂ (fun _ s₂ h₂ => wB (wM h₂ (fun ok s₃ h₃ => ?_) fun _ _ h' => h'.elim)) fun _ _ h' => h'.elim)
  cases ok with
  | false => exact wP ⟨rfl, h₃⟩
  | true =>
   exact wB (wB (wM h₃ (fun x s₄ h₄ => wB (wM h₄ (fun _ s₅ h₅ => wP (wP ⟨rfl, h₅⟩)) fun _ _ h' => h'.elim)) fun _ _ h' => h'.elim))
theorem r_appendC {l : Addr} {vs : List Value} {v : Value} {F : Ob -> Led} {Q : QV} (S : St H0 os0 L m D s) (hl : At l (.list vs) D F) (hz : vs.length ≤ sizeLine)
  (h : ∀ s', St H0 os0 L m (F (.list (vs ++ [v]))) s' -> Q .none s') : wpAny (model pw w) A (call (.builtin "list.append") [.ref l, v]) Q E s := by
 obtain ⟨vs', n', hz', hl', hq⟩ := zY (v := v) (Q := Q) S hl hz h
 exact call_meets slot_list_append ⟨_, hl', rfl⟩ entry_list_append (args_list_append _ _) (list_append l vs' n' v hz') ⟨hl', hq _⟩
theorem St.outBut {L₁ : Addr} {m₁ : Str -> Option Value} {D₁ : Led} {h' : Heap} (S : St H0 os0 L₁ m₁ D₁ s) (hs : Heap.SameBut L₁ s.heap h') (x : Out (L, .ns m) D₁ D) : St H0 os0 L m D { s with heap := h' } := by
 have nd := (List.nodup_cons.mp S.nodup).1
 obtain ⟨D₂, hr, hsub⟩ := x.rem
 have S' := S.out x
 have hL : L ≠ L₁ := fun q => nd (q ▸ List.mem_map_of_mem (f := Prod.fst) hr.mem)
 refine ⟨S'.ns.sameBut hs hL, fun b o e => (hs.2 b fun q => by rw [q, S.top] at e; cases e).trans (S'.stays b o e), S'.top, S'.nodup, fun p hp => ⟨(S'.ob p hp).1.keep fun o e => (hs.2 _ fun q => ?_).trans e, (S'.ob p hp).2⟩, S'.gens, S'.os⟩
 exact nd (q ▸ List.mem_map_of_mem (f := Prod.fst) (hr.sub.subset (hsub.subset hp)))
structure CompIs (w : World) (A : Around) (H0 : Heap) (os0 : OsState) (elt target : Expr) (ifs : List Expr) (scope : Scope) (cl : List (Str × Addr)) (env : Env) (L : Addr) (Q : QV)
  (I : Addr) (kit : Nat -> Led) (n : Nat) (V : Nat -> Value -> Led -> Prop) (need : Led -> Prop) (J : Nat -> (Str -> Option Value) -> Led -> List Value -> Prop) : Prop where
 src : Source w A H0 os0 target I kit n V need
 self : ∀ {L : Addr} {m : Str -> Option Value} {D : Led} {s : Shared}, St H0 os0 L m (kit 0 ++ D) s -> wpAny (model pw w) A (pyIter (.ref I)) (fun it' s' => it' = .ref I ∧ s' = s) (fun _ _ => False) s
 few : ∀ i m D ys, J i m D ys -> ys.length ≤ 100000
 has : ∀ i m D ys acc, J i m D ys -> need ((acc, .list ys) :: D)
 turn : ∀ i m' D' ys v N s C acc, i < n -> J i m' D' ys -> V i v N -> St H0 os0 C m' (N ++ (kit (i + 1) ++ ((acc, .list ys) :: D'))) s →
  wpAny (model pw w) A (assign target (compEnvC scope cl C env) v) (fun _ s₂ => wpAny (model pw w) A (tests ifs (compEnvC scope cl C env)) (fun ok s₃ =>
   if ok = true then wpAny (model pw w) A (PySem.eval elt (compEnvC scope cl C env)) (fun y s₄ => ∃ m'' D'', J (i + 1) m'' D'' (ys ++ [y]) ∧ St H0 os0 C m'' (kit (i + 1) ++ ((acc, .list ys) :: D'')) s₄) (fun _ _ => False) s₃
   else ∃ m'' D'', J (i + 1) m'' D'' ys ∧ St H0 os0 C m'' (kit (i + 1) ++ ((acc, .list ys) :: D'')) s₃) (fun _ _ => False) s₂) (fun _ _ => False) s
 fin : ∀ m' D' ys acc, J n m' D' ys -> ∃ m₂ D₂, Out (L, .ns m₂) D' D₂ ∧ ∀ s', St H0 os0 L m₂ ((acc, .list ys) :: D₂) s' -> Q (.ref acc) s'
inductive CompHas (w : World) (A : Around) (E : QV) (H0 : Heap) (os0 : OsState) (elt target : Expr) (ifs : List Expr) (scope : Scope) (cl : List (Str × Addr)) (env : Env) (L : Addr) (use : Option (Value -> Sem Unit)) (Q : QV) (it : Value) (s₂ : Shared) : Prop
 | mk (I : Addr) (kit : Nat -> Led) (n : Nat) (V : Nat -> Value -> Led -> Prop) (need : Led -> Prop) (J : Nat -> (Str -> Option Value) -> Led -> List Value -> Prop) (m : Str -> Option Value) (D : Led) (Q' : QV) (_ : it = .ref I) (_ : CompIs w A H0 os0 elt target ifs scope cl env L Q' I kit n V need J) (_ : St H0 os0 L m (kit 0 ++ D) s₂) (_ : J 0 (fun _ => none) ((L, .ns m) :: D) [])
  (_ : ∀ m' D' ys acc C s', J n m' D' ys -> St H0 os0 C m' ((acc, .list ys) :: D') s' -> compPost (model pw w) A E use Q (.ref acc) C (.ok .next) s')
inductive CompIn (w : World) (A : Around) (H0 : Heap) (os0 : OsState) (elt target : Expr) (ifs : List Expr) (scope : Scope) (cl : List (Str × Addr)) (env : Env) (L : Addr) (Q : QV) (it : Value) (s₂ : Shared) : Prop
 | mk (I : Addr) (kit : Nat -> Led) (n : Nat) (V : Nat -> Value -> Led -> Prop) (need : Led -> Prop) (J : Nat -> (Str -> Option Value) -> Led -> List Value -> Prop) (m : Str -> Option Value) (D : Led) (_ : it = .ref I) (_ : CompIs w A H0 os0 elt target ifs scope cl env L Q I kit n V need J) (_ : St H0 os0 L m (kit 0 ++ D) s₂) (_ : J 0 (fun _ => none) ((L, .ns m) :: D) [])
inductive CompI (H0 : Heap) (os0 : OsState) (C acc : Addr) (kit : Nat -> Led) (n : Nat) (J : Nat -> (Str -> Option Value) -> Led -> List Value -> Prop) (k : Nat) (s' : Shared) : Prop
 | mk (i : Nat) (m' : Str -> Option Value) (D' : Led) (ys : List Value) (_ : k = n - i) (_ : i ≤ n) (_ : J i m' D' ys) (_ : St H0 os0 C m' (kit i ++ ((acc, .list ys) :: D')) s')
theorem CompI.next {C acc : Addr} {kit : Nat -> Led} {n i : Nat} {J : Nat -> (Str -> Option Value) -> Led -> List Value -> Prop} {m' : Str -> Option Value} {D' : Led} {ys : List Value} (h : i < n) (hJ : J (i + 1) m' D' ys)
  (S : St H0 os0 C m' (kit (i + 1) ++ ((acc, .list ys) :: D')) s) : ∃ k, k < n - i ∧ CompI H0 os0 C acc kit n J k s := ⟨n - (i + 1), by walk_at "o", i + 1, m', D', ys, rfl, h, hJ, S⟩
theorem r_compG {elt target iter : Expr} {ifs : List Expr} {scope : Scope} {cl : List (Str × Addr)} {pos pos' : Pos} {use : Option (Value -> Sem Unit)} {Q : QV}
  (hclos : closureFor scope env = pure cl) (hcell : ∀ y ∈ scope.names, y.2 ≠ .cell) (hkind : scope.kind = .function) (hnames : ∀ y ∈ scope.names, y.2 = .local -> scope.names.lookup y.1 = some .local)
  (h : wpAny (model pw w) A (PySem.eval iter env) (fun x s₁ => wpAny (model pw w) A (pyIter x) (CompHas w A E H0 os0 elt target ifs scope cl env L use Q) E s₁) E s)
  (hs : ∀ x, foldedSetIterable iter env x = pure x) :
  wpAny (model pw w) A (comprehension (.ListComp elt [⟨target, iter, ifs, 0⟩] scope pos) scope env pos' (newList []) false (PySem.eval iter env) use) Q E s := by
 refine wpAny_comprehension_free rfl hs hclos hkind hnames (wM h (fun xv s₁ h₁ => wM h₁ (fun it s₂ h₂ => ?_) fun _ _ e => e) fun _ _ e => e)
 with_reducible refine hid fun G hG => ?_
 obtain ⟨I, kit, n, V, need, J, m, D, Q', rfl, X, S, h0, hfin⟩ := h₂
 refine hG ?_
 refine wpAny_newObj_type (wpAny_newFunctionEnv hcell (by intro y hy; simp at hy) (fun h₁ hns₁ hsb₁ => ?_) hkind)
 have S1 := S.push (t := s₂.toks) (o := { cls := .type "list", dict := none, data := .seq ([] : List Value).toArray }) (k := .list []) ⟨0, Heap.get?_push_size _ rfl⟩
 revert S1
 refine gnl (s₂.heap.objs.size) ?_
 intro acc S1
 dsimp only at hns₁ hsb₁ S1 ⊢
 revert hns₁ hsb₁ S1
 refine gnl (s₂.heap.push { cls := .type "list", dict := none, data := .seq ([] : List Value).toArray }) ?_
 intro H2 hns₁ hsb₁ S1
 have hC : H2.get? H2.objs.size = none := free_of_size
 revert hns₁ hsb₁ hC
 refine gnl H2.objs.size ?_
 intro C hns₁ hsb₁ hC
 have S2 := S1.enter (s₁ := { s₂ with heap := h₁, toks := s₂.toks + ([] : List (Str × Value)).length }) (L₁ := C) (m₁ := fun _ => none) hC hns₁ (fun b o e => hsb₁.extBut b o (fun q => by rw [q] at e; dsimp only at e; rw [hC] at e; cases e) (Heap.get?_push_of_some _ e)) rfl rfl
 have S3 : St H0 os0 C (fun _ => none) (kit 0 ++ ((acc, .list []) :: (L, .ns m) :: D)) { s₂ with heap := h₁, toks := s₂.toks + ([] : List (Str × Value)).length } :=
  S2.perm (((List.perm_append_comm_assoc [(L, Ob.ns m), (acc, Ob.list [])] (kit 0) D)).trans ((List.Perm.swap _ _ _).append_left _))
 revert S3
 refine gnl (({ s₂ with heap := h₁, toks := s₂.toks + ([] : List (Str × Value)).length } : Shared)) ?_
 intro s₃ S3
 clear S2 S1 hns₁ hsb₁ hC
 have loop : codeAny (model pw w) A (.compLoop (.ListComp elt [⟨target, iter, ifs, 0⟩] scope pos) 0 (.ref I) (.ref acc) (compEnvC scope cl C env)) (compPost (model pw w) A E use Q (.ref acc) C) s₃ := by
  refine comp_loop (CompI H0 os0 C acc kit n J) ?_ n ⟨0, _, _, [], rfl, Nat.zero_le _, h0, S3⟩
  intro k s' hk
  with_reducible refine hid fun G hG => ?_
  obtain ⟨i, m', D', ys, rfl, hi, hJ, S'⟩ := hk
  refine hG ?_
  have hz : ys.length ≤ sizeLine := by rw [sizeLine_eq]; exact Nat.le_trans (X.few _ _ _ _ hJ) (by decide)
  by_cases hlt : i < n
  ·refine wM (X.src.item S' (X.has _ _ _ _ _ hJ) hlt fun v N s'' hV S'' => X.turn i m' D' ys v N s'' C acc hlt hJ hV S'') (fun r s₁ h₁ => ?_) fun _ _ q => q
   cases r with
   | none => exact h₁.elim
   | some v =>
    refine wM h₁ (fun _ s₂ h₂ => wM h₂ (fun _ s₃ h₃ => wM h₃ (fun ok s₄ h₄ => ?_) fun _ _ q => q) fun _ _ q => q) fun _ _ q => q
    cases ok with
    | true =>
     refine ifp rfl (wM ((if_pos rfl).mp h₄) (fun y s₅ h₅ => ?_) fun _ _ q => q)
     obtain ⟨m'', D'', hJ', S5⟩ := h₅
     exact r_appendC S5 ((At.head (k := .list ys) (r := D'')).app (kit (i + 1))) hz fun s₆ S6 => CompI.next hlt hJ' S6
    | false =>
     refine ifn Bool.false_ne_true ?_
     obtain ⟨m'', D'', hJ', S5⟩ := (if_neg Bool.false_ne_true).mp h₄
     exact CompI.next hlt hJ' S5
  ·obtain rfl : i = n := Nat.le_antisymm hi (Nat.le_of_not_lt hlt)
   refine wM (X.src.done (Q := fun s₁ => compPost (model pw w) A E use Q (.ref acc) C (.ok .next) s₁) S' (X.has _ _ _ _ _ hJ) fun s'' S'' => hfin _ _ _ _ _ _ hJ S'') (fun r s₁ h₁ => ?_) fun _ _ q => q
   cases r with
   | none => exact h₁
   | some v => exact h₁.elim
 refine codeAny_compStart_list loop (wM (X.self S3) (fun it' s' q => ?_) fun _ _ q => q.elim)
 obtain ⟨rfl, rfl⟩ := q
 exact loop
theorem r_comp {elt target iter : Expr} {ifs : List Expr} {scope : Scope} {cl : List (Str × Addr)} {pos : Pos} {Q : QV}
  (hclos : closureFor scope env = pure cl) (hcell : ∀ y ∈ scope.names, y.2 ≠ .cell) (hkind : scope.kind = .function) (hnames : ∀ y ∈ scope.names, y.2 = .local -> scope.names.lookup y.1 = some .local)
  (h : wpAny (model pw w) A (PySem.eval iter env) (fun x s₁ => wpAny (model pw w) A (pyIter x) (CompIn w A H0 os0 elt target ifs scope cl env L Q) E s₁) E s)
  (hs : autoParam (∀ x, foldedSetIterable iter env x = pure x) aI._auto_1) :
  wpAny (model pw w) A (PySem.eval (.ListComp elt [⟨target, iter, ifs, 0⟩] scope pos) env) Q E s := by
 rw [eval_ListComp]
 refine r_compG (L := L) (H0 := H0) (os0 := os0) hclos hcell hkind hnames (wM h (fun xv s₁ h₁ => wM h₁ (fun it s₂ h₂ => ?_) fun _ _ e => e) fun _ _ e => e) hs
 with_reducible refine hid fun G hG => ?_
 obtain ⟨I, kit, n, V, need, J, m, D, e, X, S, h0⟩ := h₂
 refine hG ⟨I, kit, n, V, need, J, m, D, Q, e, X, S, h0, fun m' D' ys acc C s' hJ S' => ?_⟩
 obtain ⟨m₂, D₂, hout, hQ⟩ := X.fin m' D' ys acc hJ
 exact ⟨m', S'.ns, fun h' hs' => hQ _ (S'.outBut hs' (.keep hout))⟩
noncomputable def kyL (v : Value) : List Nat := (sOf v).cps.toList
theorem vlt_iff {a b : Value} : vlt a b = true ↔ kyL a < kyL b := by unfold vlt kyL; simp
theorem vlt_false {a b : Value} : vlt a b = false ↔ ¬ kyL a < kyL b := by rw [← vlt_iff]; simp
theorem ky_total (a b : List Nat) : a < b ∨ a = b ∨ b < a := by
 induction a generalizing b with
 | nil => cases b with
  | nil => exact .inr (.inl rfl)
  | cons y b => exact .inl (List.nil_lt_cons ..)
 | cons x a ih => cases b with
  | nil => exact .inr (.inr (List.nil_lt_cons ..))
  | cons y b =>
   rcases Nat.lt_trichotomy x y with h | h | h
   ·exact .inl (List.cons_lt_cons_iff.mpr (.inl h))
   ·subst h
    rcases ih b with q | q | q
    ·exact .inl (List.cons_lt_cons_iff.mpr (.inr ⟨rfl, q⟩))
    ·exact .inr (.inl (by rw [q]))
    ·exact .inr (.inr (List.cons_lt_cons_iff.mpr (.inr ⟨rfl, q⟩)))
   ·exact .inr (.inr (List.cons_lt_cons_iff.mpr (.inl h)))
theorem ky_irrefl (a : List Nat) : ¬ a < a := by
 induction a with
 | nil => exact List.not_lt_nil _
 | cons x a ih => rw [List.cons_lt_cons_iff]; rintro (h | ⟨_, h⟩); exact Nat.lt_irrefl _ h; exact ih h
theorem ky_trans {a b c : List Nat} (h1 : a < b) (h2 : b < c) : a < c := List.lt_trans h1 h2
def kle (a b : Value) : Prop := ¬ kyL b < kyL a
theorem kle_refl (a : Value) : kle a a := ky_irrefl _
theorem kle_trans {a b c : Value} (h1 : kle a b) (h2 : kle b c) : kle a c := fun h => by
 rcases ky_total (kyL a) (kyL b) with q | q | q
 ·exact h2 (ky_trans h q)
 ·unfold kle at h2; rw [← q] at h2; exact h2 h
 ·exact h1 q
theorem kle_of_lt {a b : Value} (h : kyL a < kyL b) : kle a b := fun q => ky_irrefl _ (ky_trans h q)
theorem kle_total (a b : Value) : kle a b ∨ kle b a := by
 rcases ky_total (kyL a) (kyL b) with q | q | q
 ·exact .inl (kle_of_lt q)
 ·exact .inl (by unfold kle; rw [q]; exact ky_irrefl _)
 ·exact .inr (kle_of_lt q)
@[reducible] noncomputable def gt (vs : List Value) (i : Nat) : Value := vs.getD i .none
noncomputable def par (i : Nat) : Nat := (i - 1) / 2
def Hp (vs : List Value) : Prop := ∀ i, 0 < i -> i < vs.length -> kle (gt vs (par i)) (gt vs i)
theorem gt_set_eq {vs : List Value} {i : Nat} {v : Value} (h : i < vs.length) : gt (vs.set i v) i = v := by simp [gt, List.getD, h]
theorem gt_set_ne {vs : List Value} {i j : Nat} {v : Value} (h : i ≠ j) : gt (vs.set i v) j = gt vs j := by simp [gt, List.getD, List.getElem?_set_ne h]
structure But (vs : List Value) (pos : Nat) : Prop where
 ord : ∀ i, 0 < i -> i < vs.length -> i ≠ pos -> kle (gt vs (par i)) (gt vs i)
 skip : 0 < pos -> ∀ i, 0 < i -> i < vs.length -> par i = pos -> kle (gt vs (par pos)) (gt vs i)
theorem perm_swap {vs : List Value} {i j : Nat} (hi : i < vs.length) (hj : j < vs.length) (hne : i ≠ j) (v : Value) : ((vs.set i (gt vs j)).set j v).Perm (vs.set i v) := by
 have key : ∀ (l : List Value) (i j : Nat) (x v : Value), i < l.length -> j < l.length -> i ≠ j -> l[j]? = some x -> ((l.set i x).set j v).Perm (l.set i v) := by
  intro l
  induction l with
  | nil => intro i j x v h; simp at h
  | cons y l ih =>
   intro i j x v hi hj hne hx
   cases i with
   | zero =>
    cases j with
    | zero => exact absurd rfl hne
    | succ j =>
     simp only [List.set_cons_zero, List.set_cons_succ]
     have hj' : j < l.length := by simpa using hj
     have hx' : l[j] = x := by simpa [hj'] using hx
     have e : l = l.take j ++ x :: l.drop (j + 1) := by
      rw [← hx']; exact (List.take_append_drop j l).symm.trans (by rw [List.drop_eq_getElem_cons hj'])
     have e2 : l.set j v = l.take j ++ v :: l.drop (j + 1) := by rw [List.set_eq_take_append_cons_drop, if_pos hj']
     rw [e2]
     conv => rhs; rw [e]
     exact ((List.perm_middle.cons x).trans (.swap ..)).trans (List.perm_middle.symm.cons v)
   | succ i =>
    cases j with
    | zero =>
     simp only [List.set_cons_zero, List.set_cons_succ]
     have hi' : i < l.length := by simpa using hi
     obtain rfl : y = x := by simpa using hx
     rw [List.set_eq_take_append_cons_drop, if_pos hi', List.set_eq_take_append_cons_drop, if_pos hi']
     exact ((List.perm_middle.cons v).trans (.swap ..)).trans (List.perm_middle.symm.cons y)
    | succ j =>
     simp only [List.set_cons_succ]
     exact (ih i j x v (by simpa using hi) (by simpa using hj) (by lia) (by simpa using hx)).cons y
 exact key vs i j _ v hi hj hne (by simp [gt, List.getD, hj])
theorem par_lt {i : Nat} (h : 0 < i) : par i < i := half_lt h
theorem sd_right (new : Value) : ∀ (pos : Nat) (vs : List Value), pos < vs.length -> But (vs.set pos new) pos -> (sd new 0 vs pos).Perm (vs.set pos new) ∧ Hp (sd new 0 vs pos) := by
 intro pos
 induction pos using Nat.strongRecOn with
 | ind pos ih =>
  intro vs hp hb
  rw [sd]
  by_cases c : 0 < pos
  ·rw [if_pos c]
   have hq : par pos < pos := par_lt c
   have hql : par pos < vs.length := by lia
   cases c2 : vlt new (vs.getD ((pos - 1) / 2) .none) with
   | true =>
    rw [if_pos rfl]
    rw [vlt_iff] at c2
    have hlt : kyL new < kyL (gt vs (par pos)) := c2
    have hset : (vs.set pos (gt vs (par pos))).set (par pos) new = ((vs.set pos new).set pos (gt vs (par pos))).set (par pos) new := by simp
    have := ih (par pos) hq (vs.set pos (gt vs (par pos))) (by simpa using hql) ?_
    ·refine ⟨this.1.trans (perm_swap hp hql (by lia) new), this.2⟩
    ·-- the next state
     have g : ∀ i, gt ((vs.set pos (gt vs (par pos))).set (par pos) new) i = if i = par pos then new else if i = pos then gt vs (par pos) else gt vs i := fun i => by
      by_cases e1 : i = par pos
      ·rw [if_pos e1, e1, gt_set_eq (by simpa using hql)]
      ·rw [if_neg e1, gt_set_ne (Ne.symm e1)]
       by_cases e2 : i = pos
       ·rw [if_pos e2, e2, gt_set_eq hp]
       ·rw [if_neg e2, gt_set_ne (Ne.symm e2)]
     have g0 : ∀ i, gt (vs.set pos new) i = if i = pos then new else gt vs i := fun i => by
      by_cases e2 : i = pos
      ·rw [if_pos e2, e2, gt_set_eq hp]
      ·rw [if_neg e2, gt_set_ne (Ne.symm e2)]
     have hord : ∀ i, 0 < i -> i < vs.length -> i ≠ pos -> kle (gt (vs.set pos new) (par i)) (gt (vs.set pos new) i) := fun i h1 h2 h3 => hb.ord i h1 (by simpa using h2) h3
     have hskip : ∀ i, 0 < i -> i < vs.length -> par i = pos -> kle (gt vs (par pos)) (gt vs i) := fun i h1 h2 h3 => by
      have := hb.skip c i h1 (by simpa using h2) h3
      rw [g0, g0, if_neg (by lia), if_neg (by have := par_lt h1; lia)] at this
      exact this
     refine ⟨fun i h1 h2 h3 => ?_, fun h0 i h1 h2 h3 => ?_⟩
     ·simp only [List.length_set] at h2
      rw [g i, if_neg h3, g (par i)]
      by_cases e1 : i = pos
      ·rw [if_pos e1]
       by_cases e2 : par i = par pos
       ·rw [if_pos e2]; exact kle_of_lt hlt
       ·rw [e1] at e2; exact absurd rfl e2
      ·rw [if_neg e1]
       have := hord i h1 h2 e1
       rw [g0, g0, if_neg e1] at this
       replace this := this
       by_cases e2 : par i = par pos
       ·rw [if_pos e2]
        rw [if_neg (by lia), e2] at this
        exact kle_trans (kle_of_lt hlt) this
       ·rw [if_neg e2]
        by_cases e3 : par i = pos
        ·rw [if_pos e3]; exact hskip i h1 h2 e3
        ·rw [if_neg e3]; rw [if_neg e3] at this; exact this
     ·simp only [List.length_set] at h2
      have hpp : par (par pos) < par pos := par_lt h0
      have hii : par i < i := par_lt h1
      rw [g (par (par pos)), if_neg (by lia), if_neg (by lia), g i, if_neg (by lia)]
      have top : kle (gt vs (par (par pos))) (gt vs (par pos)) := by
       have := hord (par pos) h0 hql (by lia)
       rw [g0, g0, if_neg (by lia), if_neg (by lia)] at this
       exact this
      by_cases e1 : i = pos
      ·rw [if_pos e1]; exact top
      ·rw [if_neg e1]
       have := hord i h1 h2 e1
       rw [g0, g0, if_neg e1, if_neg (by lia), h3] at this
       exact kle_trans top this
   | false =>
    rw [if_neg (by simp)]
    rw [vlt_false] at c2
    refine ⟨.refl _, fun i h1 h2 => ?_⟩
    simp only [List.length_set] at h2
    by_cases e1 : i = pos
    ·rw [e1, gt_set_eq hp, gt_set_ne (by lia)]
     exact c2
    ·exact hb.ord i h1 (by simpa using h2) e1
  ·rw [if_neg c]
   refine ⟨.refl _, fun i h1 h2 => hb.ord i h1 h2 (by lia)⟩
structure Hole (vs : List Value) (pos : Nat) : Prop where
 ord : ∀ i, 0 < i -> i < vs.length -> i ≠ pos -> par i ≠ pos -> kle (gt vs (par i)) (gt vs i)
 skip : 0 < pos -> ∀ i, 0 < i -> i < vs.length -> par i = pos -> kle (gt vs (par pos)) (gt vs i)
theorem par_of {i p : Nat} (h : par i = p) (h0 : 0 < i) : i = 2 * p + 1 ∨ i = 2 * p + 2 := by unfold par at h; lia
theorem par_ch {c p : Nat} (h : c = 2 * p + 1 ∨ c = 2 * p + 2) : par c = p := by
 rcases h with rfl | rfl
 ·exact Nat.mul_div_cancel_left p (by decide)
 ·exact Nat.mul_add_div (by decide) p 1
theorem gt_set {vs : List Value} {i j : Nat} {v : Value} (h : i < vs.length) : gt (vs.set i v) j = if j = i then v else gt vs j := by
 by_cases e : j = i
 ·rw [if_pos e, e, gt_set_eq h]
 ·rw [if_neg e, gt_set_ne (Ne.symm e)]
theorem hole_step {vs : List Value} {pos c : Nat} (hp : pos < vs.length) (hc : c < vs.length) (hpar : par c = pos) (h0 : 0 < c) (H : Hole vs pos)
  (hmin : ∀ i, 0 < i -> i < vs.length -> par i = pos -> kle (gt vs c) (gt vs i)) : Hole (vs.set pos (gt vs c)) c := by
 have hcp : pos < c := by rw [← hpar]; exact par_lt h0
 refine ⟨fun i h1 h2 h3 h4 => ?_, fun _ i h1 h2 h3 => ?_⟩
 ·simp only [List.length_set] at h2
  rw [gt_set hp, gt_set hp]
  by_cases e : i = pos
  ·subst e
   rw [if_neg (by have := par_lt h1; lia), if_pos rfl]
   exact H.skip h1 c h0 hc hpar
  ·rw [if_neg e]
   by_cases e2 : par i = pos
   ·rw [if_pos e2]; exact hmin i h1 h2 e2
   ·rw [if_neg e2]; exact H.ord i h1 h2 e e2
 ·simp only [List.length_set] at h2
  have hi : c < i := by rw [← h3]; exact par_lt h1
  rw [gt_set hp, gt_set hp, hpar, if_pos rfl, if_neg (by lia)]
  have := H.ord i h1 h2 (by lia) (by lia)
  rw [h3] at this
  exact this
theorem suLoop_right : ∀ (n : Nat) (vs : List Value) (pos : Nat), vs.length - pos = n -> pos < vs.length -> Hole vs pos →
  (suLoop vs pos).2 < (suLoop vs pos).1.length ∧ (suLoop vs pos).1.length = vs.length ∧ Hole (suLoop vs pos).1 (suLoop vs pos).2 ∧ ¬ 2 * (suLoop vs pos).2 + 1 < (suLoop vs pos).1.length ∧
   ∀ new, ((suLoop vs pos).1.set (suLoop vs pos).2 new).Perm (vs.set pos new) := by
 intro n
 induction n using Nat.strongRecOn with
 | ind n ih =>
  intro vs pos hn hp H
  rw [suLoop]
  by_cases c : 2 * pos + 1 < vs.length
  ·rw [if_pos c]
   dsimp only
   generalize hcc : (if 2 * pos + 2 < vs.length ∧ vlt (vs.getD (2 * pos + 1) .none) (vs.getD (2 * pos + 2) .none) = false then 2 * pos + 2 else 2 * pos + 1) = ch
   have hch : (ch = 2 * pos + 1 ∨ ch = 2 * pos + 2) ∧ ch < vs.length ∧ ∀ i, 0 < i -> i < vs.length -> par i = pos -> kle (gt vs ch) (gt vs i) := by
    subst hcc
    split
    ·rename_i q
     refine ⟨.inr rfl, q.1, fun i h1 h2 h3 => ?_⟩
     rcases par_of h3 h1 with rfl | rfl
     ·exact vlt_false.mp q.2
     ·exact kle_refl _
    ·rename_i q
     refine ⟨.inl rfl, c, fun i h1 h2 h3 => ?_⟩
     rcases par_of h3 h1 with rfl | rfl
     ·exact kle_refl _
     ·refine kle_of_lt (vlt_iff.mp ?_)
      cases e : vlt (vs.getD (2 * pos + 1) .none) (vs.getD (2 * pos + 2) .none) with
      | true => rfl
      | false => exact absurd ⟨h2, e⟩ q
   obtain ⟨h1, h2, h3⟩ := hch
   have hcp : pos < ch := by
    rcases h1 with rfl | rfl
    ·exact (two_lt pos).1
    ·exact (two_lt pos).2
   have := ih (vs.length - ch) (hn ▸ Nat.sub_lt_sub_left hp hcp) (vs.set pos (gt vs ch)) ch (by rw [List.length_set]) (by rw [List.length_set]; exact h2) (hole_step hp h2 (par_ch h1) (Nat.lt_of_le_of_lt (Nat.zero_le _) hcp) H h3)
   obtain ⟨a1, a2, a3, a4, a5⟩ := this
   exact ⟨a1, by rw [a2, List.length_set], a3, a4, fun new => (a5 new).trans (perm_swap hp h2 (Nat.ne_of_lt hcp) new)⟩
  ·rw [if_neg c]
   exact ⟨hp, rfl, H, c, fun _ => .refl _⟩
theorem su_right {vs : List Value} (h : 0 < vs.length) (H : Hole vs 0) : (su vs 0).Perm vs ∧ Hp (su vs 0) := by
 obtain ⟨a1, a2, a3, a4, a5⟩ := suLoop_right _ vs 0 rfl h H
 unfold su
 revert a1 a2 a3 a4 a5
 refine gnl (suLoop vs 0) ?_
 intro r a1 a2 a3 a4 a5
 have hb : But ((r.1.set r.2 (vs.getD 0 .none)).set r.2 (vs.getD 0 .none)) r.2 := by
  refine ⟨fun i h1 h2 h3 => ?_, fun _ i h1 h2 h3 => ?_⟩
  ·simp only [List.length_set] at h2
   have hne : par i ≠ r.2 := fun e => by rcases par_of e h1 with q | q <;> lia
   simp only [List.set_set]
   rw [gt_set a1, gt_set a1, if_neg hne, if_neg h3]
   exact a3.ord i h1 h2 h3 hne
  ·simp only [List.length_set] at h2
   exfalso
   rcases par_of h3 h1 with q | q <;> lia
 have := sd_right (vs.getD 0 .none) r.2 (r.1.set r.2 (vs.getD 0 .none)) (by simpa using a1) hb
 refine ⟨this.1.trans ?_, this.2⟩
 simp only [List.set_set]
 refine (a5 _).trans ?_
 have : vs.set 0 (vs.getD 0 .none) = vs := by cases vs with | nil => rfl | cons x r => rfl
 rw [this]
theorem hole_of_heap {vs : List Value} {v : Value} (h : Hp vs) : Hole (vs.set 0 v) 0 := by
 refine ⟨fun i h1 h2 h3 h4 => ?_, fun q => absurd q (Nat.lt_irrefl _)⟩
 simp only [List.length_set] at h2
 rw [gt_set (by lia), gt_set (by lia), if_neg h3, if_neg h4]
 exact h i h1 h2
theorem hp_root {vs : List Value} (h : Hp vs) : ∀ i, i < vs.length -> kle (gt vs 0) (gt vs i) := by
 intro i
 induction i using Nat.strongRecOn with
 | ind i ih =>
  intro hi
  by_cases e : i = 0
  ·rw [e]; exact kle_refl _
  ·have hp := par_lt (Nat.pos_of_ne_zero e)
   exact kle_trans (ih _ hp (by lia)) (h i (by lia) hi)
theorem hpush_right {vs : List Value} (v : Value) (h : Hp vs) : (hpush vs v).Perm (vs ++ [v]) ∧ Hp (hpush vs v) := by
 unfold hpush
 have e : (vs ++ [v]).set vs.length v = vs ++ [v] := by simp
 have := sd_right v vs.length (vs ++ [v]) (by simp) ?_
 ·rw [e] at this; exact this
 ·rw [e]
  refine ⟨fun i h1 h2 h3 => ?_, fun h0 i h1 h2 h3 => ?_⟩
  ·simp only [List.length_append, List.length_singleton] at h2
   have hl : i < vs.length := by lia
   have := par_lt h1
   have e1 : gt (vs ++ [v]) i = gt vs i := by simp [gt, List.getD, List.getElem?_append_left hl]
   have e2 : gt (vs ++ [v]) (par i) = gt vs (par i) := by simp [gt, List.getD, List.getElem?_append_left (show par i < vs.length by lia)]
   rw [e1, e2]
   exact h i h1 hl
  ·simp only [List.length_append, List.length_singleton] at h2
   have := par_lt h1
   lia
theorem hrepl_right {vs : List Value} (v : Value) (h : Hp vs) (hne : 0 < vs.length) : (hrepl vs v).2.Perm (vs.set 0 v) ∧ Hp (hrepl vs v).2 :=
 su_right (by simpa using hne) (hole_of_heap h)
theorem hp_dropLast {vs : List Value} (h : Hp vs) : Hp vs.dropLast := by
 intro i h1 h2
 simp only [List.length_dropLast] at h2
 have := par_lt h1
 have e1 : gt vs.dropLast i = gt vs i := by unfold gt List.getD; rw [List.getElem?_dropLast, if_pos h2]
 have e2 : gt vs.dropLast (par i) = gt vs (par i) := by unfold gt List.getD; rw [List.getElem?_dropLast, if_pos (show par i < vs.length - 1 by lia)]
 rw [e1, e2]
 exact h i h1 (by lia)
theorem hpop_right {vs : List Value} (h : Hp vs) (hne : vs ≠ []) : ((hpop vs).1 :: (hpop vs).2).Perm vs ∧ Hp (hpop vs).2 ∧ (hpop vs).1 = gt vs 0 := by
 obtain ⟨r, x, rfl⟩ : ∃ r x, vs = r ++ [x] := ⟨vs.dropLast, vs.getLast hne, (List.dropLast_concat_getLast hne).symm⟩
 unfold hpop
 simp only [List.dropLast_concat]
 by_cases c : r = []
 ·subst c
  simp [Hp, gt]
 ·rw [if_neg c]
  obtain ⟨y, q, rfl⟩ : ∃ y q, r = y :: q := by cases r with | nil => exact absurd rfl c | cons y q => exact ⟨y, q, rfl⟩
  have hr : Hp (y :: q) := by have := hp_dropLast h; rwa [List.dropLast_concat] at this
  have hlast : ((y :: q) ++ [x]).getLastD Value.none = x := by rw [List.getLastD_eq_getLast?, List.getLast?_concat]; rfl
  rw [hlast]
  have := su_right (vs := (y :: q).set 0 x) (by simp) (hole_of_heap hr)
  refine ⟨?_, this.2, by simp [gt]⟩
  refine (this.1.cons _).trans ?_
  simp only [List.set_cons_zero, List.getD_cons_zero, List.cons_append]
  refine (List.Perm.cons y ?_)
  exact (List.perm_append_singleton x q).symm
structure Inv (vs : List Value) (ms : List Nat) : Prop where
 heap : Hp vs
 perm : (vs.map kyL).Perm (ms.map zM)
 sorted : ms.Pairwise fun a b => rk a ≤ rk b
theorem hole3 {vs : List Value} (h : vs.length ≤ 3) : Hole vs 0 :=
 ⟨fun i h1 h2 h3 h4 => absurd (show par i = 0 from Nat.div_eq_of_lt (Nat.lt_of_lt_of_le (Nat.sub_lt_right_of_lt_add h1 (Nat.lt_of_lt_of_le h2 h)) (Nat.le_refl 2))) h4, fun q => absurd q (Nat.lt_irrefl _)⟩
theorem Inv.len {vs : List Value} {ms : List Nat} (I : Inv vs ms) : vs.length = ms.length := by
 have := I.perm.length_eq
 simpa using this
theorem fm_le {a b : Nat} (h : rk a ≤ rk b) : ¬ zM b < zM a := fun q => by
 have := (fm_order b a).1.mp q
 lia
theorem ky_antisymm {a b : List Nat} (h1 : ¬ a < b) (h2 : ¬ b < a) : a = b := by
 rcases ky_total a b with q | q | q
 ·exact absurd q h1
 ·exact q
 ·exact absurd q h2
theorem Inv.root {vs : List Value} {m : Nat} {r : List Nat} (I : Inv vs (m :: r)) : kyL (gt vs 0) = zM m := by
 have hl : 0 < vs.length := by rw [I.len]; simp
 have hg : ∀ i, i < vs.length -> gt vs i ∈ vs := fun i hi => by
  have e : gt vs i = vs[i] := by simp [gt, List.getD, hi]
  rw [e]; exact List.getElem_mem hi
 refine ky_antisymm ?_ ?_
 ·have : kyL (gt vs 0) ∈ (m :: r).map zM := I.perm.mem_iff.mp (List.mem_map_of_mem (hg 0 hl))
  obtain ⟨a, ha, e⟩ := List.mem_map.mp this
  rw [← e]
  refine fm_le ?_
  cases ha with
  | head => exact Nat.le_refl _
  | tail _ ha => exact (List.pairwise_cons.mp I.sorted).1 a ha
 ·have : zM m ∈ vs.map kyL := I.perm.mem_iff.mpr (by simp)
  obtain ⟨v, hv, e⟩ := List.mem_map.mp this
  obtain ⟨i, hi, rfl⟩ := List.mem_iff_getElem.mp hv
  have h := hp_root I.heap i hi
  have e2 : gt vs i = vs[i] := by simp [gt, List.getD, hi]
  rw [e2] at h
  rw [← e]
  exact h
theorem inv_push {vs : List Value} {ms ms' : List Nat} {v : Value} {m : Nat} (I : Inv vs ms) (hp : ms'.Perm (ms ++ [m])) (hs : ms'.Pairwise fun a b => rk a ≤ rk b) (hk : kyL v = zM m) : Inv (hpush vs v) ms' := by
 have := hpush_right v I.heap
 refine ⟨this.2, ((this.1.map kyL).trans ?_).trans (hp.map zM).symm, hs⟩
 rw [List.map_append, List.map_append, List.map_singleton, List.map_singleton, hk]
 exact I.perm.append_right _
theorem inv_pop {vs : List Value} {m : Nat} {r : List Nat} (I : Inv vs (m :: r)) : Inv (hpop vs).2 r ∧ kyL (hpop vs).1 = zM m := by
 have hne : vs ≠ [] := by rintro rfl; have := I.len; simp at this
 obtain ⟨h1, h2, h3⟩ := hpop_right I.heap hne
 have e : kyL (hpop vs).1 = zM m := by rw [h3]; exact I.root
 refine ⟨⟨h2, ?_, (List.pairwise_cons.mp I.sorted).2⟩, e⟩
 have := (h1.map kyL).trans I.perm
 rw [List.map_cons, List.map_cons, e] at this
 exact List.Perm.cons_inv this
theorem inv_repl {vs : List Value} {m0 m : Nat} {r ms' : List Nat} {v : Value} (I : Inv vs (m0 :: r)) (hp : ms'.Perm (r ++ [m])) (hs : ms'.Pairwise fun a b => rk a ≤ rk b) (hk : kyL v = zM m) :
  Inv (hrepl vs v).2 ms' ∧ kyL (hrepl vs v).1 = zM m0 := by
 have hl : 0 < vs.length := by rw [I.len]; simp
 obtain ⟨h1, h2⟩ := hrepl_right v I.heap hl
 have hroot := I.root
 refine ⟨⟨h2, ?_, hs⟩, hroot⟩
 obtain ⟨x, q, rfl⟩ : ∃ x q, vs = x :: q := by cases vs with | nil => simp at hl | cons x q => exact ⟨x, q, rfl⟩
 have hx : kyL x = zM m0 := hroot
 have hq : (q.map kyL).Perm (r.map zM) := by
  have := I.perm
  rw [List.map_cons, List.map_cons, hx] at this
  exact List.Perm.cons_inv this
 refine (h1.map kyL).trans (List.Perm.trans ?_ (hp.map zM).symm)
 rw [List.set_cons_zero, List.map_cons, hk, List.map_append, List.map_singleton]
 exact (hq.cons _).trans (List.perm_append_singleton _ _).symm
theorem inv_pp {vs : List Value} {ms r : List Nat} {v : Value} {m m0 : Nat} (I : Inv vs ms) (hp : (m0 :: r).Perm (ms ++ [m])) (hs : (m0 :: r).Pairwise fun a b => rk a ≤ rk b) (hk : kyL v = zM m) :
  Inv (hpp vs v).2 r ∧ kyL (hpp vs v).1 = zM m0 := by
 have J := inv_push I hp hs hk
 have hs' := List.pairwise_cons.mp hs
 unfold hpp
 split
 ·rename_i c
  obtain ⟨hne, hv⟩ := c
  obtain ⟨n, ns, rfl⟩ : ∃ n ns, ms = n :: ns := by
   cases ms with
   | nil => have := I.len; exact absurd (List.length_eq_zero_iff.mp (by simpa using this)) hne
   | cons n ns => exact ⟨n, ns, rfl⟩
  have hroot := I.root
  have hlt : zM n < zM m := by
   rw [vlt_iff] at hv
   rw [← hroot, ← hk]
   exact hv
  have hn := List.pairwise_cons.mp I.sorted
  have hmin : rk m0 = rk n := by
   have h1 : n ∈ m0 :: r := hp.mem_iff.mpr (by simp)
   have h2 : rk m0 ≤ rk n := by cases h1 with | head => exact Nat.le_refl _ | tail _ h1 => exact hs'.1 n h1
   have h3 : m0 ∈ (n :: ns) ++ [m] := hp.mem_iff.mp (.head _)
   have h4 : rk n ≤ rk m0 := by
    rcases List.mem_append.mp h3 with q | q
    ·cases q with | head => exact Nat.le_refl _ | tail _ q => exact hn.1 m0 q
    ·rw [List.mem_singleton.mp q]
     exact Nat.le_of_lt ((fm_order n m).1.mp hlt)
   lia
  have e0 : zM m0 = zM n := (fm_order m0 n).2.mpr hmin
  have hl : 0 < vs.length := by rw [I.len]; simp
  obtain ⟨h1, h2⟩ := hrepl_right v I.heap hl
  refine ⟨⟨h2, ?_, hs'.2⟩, by rw [e0]; exact hroot⟩
  obtain ⟨x, q, rfl⟩ : ∃ x q, vs = x :: q := by cases vs with | nil => simp at hl | cons x q => exact ⟨x, q, rfl⟩
  have hx : kyL x = zM n := hroot
  have hq : (q.map kyL).Perm (ns.map zM) := by
   have := I.perm
   rw [List.map_cons, List.map_cons, hx] at this
   exact List.Perm.cons_inv this
  refine (h1.map kyL).trans ?_
  rw [List.set_cons_zero, List.map_cons, hk]
  have h5 : (zM n :: r.map zM).Perm (zM n :: (ns.map zM ++ [zM m])) := by
   have := hp.map zM
   rw [List.map_cons, e0] at this
   simpa using this
  exact ((hq.cons _).trans (List.perm_append_singleton _ _).symm).trans (List.Perm.cons_inv h5).symm
 ·rename_i c
  have hle : ∀ x ∈ ms, rk m ≤ rk x := by
   intro x hx
   rcases Nat.lt_or_ge (rk x) (rk m) with q | q
   ·exfalso
    obtain ⟨n, ns, rfl⟩ : ∃ n ns, ms = n :: ns := by cases ms with | nil => cases hx | cons n ns => exact ⟨n, ns, rfl⟩
    have hroot := I.root
    have hnx : rk n ≤ rk x := by cases hx with | head => exact Nat.le_refl _ | tail _ h => exact (List.pairwise_cons.mp I.sorted).1 x h
    have hlt : zM n < zM m := (fm_order n m).1.mpr (by lia)
    refine c ⟨by rintro rfl; have := I.len; simp at this, ?_⟩
    rw [vlt_iff]
    show kyL (gt vs 0) < kyL v
    rw [hroot, hk]
    exact hlt
   ·exact q
  have hmin : rk m0 = rk m := by
   have h1 : m ∈ m0 :: r := hp.mem_iff.mpr (by simp)
   have h2 : rk m0 ≤ rk m := by cases h1 with | head => exact Nat.le_refl _ | tail _ h1 => exact hs'.1 m h1
   have h3 : m0 ∈ ms ++ [m] := hp.mem_iff.mp (.head _)
   have h4 : rk m ≤ rk m0 := by
    rcases List.mem_append.mp h3 with q | q
    ·exact hle m0 q
    ·rw [List.mem_singleton.mp q]; exact Nat.le_refl _
   lia
  have e0 : zM m0 = zM m := (fm_order m0 m).2.mpr hmin
  refine ⟨⟨I.heap, I.perm.trans ?_, hs'.2⟩, by rw [e0]; exact hk⟩
  have h5 : (zM m :: r.map zM).Perm (ms.map zM ++ [zM m]) := by
   have := hp.map zM
   rw [List.map_cons, e0] at this
   simpa using this
  exact (List.Perm.cons_inv (h5.trans (List.perm_append_singleton _ _))).symm
noncomputable def popAll : Nat -> List Value -> List Value
 | 0, _ => []
 | n + 1, vs => (hpop vs).1 :: popAll n (hpop vs).2
theorem popAll_right : ∀ (ms : List Nat) (vs : List Value), Inv vs ms -> (popAll ms.length vs).map kyL = ms.map zM
 | [], _, _ => rfl
 | m :: r, vs, I => by
  obtain ⟨h1, h2⟩ := inv_pop I
  show kyL (hpop vs).1 :: (popAll r.length (hpop vs).2).map kyL = _
  rw [h2, popAll_right r _ h1]
  rfl
theorem none_less {vs : List Value} (h : Hp vs) {i : Nat} (h0 : 0 < i) (hi : i < vs.length) : vlt (vs.getD i .none) (vs.getD ((i - 1) / 2) .none) = false :=
 vlt_false.mpr (h i h0 hi)
theorem sorted_eq {a b : List (List Nat)} (hp : a.Perm b) (ha : a.Pairwise fun x y => ¬ y < x) (hb : b.Pairwise fun x y => ¬ y < x) : a = b :=
 List.Perm.eq_of_pairwise (fun x y _ _ h1 h2 => ky_antisymm h2 h1) ha hb hp
theorem plain_sorted {ms : List Nat} (h : ms.Pairwise fun a b => rk a ≤ rk b) : (ms.map zM).Pairwise fun x y => ¬ y < x := by
 rw [List.pairwise_map]
 exact h.imp fun q => fm_le q
theorem r_unpack2 {elts : List Expr} {k : Nat} {pos : Pos} {l : Addr} {x y : Value} {Q : QU} (S : St H0 os0 L m D s) (hh : A.handled = none) (hl : (l, .list [x, y]) ∈ D)
  (h : ∀ s', St H0 os0 L m D s' -> wpAny (model pw w) A (assignInOrder ((assignEach elts env).map (·.2)) [x, y]) Q E s')
  (hn : autoParam ((assignEach elts env).length = 2) aR._auto_1) (hstar : autoParam ((assignEach elts env).findIdx? (·.1) = none) aR._auto_1) : wpAny (model pw w) A (assign (.Tuple elts k pos) env (.ref l)) Q E s := by
 have hT : s.TypeIs (.ref l) "list" := (S.lst hl).typeIs
 rw [assign_Tuple]
 refine wB (wpAny_standAt ?_)
 unfold unpack
 rw [hn, hstar]
 refine wB (wpAny_holding ?_)
 unfold unpackItems
 refine wB ?_
 unfold notIterableAtAll
 refine wB (wpAny_specialOf hT F.slot_list_iter.lookup ?_)
 refine wP ?_
 simp only [Bool.false_eq_true, if_false]
 refine wB (wpAny_holding (r_iter_list S hl fun it s S => ?_))
 have step : ∀ {i : Nat} {v : Value} {s : Shared} {Q : Option Value -> Shared -> Prop}, St H0 os0 L m ((it, .iter "list_iterator" (.ref l) i) :: D) s -> [x, y][i]? = some v →
   (∀ s', St H0 os0 L m ((it, .iter "list_iterator" (.ref l) (i + 1)) :: D) s' -> Q (some v) s') -> wpAny (model pw w) A (pyNext (.ref it)) Q E s := fun {i v s Q} S hv hQ =>
  wpAny_pyNext_list_item (S.get (.head _) : (Ob.iter "list_iterator" (.ref l) i).On s.heap it) (S.lst (.tail _ hl)) (by simpa using hv) fun h' hit' hs => hQ _ (iter_upd (t := s.toks) S hs hit')
 have fin : ∀ {s : Shared} {Q : Option Value -> Shared -> Prop}, St H0 os0 L m ((it, .iter "list_iterator" (.ref l) 2) :: D) s -> (∀ s', St H0 os0 L m D s' -> Q none s') -> wpAny (model pw w) A (pyNext (.ref it)) Q E s := fun {s Q} S hQ =>
  wpAny_pyNext_list_end hh (S.get (.head _) : (Ob.iter "list_iterator" (.ref l) 2).On s.heap it) (S.lst (.tail _ hl)) (by simp) fun h' he => hQ _ (iter_done (t := s.toks) S he)
 refine wB (wpAny_holding ?_)
 show wpAny _ _ (pyNext (.ref it) >>= _) _ E s
 refine wB (step S rfl fun s S => ?_)
 refine wB (wpAny_holding ?_)
 show wpAny _ _ (pyNext (.ref it) >>= _) _ E s
 refine wB (step S rfl fun s S => ?_)
 refine wB (wpAny_holding (wP (wP (wP ?_))))
 first | refine ifn (by simp) ?_ | rw [if_neg (by simp)]
 refine wB (wpAny_holding (fin S fun s S => ?_))
 simp only [Option.isSome_none, Bool.false_eq_true, if_false]
 exact wP (h _ S)
def zP (N : Led) (ps : List Value) (ms : List Nat) : Prop :=
 ps.length = ms.length ∧ ∀ i, i < ps.length -> ∃ a t k, ps.getD i .none = .ref a ∧ (a, Ob.list [.int (rk (ms.getD i 0) : Nat) t, .str (tx (zM (ms.getD i 0))) k]) ∈ N
theorem zP.sub {N N' : Led} {ps : List Value} {ms : List Nat} (h : zP N ps ms) (hs : ∀ p ∈ N, p ∈ N') : zP N' ps ms :=
 ⟨h.1, fun i hi => (h.2 i hi).imp fun _ => Exists.imp fun _ => Exists.imp fun _ => And.imp_right (hs _)⟩
theorem self_list {it : Addr} {src : Value} {i : Nat} {l : Addr} (hsrc : src = .ref l) (S : St H0 os0 L m ((it, .iter "list_iterator" src i) :: D) s) : wpAny (model pw w) A (pyIter (.ref it)) (fun it' s' => it' = .ref it ∧ s' = s) (fun _ _ => False) s := by
 subst hsrc
 exact wpAny_pyIter_listiter (S.get (.head _) : (Ob.iter "list_iterator" (.ref l) i).On s.heap it) ⟨rfl, rfl⟩
@[reducible] noncomputable def scSigns : Scope := { kind := .function, names := [(Str.ofString ".0", .local), (Str.ofString "rank", .local), (Str.ofString "signs", .local)], isGenerator := false, isCoroutine := false, more := [] }
theorem r_signs {N0 : Led} {x : Str} {l : Addr} {ps : List Value} {ms : List Nat} {p1 p2 p3 p4 p5 p6 : Pos} {kk : Nat} {Q : QV} (S : St H0 os0 L m D s) (hh : A.handled = none) (hx : m x = some (.ref l)) (hl : (l, .list ps) ∈ D) (hN : ∀ p ∈ N0, p ∈ D) (hp : zP N0 ps ms) (hz : ps.length ≤ 1000)
  (h : ∀ acc ws s', StrsAre ws (ms.map fun k => tx (zM k)) -> St H0 os0 L m ((acc, .list ws) :: D) s' -> Q (.ref acc) s')
  (hL : autoParam (env.locals = L) aR._auto_1) (hk : autoParam (env.scope.kind = .function) aR._auto_1) (hl' : autoParam (env.kindOf x = some .local) aR._auto_1) (hd : autoParam ((x == ("__debug__" : Str)) = false) aD._auto_1) :
  wpAny (model pw w) A (PySem.eval (.ListComp (.Name "signs" p1) [⟨.Tuple [.Name "rank" p2, .Name "signs" p3] kk p4, .Name x p5, [], 0⟩] scSigns p6) env) Q E s := by
 refine r_comp (cl := []) rfl (by decide) rfl (by decide) (r_name S hx (r_iter_list S hl fun it s S => ⟨it, fun i => [(it, .iter "list_iterator" (.ref l) i)], ps.length, fun i v N => ps[i]? = some v ∧ N = [], fun D => (l, .list ps) ∈ D, fun i m' D' ys => D' = (L, .ns m) :: D ∧ StrsAre ys ((ms.take i).map fun k => tx (zM k)), m, D, rfl, ?_, S, ⟨rfl, by simpa using StrsAre.nil⟩⟩) hL hk hl' hd)
 refine ⟨Source.list hh _ it l ps, fun {L m D s} S => self_list rfl S, ?_, ?_, ?_, ?_⟩
 ·rintro i m D ys ⟨_, h⟩
  have := Internal.StrsAre.length_eq h
  simp at this
  have := hp.1
  lia
 ·rintro i m' D' ys acc ⟨rfl, _⟩
  exact .tail _ (.tail _ hl)
 ·rintro i m' D' ys v N s C acc hi ⟨rfl, hy⟩ ⟨hv, rfl⟩ S
  obtain ⟨a, t, k, e, hm⟩ := hp.2 i hi
  have ev : v = .ref a := by
   rw [← e]
   simp [List.getD, hv]
  subst ev
  dsimp only [List.nil_append] at S
  refine r_unpack2 S hh (List.mem_append_right _ (.tail _ (.tail _ (hN _ hm)))) fun s S => ?_
  refine assignInOrder_cons <| assign_Name <| r_store S fun s S => assignInOrder_cons <| assign_Name <| r_store S fun s S => assignInOrder_nil <| wpAny_tests_nil <| ite_t <| r_name S (by walk_at "l") ⟨_, _, ⟨rfl, ?_⟩, S⟩
  have hi' : i < ms.length := hp.1 ▸ hi
  have e2 : (ms.take (i + 1)).map (fun k => tx (zM k)) = (ms.take i).map (fun k => tx (zM k)) ++ [tx (zM (ms.getD i 0))] := by
   rw [List.take_add_one, List.getElem?_eq_getElem hi', List.map_append]
   simp [List.getD, hi']
  rw [e2]
  exact StrsAre.push hy
 ·rintro m' D' ys acc ⟨rfl, hy⟩
  refine ⟨m, D, .head, fun s' S' => h acc ys s' ?_ S'⟩
  rwa [hp.1, List.take_length] at hy
@[reducible] noncomputable def scSpots : Scope := { kind := .function, names := [(Str.ofString ".0", .local), (Str.ofString "spot", .local), (Str.ofString "heap_now", .free)], isGenerator := false, isCoroutine := false, more := [] }
theorem r_spots {c hl : Addr} {vs : List Value} {iter : Expr} {p1 p2 p3 p4 p5 p6 p7 p8 p9 p10 p11 p12 p13 p14 : Pos} {k1 k2 k3 : Nat} {Q : QV} (_S : St H0 os0 L m D s) (hh : A.handled = none)
  (hc : (c, cellO (some (.ref hl))) ∈ D) (hl' : (hl, .list vs) ∈ D) (hp : Hp vs) (hS : ∀ v ∈ vs, IsS v) (hz : vs.length ≤ 1000)
  (hclos : closureFor scSpots env = pure [(Str.ofString "heap_now", c)]) (hkc : ∀ C, (compEnvC scSpots [(Str.ofString "heap_now", c)] C env).kindOf "heap_now" = some .cell)
  (hit : wpAny (model pw w) A (PySem.eval iter env) (fun x s₁ => ∃ r t u v, x = .ref r ∧ St H0 os0 L m ((r, .raw (rangeObj 1 (vs.length : Nat) t u v)) :: D) s₁) E s)
  (h : ∀ acc r t u v s', St H0 os0 L m ((acc, .list []) :: (r, .raw (rangeObj 1 (vs.length : Nat) t u v)) :: D) s' -> Q (.ref acc) s')
  (hs : autoParam (∀ x, foldedSetIterable iter env x = pure x) aI._auto_1) :
  wpAny (model pw w) A (PySem.eval (.ListComp (.Constant (.int 1) k1 p1) [⟨.Name "spot" p2, iter, [.Compare (.Subscript (.Name "heap_now" p3) (.Name "spot" p4) p5) [.Lt] [.Subscript (.Name "heap_now" p6) (.BinOp (.BinOp (.Name "spot" p7) .Sub (.Constant (.int 1) k2 p8) p9) .FloorDiv (.Constant (.int 2) k3 p10) p11) p12] p13], 0⟩] scSpots p14) env) Q E s := by
 refine r_comp (H0 := H0) (os0 := os0) (L := L) (cl := [(Str.ofString "heap_now", c)]) hclos (by decide) rfl (by decide) (wM hit (fun x s₁ q => ?_) fun _ _ q => q) hs
 obtain ⟨r, t, u, v, rfl, S⟩ := q
 have hr : IsRange s₁.heap r 1 (vs.length : Nat) 1 t u v := S.get (k := .raw _) (.head _)
 refine wpAny_pyIter_range hr (small_one (by walk_at "o") (by walk_at "o") (by walk_at "o") (by walk_at "o")) ?_
 have en : Builtin.Range.rangeSize 1 (vs.length : Nat) 1 = ((vs.length - 1 : Nat) : Int) := by rw [rangeSize_one]; split <;> lia
 rw [en]
 have S2 := S.push (t := s₁.toks) (o := riO 1 ((vs.length - 1 : Nat) : Int) 1) (k := .raw (riO 1 ((vs.length - 1 : Nat) : Int) 1)) (Heap.get?_push_size _ rfl)
 revert S2
 refine gnl (s₁.heap.objs.size) ?_
 intro I S2
 refine ⟨I, fun i => [(I, .raw (riO (1 + i * 1) (((vs.length - 1 : Nat) : Int) - i) 1))], vs.length - 1, fun i v N => (∃ t, v = .int (1 + i * 1) t) ∧ N = [], fun _ => True, fun i m' D' ys => D' = (L, .ns m) :: (r, .raw (rangeObj 1 (vs.length : Nat) t u v)) :: D ∧ ys = [], m, _, rfl, ?_, ?_, ⟨rfl, rfl⟩⟩
 ·refine ⟨Source.rangeIter hh I 1 1 (vs.length - 1), fun {L m D s} S => ?_, ?_, fun _ _ _ _ _ _ => trivial, ?_, ?_⟩
  ·exact wpAny_pyIter_rangeiter (S.get (k := .raw _) (.head _)) ⟨rfl, rfl⟩
  ·rintro i m D ys ⟨_, rfl⟩
   exact Nat.zero_le _
  ·rintro i m' D' ys v N s C acc hi ⟨rfl, rfl⟩ ⟨⟨tv, rfl⟩, rfl⟩ S
   dsimp only [List.nil_append] at S
   have e1 : (1 : Int) + (i : Int) * 1 = ((i + 1 : Nat) : Int) := by walk_at "o"
   rw [e1]
   have hi1 : i + 1 < vs.length := by walk_at "o"
   have hi2 : i / 2 < vs.length := by walk_at "o"
   refine assign_Name <| r_store S fun s S => wpAny_tests_one <| zT <| zG <| r_nameC2 rfl S (List.mem_append_right _ (.tail _ (.tail _ (.tail _ hc)))) (hl := hkc C) <| r_name S (by walk_at "l") <|
    r_itemN S (List.mem_append_right _ (.tail _ (.tail _ (.tail _ hl')))) hi1 (by walk_at "o") <| zG <| r_nameC2 rfl S (List.mem_append_right _ (.tail _ (.tail _ (.tail _ hc)))) (hl := hkc C) <| zB <| zB <|
    r_name S (by walk_at "l") <| r_natc 1 S fun t s S => r_sub S fun t s S => ?_
   have e2 : (((i + 1 : Nat) : Int) - ((1 : Nat) : Int)) = ((i : Nat) : Int) := by walk_at "o"
   rw [e2]
   refine r_natc 2 S fun t s S => r_fdiv S (by decide) (by decide) fun t s S => r_itemN S (List.mem_append_right _ (.tail _ (.tail _ (.tail _ hl')))) hi2 (by walk_at "o") <| r_vlt (hS _ (getD_mem hi1)) (hS _ (getD_mem hi2)) ?_
   have := none_less hp (i := i + 1) (Nat.succ_pos _) hi1
   rw [show (i + 1 - 1) / 2 = i / 2 by rw [Nat.add_sub_cancel]] at this
   rw [this]
   exact ite_f ⟨_, _, ⟨rfl, rfl⟩, S⟩
  ·rintro m' D' ys acc ⟨rfl, rfl⟩
   exact ⟨m, _, .head, fun s' S' => h acc r t u v s' S'⟩
 ·simpa using S2
theorem hpop_all {vs : List Value} {ms : List Nat} (I : Inv vs ms) (hne : vs ≠ []) (hS : ∀ v ∈ vs, IsS v) : IsS (hpop vs).1 ∧ ∀ v ∈ (hpop vs).2, IsS v := by
 have hp := (hpop_right I.heap hne).1
 exact ⟨hS _ (hp.mem_iff.mp (.head _)), fun v hv => hS v (hp.mem_iff.mp (.tail _ hv))⟩
theorem Inv.ne {vs : List Value} {m : Nat} {r : List Nat} (I : Inv vs (m :: r)) : vs ≠ [] := by rintro rfl; have := I.len; simp at this
@[reducible] noncomputable def scPops : Scope := { kind := .function, names := [(Str.ofString ".0", .local), (Str.ofString "pair", .local), (Str.ofString "heappop", .globalImplicit), (Str.ofString "heap_now", .free)], isGenerator := false, isCoroutine := false, more := [] }
theorem r_pops (gd : Gd w H0) {c hl pl : Addr} {vs ps : List Value} {ms : List Nat} {p1 p2 p3 p4 p5 p6 : Pos} {Q : QV} (S : St H0 os0 L m ((hl, .list vs) :: D) s) (hh : A.handled = none) (hd : A.depth + 2 < recursionLimit)
  (hc : (c, cellO (some (.ref hl))) ∈ D) (hpl : (pl, .list ps) ∈ D) (hn : ps.length = ms.length) (hI : Inv vs ms) (hS : ∀ v ∈ vs, IsS v) (hz : vs.length ≤ 1000) (hx : m "plain" = some (.ref pl))
  (hclos : closureFor scPops env = pure [(Str.ofString "heap_now", c)]) (hkc : ∀ C, (compEnvC scPops [(Str.ofString "heap_now", c)] C env).kindOf "heap_now" = some .cell) (hG : env.globals = mainGlobals)
  (h : ∀ acc ws vs' s', (∀ v ∈ ws, IsS v) -> ws.map kyL = ms.map zM -> St H0 os0 L m ((acc, .list ws) :: (hl, .list vs') :: D) s' -> Q (.ref acc) s')
  (hL : autoParam (env.locals = L) aR._auto_1) (hk : autoParam (env.scope.kind = .function) aR._auto_1) (hl' : autoParam (env.kindOf "plain" = some .local) aR._auto_1) :
  wpAny (model pw w) A (PySem.eval (.ListComp (.Call (.Name "heappop" p1) [.Name "heap_now" p2] [] p3) [⟨.Name "pair" p4, .Name "plain" p5, [], 0⟩] scPops p6) env) Q E s := by
 refine r_comp (H0 := H0) (os0 := os0) (L := L) (cl := [(Str.ofString "heap_now", c)]) hclos (by decide) rfl (by decide) (r_name S hx (r_iter_list S (.tail _ hpl) fun it s S => ⟨it, fun i => [(it, .iter "list_iterator" (.ref pl) i)], ps.length, fun i v N => ps[i]? = some v ∧ N = [], fun D => (pl, .list ps) ∈ D,
  fun i m' D' ys => ∃ vs', D' = (L, .ns m) :: (hl, .list vs') :: D ∧ Inv vs' (ms.drop i) ∧ (∀ v ∈ vs', IsS v) ∧ (∀ v ∈ ys, IsS v) ∧ ys.map kyL = (ms.take i).map zM, m, _, rfl, ?_, S, ⟨vs, rfl, hI, hS, (fun v hv => nomatch hv), rfl⟩⟩) hL hk hl')
 have hml : ms.length ≤ 1000 := by rw [← hI.len]; exact hz
 refine ⟨Source.list hh _ it pl ps, fun {L m D s} S => self_list rfl S, ?_, ?_, ?_, ?_⟩
 ·rintro i m D ys ⟨vs', _, _, _, _, h⟩
  have := congrArg List.length h
  simp at this
  lia
 ·rintro i m' D' ys acc ⟨vs', rfl, _⟩
  exact .tail _ (.tail _ (.tail _ hpl))
 ·rintro i m' D' ys v N s C acc hi ⟨vs', rfl, I', hS', hY, hy⟩ ⟨hv, rfl⟩ S
  dsimp only [List.nil_append] at S
  have hi' : i < ms.length := hn ▸ hi
  have hdrop : ms.drop i = ms[i] :: ms.drop (i + 1) := List.drop_eq_getElem_cons hi'
  rw [hdrop] at I'
  replace I' := I'
  have hne := I'.ne
  have hvl : vs'.length ≤ 1000 := by have := I'.len; simp at this; lia
  obtain ⟨I2, e2⟩ := inv_pop I'
  obtain ⟨s1, s2⟩ := hpop_all I' hne hS'
  refine assign_Name <| r_store S fun s S => wpAny_tests_nil <| ite_t <| r_callf gd S (by rfl) (by rfl) (zS <| r_nameC2 rfl S (List.mem_append_right _ (.tail _ (.tail _ (.tail _ hc)))) (hl := hkc C) <| spliced_none ⟨S.stays,
   heappop_spec gd S (.tail (.tail (.tail .head))) hS' hne hvl hd fun s S => ⟨_, _, ⟨(hpop vs').2, rfl, I2, s2, ?_, ?_⟩, S⟩⟩) (hG := hG)
  ·intro v hv
   rcases List.mem_append.mp hv with q | q
   ·exact hY v q
   ·rw [List.mem_singleton.mp q]; exact s1
  ·rw [List.map_append, List.map_singleton, hy, e2, List.take_add_one, List.getElem?_eq_getElem hi', List.map_append]
   rfl
 ·rintro m' D' ys acc ⟨vs', rfl, I', hS', hY, hy⟩
  refine ⟨m, _, .head, fun s' S' => h acc ys vs' s' hY ?_ S'⟩
  rwa [hn, List.take_length] at hy
section
open PySem.SeqAt
theorem lle_trans {a b c : List Nat} (h1 : ¬ b < a) (h2 : ¬ c < b) : ¬ c < a := fun h => by
 rcases ky_total a b with q | q | q
 ·exact h2 (ky_trans h q)
 ·rw [q] at h; exact h2 h
 ·exact h1 q
theorem rising_pairwise : ∀ (l : List Str) (p : Str), risingS p l = true -> (p :: l).Pairwise fun a b => ¬ b.cps.toList < a.cps.toList
 | [], p, _ => by simp
 | x :: r, p, h => by
  have h' : (!PySem.Spec.ltCps x.cps.toList p.cps.toList && risingS x r) = true := h
  obtain ⟨h1, h2⟩ := Bool.and_eq_true_iff.mp h'
  have hx : ¬ x.cps.toList < p.cps.toList := by rw [ltCps_eq] at h1; simpa using h1
  have ih := rising_pairwise r x h2
  refine List.pairwise_cons.mpr ⟨fun b hb => ?_, ih⟩
  rcases List.mem_cons.mp hb with rfl | hb
  ·exact hx
  ·exact lle_trans hx ((List.pairwise_cons.mp ih).1 b hb)
theorem sortedS_pairwise : ∀ l : List Str, sortedS l = true -> l.Pairwise fun a b => ¬ b.cps.toList < a.cps.toList
 | [], _ => .nil
 | x :: r, h => rising_pairwise r x h
theorem St.all {h' : Heap} {vs : List Value} {out : List Value} (S : St H0 os0 L m D s) (e : h' = sortedAll s.heap vs out.toArray) : St H0 os0 L m ((s.heap.objs.size + 1, .list out) :: D) { s with heap := h' } := by
 subst e
 refine S.new ?_ (fun b o e => sortedAll_old e) ?_ S.gens rfl
 ·cases e : s.heap.get? (s.heap.objs.size + 1) with
  | none => rfl
  | some o => exact absurd (Heap.lt_size e) (Nat.not_lt.mpr (Nat.le_succ _))
 ·obtain ⟨n, hn⟩ := sortedAll_at s.heap vs out.toArray
  exact ⟨n, hn⟩
theorem r_sortedS {l : Addr} {vs : List Value} {ss : List Str} {Q : QV} (S : St H0 os0 L m D s) (hl : (l, .list vs) ∈ D) (hS : StrsAre vs ss) (h64 : vs.length < 64)
  (h : ∀ a ws ss' s', StrsAre ws ss' -> ss'.Perm ss -> (ss'.Pairwise fun a b => ¬ b.cps.toList < a.cps.toList) -> St H0 os0 L m ((a, .list ws) :: D) s' -> Q (.ref a) s') : wpAny (model pw w) A (call (.builtin "sorted") [.ref l]) Q E s :=
 sorted_strs (S.lst hl) hS h64 fun out ss' h1 h2 h3 => h _ out.toList ss' _ h1 h2 (sortedS_pairwise _ h3) (S.all rfl)
theorem r_addL {a b : Addr} {vs ws : List Value} {Q : QV} (S : St H0 os0 L m D s) (ha : (a, .list vs) ∈ D) (hb : (b, .list ws) ∈ D) (hz : vs.length + ws.length ≤ 100000)
  (h : ∀ c s', St H0 os0 L m ((c, .list (vs ++ ws)) :: D) s' -> Q (.ref c) s') : wpAny (model pw w) A (binaryOp .Add (.ref a) (.ref b)) Q E s := by
 obtain ⟨n, h1⟩ := S.get ha
 obtain ⟨n2, h2⟩ := S.get hb
 have e : vs.toArray ++ ws.toArray = (vs ++ ws).toArray := by simp
 refine concat_meets ⟨_, h1, rfl⟩ ⟨_, h2, rfl⟩ noFill_list_add seq_list_add PySem.F.slot_list_add PySem.F.entry_list_add (PySem.F.args_list_add_2 _ _) (list_addW a b vs.toArray ws.toArray n n2 none none #[] #[] (by simp; rw [sizeLine_eq]; lia)) ⟨h1, h2, ?_⟩
 rw [e]
 exact h _ _ (S.push (t := s.toks) ⟨0, Heap.get?_push_size _ rfl⟩)
theorem call_sorted_own {l : Addr} {vs : List Value} {n : Nat} {Q : QV} (hl : s.heap.get? l = some (seqObj "list" vs.toArray n)) (h64 : vs.length < 64)
  (hT : ∀ h : Heap, (∀ b o, s.heap.get? b = some o -> h.get? b = some o) -> ∀ v ∈ vs, Looks (model pw w) h (typeOf v) (.type "list"))
  {G : Array Nat -> Prop} (ask : 2 ≤ vs.length -> ∀ s' : Shared, (∀ b o, s.heap.get? b = some o -> s'.heap.get? b = some o) -> ∀ Q : Array Nat -> Shared -> Prop, (∀ p, G p -> Q p s') -> (kas_sort vs.length).kasWp (kas_ask pw w A.in1.in1 oneType' vs) Q s')
  (h0 : vs.length < 2 -> Q (.ref (s.heap.objs.size + 1)) { s with heap := sortedAll s.heap vs vs.toArray })
  (h : ∀ p, 2 ≤ vs.length -> G p -> Q (.ref (s.heap.objs.size + 1)) { s with heap := sortedAll s.heap vs (p.toList.map fun i => vs.getD i Value.none).toArray }) :
  wpAny (model pw w) A (call (.builtin "sorted") [.ref l]) Q E s := by
 refine Calls.call_function_entry kind_sorted PyProof.Rows.plain_sorted entry_sorted (args_sorted1 _) ?_
 unfold Builtin.«sorted»
 refine wB (m := checkCount "sorted" 1 1 _) (wP ?_)
 refine wB (collect_list ⟨_, hl, rfl, n, rfl⟩ ?_ (by rw [sizeLine_eq]; lia))
 refine wB (wpAny_newList ?_ (by rw [sizeLine_eq]; lia))
 have hsz : ((s.heap.push (seqObj "list" #[] 0)).update s.heap.objs.size (Obj.mapSeq (· ++ vs.toArray))).objs.size = s.heap.objs.size + 1 := by
  rw [Heap.size_update, size_push']
 have hoL : (((s.heap.push (seqObj "list" #[] 0)).update s.heap.objs.size (Obj.mapSeq (· ++ vs.toArray))).push (seqObj "list" vs.toArray 0)).get? (s.heap.objs.size + 1) = some (seqObj "list" vs.toArray 0) := by
  rw [← hsz]; exact Heap.get?_push_size _ rfl
 have keep : ∀ b o, s.heap.get? b = some o -> (((s.heap.push (seqObj "list" #[] 0)).update s.heap.objs.size (Obj.mapSeq (· ++ vs.toArray))).push (seqObj "list" vs.toArray 0)).get? b = some o := fun b o q => by
  have hlt : b < s.heap.objs.size := Heap.lt_size q
  rw [Heap.get?_push_ne _ _ _ (by rw [hsz]; exact Nat.ne_of_lt (Nat.lt_succ_of_lt hlt)), Heap.get?_update_ne _ _ _ _ (Nat.ne_of_lt hlt), Heap.get?_push_ne _ _ _ (Nat.ne_of_lt hlt)]
  exact q
 have hne : ∀ b o, s.heap.get? b = some o -> b ≠ s.heap.objs.size + 1 := fun b o q => Nat.ne_of_lt (Nat.lt_succ_of_lt (Heap.lt_size q))
 show wpAny _ _ _ _ _ { s with heap := ((s.heap.push (seqObj "list" #[] 0)).update s.heap.objs.size (Obj.mapSeq (· ++ vs.toArray))).push (seqObj "list" vs.toArray 0) }
 rw [hsz]
 refine wB (wpAny_holding (wpAny_call_entry slot_list_sort ⟨_, hoL, rfl⟩ entry_list_sort ?body (args_list_sort _)))
 by_cases h2 : 2 ≤ vs.length
 ·refine list_sort_own (s := { s with heap := ((s.heap.push (seqObj "list" #[] 0)).update s.heap.objs.size (Obj.mapSeq (· ++ vs.toArray))).push (seqObj "list" vs.toArray 0) }) (G := G) hoL h2 h64
   (fun h' hk => hT h' fun b o q => hk b o (hne b o q) (keep b o q)) (fun s' hk => ask h2 s' fun b o q => hk b o (hne b o q) (keep b o q)) fun p hp => ⟨_, rfl, wP ⟨_, rfl, h p h2 hp⟩⟩
 ·have h2' : vs.toArray.size < 2 := by rw [List.size_toArray]; lia
  rw [list_sort_plain]
  obtain ⟨e1, ho1⟩ : ∃ e1, ((((s.heap.push (seqObj "list" #[] 0)).update s.heap.objs.size (Obj.mapSeq (· ++ vs.toArray))).push (seqObj "list" vs.toArray 0)).update (s.heap.objs.size + 1) (Obj.mapSeq fun _ => (#[] : Array Value))).get? (s.heap.objs.size + 1) = some (seqObj "list" #[] e1) := ⟨_, get?_update_seq hoL fun _ => #[]⟩
  have ho6 := Heap.get?_push_of_some (seqObj "list" #[] 0) (Heap.get?_push_of_some (seqObj "tuple" vs.toArray 0) ho1)
  refine wB (listItems_at hoL rfl ?_)
  refine wB (listUpdate_at hoL rfl ?_ (by rw [List.size_toArray, sizeLine_eq]; lia) (Nat.zero_le _))
  refine wB (seqEpoch_at ho1 rfl ?_)
  refine wB (wpAny_newTuple ?_ (by show vs.length ≤ _; rw [sizeLine_eq]; lia))
  refine wB (wpAny_newList ?_ (Nat.zero_le _))
  refine wpAny_holding ?_
  try dsimp only
  rw [if_pos h2', if_pos h2']
  refine wB (wP ?_)
  rw [StateT.run_pure]
  refine wB (wP ?_)
  try dsimp only
  refine wB (seqEpoch_at ho6 rfl ?_)
  refine wB (listUpdate_at ho6 rfl ?_ (hsz2 := by rw [Array.size_map]; show (pairsOf vs).size ≤ _; rw [pairsOf_size, sizeLine_eq]; lia))
  simp only [bne_self_eq_false, Bool.false_eq_true, if_false]
  have eo : (arrOf (SortSt.mk' general' (vs.toArray.zip vs.toArray) #[] 7 none)).map (·.2) = vs.toArray := by
   show (vs.toArray.zip vs.toArray).map (·.2) = vs.toArray
   apply Array.toList_inj.mp
   simp [List.map_snd_zip]
  rw [eo]
  exact wP ⟨_, rfl, wP ⟨_, rfl, h0 (by walk_at "o")⟩⟩
def PairAt (N : Led) (v : Value) (k : Nat) : Prop := ∃ a t u, v = .ref a ∧ (a, Ob.list [.int (rk k : Nat) t, .str (tx (zM k)) u]) ∈ N
theorem zP.zip {N : Led} {ps : List Value} {ms : List Nat} (h : zP N ps ms) : ∀ q ∈ ps.zip ms, PairAt N q.1 q.2 := by
 intro q hq
 obtain ⟨i, hi, rfl⟩ := List.mem_iff_getElem.mp hq
 have h1 : i < ps.length := by simp at hi; lia
 have h2 : i < ms.length := by simp at hi; lia
 obtain ⟨a, t, k, e, hm⟩ := h.2 i h1
 refine ⟨a, t, k, ?_, ?_⟩
 ·rw [List.getElem_zip, ← e]; simp [List.getD, h1]
 ·rw [List.getElem_zip]; simpa [List.getD, h2] using hm
theorem zP.of_zip {N : Led} {ps : List Value} {ms : List Nat} (hn : ps.length = ms.length) (h : ∀ q ∈ ps.zip ms, PairAt N q.1 q.2) : zP N ps ms := by
 refine ⟨hn, fun i hi => ?_⟩
 have hi2 : i < ms.length := hn ▸ hi
 have hz : i < (ps.zip ms).length := by simp; lia
 obtain ⟨a, t, k, e, hm⟩ := h _ (List.getElem_mem hz)
 rw [List.getElem_zip] at e hm
 refine ⟨a, t, k, ?_, ?_⟩
 ·simp only [List.getD, List.getElem?_eq_getElem hi]; exact e
 ·simp only [List.getD, List.getElem?_eq_getElem hi2]; exact hm
theorem zP.insert {N : Led} {ps : List Value} {ms : List Nat} {x : Value} {md : Nat} (h : zP N (ps ++ [x]) (ms ++ [md])) (l : Nat) : zP N (ps.take l ++ x :: ps.drop l) (ms.take l ++ md :: ms.drop l) := by
 have hn : ps.length = ms.length := by have := h.1; simpa using this
 have hz := h.zip
 rw [List.zip_append hn] at hz
 have hps : ∀ q ∈ ps.zip ms, PairAt N q.1 q.2 := fun q hq => hz q (List.mem_append_left _ hq)
 have ez : ps.zip ms = (ps.take l).zip (ms.take l) ++ (ps.drop l).zip (ms.drop l) := by rw [← List.zip_append (by simp [hn]), List.take_append_drop, List.take_append_drop]
 have hx : PairAt N x md := hz (x, md) (List.mem_append_right _ (by simp))
 refine .of_zip (by simp [hn]) fun q hq => ?_
 rw [List.zip_append (by simp [hn])] at hq
 rcases List.mem_append.mp hq with q1 | q1
 ·exact hps q (ez ▸ List.mem_append_left _ q1)
 ·rw [List.zip_cons_cons] at q1
  replace q1 := q1
  rcases List.mem_cons.mp q1 with rfl | q1
  ·exact hx
  ·exact hps q (ez ▸ List.mem_append_right _ q1)
theorem insert_sorted {ms : List Nat} {md l : Nat} (hs : ms.Pairwise fun a b => rk a ≤ rk b) (h1 : ∀ i, i < l -> i < ms.length -> rk (ms.getD i 0) ≤ rk md) (h2 : ∀ i, l ≤ i -> i < ms.length -> rk md ≤ rk (ms.getD i 0)) :
  (ms.take l ++ md :: ms.drop l).Pairwise fun a b => rk a ≤ rk b := by
 rw [List.pairwise_append]
 have hts : ∀ a ∈ ms.take l, rk a ≤ rk md := fun a ha => by
  obtain ⟨i, hi, rfl⟩ := List.mem_iff_getElem.mp ha
  have hi' : i < l ∧ i < ms.length := by simp at hi; lia
  have := h1 i hi'.1 hi'.2
  simpa [List.getD, hi'.2] using this
 have hds : ∀ a ∈ ms.drop l, rk md ≤ rk a := fun a ha => by
  obtain ⟨i, hi, rfl⟩ := List.mem_iff_getElem.mp ha
  have hi' : l + i < ms.length := by simp at hi; lia
  have := h2 (l + i) (by walk_at "o") hi'
  simpa [List.getD, hi'] using this
 refine ⟨hs.sublist (List.take_sublist _ _), List.pairwise_cons.mpr ⟨hds, hs.sublist (List.drop_sublist _ _)⟩, fun a ha b hb => ?_⟩
 rcases List.mem_cons.mp hb with rfl | hb
 ·exact hts a ha
 ·exact Nat.le_trans (hts a ha) (hds b hb)
theorem insert_perm (ms : List Nat) (md l : Nat) : (ms.take l ++ md :: ms.drop l).Perm (ms ++ [md]) := by
 have h : (ms.take l ++ md :: ms.drop l).Perm (md :: (ms.take l ++ ms.drop l)) := List.perm_middle
 rw [List.take_append_drop] at h
 exact h.trans (List.perm_append_singleton _ _).symm
theorem r_sortedP {N : Led} {l : Addr} {ps : List Value} {x : Value} {ms : List Nat} {md : Nat} {Q : QV} (S : St H0 os0 L m D s) (hN : ∀ p ∈ N, p ∈ D) (hl : (l, .list (ps ++ [x])) ∈ D) (hp : zP N (ps ++ [x]) (ms ++ [md]))
  (hs : ms.Pairwise fun a b => rk a ≤ rk b) (h64 : ps.length + 1 < 64) (hu : A.units + 5 < cLine)
  (h : ∀ a ps' ms' s', zP N ps' ms' -> ms'.Perm (ms ++ [md]) -> (ms'.Pairwise fun a b => rk a ≤ rk b) -> St H0 os0 L m ((a, .list ps') :: D) s' -> Q (.ref a) s') :
  wpAny (model pw w) A (call (.builtin "sorted") [.ref l]) Q E s := by
 obtain ⟨n, hq⟩ := S.get hl
 have hn : ps.length = ms.length := by have := hp.1; simpa using this
 have hvl : (ps ++ [x]).length = ps.length + 1 := by simp
 have at_ : ∀ i, i < ps.length + 1 -> ∃ a t u n, (ps ++ [x]).getD i .none = .ref a ∧ s.heap.get? a = some (pairO (rk ((ms ++ [md]).getD i 0) : Nat) t (tx (zM ((ms ++ [md]).getD i 0))) u n) := fun i hi => by
  obtain ⟨a, t, u, e, hm⟩ := hp.2 i (by simpa using hi)
  obtain ⟨n, hq⟩ := S.get (hN _ hm)
  exact ⟨a, t, u, n, e, hq⟩
 refine call_sorted_own (G := fun p => ∃ l, l ≤ ps.length ∧ (∀ i, i < l -> rk ((ms ++ [md]).getD i 0) ≤ rk ((ms ++ [md]).getD ps.length 0)) ∧ (∀ i, l ≤ i -> i < ps.length -> rk ((ms ++ [md]).getD ps.length 0) < rk ((ms ++ [md]).getD i 0)) ∧ Put (ps.length + 1) l p) hq (by simpa using h64) ?_ ?_ ?_ ?_
 ·intro h' hk v hv
  obtain ⟨i, hi, rfl⟩ := List.mem_iff_getElem.mp hv
  obtain ⟨a, t, u, n, e, hq⟩ := at_ i (by simpa using hi)
  have e2 : (ps ++ [x])[i] = .ref a := by rw [← e]; simp only [List.getD, List.getElem?_eq_getElem hi]; rfl
  rw [e2]
  exact (Looks.ld (hk _ _ hq)).andThen .now
 ·intro h2 s' hk Q' hQ'
  rw [hvl]
  refine sort_last (key := fun i => rk ((ms ++ [md]).getD i 0)) ?_ (by walk_at "o") ?_ fun l p h1 h2 h3 h4 => hQ' p ⟨l, by walk_at "o", by simpa using h2, by simpa using h3, h4⟩
  ·intro i j C hi hj hC
   obtain ⟨a, t, u, n, e, hq⟩ := at_ i hi
   obtain ⟨a2, t2, u2, n2, e2, hq2⟩ := at_ j hj
   show wpAny _ _ (keyLt' oneType' ((ps ++ [x]).getD i .none) ((ps ++ [x]).getD j .none)) C _ s'
   rw [e, e2]
   refine lt_pairs (hk _ _ hq) (hk _ _ hq2) (show A.units + 1 + 1 < cLine by walk_at "o") ?_
   have ed : decide (((rk ((ms ++ [md]).getD i 0) : Nat) : Int) < ((rk ((ms ++ [md]).getD j 0) : Nat) : Int) ∨ ((rk ((ms ++ [md]).getD i 0) : Nat) : Int) = ((rk ((ms ++ [md]).getD j 0) : Nat) : Int) ∧ (tx (zM ((ms ++ [md]).getD i 0))).cps.toList < (tx (zM ((ms ++ [md]).getD j 0))).cps.toList)
     = decide (rk ((ms ++ [md]).getD i 0) < rk ((ms ++ [md]).getD j 0)) := by
    rw [tx_list, tx_list]
    refine decide_eq_decide.mpr ⟨fun q => ?_, fun q => .inl (by walk_at "o")⟩
    rcases q with q | ⟨_, q⟩
    ·lia
    ·exact (fm_order _ _).1.mp q
   rw [ed]
   exact hC
  ·intro i j hij hj
   have hj' : j < ms.length := by walk_at "o"
   have hi' : i < ms.length := by walk_at "o"
   simp only [List.getD, List.getElem?_append_left hi', List.getElem?_append_left hj', List.getElem?_eq_getElem hi', List.getElem?_eq_getElem hj', Option.getD_some]
   rcases Nat.lt_or_ge i j with q | q
   ·exact List.pairwise_iff_getElem.mp hs i j hi' hj' q
   ·obtain rfl : i = j := by walk_at "o"
    exact Nat.le_refl _
 ·intro h2
  have hps : ps = [] := List.length_eq_zero_iff.mp (by simp at h2; lia)
  have hms : ms = [] := List.length_eq_zero_iff.mp (by rw [← hn, hps]; rfl)
  subst hps hms
  exact h _ _ [md] _ hp (.refl _) (List.pairwise_singleton _ _) (S.all rfl)
 ·rintro p h2 ⟨l, h1, h3, h4, hput⟩
  have hv := hput.vals (vs := ps) (x := x) h1
  rw [hv]
  have elast : (ms ++ [md]).getD ps.length 0 = md := by rw [hn]; simp [List.getD]
  have eold : ∀ i, i < ms.length -> (ms ++ [md]).getD i 0 = ms.getD i 0 := fun i hi => by simp [List.getD, List.getElem?_append_left hi]
  refine h _ _ (ms.take l ++ md :: ms.drop l) _ (hp.insert l) (insert_perm ms md l) (insert_sorted hs (fun i hi hi' => ?_) fun i hi hi' => ?_) (S.all rfl)
  ·have := h3 i hi
   rwa [elast, eold i hi'] at this
  ·have := h4 i hi (by walk_at "o")
   rw [elast, eold i hi'] at this
   exact Nat.le_of_lt this
end
section
open PySem.SeqAt
theorem sort3 {cmp : Cmp} {Q : Array Nat -> Shared -> Prop} (h10 : ∀ C : QB, C true s -> cmp 1 0 C s) (h21 : ∀ C : QB, C true s -> cmp 2 1 C s) (h : Q #[2, 1, 0] s) : (kas_sort 3).kasWp cmp Q s :=
 h10 _ (h21 _ h)
theorem len_succ {l : List Value} {n : Nat} (h : l.length = n + 1) : ∃ a r, l = a :: r ∧ r.length = n := by
 cases l with
 | nil => cases h
 | cons a r => exact ⟨a, r, rfl, Nat.succ.inj h⟩
theorem of_isStrOf {v : Value} {k : Str} (h : v.isStrOf k = true) : ∃ t, v = .str k t := by
 cases v with
 | str a t => exact ⟨_, by rw [eq_of_beq h]⟩
 | _ => cases h
theorem r_sorted3 {N : Led} {l : Addr} {ps : List Value} {Q : QV} (S : St H0 os0 L m D s) (hN : ∀ p ∈ N, p ∈ D) (hl : (l, .list ps) ∈ D) (hp : zP N ps [41471, 16877, 33188]) (hu : A.units + 5 < cLine)
  (h : ∀ a ps' s', zP N ps' [33188, 16877, 41471] -> St H0 os0 L m ((a, .list ps') :: D) s' -> Q (.ref a) s') :
  wpAny (model pw w) A (call (.builtin "sorted") [.ref l]) Q E s := by
 obtain ⟨n, hq⟩ := S.get hl
 obtain ⟨x, y, z, rfl⟩ : ∃ x y z, ps = [x, y, z] := by
  obtain ⟨x, r, rfl, h1⟩ := len_succ hp.1
  obtain ⟨y, r, rfl, h2⟩ := len_succ h1
  obtain ⟨z, r, rfl, h3⟩ := len_succ h2
  cases r with
  | nil => exact ⟨x, y, z, rfl⟩
  | cons => cases h3
 obtain ⟨a0, t0, u0, e0, m0⟩ := hp.2 0 (by simp)
 obtain ⟨a1, t1, u1, e1, m1⟩ := hp.2 1 (by simp)
 obtain ⟨a2, t2, u2, e2, m2⟩ := hp.2 2 (by simp)
 simp only [List.getD_cons_zero, List.getD_cons_succ] at e0 e1 e2 m0 m1 m2
 subst e0 e1 e2
 obtain ⟨n0, q0⟩ := S.get (hN _ m0)
 obtain ⟨n1, q1⟩ := S.get (hN _ m1)
 obtain ⟨n2, q2⟩ := S.get (hN _ m2)
 refine call_sorted_own (G := fun p => p = #[2, 1, 0]) hq (by simp) ?_ ?_ (fun h2 => absurd h2 (by simp)) ?_
 ·intro h' hk v hv
  simp only [List.mem_cons, List.not_mem_nil, or_false] at hv
  rcases hv with rfl | rfl | rfl
  ·exact (Looks.ld (hk _ _ q0)).andThen .now
  ·exact (Looks.ld (hk _ _ q1)).andThen .now
  ·exact (Looks.ld (hk _ _ q2)).andThen .now
 ·intro h2 s' hk Q' hQ'
  refine sort3 (fun C hC => ?_) (fun C hC => ?_) (hQ' _ rfl)
  ·refine lt_pairs (hk _ _ q1) (hk _ _ q0) (show A.units + 1 + 1 < cLine by walk_at "o") ?_
   rw [decide_eq_true (.inl (by decide))]
   exact hC
  ·refine lt_pairs (hk _ _ q2) (hk _ _ q1) (show A.units + 1 + 1 < cLine by walk_at "o") ?_
   rw [decide_eq_true (.inl (by decide))]
   exact hC
 ·rintro p h2 rfl
  refine h _ [.ref a2, .ref a1, .ref a0] _ ⟨rfl, fun i hi => ?_⟩ (S.all rfl)
  have : i = 0 ∨ i = 1 ∨ i = 2 := by simp at hi; lia
  rcases this with rfl | rfl | rfl
  ·exact ⟨a2, t2, u2, rfl, m2⟩
  ·exact ⟨a1, t1, u1, rfl, m1⟩
  ·exact ⟨a0, t0, u0, rfl, m0⟩
theorem vals_one {t : List Nat} {vs : List Value} {N : Led} (h : Vals [IsText t] vs N) : ∃ k, vs = [.str (tx t) k] := by
 have key : ∀ {Vs : List (Value -> Led -> Prop)} {vs : List Value} {N : Led}, Vals Vs vs N -> Vs = [IsText t] -> ∃ k, vs = [.str (tx t) k] := by
  intro Vs vs N h e
  cases h with
  | nil => cases e
  | @snoc Vs' vs' N' V v M h1 h2 =>
   have e1 : Vs' = [] ∧ V = IsText t := by
    cases Vs' with
    | nil => simpa using e
    | cons x r => simp at e
   obtain ⟨rfl, rfl⟩ := e1
   have := h1.length
   obtain rfl : vs' = [] := List.length_eq_zero_iff.mp this
   obtain ⟨_, k, rfl⟩ := h2
   exact ⟨k, rfl⟩
 exact key h rfl
theorem itemV_told {st : Nat} {t : List Nat} {v : Value} {N : Led} (h : itemV w st t v N) : Told w st t v N := by
 match st with
 | 0 => exact h.2
 | 1 => exact h.2
 | 2 => exact h.2
 | 3 =>
  obtain ⟨a, vs, N', rfl, rfl, hv⟩ : ArrV [IsText t] v N := h
  obtain ⟨k, rfl⟩ := vals_one hv
  exact ⟨a, k, rfl, List.mem_append_right _ (.head _)⟩
 | n + 4 =>
  obtain ⟨d, u, N', e, eM, hu⟩ := h
  obtain ⟨_, k, rfl⟩ := hu
  exact ⟨d, k, e, eM ▸ .head _⟩
theorem told_thing {st : Nat} {t : List Nat} {v : Value} {N : Led} (h : Told w st t v N) : Thing w N v t := by
 match st with
 | 0 => exact .inl h
 | 1 => exact .inl h
 | 2 => exact .inl h
 | 3 => exact .inr (.inl h)
 | n + 4 => exact .inr (.inr h)
theorem pairs_one {l : List DictEntry} {k : Str} {v : Value} (hp : Pairs (PySem.strKind pw w) l [(k, v)]) : ∃ e, l = [e] ∧ (PySem.strKind pw w).is k e.key = true ∧ e.val = v := by
 cases hp with
 | cons h1 h2 h3 =>
  cases h3
  exact ⟨_, rfl, h1, h2⟩
theorem exact_dict {o : Obj} {es : Array DictEntry} {ep : Nat} (h : o.ExactDict) (hd : o.data = .dict es ep) : o = { cls := .type "dict", dict := none, data := .dict es ep, slots := #[] } := by
 obtain ⟨hc, hdd, hsl⟩ := h
 show (⟨o.cls, o.dict, o.data, o.slots⟩ : Obj) = _
 rw [hc, hdd, hd, hsl]
theorem entry_is {e : DictEntry} {k : Str} {v : Value} (h : (PySem.strKind pw w).is k e.key = true) (hv : e.val = v) : ∃ t, e = ⟨e.hash, .str k t, v⟩ := by
 obtain ⟨hs, key, val⟩ := e
 obtain ⟨t, rfl⟩ := of_isStrOf (show key.isStrOf k = true from h)
 cases hv
 exact ⟨t, rfl⟩
theorem oneD_of (gd : Gd w H0) (S : St H0 os0 L m D s) {d : Addr} {k : Str} {v : Value} (h : (d, dicO w [(k, v)]) ∈ D) : OneD s.heap d k v := by
 refine ⟨beq_eq_false_iff_ne.mp (not_mods gd S h), ?_⟩
 obtain ⟨o, es, ep, ho, H⟩ := S.dic h
 obtain ⟨e, he1, he2, he3⟩ := pairs_one H.2.2.2.1
 obtain ⟨t, ht⟩ := entry_is he2 he3
 refine ⟨ep, e.hash, t, ?_⟩
 rw [← ht, ho, exact_dict H.1 H.2.1, Array.toList_inj.mp (show es.toList = #[e].toList from he1)]
theorem told_eq (gd : Gd w H0) (S : St H0 os0 L m D s) {st : Nat} {t : List Nat} {v u : Value} {N N' : Led} (h : Told w st t v N) (h' : Told w st t u N') (hN : ∀ p ∈ N, p ∈ D) (hN' : ∀ p ∈ N', p ∈ D) (hu : A.units + 5 < cLine) : EqAt A s v u true := by
 have tw : ∀ {x : Str}, (∃ k, v = .str x k) -> (∃ k, u = .str x k) -> EqAt A s v u true := by
  rintro x ⟨k, rfl⟩ ⟨k', rfl⟩
  exact eq_str_at
 match st with
 | 0 => exact tw h h'
 | 1 => exact tw h h'
 | 2 => exact tw h h'
 | 3 =>
  obtain ⟨a, k, e, ha⟩ := h
  obtain ⟨a', k', e', ha'⟩ := h'
  subst e e'
  obtain ⟨n, q⟩ := S.get (hN _ ha)
  obtain ⟨n', q'⟩ := S.get (hN' _ ha')
  refine eq_refs_at (list_eq_all q q' rfl (by walk_at "o") fun i hi => ?_)
  obtain rfl : i = 0 := by simpa using hi
  exact eq_str_at
 | n + 4 =>
  obtain ⟨d, k, e, ha⟩ := h
  obtain ⟨d', k', e', ha'⟩ := h'
  subst e e'
  exact eq_refs_at (dict_eq_one (oneD_of gd S (hN _ ha)) (oneD_of gd S (hN' _ ha')) (by walk_at "o") eq_str_at)
end
section
open PySem.SeqAt
theorem r_merge (gd : Gd w H0) {pa ca : Addr} {ps : List Value} {ms : List Nat} {k : Nat} {tr tf : Tok} {p1 p2 p3 p4 p5 p6 : Pos} {Q : QV} (S : St H0 os0 L m D s) (hu : A.units + 10 < cLine)
  {N : Led} (hN : ∀ p ∈ N, p ∈ D) (hpa : (pa, .list ps) ∈ D) (hpn : m "plain" = some (.ref pa)) (hcn : m "coming" = some (.ref ca)) (hca : (ca, Ob.list [.int (rk k : Nat) tr, .str (tx (zM k)) tf]) ∈ N) (hp : zP N ps ms) (hs : ms.Pairwise fun a b => rk a ≤ rk b) (hz : ps.length ≤ 40)
  (h : ∀ a b c ps' ms' o1 o2 s', zP N ps' ms' -> ms'.Perm (ms ++ [k]) -> (ms'.Pairwise fun a b => rk a ≤ rk b) -> St H0 os0 L m ((a, .list ps') :: (c, .list o1) :: (b, .list o2) :: D) s' -> Q (.ref a) s')
  (hL : autoParam (env.locals = L) aR._auto_1) (hG : autoParam (env.globals = mainGlobals) aR._auto_1) (hB : autoParam (env.builtins = builtinsNs) aR._auto_1) (hk : autoParam (env.scope.kind = .function) aR._auto_1) (hl1 : autoParam (env.kindOf "plain" = some .local) aR._auto_1) (hl2 : autoParam (env.kindOf "coming" = some .local) aR._auto_1) (hl3 : autoParam (env.kindOf "sorted" = some .globalImplicit) aR._auto_1) :
  wpAny (model pw w) A (PySem.eval (.Call (.Name "sorted" p1) [.BinOp (.Name "plain" p2) .Add (.List [.Name "coming" p3] p4) p5] [] p6) env) Q E s := by
 have hp' : zP N (ps ++ [.ref ca]) (ms ++ [k]) := by
  refine .of_zip (by simp [hp.1]) fun q hq => ?_
  rw [List.zip_append hp.1] at hq
  rcases List.mem_append.mp hq with q1 | q1
  ·exact hp.zip q q1
  ·simp at q1
   subst q1
   exact ⟨ca, tr, tf, rfl, hca⟩
 refine r_callb (v := .builtin "sorted") gd S (by rfl) (by kernel_rfl) rfl (zS <| zB <| r_name S hpn (r_list <| zS <| r_name S hcn (spliced_none <| r_lstQ S (by walk_at "s") fun b s S => r_addL S (.tail _ hpa) (.head _) (by simp; lia) fun c s S => spliced_none <|
  r_sortedP S (N := N) (fun p q => .tail _ (.tail _ (hN p q))) (.head _) hp' hs (by walk_at "o") (by walk_at "o") fun a ps' ms' s hp2 hperm hsort S => h a b c ps' ms' _ _ s hp2 hperm hsort S) hL hk hl2) hL hk hl1) hG hB hk hl3
theorem r_pop0 {x : Str} {np apos pos cp : Pos} {kd : Nat} {l : Addr} {y : Value} {r : List Value} {F : Ob -> Led} {Q : QV} (S : St H0 os0 L m D s) (hx : m x = some (.ref l)) (hl : At l (.list (y :: r)) D F)
  (hz : r.length ≤ 1000) (h : ∀ s', St H0 os0 L m (F (.list r)) s' -> Q y s')
  (hL : autoParam (env.locals = L) aR._auto_1) (hk : autoParam (env.scope.kind = .function) aR._auto_1) (hkx : autoParam (env.kindOf x = some .local) aR._auto_1) (hd : autoParam ((x == ("__debug__" : Str)) = false) aD._auto_1)
  (hbase : autoParam (attributeBase (.Name x np) "pop" env (PySem.eval (.Name x np) env) = PySem.eval (.Name x np) env) aR._auto_1)
  (hfew : autoParam (((backTo pos (starEach [.Constant (.int 0) kd cp] env)).all (fun x => !x.1) && (backToKw pos (keywordEach [] env)).all (fun x => x.1.isSome) && decide (([.Constant (.int 0) kd cp] : List Expr).length + ([] : List Keyword).length + (if ([] : List Keyword).isEmpty then 0 else 1) < 30)) = true) aR._auto_1)
  (hline : autoParam ((apos.endLine == pos.line) = true) aR._auto_1) :
  wpAny (model pw w) A (PySem.eval (.Call (.Attribute (.Name x np) "pop" apos) [.Constant (.int 0) kd cp] [] pos) env) Q E s := by
 refine r_meth PySem.F.plainAttrs_list PySem.F.slot_list_pop PySem.F.type_list_pop (r_name S hx ⟨lst_ok S hl.mem, zS <| r_natc 0 S fun t s S => spliced_none ?_⟩ hL hk hkx hd) hbase hfew hline
 obtain ⟨n, q⟩ := S.get hl.mem
 refine call_meets PySem.F.slot_list_pop ⟨_, q, rfl⟩ PySem.F.entry_list_pop (PySem.F.args_list_pop_2 _ _) (MeetsSeq.list_pop_at l (y :: r).toArray n 0 t 0 y (by decide) (by unfold seqIndex?; simp) (by simp) (by rw [sizeLine_eq]; simp; lia)) ⟨q, h _ (S.change (t := s.toks) hl (Heap.SameBut.update ..) (On_list_update q ?_))⟩
 simp [Array.eraseIdxIfInBounds]
theorem r_popHead {x : Str} {np apos pos cp cp2 p2 : Pos} {kd kd2 : Nat} {l : Addr} {y : Value} {r : List Value} {F : Ob -> Led} {k : Nat} {Q : QV} (S : St H0 os0 L m D s) (hx : m x = some (.ref l)) (hl : At l (.list (y :: r)) D F)
  (hz : r.length ≤ 1000) {N : Led} (hN : ∀ p ∈ N, p ∈ F (.list r)) (hy : PairAt N y k) (h : ∀ u s', St H0 os0 L m (F (.list r)) s' -> Q (.str (tx (zM k)) u) s')
  (hL : autoParam (env.locals = L) aR._auto_1) (hk : autoParam (env.scope.kind = .function) aR._auto_1) (hkx : autoParam (env.kindOf x = some .local) aR._auto_1) (hd : autoParam ((x == ("__debug__" : Str)) = false) aD._auto_1)
  (hbase : autoParam (attributeBase (.Name x np) "pop" env (PySem.eval (.Name x np) env) = PySem.eval (.Name x np) env) aR._auto_1)
  (hfew : autoParam (((backTo pos (starEach [.Constant (.int 0) kd cp] env)).all (fun x => !x.1) && (backToKw pos (keywordEach [] env)).all (fun x => x.1.isSome) && decide (([.Constant (.int 0) kd cp] : List Expr).length + ([] : List Keyword).length + (if ([] : List Keyword).isEmpty then 0 else 1) < 30)) = true) aR._auto_1)
  (hline : autoParam ((apos.endLine == pos.line) = true) aR._auto_1) :
  wpAny (model pw w) A (PySem.eval (.Subscript (.Call (.Attribute (.Name x np) "pop" apos) [.Constant (.int 0) kd cp] [] pos) (.Constant (.int 1) kd2 cp2) p2) env) Q E s := by
 obtain ⟨a, t, u, rfl, hm⟩ := hy
 refine zG (r_pop0 S hx hl hz (fun s S => r_natc 1 S fun t s S => r_itemN (j := 1) S (hN _ hm) (by walk_at "s") (by walk_at "s") (h _ _ S)) hL hk hkx hd hbase hfew hline)
end
section
open PySem.SeqAt
theorem strs_self : ∀ {vs : List Value}, (∀ v ∈ vs, IsS v) -> StrsAre vs ((vs.map kyL).map tx)
 | [], _ => .nil
 | v :: r, h => by
  obtain ⟨x, t, rfl⟩ := h v (.head _)
  have e : tx (kyL (.str x t)) = x := by
   obtain ⟨⟨l⟩⟩ := x
   rfl
  rw [List.map_cons, List.map_cons, e]
  exact .cons x t (strs_self fun v hv => h v (.tail _ hv))
theorem strs_isS {vs : List Value} {ys : List Str} (h : StrsAre vs ys) : ∀ v ∈ vs, IsS v := by
 induction h with
 | nil => intro v hv; cases hv
 | cons y t r ih =>
  intro v hv
  cases hv with
  | head => exact ⟨_, _, rfl⟩
  | tail _ hv => exact ih v hv
theorem strs_kyL {vs : List Value} {ts : List (List Nat)} (h : StrsAre vs (ts.map tx)) : vs.map kyL = ts := by
 generalize hy : ts.map tx = ys at h
 induction h generalizing ts with
 | nil => cases ts with | nil => rfl | cons _ _ => cases hy
 | cons y t r ih =>
  cases ts with
  | nil => cases hy
  | cons T Tr =>
   rw [List.map_cons] at hy
   injection hy with h1 h2
   rw [List.map_cons, ih h2, ← h1]
   rfl
theorem kyL_gt {vs : List Value} {i : Nat} : kyL (gt vs i) = (vs.map kyL).getD i [] := by
 unfold gt
 simp only [List.getD, List.getElem?_map]
 cases vs[i]? <;> rfl
theorem Inv.congr {vs ws : List Value} {ms : List Nat} (I : Inv vs ms) (e : ws.map kyL = vs.map kyL) : Inv ws ms := by
 refine ⟨fun i h0 hi => ?_, by rw [e]; exact I.perm, I.sorted⟩
 have hl : ws.length = vs.length := by have := congrArg List.length e; simpa using this
 have := I.heap i h0 (hl ▸ hi)
 unfold kle at this ⊢
 rw [kyL_gt, kyL_gt] at this ⊢
 rw [e]
 exact this
theorem Inv.rows {vs : List Value} {ms : List Nat} (I : Inv vs ms) : ∀ t ∈ vs.map kyL, ∃ k, t = zM k := fun t ht => by
 obtain ⟨k, _, e⟩ := List.mem_map.mp (I.perm.mem_iff.mp ht)
 exact ⟨k, e.symm⟩
theorem Rem.app {p : Addr × Ob} {D D' : Led} (x : Rem p D D') : ∀ N : Led, Rem p (N ++ D) (N ++ D')
 | [] => x
 | _ :: N => .tail (Rem.app x N)
theorem vals_at {Vs : List (Value -> Led -> Prop)} {vs : List Value} {N : Led} (h : Vals Vs vs N) : ∀ i, i < vs.length -> ∃ M, (∀ p ∈ M, p ∈ N) ∧ (Vs.getD i fun _ _ => True) (vs.getD i .none) M := by
 induction h with
 | nil => intro i hi; simp at hi
 | @snoc Vs vs N V v M h1 h2 ih =>
  intro i hi
  have hl := h1.length
  by_cases c : i < vs.length
  ·obtain ⟨M', q1, q2⟩ := ih i c
   refine ⟨M', fun p hp => List.mem_append_right _ (q1 p hp), ?_⟩
   simpa only [List.getD, List.getElem?_append_left c, List.getElem?_append_left (show i < Vs.length by walk_at "o")] using q2
  ·obtain rfl : i = vs.length := by simp at hi; lia
   refine ⟨M, fun p hp => List.mem_append_left _ hp, ?_⟩
   have e1 : (vs ++ [v]).getD vs.length .none = v := by simp [List.getD]
   have e2 : (Vs ++ [V]).getD vs.length (fun _ _ => True) = V := by rw [hl]; simp [List.getD]
   rw [e1, e2]
   exact h2
theorem joinL_mem {c : List Nat} (hc : nC c) : ∀ xs : List (List Nat), (∀ x ∈ xs, nC x) -> nC (joinL c xs)
 | [], _ => nCk _ rfl
 | [x], h => h x (.head _)
 | x :: y :: r, h => nC_app (h x (.head _)) (nC_app hc (joinL_mem hc (y :: r) fun z hz => h z (.tail _ hz)))
theorem cm_mem (n : Nat) : nC (cmA (n % 4) ++ 44 :: cmZ (n % 4)) ∧ (cmA (n % 4) ++ 44 :: cmZ (n % 4)).length ≤ 20 := by
 have : n % 4 = 0 ∨ n % 4 = 1 ∨ n % 4 = 2 ∨ n % 4 = 3 := by walk_at "o"
 rcases this with e | e | e | e <;> rw [e] <;> exact ⟨nCk _ rfl, by decide⟩
theorem op_mem (n : Nat) : nC (open0 (n % 3)) ∧ (open0 (n % 3)).length ≤ 5 := by
 have : n % 3 = 0 ∨ n % 3 = 1 ∨ n % 3 = 2 := by walk_at "o"
 rcases this with e | e | e <;> rw [e] <;> exact ⟨nCk _ rfl, by decide⟩
theorem doc_mem {man : Nat} {ts : List (List Nat)} {b : Bool} (h : ∀ t ∈ ts, ∀ d ∈ t, d ≠ 13) : ∀ d ∈ queueT ++ 32 :: 61 :: 32 :: docItem man (zW man ts) b, d ≠ 13 := by
 have hj : nC (joinL (cmA (man % 4) ++ 44 :: cmZ (man % 4)) ((zW man ts).map fun x => itemT x.1 x.2)) := joinL_mem (cm_mem man).1 _ fun x hx => by
  obtain ⟨y, hy, rfl⟩ := List.mem_map.mp hx
  obtain ⟨i, hi, rfl⟩ := List.mem_mapIdx.mp hy
  exact itemT_mem (h _ (List.getElem_mem hi))
 refine nC_app (nCk _ rfl) (nC_app (a := [32, 61, 32, 91]) (nCk _ rfl) (nC_app (op_mem man).1 (nC_app hj (nC_app ?_ (nCk _ rfl)))))
 cases b with
 | true => exact (cm_mem man).1
 | false => exact nCk _ rfl
theorem doc_len {man : Nat} {ts : List (List Nat)} {b : Bool} (hn : ts.length ≤ 100) (h : ∀ t ∈ ts, t.length ≤ 10) : (queueT ++ 32 :: 61 :: 32 :: docItem man (zW man ts) b).length ≤ 16777216 := by
 have hj := joinL_len (cmA (man % 4) ++ 44 :: cmZ (man % 4)) 22 ((zW man ts).map fun x => itemT x.1 x.2) (fun x hx => by
  obtain ⟨y, hy, rfl⟩ := List.mem_map.mp hx
  refine Nat.le_trans (itemT_len _ _) ?_
  obtain ⟨i, hi, rfl⟩ := List.mem_mapIdx.mp hy
  have := h _ (List.getElem_mem hi)
  show ts[i].length + 12 ≤ 22
  lia)
 have hc := (cm_mem man).2
 have ho := (op_mem man).2
 have h3 : ((zW man ts).map fun x => itemT x.1 x.2).length * (22 + (cmA (man % 4) ++ 44 :: cmZ (man % 4)).length) ≤ 100 * (22 + 20) := Nat.mul_le_mul (by simpa [zW] using hn) (by walk_at "o")
 have hb : (if b = true then cmA (man % 4) ++ 44 :: cmZ (man % 4) else []).length ≤ 20 := by
  split
  ·exact hc
  ·exact Nat.zero_le _
 unfold docItem
 generalize (if b = true then cmA (man % 4) ++ 44 :: cmZ (man % 4) else []) = Z at *
 generalize joinL (cmA (man % 4) ++ 44 :: cmZ (man % 4)) ((zW man ts).map fun x => itemT x.1 x.2) = Y at *
 simp only [List.length_append, List.length_cons, List.length_nil] at *
 lia
theorem perm_isS {l l' : List Value} (h : l.Perm l') (h' : ∀ v ∈ l', IsS v) : ∀ v ∈ l, IsS v := fun v hv => h' v (h.mem_iff.mp hv)
theorem push_isS {vs : List Value} {v : Value} (h : Hp vs) (hS : ∀ v ∈ vs, IsS v) (hv : IsS v) : ∀ u ∈ hpush vs v, IsS u :=
 perm_isS (hpush_right v h).1 fun u hu => by
  rcases List.mem_append.mp hu with q | q
  ·exact hS u q
  ·rw [List.mem_singleton.mp q]; exact hv
theorem repl_isS {vs : List Value} {v : Value} (h : Hp vs) (hne : vs ≠ []) (hS : ∀ v ∈ vs, IsS v) (hv : IsS v) : IsS (hrepl vs v).1 ∧ ∀ u ∈ (hrepl vs v).2, IsS u :=
 ⟨hS _ (getD_mem (List.length_pos_iff.mpr hne)), perm_isS (hrepl_right v h (List.length_pos_iff.mpr hne)).1 (AllS.set hS hv)⟩
theorem pp_isS {vs : List Value} {v : Value} (h : Hp vs) (hS : ∀ v ∈ vs, IsS v) (hv : IsS v) : IsS (hpp vs v).1 ∧ ∀ u ∈ (hpp vs v).2, IsS u := by
 unfold hpp
 split
 ·rename_i c
  exact repl_isS h c.1 hS hv
 ·exact ⟨hv, hS⟩
theorem pairs_cons {N : Led} {y : Value} {pr : List Value} {m0 : Nat} {r : List Nat} (h : zP N (y :: pr) (m0 :: r)) : PairAt N y m0 ∧ zP N pr r := by
 have hz := h.zip
 rw [List.zip_cons_cons] at hz
 exact ⟨hz _ (.head _), .of_zip (by simpa using h.1) fun q hq => hz q (.tail _ hq)⟩
theorem str_of {v : Value} {t : List Nat} (h : IsS v) (e : kyL v = t) : ∃ u, v = .str (tx t) u := by
 obtain ⟨⟨⟨l⟩⟩, u, rfl⟩ := h
 have : l = t := e
 subst this
 exact ⟨u, rfl⟩
theorem led_appN (M : Led) {X N E : Led} (h : X = N ++ E) : M ++ X = (M ++ N) ++ E := by rw [h, List.append_assoc]
theorem five {p1 p2 p3 p4 p5 : Addr × Ob} {X : Led} (S : St H0 os0 L m (p1 :: p2 :: p3 :: p4 :: p5 :: X) s) {P : Led -> Prop} (h : P X) : ∃ X, St H0 os0 L m (p1 :: p2 :: p3 :: p4 :: p5 :: X) s ∧ P X := ⟨X, S, h⟩
@[reducible] noncomputable def ledOf (_ : St H0 os0 L m D s) : Led := D
theorem zX (g : Addr × Ob) {X N E : Led} (h : X = N ++ E) : g :: X = (g :: N) ++ E := by rw [h]; rfl
theorem eq_strs {ws us : List Value} (h1 : ∀ v ∈ ws, IsS v) (h2 : ∀ v ∈ us, IsS v) (e : ws.map kyL = us.map kyL) : ∀ i, i < ws.length -> EqAt A s (ws.getD i .none) (us.getD i .none) true := fun i hi => by
 have hl : ws.length = us.length := by have := congrArg List.length e; simpa using this
 obtain ⟨x, t, ex⟩ := h1 _ (getD_mem hi)
 obtain ⟨y, u, ey⟩ := h2 _ (getD_mem (hl ▸ hi))
 have hk : kyL (ws.getD i .none) = kyL (us.getD i .none) := by
  have a1 := kyL_gt (vs := ws) (i := i)
  have a2 := kyL_gt (vs := us) (i := i)
  unfold gt at a1 a2
  rw [a1, a2, e]
 rw [ex, ey] at hk ⊢
 have : x = y := by
  obtain ⟨⟨l⟩⟩ := x
  obtain ⟨⟨l'⟩⟩ := y
  have : l = l' := hk
  rw [this]
 subst this
 exact eq_str_at
inductive RunOk (L : Addr) (m : Str -> Option Value) (D : Led) (nl : Addr) (nvs : List Value) (c : Addr) (bound : Nat) (m' : Str -> Option Value) (D' : Led) : Prop
 | mk (pa : Addr) (ps : List Value) (ms : List Nat) (ha : Addr) (vs : List Value) (E' : Led) (_ : D' = (pa, Ob.list ps) :: (ha, .list vs) :: (c, cellO (some (.ref ha))) :: (685, kodeO) :: E') (_ : zP E' ps ms) (_ : (nl, Ob.list nvs) ∈ E')
  (_ : ∃ N, E' = N ++ (L, Ob.ns m) :: D) (_ : Inv vs ms) (_ : ∀ v ∈ vs, IsS v) (_ : ms.length ≤ bound) (_ : m' "plain" = some (.ref pa))
inductive MidOk (H0 : Heap) (os0 : OsState) (L : Addr) (m : Str -> Option Value) (D : Led) (nl : Addr) (nvs : List Value) (bound it L₁ i : Nat) (tt : Tok) (s : Shared) : Prop
 | mk (m' : Str -> Option Value) (D' : Led) (x : Str) (t u : Tok) (_ : RunOk L m D nl nvs (L₁ + 1) bound m' D') (_ : St H0 os0 L₁ m' ((it, .iter "list_iterator" (.ref nl) (i + 1)) :: D') s)
  (_ : m' "answer" = some (.str x t)) (_ : m' "due" = some (.str x u)) (_ : m' "turn" = some (.int (i : Nat) tt))
inductive EndOk (H0 : Heap) (os0 : OsState) (L : Addr) (m : Str -> Option Value) (D : Led) (nl : Addr) (nvs : List Value) (bound L₁ : Nat) (s : Shared) : Prop
 | mk (m' : Str -> Option Value) (D' : Led) (_ : RunOk L m D nl nvs (L₁ + 1) bound m' D') (_ : St H0 os0 L₁ m' D' s)
def TurnOk (L : Addr) (m : Str -> Option Value) (D : Led) (nl : Addr) (nvs : List Value) (c i : Nat) (m' : Str -> Option Value) (D' : Led) : Prop := RunOk L m D nl nvs c (3 + i) m' D' ∧ ∃ t, m' "turn" = some (.int (i : Nat) t)
theorem run_spec (gd : Gx w H0) (hs : Sets w H0) {nl pl : Addr} {nvs ps : List Value} {ns : List Nat} {R : Result -> Shared -> Prop} (S : St H0 os0 L m ((685, kodeO) :: D) s) (hd : A.depth + 30 < recursionLimit) (hh : A.handled = none)
  (hstk : OnStk A L ((685, kodeO) :: D)) (hu : A.units + 40 < cLine) (hnl : (nl, .list nvs) ∈ D) (hn : nvs.length = ns.length) (hN : ∀ i, i < nvs.length -> ∃ t, nvs.getD i .none = .int (ns.getD i 0 : Nat) t) (hn12 : ns.length ≤ 20)
  (hpl : (pl, .list ps) ∈ D) (hp : zP D ps [41471, 16877, 33188])
  (h : ∀ s', St H0 os0 L m ((685, kodeO) :: D) s' -> R (.ok (.ret (.bool true))) s') :
  codeAny (model pw w) A (.call (.ref 843) ⟨[.ref nl, .ref pl], []⟩) R s := by
 have gd' := gd.toGd
 refine r_enterC (binds := [("numbers", .ref nl), ("pairs", .ref pl)]) gd' S (gd'.K 843 _ rfl) rfl (by kernel_rfl) rfl rfl rfl (by walk_at "o") (fun _ => rfl) (fun n x hx => by
  rcases List.mem_cons.mp hx with rfl | hx
  ·rfl
  ·cases hx) fun L₁ s₁ S => ?_
 replace S : St H0 os0 L₁ (upd (upd (fun _ => none) "numbers" (.ref nl)) "pairs" (.ref pl)) ((L₁ + 1, cellO none) :: (L, .ns m) :: (685, kodeO) :: D) s₁ := S
 have hdd : ∀ p ∈ D, p ∈ (L₁ + 1, cellO none) :: (L, .ns m) :: (685, kodeO) :: D := fun p hp => .tail _ (.tail _ (.tail _ hp))
 refine zC <| zN <| r_callb (v := .builtin "sorted") gd' S (by rfl) (by kernel_rfl) rfl (zS <| r_name S (by walk_at "l") <| spliced_none <| r_sorted3 S (N := D) hdd (hdd _ hpl) hp (show A.units + 3 + 5 < cLine by walk_at "o") fun pa ps1 s hp1' S =>
  r_store S fun s S => ?_)
 have hlen3 : ps.length = 3 := hp.1
 have hdd' : ∀ {x : Option Value}, ∀ p ∈ D, p ∈ (L₁ + 1, cellO x) :: (L, .ns m) :: (685, kodeO) :: D := fun p hp => .tail _ (.tail _ (.tail _ hp))
 refine zC <| zN <| r_signs (N0 := D) S hh (by walk_at "l") (.tail _ (hdd _ hpl)) (fun p q => .tail _ (hdd p q)) hp (by walk_at "o") fun ha ws s hws S => r_storeC2 rfl S (.tail (.tail .head)) fun s S => ?_
 have hwl : ws.length = 3 := by have := Internal.StrsAre.length_eq hws; simpa using this
 have hwS : ∀ v ∈ ws, IsS v := strs_isS hws
 have hwk : ws.map kyL = [41471, 16877, 33188].map zM := strs_kyL (by rw [List.map_map]; exact hws)
 refine zC <| zE <| r_callf gd' S (by rfl) (by rfl) <| zS <| r_nameC2 rfl S (.tail _ (.tail _ (.head _))) <| spliced_none ⟨S.stays, heapify_spec (A := A.deeper _) gd' S .head hwS hwl (show A.depth + 1 + 2 < recursionLimit by walk_at "o") hh fun s S => ?_⟩
 have hI0 : Inv (su ws 0) [33188, 16877, 41471] := by
  obtain ⟨q1, q2⟩ := su_right (vs := ws) (by walk_at "o") (hole3 (by walk_at "o"))
  refine ⟨q2, (q1.map kyL).trans ?_, by decide⟩
  rw [hwk]
  exact ((List.Perm.swap _ _ _).trans ((List.Perm.swap _ _ _).cons _)).trans (List.Perm.swap _ _ _)
 have hS0 : ∀ v ∈ su ws 0, IsS v := fun v hv => hwS v ((su_right (vs := ws) (by walk_at "o") (hole3 (by walk_at "o"))).1.mem_iff.mp hv)
 refine zC <| zN <| r_natc 0 S fun t0 s S => r_store S fun s S => ?_
 try dsimp only
 replace S := S.perm (D' := (pa, .list ps1) :: (ha, .list (su ws 0)) :: (L₁ + 1, cellO (some (.ref ha))) :: (685, kodeO) :: ([] ++ (L, .ns m) :: D)) ((List.Perm.swap _ _ _).trans ((((List.Perm.swap _ _ _).cons _).cons _).cons _))
 refine r_for (EndOk H0 os0 L m D nl nvs (3 + nvs.length) L₁)
  (r_name S (by walk_at "l") <| r_iter_list S (.tail _ (.tail _ (.tail _ (.tail _ (.tail _ hnl))))) fun it s S =>
   r_loop (Source.list (A := A.deeper _) hh _ it nl nvs) (TurnOk L m D nl nvs (L₁ + 1)) _
    (fun _ _ _ q => by obtain ⟨⟨pa, ps, ms, ha, vs, E', rfl, _, q, _⟩, _⟩ := q; exact .tail _ (.tail _ (.tail _ (.tail _ q)))) S
    ⟨⟨pa, ps1, [33188, 16877, 41471], ha, su ws 0, _, rfl, hp1'.sub fun p q => .tail _ q, .tail _ hnl, ⟨[], rfl⟩, hI0, hS0, Nat.le_refl _, by walk_at "l"⟩, _, by walk_at "l"⟩ ?_ ?_) ?_
 ·intro i m' D' v N0 s hi hJ hV S
  refine genb fun Q1 hQ1 => ?_
  with_reducible refine hid fun G hG => ?_
  obtain ⟨⟨pa, ps, ms, ha, vs, E', rfl, hP, hnE, ⟨N, hE⟩, hI, hS, hml, hpn⟩, tt, htn⟩ := hJ
  obtain ⟨hv, rfl⟩ := hV
  obtain ⟨n, tv, rfl⟩ : ∃ (n : Nat) (tv : Tok), v = .int (n : Nat) tv := by
   obtain ⟨tv, ev⟩ := hN i hi
   exact ⟨ns.getD i 0, tv, by rw [← ev]; simp [List.getD, hv]⟩
  obtain ⟨k, hk⟩ : ∃ k, n / 5 % 65536 = k := ⟨_, rfl⟩
  obtain ⟨wh, hwh⟩ : ∃ wh, n % 5 = wh := ⟨_, rfl⟩
  obtain ⟨ts, hts⟩ : ∃ ts, vs.map kyL = ts := ⟨_, rfl⟩
  have hk16 : k < 65536 := hk ▸ Nat.mod_lt _ (by decide)
  have hw5 : wh < 5 := hwh ▸ Nat.mod_lt _ (by decide)
  refine hG ?_
  have hvl : vs.length = ms.length := hI.len
  have hi20 : ms.length ≤ 23 := by walk_at "o"
  have hrs := strs_self hS
  have hrow := hI.rows
  rw [hts] at hrs hrow
  have htl : ts.length = vs.length := by rw [← hts]; simp
  have hc10 : ∀ t ∈ ts, t.length ≤ 10 := fun t ht => by obtain ⟨k, rfl⟩ := hrow t ht; rw [fm_len]; exact Nat.le_refl _
  have hstk1 : ∀ {fd : FuncData} {D' : Led}, fd.scope.kind = .function -> (∀ p ∈ (685, kodeO) :: E', p ∈ D') -> OnStk (A.deeper (callEnvC fd L₁ 843)) L₁ D' := fun {fd D'} hk q => (OnStk.enterC (N := []) hstk hk).sub fun p hp => by
   have hp : p ∈ (L, Ob.ns m) :: (685, kodeO) :: D := hp
   refine q p ?_
   rw [hE]
   rcases List.mem_cons.mp hp with rfl | hp
   ·exact .tail _ (List.mem_append_right _ (.head _))
   ·rcases List.mem_cons.mp hp with rfl | hp
    ·exact .head _
    ·exact .tail _ (List.mem_append_right _ (.tail _ hp))
  dsimp only [List.nil_append, List.cons_append] at S
  refine assign_Name <| r_store S fun s S => ?_
  refine zC <| zN <| r_callf gd' S (by rfl) (by rfl) <| zS <| r_nameC2 rfl S (.tail _ (.tail _ (.tail _ (.head _)))) <| zS <| zB <| zB <| r_name S (by walk_at "l") <| r_natc 327680 S fun t s S =>
   r_fdiv S (by decide) (by decide) fun t s S => r_name S (by walk_at "l") <| r_addN S fun t s S => ?_
  refine gnl (n / 327680 + i) ?_
  intro man
  refine spliced_none ⟨S.stays, written_spec (A := A.deeper _) gd' S (show A.depth + 1 + 1 < recursionLimit by walk_at "o") hh (.tail _ (.tail _ (.head _))) hrs (by walk_at "o") hc10 fun wa tl tls N1 t s ht1 htold S => r_store S fun s S => ?_⟩
  replace S := S.front (p := (685, kodeO)) (.tail (.tail (Rem.app (.tail (.tail (.tail (.tail .head)))) N1)))
  refine zC <| zN <| r_callf gd' S (by rfl) (by rfl) <| zS <| zG <| r_name S (by walk_at "l") <| r_natc 0 S fun t s S => r_itemN (j := 0) S (.tail _ (.head _)) (by walk_at "s") (by walk_at "s") <| spliced_none ⟨S.stays, ?_⟩
  refine loaded_spec (A := A.deeper _) gd hs (k := 10) S (show A.depth + 1 + (10 + 7) < recursionLimit by walk_at "o") hh (hstk1 rfl fun p hp => ?_) rfl (doc_len (by walk_at "o") hc10) (doc_mem fun t ht d hd => ?_) ⟨91, _, rfl, by decide⟩
   (doc_spec gd' hs (fun x hx => ?_) (by simp [zW]; lia) (fun e => ?_)) (fun v N q => ?_) fun d v N2 s hv S => r_store S fun s S => ?_
  ·rcases List.mem_cons.mp hp with rfl | hp
   ·exact .head _
   ·exact .tail _ (.tail _ (.tail _ (List.mem_append_right _ (.tail _ (.tail _ (.tail _ (.tail _ hp)))))))
  ·obtain ⟨k, rfl⟩ := hrow t ht
   exact ((fm_rowOk k).ok d hd).2.2.2.1
  ·unfold zW at hx
   obtain ⟨i, hi, rfl⟩ := List.mem_mapIdx.mp hx
   obtain ⟨k, e⟩ := hrow _ (List.getElem_mem hi)
   show RowOk ts[i]
   rw [e]
   exact fm_rowOk k
  ·have : ts = [] := by
    have := congrArg List.length e
    simp [zW] at this
    exact this
   rw [this]; rfl
  ·obtain ⟨a, us, N', rfl, rfl, _⟩ := q
   exact ⟨a, us, rfl, List.mem_append_right _ (.head _)⟩
  obtain ⟨a1, us, N3, rfl, hN2, hvals⟩ := hv
  have hul : us.length = ts.length := by have := hvals.length; simpa [zW] using this
  have ha1 : (a1, Ob.list us) ∈ N2 := hN2 ▸ List.mem_append_right _ (.head _)
  have hut : ∀ i, i < ts.length -> Told w (sty man i) (ts.getD i []) (us.getD i .none) N2 := fun i hi => by
   obtain ⟨M, q1, q2⟩ := vals_at hvals i (by walk_at "o")
   have e : (((zW man ts).map fun x => itemV w x.1 x.2).getD i fun _ _ => True) = itemV w (sty man i) (ts.getD i []) := by
    simp [zW, List.getD, hi]
   rw [e] at q2
   exact (itemV_told q2).sub fun p hp => hN2 ▸ List.mem_append_left _ (q1 p hp)
  refine zC <| zI <| zT <| r_name S (by walk_at "l") <| r_dict1 S fun d2 s S => r_strT queueT S rfl fun t s S => zG <| r_name S (by walk_at "l") <| r_natc 1 S fun t s S =>
   r_itemN (j := 1) S (.tail _ (.tail _ (.tail _ (List.mem_append_right _ (.head _))))) (by walk_at "s") (by walk_at "s") ⟨[(tx queueT, .ref tl)], _, _, _, ⟨strKind_is .., rfl, trivial⟩, S, .head, fun s S => ?_⟩
  have hD2 : ∀ p ∈ N2, p ∈ ledOf S :=
   fun p hp => .tail _ (.tail _ (.tail _ (List.mem_append_left _ hp)))
  have hD1 : ∀ p ∈ N1, p ∈ ledOf S :=
   fun p hp => .tail _ (.tail _ (.tail _ (List.mem_append_right _ (.tail _ (.tail _ (List.mem_append_left _ hp))))))
  obtain ⟨n1, g1⟩ := S.get (hD2 _ ha1)
  obtain ⟨n2, g2⟩ := S.get (k := .list tls) (.tail _ (.tail _ (.tail _ (List.mem_append_right _ (.tail _ (.head _))))))
  refine dict_ne_one (oneD_of gd' S (.tail _ (.head _))) (oneD_of gd' S (v := .ref tl) (.head _)) (show A.units + 3 < cLine by walk_at "o") (eq_refs_at (list_eq_all g1 g2 (hul.trans ht1.symm) (show A.units + 3 + 1 < cLine by walk_at "o") fun j hj => ?_)) (wpAny_truthy_bool (ite_f (wpAny_execs_nil ?_)))
  ·exact told_eq gd' S (hut j (by walk_at "o")) (htold j (by walk_at "o")) hD2 hD1 (show A.units + 3 + 1 + 1 + 5 < cLine by walk_at "o")
  refine zC <| zN <| r_callf gd' S (by rfl) (by rfl) <| zS <| zG <| r_name S (by walk_at "l") <| r_strT queueT S rfl fun t s S => r_dget (k := tx queueT) (v := .ref a1) S (.tail _ (.head _)) (by rfl) fun s S => spliced_none ⟨S.stays, ?_⟩
  refine rows_spec (A := A.deeper _) gd' S (show A.depth + 1 + 1 < recursionLimit by walk_at "o") hh (hD2 _ ha1) (by walk_at "o") hul (fun j hj => ?_) fun r2 ws2 s hws2 S => r_storeC2 rfl S (.tail (.tail (.tail (.tail (At.app (.tail (.tail (At.app (.tail (.tail (.tail .head))) N1))) N2))))) fun s S => ?_
  ·rcases told_thing (hut j (by walk_at "o")) with q | ⟨x, y, q1, q2⟩ | ⟨x, y, q1, q2⟩
   ·exact .inl q
   ·exact .inr (.inl ⟨x, y, q1, hD2 _ q2⟩)
   ·exact .inr (.inr ⟨x, y, q1, hD2 _ q2⟩)
  replace S := ((((S.front (p := (685, kodeO)) (.tail (.tail (.tail .head)))).front (p := (L₁ + 1, cellO (some (.ref r2)))) (.tail (.tail (.tail (.tail (Rem.app (.tail (.tail (Rem.app (.tail (.tail (.tail .head))) N1))) N2)))))).front (p := (r2, .list ws2)) (.tail (.tail .head))).front (p := (pa, .list ps)) (.tail (.tail (.tail (.tail (.tail (Rem.app (.tail (.tail (Rem.app (.tail .head) N1))) N2))))))).front (p := (it, .iter "list_iterator" (.ref nl) (i + 1))) (.tail (.tail (.tail (.tail (.tail (.tail (Rem.app (.tail (.tail (Rem.app .head N1))) N2)))))))
  obtain ⟨E2, S, hs2, N', hE2⟩ := five S (P := fun X => (∀ p ∈ E', p ∈ X) ∧ ∃ N, X = N ++ (L, .ns m) :: D) ⟨fun p hp => .tail _ (.tail _ (List.mem_append_right _ (.tail _ (.tail _ (List.mem_append_right _ (.tail _ hp)))))),
   _, zX _ (zX _ (led_appN N2 (zX _ (zX _ (led_appN N1 (zX _ hE))))))⟩
  have hP2 : zP E2 ps ms := hP.sub hs2
  have hnE2 := hs2 _ hnE
  have hI2 : Inv ws2 ms := hI.congr ((strs_kyL hws2).trans hts.symm)
  have hS2 : ∀ v ∈ ws2, IsS v := strs_isS hws2
  have hwl2 : ws2.length = ms.length := hI2.len
  have hpl2 : ps.length = ms.length := hP2.1
  clear hD2 hD1 g1 g2 hut hul ha1 hvals hN2 htold ht1 hrow hrs hc10 hws2 hts htl
  refine zC <| zN <| r_list <| zS <| r_callf gd' S (by rfl) (by rfl) <| zS <| zB <| zB <| r_name S (by walk_at "l") <| r_natc 5 S fun t s S => r_fdiv S (by decide) (by decide) fun t s S =>
   r_natc 65536 S fun t s S => r_mod S (by decide) fun t s S => ?_
  rw [hk]
  refine spliced_none ⟨S.stays, rank_spec (A := A.deeper _) gd' S hk16 (show A.depth + 1 + 1 < recursionLimit by walk_at "o") hh fun tr s S => ?_⟩
  refine zS <| r_callf gd' S (by rfl) (by rfl) <| zS <| zB <| zB <| r_name S (by walk_at "l") <| r_natc 5 S fun t s S => r_fdiv S (by decide) (by decide) fun t s S =>
   r_natc 65536 S fun t s S => r_mod S (by decide) fun t s S => ?_
  rw [hk]
  refine spliced_none ⟨S.stays, filemode_spec (A := A.deeper _) gd' S (show A.depth + 1 + 1 < recursionLimit by walk_at "o") hh fun tf s S => spliced_none <| r_lstQ S (by walk_at "s") fun ca s S => r_store S fun s S => ?_⟩
  refine zC <| zN <| zB <| r_name S (by walk_at "l") <| r_natc 5 S fun t s S => r_mod S (by decide) fun t s S => ?_
  rw [hwh]
  refine r_store S fun s S => ?_
  refine zC <| zN <| r_str S fun ta s S => r_store S fun s S => ?_
  refine zC <| zN <| r_str S fun td s S => r_store S fun s S => ?_
  refine S.gen6 "coming" "which" "answer" "due" "plain" "turn" (by walk_at "l") (by walk_at "l") (by walk_at "l") (by walk_at "l") (by walk_at "l") (by walk_at "l") fun m2 l1 l2 l3 l4 l5 l6 S => ?_
  have hval : IsS (Value.str (fm k) tf) := ⟨_, _, rfl⟩
  have hpe : zP ((ca, Ob.list [.int (rk k : Nat) tr, .str (tx (zM k)) tf]) :: E2) ps ms := hP2.sub fun p q => .tail _ q
  refine r_cut (MidOk H0 os0 L m D nl nvs (3 + (i + 1)) it L₁ i tt) ?_ ?_
  ·with_reducible refine genq fun Q2 hQ2 => ?_
   refine zI <| zT <| r_name S (by walk_at "l") <| r_natc 2 S fun t s S => PyProof.Rows.lt_int (wpAny_truthy_bool ?_)
   by_cases c2 : wh < 2
   ·rw [decide_eq_true (show ((wh : Nat) : Int) < ((2 : Nat) : Int) by walk_at "o")]
    refine ite_t ?_
    refine zC <| zE <| r_callf gd' S (by rfl) (by rfl) <| zS <| r_nameC2 rfl S (.tail _ (.tail _ (.tail _ (.tail _ (.head _))))) <| zS <| zG <| r_name S (by walk_at "l") <| r_natc 1 S fun t s S =>
     r_itemN (j := 1) S (.head _) (by walk_at "s") (by walk_at "s") <| spliced_none ⟨S.stays, heappush_spec (A := A.deeper _) gd' S (.tail (.tail (.tail .head))) hS2 hval (by walk_at "o") (show A.depth + 1 + 1 < recursionLimit by walk_at "o") fun s S => ?_⟩
    refine zC <| zN <| r_merge gd' S (show A.units + 3 + 10 < cLine by walk_at "o") (N := (ca, Ob.list [.int (rk k : Nat) tr, .str (tx (zM k)) tf]) :: E2) (fun p q => ?_) (.tail _ (.tail _ (.head _))) (by walk_at "l") (by walk_at "l") (.head _) hpe hI2.sorted (by walk_at "o")
     fun a b c ps' ms' o1 o2 s hp3 hperm hsort S => r_store S fun s S => ?_
    ·rcases List.mem_cons.mp q with rfl | q
     ·exact .head _
     ·exact .tail _ (.tail _ (.tail _ (.tail _ (.tail _ (.tail _ q)))))
    replace S := ((((S.front (p := (685, kodeO)) (by walk_at "r")).front (p := (L₁ + 1, cellO (some (.ref r2)))) (by walk_at "r")).front (p := (r2, .list (hpush ws2 (.str (fm k) tf)))) (by walk_at "r")).front (p := (a, .list ps')) (by walk_at "r")).front (p := (it, .iter "list_iterator" (.ref nl) (i + 1))) (by walk_at "r")
    have hml' : ms'.length = ms.length + 1 := by have := hperm.length_eq; simpa using this
    refine wpAny_execs_nil <| hQ2 _ _ ⟨rfl, _, _, _, _, _, ⟨a, ps', ms', r2, _, _, rfl, hp3.sub fun p q => ?_, .tail _ (.tail _ (.tail _ (.tail _ hnE2))), ⟨_, zX _ (zX _ (zX _ (zX _ hE2)))⟩, inv_push hI2 hperm hsort rfl, push_isS hI2.heap hS2 hval, by walk_at "o", by walk_at "l"⟩, S, by walk_at "l", by walk_at "l", by walk_at "l"⟩
    rcases List.mem_cons.mp q with rfl | q
    ·exact .tail _ (.tail _ (.head _))
    ·exact .tail _ (.tail _ (.tail _ (.tail _ q)))
   ·rw [decide_eq_false (show ¬ ((wh : Nat) : Int) < ((2 : Nat) : Int) by walk_at "o")]
    refine ite_f ?_
    refine zC <| zI <| zT <| r_name S (by walk_at "l") <| r_natc 3 S fun t s S => r_eqN <| wpAny_truthy_bool ?_
    by_cases c3 : wh = 3
    ·rw [decide_eq_true c3]
     refine ite_t ?_
     obtain ⟨pp1, pp2⟩ := pp_isS hI2.heap hS2 hval
     refine zC <| zN <| r_callf gd' S (by rfl) (by rfl) <| zS <| r_nameC2 rfl S (.tail _ (.tail _ (.tail _ (.tail _ (.head _))))) <| zS <| zG <| r_name S (by walk_at "l") <| r_natc 1 S fun t s S =>
      r_itemN (j := 1) S (.head _) (by walk_at "s") (by walk_at "s") <| spliced_none ⟨S.stays, heappushpop_spec (A := A.deeper _) gd' S (.tail (.tail (.tail .head))) hS2 hval (by walk_at "o") (show A.depth + 1 + 2 < recursionLimit by walk_at "o") hh fun s S => r_store S fun s S => ?_⟩
     refine zC <| zN <| r_merge gd' S (show A.units + 3 + 10 < cLine by walk_at "o") (N := (ca, Ob.list [.int (rk k : Nat) tr, .str (tx (zM k)) tf]) :: E2) (fun p q => ?_) (.tail _ (.tail _ (.head _))) (by walk_at "l") (by walk_at "l") (.head _) hpe hI2.sorted (by walk_at "o")
      fun a b c ps' ms' o1 o2 s hp3 hperm hsort S => r_store S fun s S => ?_
     ·rcases List.mem_cons.mp q with rfl | q
      ·exact .head _
      ·exact .tail _ (.tail _ (.tail _ (.tail _ (.tail _ (.tail _ q)))))
     have hml' : ms'.length = ms.length + 1 := by have := hperm.length_eq; simpa using this
     obtain ⟨m0, r, rfl⟩ : ∃ m0 r, ms' = m0 :: r := by cases ms' with | nil => simp at hml' | cons m0 r => exact ⟨m0, r, rfl⟩
     obtain ⟨y, pr, rfl⟩ : ∃ y pr, ps' = y :: pr := by have := hp3.1; cases ps' with | nil => simp at this | cons y pr => exact ⟨y, pr, rfl⟩
     obtain ⟨hy, hpr⟩ := pairs_cons hp3
     have hprl : pr.length = r.length := hpr.1
     simp only [List.length_cons] at hml'
     refine zC <| zN <| r_popHead S (by walk_at "l") .head (by walk_at "o") (N := (ca, Ob.list [.int (rk k : Nat) tr, .str (tx (zM k)) tf]) :: E2) (fun p q => ?_) hy fun u s S => r_store S fun s S => ?_
     ·rcases List.mem_cons.mp q with rfl | q
      ·exact .tail _ (.tail _ (.tail _ (.head _)))
      ·exact .tail _ (.tail _ (.tail _ (.tail _ (.tail _ (.tail _ (.tail _ (.tail _ (.tail _ q))))))))
     obtain ⟨hI3, hk3⟩ := inv_pp hI2 hperm hsort (v := .str (fm k) tf) rfl
     obtain ⟨ux, hux⟩ := str_of pp1 hk3
     replace S := ((((S.front (p := (685, kodeO)) (by walk_at "r")).front (p := (L₁ + 1, cellO (some (.ref r2)))) (by walk_at "r")).front (p := (r2, .list (hpp ws2 (.str (fm k) tf)).2)) (by walk_at "r")).front (p := (a, .list pr)) (by walk_at "r")).front (p := (it, .iter "list_iterator" (.ref nl) (i + 1))) (by walk_at "r")
     refine wpAny_execs_nil (wpAny_execs_nil <| hQ2 _ _ ⟨rfl, _, _, _, _, _, ⟨a, pr, r, r2, _, _, rfl, hpr.sub fun p q => ?_, .tail _ (.tail _ (.tail _ (.tail _ hnE2))), ⟨_, zX _ (zX _ (zX _ (zX _ hE2)))⟩, hI3, pp2, by walk_at "o", by walk_at "l"⟩, S, (by rw [← hux]; walk_at "l"), by walk_at "l", by walk_at "l"⟩)
     rcases List.mem_cons.mp q with rfl | q
     ·exact .tail _ (.tail _ (.head _))
     ·exact .tail _ (.tail _ (.tail _ (.tail _ q)))
    ·rw [decide_eq_false c3]
     refine ite_f ?_
     refine zC <| zI <| zT <| r_name S (by walk_at "l") <| r_list <| spliced_none <| r_lstQ S (by walk_at "s") fun e0 s S => ?_
     obtain ⟨n1, g1⟩ := S.get (k := .list ps) (.tail _ (.tail _ (.tail _ (.head _))))
     obtain ⟨n2, g2⟩ := S.get (k := .list []) (.head _)
     by_cases hms : ms = []
     ·have hps : ps = [] := List.length_eq_zero_iff.mp (by rw [hpl2, hms]; rfl)
      have hws : ws2 = [] := List.length_eq_zero_iff.mp (by rw [hwl2, hms]; rfl)
      rw [hps] at g1 hpe
      rw [hps, hws] at S
      rw [hms] at hpe hI2
      rw [hws] at hI2 hS2
      replace S := S
      refine list_eq_all g1 g2 rfl (show A.units + 3 < cLine by walk_at "o") (fun i hi => absurd hi (Nat.not_lt_zero _)) _ _ _ _ (wpAny_truthy_bool (ite_t ?_))
      refine zC <| zI <| isTrue_not <| wpAny_isTrue_value <| r_callf gd' S (by rfl) (by rfl) <| zS <| r_nameC2 rfl S (.tail _ (.tail _ (.tail _ (.tail _ (.tail _ (.head _)))))) <| zS <| r_name S (by walk_at "l") <| zS <| zG <| r_name S (by walk_at "l") <|
       r_natc 1 S fun t s S => r_itemN (j := 1) S (.tail _ (.head _)) (by walk_at "s") (by walk_at "s") <| spliced_none ⟨S.stays, barred_spec (A := A.deeper _) gd' S (.tail _ (.tail _ (.tail _ (.tail _ (.head _))))) (show A.depth + 1 + 1 < recursionLimit by walk_at "o") hh (hstk1 rfl fun p q => ?_) (show A.units + 3 + 10 < cLine by walk_at "o") fun s S => wpAny_truthy_bool (ite_nt ?_)⟩
      ·rcases List.mem_cons.mp q with rfl | q
       ·exact .tail _ (.tail _ (.tail _ (.tail _ (.tail _ (.tail _ (.head _))))))
       ·exact .tail _ (.tail _ (.tail _ (.tail _ (.tail _ (.tail _ (.tail _ (hs2 _ q)))))))
      replace S := ((((S.front (p := (685, kodeO)) (by walk_at "r")).front (p := (L₁ + 1, cellO (some (.ref r2)))) (by walk_at "r")).front (p := (r2, .list [])) (by walk_at "r")).front (p := (pa, .list [])) (by walk_at "r")).front (p := (it, .iter "list_iterator" (.ref nl) (i + 1))) (by walk_at "r")
      refine wpAny_execs_nil (wpAny_execs_nil (wpAny_execs_nil (wpAny_execs_nil <| hQ2 _ _ ⟨rfl, _, _, _, _, _, ⟨pa, [], [], r2, [], _, rfl, hpe.sub fun p q => .tail _ q, .tail _ (.tail _ hnE2), ⟨_, zX _ (zX _ hE2)⟩, hI2, hS2, Nat.zero_le _, by walk_at "l"⟩, S, by walk_at "l", by walk_at "l", by walk_at "l"⟩)))
     ·obtain ⟨m0, r, e⟩ : ∃ m0 r, ms = m0 :: r := List.exists_cons_of_ne_nil hms
      obtain ⟨y, pr, hps⟩ : ∃ y pr, ps = y :: pr := List.exists_cons_of_length_pos (by rw [hpl2, e]; exact Nat.succ_pos _)
      rw [hps] at g1 hpe hpl2
      rw [e] at hpe hI2 hpl2 hwl2 hml hi20
      rw [hps] at S
      replace S := S
      replace hI2 := hI2
      refine eq_list_lengthsAt (IsL.isList g1) (IsL.isList g2) (by simp) (show A.units + 3 < cLine by walk_at "o") (wpAny_truthy_bool (ite_f ?_))
      obtain ⟨hy, hpr⟩ := pairs_cons hpe
      have hprl : pr.length = r.length := hpr.1
      simp only [List.length_cons] at hwl2 hpl2 hml hi20
      refine zC <| zI <| zT <| r_name S (by walk_at "l") <| r_natc 2 S fun t s S => r_eqN <| wpAny_truthy_bool ?_
      by_cases c4 : wh = 2
      ·rw [decide_eq_true c4]
       refine ite_t ?_
       obtain ⟨pp1, pp2⟩ := hpop_all hI2 hI2.ne hS2
       refine zC <| zN <| r_callf gd' S (by rfl) (by rfl) <| zS <| r_nameC2 rfl S (.tail _ (.tail _ (.tail _ (.tail _ (.tail _ (.head _)))))) <| spliced_none ⟨S.stays, heappop_spec (A := A.deeper _) gd' S (.tail (.tail (.tail (.tail .head)))) hS2 hI2.ne (by walk_at "o") (show A.depth + 1 + 2 < recursionLimit by walk_at "o") fun s S => r_store S fun s S => ?_⟩
       refine zC <| zN <| r_popHead S (by walk_at "l") (.tail (.tail (.tail .head))) (by walk_at "o") (N := (ca, Ob.list [.int (rk k : Nat) tr, .str (tx (zM k)) tf]) :: E2) (fun p q => ?_) hy fun u s S => r_store S fun s S => ?_
       ·rcases List.mem_cons.mp q with rfl | q
        ·exact .tail _ (.head _)
        ·exact .tail _ (.tail _ (.tail _ (.tail _ (.tail _ (.tail _ (.tail _ q))))))
       obtain ⟨hI3, hk3⟩ := inv_pop hI2
       obtain ⟨ux, hux⟩ := str_of pp1 hk3
       replace S := ((((S.front (p := (685, kodeO)) (by walk_at "r")).front (p := (L₁ + 1, cellO (some (.ref r2)))) (by walk_at "r")).front (p := (r2, .list (hpop ws2).2)) (by walk_at "r")).front (p := (pa, .list pr)) (by walk_at "r")).front (p := (it, .iter "list_iterator" (.ref nl) (i + 1))) (by walk_at "r")
       refine wpAny_execs_nil (wpAny_execs_nil (wpAny_execs_nil (wpAny_execs_nil <| hQ2 _ _ ⟨rfl, _, _, _, _, _, ⟨pa, pr, r, r2, _, _, rfl, hpr.sub fun p q => .tail _ q, .tail _ (.tail _ hnE2), ⟨_, zX _ (zX _ hE2)⟩, hI3, pp2, by walk_at "o", by walk_at "l"⟩, S, (by rw [← hux]; walk_at "l"), by walk_at "l", by walk_at "l"⟩)))
      ·rw [decide_eq_false c4]
       refine ite_f ?_
       obtain ⟨pp1, pp2⟩ := repl_isS hI2.heap hI2.ne hS2 hval
       refine zC <| zN <| r_callf gd' S (by rfl) (by rfl) <| zS <| r_nameC2 rfl S (.tail _ (.tail _ (.tail _ (.tail _ (.tail _ (.head _)))))) <| zS <| zG <| r_name S (by walk_at "l") <| r_natc 1 S fun t s S =>
        r_itemN (j := 1) S (.tail _ (.head _)) (by walk_at "s") (by walk_at "s") <| spliced_none ⟨S.stays, heapreplace_spec (A := A.deeper _) gd' S (.tail (.tail (.tail (.tail .head)))) hS2 hval hI2.ne (by walk_at "o") (show A.depth + 1 + 2 < recursionLimit by walk_at "o") fun s S => r_store S fun s S => ?_⟩
       refine zC <| zN <| r_popHead S (by walk_at "l") (.tail (.tail (.tail .head))) (by walk_at "o") (N := (ca, Ob.list [.int (rk k : Nat) tr, .str (tx (zM k)) tf]) :: E2) (fun p q => ?_) hy fun u s S => r_store S fun s S => ?_
       ·rcases List.mem_cons.mp q with rfl | q
        ·exact .tail _ (.head _)
        ·exact .tail _ (.tail _ (.tail _ (.tail _ (.tail _ (.tail _ (.tail _ q))))))
       refine zC <| zN <| r_merge gd' S (show A.units + 3 + 10 < cLine by walk_at "o") (N := (ca, Ob.list [.int (rk k : Nat) tr, .str (tx (zM k)) tf]) :: E2) (fun p q => ?_) (.tail _ (.tail _ (.tail _ (.head _)))) (by walk_at "l") (by walk_at "l") (.head _) hpr (List.pairwise_cons.mp hI2.sorted).2 (by walk_at "o")
        fun a b c ps' ms' o1 o2 s hp3 hperm hsort S => r_store S fun s S => ?_
       ·rcases List.mem_cons.mp q with rfl | q
        ·exact .tail _ (.head _)
        ·exact .tail _ (.tail _ (.tail _ (.tail _ (.tail _ (.tail _ (.tail _ q))))))
       have hml' : ms'.length = r.length + 1 := by have := hperm.length_eq; simpa using this
       obtain ⟨hI3, hk3⟩ := inv_repl hI2 hperm hsort (v := .str (fm k) tf) rfl
       obtain ⟨ux, hux⟩ := str_of pp1 hk3
       replace S := ((((S.front (p := (685, kodeO)) (by walk_at "r")).front (p := (L₁ + 1, cellO (some (.ref r2)))) (by walk_at "r")).front (p := (r2, .list (hrepl ws2 (.str (fm k) tf)).2)) (by walk_at "r")).front (p := (a, .list ps')) (by walk_at "r")).front (p := (it, .iter "list_iterator" (.ref nl) (i + 1))) (by walk_at "r")
       refine wpAny_execs_nil (wpAny_execs_nil (wpAny_execs_nil (wpAny_execs_nil <| hQ2 _ _ ⟨rfl, _, _, _, _, _, ⟨a, ps', ms', r2, _, _, rfl, hp3.sub fun p q => ?_, .tail _ (.tail _ (.tail _ (.tail _ (.tail _ hnE2)))), ⟨_, zX _ (zX _ (zX _ (zX _ (zX _ hE2))))⟩, hI3, pp2, by walk_at "o", by walk_at "l"⟩, S, (by rw [← hux]; walk_at "l"), by walk_at "l", by walk_at "l"⟩)))
       rcases List.mem_cons.mp q with rfl | q
       ·exact .tail _ (.tail _ (.tail _ (.head _)))
       ·exact .tail _ (.tail _ (.tail _ (.tail _ (.tail _ q))))
  ·rintro s ⟨m1, D1, x, tA, tD, ⟨pa1, ps1, ms1, ha1, vs1, E3, rfl, hP3, hnE3, ⟨N4, hE3⟩, hI3, hS3, hml3, hpn3⟩, S, hans, hdue, hturn⟩
   have hvl3 : vs1.length = ms1.length := hI3.len
   have hpl3 : ps1.length = ms1.length := hP3.1
   refine zC <| zI <| isTrue_or <| zT <| r_name S hans <| r_name S hdue <| r_neS <| wpAny_truthy_bool ?_
   rw [decide_eq_false (show ¬ x ≠ x from fun q => q rfl)]
   refine ite_f <| isTrue_or <| zT <| r_callb (v := .builtin "sorted") gd' S (by rfl) (by kernel_rfl) rfl (zS <| r_nameC2 rfl S (.tail _ (.tail _ (.tail _ (.head _)))) <| spliced_none <| r_sortedS S (.tail _ (.tail _ (.head _))) (strs_self hS3) (by walk_at "o") fun a1 ws1 ss1 s hs1 hsp hss S => ?_)
   refine r_signs (N0 := E3) S hh hpn3 (.tail _ (.tail _ (.head _))) (fun p q => .tail _ (.tail _ (.tail _ (.tail _ (.tail _ (.tail _ q)))))) hP3 (by walk_at "o") fun acc ws2 s hw2 S => ?_
   obtain ⟨n1, g1⟩ := S.get (k := .list ws1) (.tail _ (.head _))
   obtain ⟨n2, g2⟩ := S.get (k := .list ws2) (.head _)
   have hk1 : ws1.map kyL = ss1.map fun x => x.cps.toList := by
    have : StrsAre ws1 ((ss1.map fun x => x.cps.toList).map tx) := by
     have e : (ss1.map fun x => x.cps.toList).map tx = ss1 := by
      rw [List.map_map]
      have : (tx ∘ fun x : Str => x.cps.toList) = _root_.id := by
       funext y
       obtain ⟨⟨l⟩⟩ := y
       rfl
      rw [this, List.map_id]
     rw [e]; exact hs1
    exact strs_kyL this
   have hk2 : ws2.map kyL = ms1.map zM := strs_kyL (by rw [List.map_map]; exact hw2)
   have hke : ws1.map kyL = ws2.map kyL := by
    rw [hk1, hk2]
    refine sorted_eq ?_ (by rw [List.pairwise_map]; exact hss) (Internal.plain_sorted hI3.sorted)
    have q := hsp.map fun x : Str => x.cps.toList
    rw [List.map_map] at q
    have e : ((vs1.map kyL).map ((fun x : Str => x.cps.toList) ∘ tx)) = vs1.map kyL := by
     have : ((fun x : Str => x.cps.toList) ∘ tx) = id := rfl
     rw [this, List.map_id]
    rw [e] at q
    exact q.trans hI3.perm
   refine list_ne_all g1 g2 (by have := congrArg List.length hke; simpa using this) (show A.units + 3 < cLine by walk_at "o") (eq_strs (strs_isS hs1) (strs_isS hw2) hke) (wpAny_truthy_bool (ite_f (isTrue_or_nil (ite_f (wpAny_execs_nil ?_)))))
   refine zC <| zI <| isTrue_plain <| r_spots S hh (c := L₁ + 1) (hl := ha1) (vs := vs1) (.tail _ (.tail _ (.tail _ (.tail _ (.tail _ (.head _)))))) (.tail _ (.tail _ (.tail _ (.tail _ (.head _))))) hI3.heap hS3 (by walk_at "o") rfl (fun _ => rfl)
    (r_callb (v := .type "range") gd' S (by rfl) (by kernel_rfl) rfl (zS <| r_natc 1 S fun t s S => zS <| r_callb gd' S (by rfl) boot_len rfl (zS <| r_nameC2 rfl S (.tail _ (.tail _ (.tail _ (.tail _ (.tail _ (.head _)))))) <| spliced_none <|
     r_len S (.tail _ (.tail _ (.tail _ (.tail _ (.head _))))) (by walk_at "o") fun t s S => spliced_none <| r_range2 S fun r v s S => ⟨r, _, _, v, rfl, S⟩))) fun acc2 r t u v s S => r_truthy_list S (.head _) (by simp) fun s S => ite_nt (wpAny_execs_nil ?_)
   refine zC <| zN <| zB <| r_name S hturn <| r_natc 1 S fun t s S => r_addN S fun t s S => r_store S fun s S => wpAny_execs_nil ?_
   exact hQ1 _ _ ⟨_, _, ⟨⟨pa1, ps1, ms1, ha1, vs1, E3, rfl, hP3, hnE3, ⟨N4, hE3⟩, hI3, hS3, hml3, by walk_at "l"⟩, _, by walk_at "l"⟩, S.tl.tl.tl.tl⟩
 ·rintro m' D' s ⟨hR, _⟩ S
  exact wpAny_execs_nil ⟨m', D', hR, S⟩
 ·rintro s ⟨m', D', ⟨pa, ps, ms, ha, vs, E', rfl, hP, hnE, ⟨N, hE⟩, hI, hS, hml, hpn⟩, S⟩
  have hvl : vs.length ≤ 1000 := by rw [hI.len]; lia
  have hpl2 : ps.length = ms.length := hP.1
  replace S := S.perm (List.Perm.swap _ _ _)
  refine zC <| zR <| wpAny_Compare1 <| r_pops (A := A.deeper _) gd' S hh (show A.depth + 1 + 2 < recursionLimit by walk_at "o") (c := L₁ + 1) (pl := pa) (ps := ps) (.tail _ (.head _)) (.head _) hpl2 hI hS hvl hpn rfl (fun _ => rfl) rfl fun acc ws2 vs' s hw1 hw2 S => ?_
  refine r_signs (N0 := E') S hh hpn (.tail _ (.tail _ (.head _))) (fun p q => .tail _ (.tail _ (.tail _ (.tail _ (.tail _ q))))) hP (by rw [hpl2, ← hI.len]; exact hvl) fun acc2 ws3 s hw3 S => ?_
  obtain ⟨n1, g1⟩ := S.get (.tail _ (.head _))
  obtain ⟨n2, g2⟩ := S.get (.head _)
  have hk3 : ws3.map kyL = ms.map zM := strs_kyL (by rw [List.map_map]; exact hw3)
  have hk : ws2.map kyL = ws3.map kyL := hw2.trans hk3.symm
  refine list_eq_all g1 g2 (by have := congrArg List.length hk; simpa using this) (show A.units + 3 < cLine by walk_at "o") (eq_strs hw1 (strs_isS hw3) hk) _ _ _ _ ?_
  subst hE
  exact h _ ((S.out (.drop (.drop (.drop (.drop (.drop (.keep (Out.app .head N)))))))).sub ((List.sublist_append_right N D).cons_cons _))
end
section
open PySem.SeqAt
theorem r_lslice {x : Str} {l : Addr} {vs : List Value} {n : Nat} {k : Nat} {p p1 p2 pos : Pos} {Q : QV} (S : St H0 os0 L m D s) (hx : m x = some (.ref l)) (hl : H0.IsList l vs.toArray) (hz : vs.length ≤ 1000)
  (h : ∀ a s', St H0 os0 L m ((a, .list (vs.take n)) :: D) s' -> Q (.ref a) s') (hL : autoParam (env.locals = L) aR._auto_1) (hk : autoParam (env.scope.kind = .function) aR._auto_1) (hl' : autoParam (env.kindOf x = some .local) aR._auto_1) (hd : autoParam ((x == ("__debug__" : Str)) = false) aD._auto_1) :
  wpAny (model pw w) A (PySem.eval (.Subscript (.Name x p1) (.Slice none (some (.Constant (.int (n : Nat)) k p2)) none p) pos) env) Q E s := by
 refine wpAny_Subscript_list_slice (r_name S hx (wpAny_evalPart_none (wpAny_evalPart_some (r_natc n S fun t s S => ?_))) hL hk hl' hd)
 refine ⟨l, vs.toArray, none, some (n : Int), rfl, hl.at fun o e => S.stays _ o e, by simp; rw [sizeLine_eq]; lia, .none, .int _ _, ?_⟩
 rw [slicePick_upto']
 have S2 := S.push (t := s.toks) (o := { cls := .type "slice", data := .fields #[.none, .int (n : Nat) t, .none] }) (k := .raw { cls := .type "slice", data := .fields #[.none, .int (n : Nat) t, .none] }) (Heap.get?_push_size _ rfl)
 have S3 := S2.tl.push (t := s.toks) (o := { cls := .type "list", data := .seq (vs.take n).toArray }) (k := .list (vs.take n)) ⟨0, Heap.get?_push_size _ rfl⟩
 dsimp only at S3
 rw [Heap.size_push] at S3
 exact h _ _ S3
theorem r_modI {a : Int} {b : Nat} {t u : Tok} {Q : QV} (S : St H0 os0 L m D s) (hb : 0 < b) (h : ∀ t s', St H0 os0 L m D s' -> Q (.int (((a.emod b).toNat : Nat) : Int) t) s') :
  wpAny (model pw w) A (binaryOp .Mod (.int a t) (.int (b : Nat) u)) Q E s := by
 refine PyProof.Rows.mod_int' (by walk_at "o") ?_
 have e : a.fmod (b : Int) = (((a.emod b).toNat : Nat) : Int) := by
  rw [Int.fmod_eq_emod_of_nonneg _ (by walk_at "o")]
  exact (Int.toNat_of_nonneg (Int.emod_nonneg _ (by walk_at "o"))).symm
 rw [e]
 exact h _ _ (S.tok _)
theorem St.sameBut {C : Addr} {h' : Heap} (S : St H0 os0 L m D s) (hs : Heap.SameBut C s.heap h') (hL : C ≠ L) (hD : C ∉ D.map (·.1)) (h0 : H0.get? C = none) : St H0 os0 L m D { s with heap := h' } :=
 ⟨S.ns.sameBut hs (Ne.symm hL), fun b o e => (hs.2 b fun q => by rw [q, h0] at e; cases e).trans (S.stays b o e), S.top, S.nodup, fun p hp => ⟨(S.ob p hp).1.keep fun o e => (hs.2 _ fun q => hD (q ▸ List.mem_map_of_mem (f := Prod.fst) hp)).trans e, (S.ob p hp).2⟩, S.gens, S.os⟩
inductive CompInU (w : World) (A : Around) (H0 : Heap) (os0 : OsState) (elt target : Expr) (ifs : List Expr) (scope : Scope) (cl : List (Str × Addr)) (env : Env) (L : Addr) (x : Str) (Q : QF) (it : Value) (s₂ : Shared) : Prop
 | mk (I : Addr) (kit : Nat -> Led) (n : Nat) (V : Nat -> Value -> Led -> Prop) (need : Led -> Prop) (J : Nat -> (Str -> Option Value) -> Led -> List Value -> Prop) (m : Str -> Option Value) (D : Led) (_ : it = .ref I) (_ : CompIs w A H0 os0 elt target ifs scope cl env L (fun _ _ => True) I kit n V need J)
  (_ : ∀ m' D' ys acc, J n m' D' ys -> ∃ m₂ D₂, Out (L, .ns m₂) D' D₂ ∧ ∀ s', St H0 os0 L (upd m₂ x (.ref acc)) ((acc, .list ys) :: D₂) s' -> Q .next s') (_ : St H0 os0 L m (kit 0 ++ D) s₂) (_ : J 0 (fun _ => none) ((L, .ns m) :: D) [])
theorem r_compU {elt target iter : Expr} {ifs : List Expr} {scope : Scope} {cl : List (Str × Addr)} {pos px spos : Pos} {x : Str} {Q : QF}
  (hsw : swapsWith (.ListComp elt [⟨target, iter, ifs, 0⟩] scope pos) (some (.Name x px)) spos.line env = pure true)
  (hclos : closureFor scope env = pure cl) (hcell : ∀ y ∈ scope.names, y.2 ≠ .cell) (hkind : scope.kind = .function) (hnames : ∀ y ∈ scope.names, y.2 = .local -> scope.names.lookup y.1 = some .local)
  (hEL : env.locals = L) (hEk : env.scope.kind = .function) (hEx : env.kindOf x = some .local)
  (h : wpAny (model pw w) A (PySem.eval iter env) (fun v s₁ => wpAny (model pw w) A (pyIter v) (CompInU w A H0 os0 elt target ifs scope cl env L x Q) E s₁) E s)
  (hs : autoParam (∀ x, foldedSetIterable iter env x = pure x) aI._auto_1) :
  wpAny (model pw w) A (exec (.Assign [.Name x px] (.ListComp elt [⟨target, iter, ifs, 0⟩] scope pos) spos) env) Q E s := by
 rw [exec_Assign_Name_used _ _ _ _ hsw]
 refine wB (wpAny_standAt (wB ?_))
 show wpAny _ A (do let _ ← comprehension (.ListComp elt [⟨target, iter, ifs, 0⟩] scope pos) scope env _ (newList []) false (PySem.eval iter env) (some (assign (.Name x px) env))) _ _ s
 refine wB (wM (r_compG (L := L) (H0 := H0) (os0 := os0) (Q := fun _ s' => Q .next s') hclos hcell hkind hnames (wM h (fun xv s₁ h₁ => wM h₁ (fun it s₂ h₂ => ?_) fun _ _ e => e) fun _ _ e => e) hs)
  (fun _ s' hq => wP (wP hq)) fun _ _ e => e)
 with_reducible refine hid fun G hG => ?_
 obtain ⟨I, kit, n, V, need, J, m, D, e, X, hfin, S, h0⟩ := h₂
 refine hG ⟨I, kit, n, V, need, J, m, D, _, e, X, S, h0, fun m' D' ys acc C s'' hJ S'' => ?_⟩
 obtain ⟨m₂, D₂, hout, hQ⟩ := hfin m' D' ys acc hJ
 have SL := S''.out (L := L) (m := m₂) (.keep hout)
 have hX := (List.nodup_cons.mp S''.nodup).1
 obtain ⟨D₃, hr, hsub⟩ := hout.rem
 have hCL : C ≠ L := fun q => hX (q ▸ List.mem_map_of_mem (f := Prod.fst) (List.mem_cons_of_mem _ hr.mem))
 have hCD : C ∉ ((acc, Ob.list ys) :: D₂).map (·.1) := fun q => by
  rw [List.map_cons, List.mem_cons] at q
  replace q := q
  rcases q with q | q
  ·exact hX (by rw [List.map_cons, q]; exact .head _)
  ·obtain ⟨p, hp, e⟩ := List.mem_map.mp q
   exact hX (by rw [List.map_cons]; exact .tail _ (e ▸ List.mem_map_of_mem (f := Prod.fst) (hr.sub.subset (hsub.subset hp))))
 subst hEL
 exact wpAny_assign_Name (wpAny_storeName_local hEx SL.ns (fun h₂ hn₂ hs₂ => ⟨m', S''.ns.sameBut hs₂ hCL, fun h3 hs3 => hQ _ ((SL.store (t := s''.toks + 1) hn₂ hs₂).sameBut hs3 hCL hCD S''.top)⟩) (by rw [hEk]; rfl))
theorem nats_of : ∀ {vs : List Value}, (∀ v ∈ vs, ∃ n : Nat, ∃ t, v = .int (n : Nat) t) -> ∃ ns : List Nat, vs.length = ns.length ∧ ∀ i, i < vs.length -> ∃ t, vs.getD i .none = .int (ns.getD i 0 : Nat) t
 | [], _ => ⟨[], rfl, fun i hi => by simp at hi⟩
 | v :: r, h => by
  obtain ⟨n, t, rfl⟩ := h v (.head _)
  obtain ⟨ns, e, q⟩ := nats_of fun v hv => h v (.tail _ hv)
  refine ⟨n :: ns, by simp [e], fun i hi => ?_⟩
  cases i with
  | zero => exact ⟨t, rfl⟩
  | succ i => simpa using q i (by simpa using hi)
@[reducible] noncomputable def scNums : Scope := { kind := .function, names := [(Str.ofString ".0", .local), (Str.ofString "number", .local)], isGenerator := false, isCoroutine := false, more := [] }
theorem r_nums {vs : List Value} {iter : Expr} {x : Str} {p1 p2 p3 p4 p5 p6 p7 : Pos} {k : Nat} {Q : QF} (hh : A.handled = none) (hz : vs.length ≤ 1000) (hv : ∀ v ∈ vs, ∃ z t, v = .int z t)
  (hit : wpAny (model pw w) A (PySem.eval iter env) (fun x s₁ => ∃ l, x = .ref l ∧ St H0 os0 L m ((l, .list vs) :: D) s₁) E s)
  (h : ∀ l acc ys s', ys.length ≤ vs.length -> (∀ v ∈ ys, ∃ n : Nat, ∃ t, v = .int (n : Nat) t) -> St H0 os0 L (upd m x (.ref acc)) ((acc, .list ys) :: (l, .list vs) :: D) s' -> Q .next s')
  (hclos : closureFor scNums env = pure [])
  (hsw : swapsWith (.ListComp (.BinOp (.Name "number" p1) .Mod (.Constant (.int 16777216) k p2) p3) [⟨.Name "number" p4, iter, [], 0⟩] scNums p5) (some (.Name x p6)) p7.line env = pure true)
  (hEL : env.locals = L) (hEk : env.scope.kind = .function) (hEx : env.kindOf x = some .local)
  (hs : autoParam (∀ x, foldedSetIterable iter env x = pure x) aI._auto_1) :
  wpAny (model pw w) A (exec (.Assign [.Name x p6] (.ListComp (.BinOp (.Name "number" p1) .Mod (.Constant (.int 16777216) k p2) p3) [⟨.Name "number" p4, iter, [], 0⟩] scNums p5) p7) env) Q E s := by
 refine r_compU (H0 := H0) (os0 := os0) (L := L) (cl := []) hsw hclos (by decide) rfl (by decide) hEL hEk hEx (wM hit (fun x s₁ q => ?_) fun _ _ q => q) hs
 obtain ⟨l, rfl, S⟩ := q
 refine r_iter_list S (.head _) fun it s S => ⟨it, fun i => [(it, .iter "list_iterator" (.ref l) i)], vs.length, fun i v N => vs[i]? = some v ∧ N = [], fun D => (l, .list vs) ∈ D, fun i m' D' ys => D' = (L, .ns m) :: (l, .list vs) :: D ∧ ys.length = i ∧ i ≤ vs.length ∧ ∀ v ∈ ys, ∃ n : Nat, ∃ t, v = .int (n : Nat) t, m, _, rfl, ?_, ?_, S, ⟨rfl, rfl, Nat.zero_le _, fun v hv => nomatch hv⟩⟩
 rotate_left
 ·rintro m' D' ys acc ⟨rfl, e, q, hy⟩
  exact ⟨m, _, .head, fun s' S' => h l acc ys s' (by walk_at "o") hy S'⟩
 refine ⟨Source.list hh _ it l vs, fun {L m D s} S => self_list rfl S, ?_, ?_, ?_, ?_⟩
 ·rintro i m D ys ⟨_, e, q, _⟩
  lia
 ·rintro i m' D' ys acc ⟨rfl, _⟩
  exact .tail _ (.tail _ (.head _))
 ·rintro i m' D' ys v N s C acc hi ⟨rfl, e, q, hy⟩ ⟨hv', rfl⟩ S
  obtain ⟨z, t, rfl⟩ := hv v (List.mem_of_getElem? hv')
  dsimp only [List.nil_append] at S
  refine assign_Name <| r_store S fun s S => wpAny_tests_nil <| ite_t <| zB <| r_name S (by walk_at "l") <| r_natc 16777216 S fun t s S => r_modI S (by decide) fun t s S => ⟨_, _, ⟨rfl, by simp [e], hi, fun v hv => ?_⟩, S⟩
  rcases List.mem_append.mp hv with q | q
  ·exact hy v q
  ·rw [List.mem_singleton.mp q]; exact ⟨_, _, rfl⟩
 ·rintro m' D' ys acc ⟨rfl, e, q, hy⟩
  exact ⟨m, _, .head, fun s' S' => trivial⟩
@[reducible] noncomputable def scPairs : Scope := { kind := .function, names := [(Str.ofString ".0", .local), (Str.ofString "mode_bits", .local), (Str.ofString "_law_rank", .globalImplicit), (Str.ofString "filemode", .globalImplicit)], isGenerator := false, isCoroutine := false, more := [] }
theorem r_pairs (gd : Gd w H0) {elts : List Expr} {ms : List Nat} {x : Str} {p1 p2 p3 p4 p5 p6 p7 p8 p9 p10 p11 p12 : Pos} {k : Nat} {Q : QF} (S : St H0 os0 L m D s) (hh : A.handled = none) (hd : A.depth + 1 < recursionLimit) (hz : ms.length ≤ 1000) (hm : ∀ n ∈ ms, n < 65536)
  (he : natLits elts ms = true) (hG : env.globals = mainGlobals)
  (h : ∀ acc tp tvs ys N s', zP N ys ms -> St H0 os0 L (upd m x (.ref acc)) ((acc, .list ys) :: (N ++ (tp, .tup tvs) :: D)) s' -> Q .next s')
  (hclos : closureFor scPairs env = pure [])
  (hsw : swapsWith (.ListComp (.List [.Call (.Name "_law_rank" p2) [.Name "mode_bits" p3] [] p4, .Call (.Name "filemode" p5) [.Name "mode_bits" p6] [] p7] p8) [⟨.Name "mode_bits" p9, .Tuple elts k p1, [], 0⟩] scPairs p10) (some (.Name x p11)) p12.line env = pure true)
  (hEL : env.locals = L) (hEk : env.scope.kind = .function) (hEx : env.kindOf x = some .local)
  (hs : autoParam (∀ x, foldedSetIterable (.Tuple elts k p1) env x = pure x) aI._auto_1) :
  wpAny (model pw w) A (exec (.Assign [.Name x p11] (.ListComp (.List [.Call (.Name "_law_rank" p2) [.Name "mode_bits" p3] [] p4, .Call (.Name "filemode" p5) [.Name "mode_bits" p6] [] p7] p8) [⟨.Name "mode_bits" p9, .Tuple elts k p1, [], 0⟩] scPairs p10) p12) env) Q E s := by
 refine r_compU (H0 := H0) (os0 := os0) (L := L) (cl := []) hsw hclos (by decide) rfl (by decide) hEL hEk hEx (r_nattup ms S he hz fun tp tvs s hn S => r_iter_tup S (.head _) fun it s S =>
  ⟨it, fun i => [(it, .iter "tuple_iterator" (.ref tp) i)], tvs.length, fun i v N => tvs[i]? = some v ∧ N = [], fun D => (tp, .tup tvs) ∈ D, fun i m' D' ys => ∃ N, D' = N ++ (L, .ns m) :: (tp, .tup tvs) :: D ∧ i ≤ ms.length ∧ zP N ys (ms.take i), m, _, rfl, ?_, ?_, S,
   ⟨[], rfl, Nat.zero_le _, ⟨rfl, fun i hi => by simp at hi⟩⟩⟩) hs
 rotate_left
 ·rintro m' D' ys acc ⟨N, rfl, q, hp⟩
  rw [hn.length, List.take_length] at hp
  exact ⟨m, _, Out.app .head N, fun s' S' => h acc tp tvs ys N s' hp S'⟩
 refine ⟨Source.tup hh _ it tp tvs, fun {L m D s} S => wpAny_pyIter_tupleiter (S.get (.head _) : (Ob.iter "tuple_iterator" (.ref tp) 0).On s.heap it) ⟨rfl, rfl⟩, ?_, ?_, ?_, ?_⟩
 ·rintro i m D ys ⟨N, _, q, e, _⟩
  rw [List.length_take] at e
  lia
 ·rintro i m' D' ys acc ⟨N, rfl, _⟩
  exact .tail _ (List.mem_append_right _ (.tail _ (.head _)))
 ·rintro i m' D' ys v N0 s C acc hi ⟨N, rfl, q, hp⟩ ⟨hv', rfl⟩ S
  dsimp only [List.nil_append] at S
  have hi' : i < ms.length := hn.length ▸ hi
  obtain ⟨tv, ev⟩ := hn.getD 0 hi'
  have ev : v = .int (ms.getD i 0 : Nat) tv := by rw [← ev]; simp [List.getD, hv']
  subst ev
  have hk16 : ms.getD i 0 < 65536 := hm _ (by simp [List.getD, hi'])
  refine assign_Name <| r_store S fun s S => wpAny_tests_nil <| ite_t <| r_list <| zS <| r_callf gd S (by rfl) (by rfl) (hG := hG) <| zS <| r_name S (by walk_at "l") <| spliced_none ⟨S.stays, rank_spec (A := A) gd S hk16 hd hh fun tr s S => ?_⟩
  refine zS <| r_callf gd S (by rfl) (by rfl) (hG := hG) <| zS <| r_name S (by walk_at "l") <| spliced_none ⟨S.stays, filemode_spec (A := A) gd S hd hh fun tf s S => spliced_none <| r_lstQ S (by walk_at "s") fun ca s S =>
   ⟨_, _, ⟨(ca, .list [.int (rk (ms.getD i 0) : Nat) tr, .str (fm (ms.getD i 0)) tf]) :: N, rfl, hi', ?_⟩, S.perm (((List.Perm.swap _ _ _)).trans ((List.Perm.swap _ _ _).cons _))⟩⟩
  refine ⟨?_, fun j hj => ?_⟩
  ·rw [List.length_append, hp.1, List.length_take, List.length_take]; simp; lia
  ·have hl : ys.length = i := by have := hp.1; rw [List.length_take] at this; lia
   rw [List.length_append, List.length_singleton] at hj
   by_cases hji : j < i
   ·obtain ⟨a, t, u, e, q⟩ := hp.2 j (by walk_at "o")
    refine ⟨a, t, u, ?_, .tail _ ?_⟩
    ·rw [← e]; simp [List.getD, List.getElem?_append_left, show j < ys.length by walk_at "o"]
    ·have e2 : (ms.take (i + 1)).getD j 0 = (ms.take i).getD j 0 := by simp [List.getD, hji, show j < i + 1 by walk_at "o"]
     rw [e2]
     exact q
   ·obtain rfl : j = i := by walk_at "o"
    refine ⟨ca, tr, tf, by simp [List.getD, hl], ?_⟩
    rw [show (ms.take (j + 1)).getD j 0 = ms.getD j 0 by simp [List.getD]]
    exact .head _
 ·rintro m' D' ys acc ⟨N, rfl, q, hp⟩
  exact ⟨m, _, Out.app .head N, fun s' S' => trivial⟩
theorem law_spec (gd : Gx w H0) (hs : Sets w H0) {sl : Addr} {nvs : List Value} {R : Result -> Shared -> Prop} (hsl : H0.IsList sl nvs.toArray) (hz : nvs.length ≤ 1000) (hv : ∀ v ∈ nvs, ∃ z t, v = .int z t)
  (stays : ∀ b o, H0.get? b = some o -> s.heap.get? b = some o) (hk : kodeO.On s.heap 685) (hn : H0.get? 685 = none) (hg : AllFin s.gens)
  (h : ∀ s', (∀ b o, H0.get? b = some o -> s'.heap.get? b = some o) -> kodeO.On s'.heap 685 -> AllFin s'.gens -> s'.os = s.os -> R (.ok (.ret (.bool true))) s') :
  codeAny (model pw w) callerA (.call (.ref 848) ⟨[.ref sl], []⟩) R s := by
 have gd' := gd.toGd
 have hlow : ∀ b, s.heap.objs.size ≤ b -> H0.get? b = none := fun b q => by
  cases e : H0.get? b with
  | none => rfl
  | some o => exact absurd (Heap.lt_size (stays _ _ e)) (Nat.not_lt.mpr q)
 have h685 : (685 : Addr) < s.heap.objs.size := by
  obtain ⟨o, e⟩ := hk.get
  exact Heap.lt_size e
 refine codeAny_call_def (by decide) (stays _ _ (gd'.K 848 _ rfl)) rfl (gd'.nl.keeps stays) (codeRec_of (gd'.K.keeps stays) (by kernel_rfl)) rfl (BindsTo.of_eq (binds := [("script", .ref sl)]) rfl) (by decide) (fun x hx => by
  rcases List.mem_cons.mp hx with rfl | hx
  ·rfl
  ·cases hx) (fun h₀ hns hkeep => ?_)
 have S : St H0 s.os s.heap.objs.size (upd (fun _ => none) "script" (.ref sl)) [(685, kodeO)] { s with heap := h₀, toks := s.toks + [(("script" : Str), Value.ref sl)].length } := by
  refine ⟨?_, fun b o e => hkeep b o (stays b o e), hlow _ (Nat.le_refl _), ?_, fun p hp => ?_, hg, rfl⟩
  ·refine cast (congrArg (Heap.Ns h₀ _) ?_) hns
   exact mOf_eq (binds := [(("script" : Str), Value.ref sl)])
  ·refine List.nodup_cons.mpr ⟨fun q => ?_, show List.Nodup [685] by decide⟩
   rcases List.mem_singleton.mp q with q
   exact absurd h685 (by rw [q]; exact Nat.lt_irrefl _)
  ·obtain rfl := List.mem_singleton.mp hp
   exact ⟨hk.keep fun o e => hkeep _ o e, hn⟩
 revert S
 refine gnl s.heap.objs.size ?_
 intro L S
 revert S
 refine gnl (({ s with heap := h₀, toks := s.toks + [(("script" : Str), Value.ref sl)].length } : Shared)) ?_
 intro s₁ S
 have hstk : ∀ {fd : FuncData} {D : Led}, fd.scope.kind = .function -> OnStk (callerA.deeper (callEnv fd L 848)) L D := fun {fd D} hk => ⟨[callEnv fd L 848], rfl, fun env he => by
  obtain rfl := List.mem_singleton.mp he
  exact ⟨hk, L, rfl, .inl rfl⟩⟩
 refine zC <| r_nums rfl (show (nvs.take 9).length ≤ 1000 by rw [List.length_take]; lia) (fun v q => hv v (List.mem_of_mem_take q)) (r_lslice S (by walk_at "l") hsl hz fun a s S => ⟨a, rfl, S⟩) (fun l1 na nys s hnl hny S => ?_) rfl rfl rfl rfl rfl
 refine zC <| r_pairs (ms := [41471, 16877, 33188]) gd' S rfl (show callerA.depth + 1 + 1 < recursionLimit by decide) (by decide) (by decide) rfl rfl (fun pa tp tvs ys N s hp S => ?_) rfl rfl rfl rfl rfl
 refine zC <| zR <| r_callf gd' S (by rfl) (by rfl) <| zS <| zB <| r_name S (by walk_at "l") <| r_list <| r_natlits (ns := [2, 22403, 4]) rfl S fun cvs s hc S => r_lstQ S (by rw [hc.length]; decide) fun cl s S => ?_
 have hnl9 : nys.length ≤ 9 := by rw [List.length_take] at hnl; lia
 have hcl := hc.length
 refine r_addL S (.tail _ (.tail _ (List.mem_append_right _ (.tail _ (.head _))))) (.head _) (by rw [hcl]; simp; lia) fun nl s S => zS <| r_name S (by walk_at "l") <| spliced_none ⟨S.stays, ?_⟩
 have hcv : ∀ v ∈ cvs, ∃ n : Nat, ∃ t, v = .int (n : Nat) t := fun v q => by
  obtain ⟨i, hi, e⟩ := List.mem_iff_getElem.mp q
  obtain ⟨t, e'⟩ := hc.getD 0 (hcl ▸ hi)
  refine ⟨[2, 22403, 4].getD i 0, t, ?_⟩
  rw [← e', ← e]; simp [List.getD, hi]
 obtain ⟨ns, e1, e2⟩ := nats_of (vs := nys ++ cvs) fun v q => (List.mem_append.mp q).elim (hny v) (hcv v)
 replace S := S.front (p := (685, kodeO)) (.tail (.tail (.tail (Rem.app (.tail (.tail (.tail .head))) N))))
 refine run_spec gd hs S (show callerA.depth + 1 + 30 < recursionLimit by decide) rfl (hstk rfl) (show callerA.units + 3 + 40 < cLine by decide) (.head _) e1 e2 ?_ (.tail _ (.tail _ (.head _))) (hp.sub fun p q => .tail _ (.tail _ (.tail _ (List.mem_append_left _ q)))) fun s S => ?_
 ·rw [← e1, List.length_append, hcl]; simp; lia
 ·exact h s S.stays (S.get (.head _)) S.gens S.os
end
theorem noSusp_of_fin {s : Shared} (h : AllFin s.gens) : s.NoSusp := fun x hx => by rw [h.2 x hx]; rfl
theorem allBare_of_fin {g : Array GenState} (h : AllFin g) : leftWithCleanup g = false := Shared.NoSusp.noCleanup (s := { heap := {}, gens := g, drawn := {}, toks := 0, os := default }) (noSusp_of_fin h)
theorem ex23 {α β γ δ ε : Type} {p : α -> β -> Prop} {q : α -> β -> γ -> δ -> ε -> Prop} (a : α) (b : β) (c : γ) (d : δ) (e : ε) (hp : p a b) (hq : q a b c d e) : ∃ a b, p a b ∧ ∃ c d e, q a b c d e := ⟨a, b, hp, c, d, e, hq⟩
theorem gens_fin {g g' : Array GenState} (h : g = #[.finished]) (hf : AllFin g') (i : Nat) (x : GenState) (hx : g[i]? = some x) : g'[i]? = some x := by
 subst h
 cases i with
 | zero =>
  obtain rfl : GenState.finished = x := Option.some.inj hx
  rw [Array.getElem?_eq_getElem hf.1]
  exact congrArg some (hf.2 _ (Array.getElem_mem hf.1))
 | succ i => cases hx
theorem callFrom_own {c : ClaimW} {tree : List Value -> Sem PySem.Fin} {w : World} {s : Shared} {free : Addr -> Prop} {gens : Prop} {kept : Heap -> Prop} (hz : s.asleep) (hgens : s.gens = #[.finished])
  (hspec : ∀ args, c.pre args = true -> WData.layableAll args = true -> ∀ ord : List DictEntry -> List DictEntry, (∀ l, (ord l).Perm l) →
   ∃ vs s₁, layAllW c.records (classAt s.heap) w.params ord args s = some (vs, s₁) ∧
    wpAny (model c.prog w) callerA (tree vs) (fun fin s' => ∃ f, fin = .done f ∧ (c.Ends s args vs s₁ (.ok f) s' ∧ s'.os = s.os ∧ AllFin s'.gens ∧ kept s'.heap)) (fun _ _ => False) s₁) :
  c.CallFrom (fun vs => ⟨tree vs, .builtin "claim.caller" {}, default, []⟩) w free gens kept s := by
 intro args hpre hlay ord hord
 with_reducible refine hid fun G hG => ?_
 obtain ⟨vs, s₁, hlaid, hcode⟩ := hspec args hpre hlay ord hord
 refine hG ?_
 have hal := layAllW_rest _ _ _ hlaid
 obtain ⟨k, r, s', s'', H⟩ := thread_ends_bothG (prog := c.prog) (w := w) (t := tree vs) (s := s₁)
  (R := fun r s' => c.Ends s args vs s₁ r s' ∧ s'.os = s.os ∧ AllFin s'.gens ∧ kept s'.heap)
  (Shared.asleep_of_life hal.2.2.2 hz)
  (wM hcode (by
   rintro fin s' ⟨f, e, h1, h2, h3, h4⟩
   exact ⟨f, e, ⟨h1, h2, h3, h4⟩, allBare_of_fin h3⟩) (fun _ _ q => q.elim))
 obtain rfl : s' = s'' := Shared.eq_of_forget_eq' H.2.2.1 (noSusp_of_fin H.2.2.2.2.2.1)
 refine ex23 vs s₁ k (outcomeOf r) s' hlaid ⟨H.2.1, H.2.2.2.1.imp (Exists.imp fun v d => ?_) (Exists.imp fun e => Exists.imp fun ob => Exists.imp fun cls d => ?_), fun _ => gens_fin hgens H.2.2.2.2.2.1, H.2.2.2.2.2.2,
  congrArg Life.seen ((runN_life _ _ _ H.1).trans hal.2.2.2), Shared.rest_eq H.2.2.2.2.1⟩
 ·exact ⟨by rw [d.1]; rfl, d.2.1, d.2.2.1, d.2.2.2.1, fun b o y _ => d.2.2.2.2.1 b o y, d.2.2.2.2.2⟩
 ·exact ⟨by rw [d.1]; rfl, d.2.1, d.2.2.1, d.2.2.2.1, d.2.2.2.2.1, fun b o y _ => d.2.2.2.2.2 b o y⟩
theorem chk_689 : ∀ w : World, (fun O => ((finalH w O).get? 689).bind fun o => match o.data with | .fields vs => some (o.cls, vs[11]?) | _ => none) = fun _ => some (.type "code", some (.ref 685)) := fun w => by kernel_rfl
theorem code_685 (w : World) (O : Nat -> Obj) {h : Heap} (k : ∀ b o, (finalH w O).get? b = some o -> h.get? b = some o) : isCodeTable h 685 := by
 have e : (((finalH w O).get? 689).bind fun o => match o.data with | .fields vs => some (o.cls, vs[11]?) | _ => none) = some (.type "code", some (.ref 685)) := congrFun (chk_689 w) O
 obtain ⟨o, e1, e2⟩ := Option.bind_eq_some_iff.mp e
 obtain ⟨c, d, dt, sl⟩ := o
 cases dt with
 | fields vs =>
  simp only [Option.some.injEq, Prod.mk.injEq] at e2
  exact ⟨689, _, vs, k _ _ e1, e2.1, rfl, e2.2⟩
 | _ => simp at e2
theorem law_called (w : World) (O : Nat -> Obj) (os : OsState) (F : SetsFS w (absHeap (put O (T1 w) 1 0) 455 {})) {free : Addr -> Prop} {gens : Prop} {kept : Heap -> Prop} (hk : ∀ h, kept h) (hz : (finalS w O os).asleep) :
  lawR.claim.CallFrom (callStub "law") w free gens kept (finalS w O os) := by
 refine callFrom_own (c := lawR.claim) (s := finalS w O os) hz rfl fun args hpre hlay ord hord => ?_
 have hargs := (pre_splitW hpre).1
 obtain ⟨ns, rfl, hlen⟩ := pre_ints hpre
 obtain ⟨⟨vs, s₁⟩, hlaid⟩ := Option.isSome_iff_exists.mp (layAllW_isSome (R := lawR.records) (cl := classAt (finalS w O os).heap) (P := w.params) (ord := ord) (fun c hc => by cases hc) [.list (ns.map .int)] lawR.args (finalS w O os) hargs)
 have keeps : ∀ b o, (finalH w O).get? b = some o -> s₁.heap.get? b = some o := layAllW_keeps _ _ _ hlaid
 have hal := layAllW_rest _ _ _ hlaid
 obtain ⟨as, hrd, hin, hold⟩ := reads_layAllW hord _ _ _ hlaid hlay s₁.heap (fun _ _ e => e)
 obtain ⟨sl, nvs, rfl, hl, hn, hv, hsl⟩ := reads_arg hrd
 refine ⟨_, s₁, hlaid, ?_⟩
 have k : ∀ b o, b ≠ 685 -> (finalH w O).get? b = some o -> (dropO s₁.heap 685).get? b = some o := fun b o q e => (dropO_ne q).trans (keeps b o e)
 have e685 : s₁.heap.get? 685 = some { cls := .none, data := .fields #[] } := keeps _ _ (congrFun (chk_685 w) O)
 have e848 : s₁.heap.get? 848 = some _ := keeps _ _ (congrFun (chk_848 w) O)
 have hsz : 849 ≤ (dropO s₁.heap 685).objs.size := by
  have : 848 < s₁.heap.objs.size := Heap.lt_size e848
  unfold dropO
  rw [Array.size_setIfInBounds]
  lia
 have hne : sl ≠ 685 := fun q => by
  obtain ⟨o, e, hc, _⟩ := hl
  rw [q, e685] at e
  cases e
  cases hc
 have hl0 : (dropO s₁.heap 685).IsList sl nvs.toList.toArray := by
  obtain ⟨o, e, hc, n, hd⟩ := hl
  exact ⟨o, (dropO_ne hne).trans e, hc, n, by simpa using hd⟩
 have hgens : s₁.gens = #[.finished] := hal.1
 have n1 : (finalH w O).isNs mainGlobals = true := congrArg Prod.fst (congrFun (chk_ns w) O)
 have hns : s₁.heap.Ns mainNs ((finalH w O).nsMap mainGlobals) := (Heap.Ns.of_isNs n1).keeps keeps
 obtain ⟨hsame, hu, ha, hap, hm⟩ := frees_parts (r := lawR) rfl
 have hi := ident_freeW hu ha hap
 refine wB (wpAny_nsGet hns ?_)
 rw [show (finalH w O).nsMap mainGlobals "law" = some (.ref 848) from congrFun (chk_law w) O]
 refine wB (wpAny_call (law_spec (H0 := dropO s₁.heap 685) (gx_of k hsz) (sets_of k F) hl0 (by lia) hv (fun b o e => dropO_sub e) ⟨_, e685, #[], rfl, by simp [TriplesOk]⟩ dropO_eq
  (by rw [hgens]; exact ⟨by decide, fun x hx => by simpa using hx⟩) fun s' st hkd hg hos => ?_))
 have hos' : s'.os = (finalS w O os).os := hos.trans hal.2.2.1
 have st' : ∀ b o, b ≠ 685 -> s₁.heap.get? b = some o -> s'.heap.get? b = some o := fun b o q e => st b o ((dropO_ne q).trans e)
 have hend : lawR.claim.Ends (finalS w O os) [.list (ns.map .int)] [.ref sl] s₁ (.ok (.ret (.bool true))) s' := by
  refine .inl ⟨.bool true, rfl, fun cls => rfl, ⟨.bool true, _, [], as, .bool true, hrd.keepsK fun b o e hc => st' b o (fun q => ?_) e, post_true _, fun _ => ⟨List.nodup_nil, by simp, by simp⟩, fun _ _ => hi _ _⟩, (fun i hi' => by cases hi'), (fun b o e _ _ => ?_), fun i hi' => by cases hi'⟩
  ·rw [q, e685] at e
   cases e
   exact hc rfl
  ·by_cases q : b = 685
   ·subst q
    rw [e685] at e
    cases e
    obtain ⟨o', e', ps, rfl, _⟩ := hkd
    exact .inr (.inl ⟨code_685 w O keeps, rfl, #[], ps, rfl, by rw [e']; simp⟩)
   ·exact .inl (st' b o q e)
 exact wP ⟨_, rfl, hend, hos', hg, hk _⟩
theorem pw_bare : pw.bare := ⟨rfl, rfl, rfl, rfl, rfl, by kernel_rfl⟩
theorem pw_opens : opensWell pw = true := by kernel_rfl
theorem law_promised : lawR.promised := by w_witness2
theorem law_open : lawR.claim.HoldsOpenBy (callStub "law") ["law"] PySem.Challenge.rw_ik0240_01.row.keeps false := by
 refine ⟨⟨pw_bare, pw_opens, rfl⟩, law_promised.witness, fun w => ?_⟩
 obtain ⟨s₀, ho, hh, hg, hd, ht⟩ := opens w
 unfold fencedOpening at ho
 rw [← table_eq_tree] at ho
 obtain ⟨s, h4, h5⟩ := Option.bind_eq_some_iff.mp ho
 have A := AfterImport.of_importEnds h4
 refine ⟨⟨s, A⟩, fun s' hs' => ?_⟩
 obtain rfl : s' = s := AfterImport.unique hs' A
 have z : s₀.asleep := Shared.asleep_of_life (fence_lifeW h5) A.life
 obtain ⟨O, F, T⟩ := top_ran w hh hg hd ht z
 refine ⟨s₀, h5, hg, finalS w O s₀.os, T, fun n hn => ?_, (fun x hx => by cases hx), (fun x hx => by cases hx), law_called w O s₀.os F (fun h q => by cases q) (Shared.asleep_of_life T.2.1 z)⟩
 rcases List.mem_singleton.mp hn with rfl
 exact pin_law w O
end Mine.Internal
open PySem PySem.W PyProof.Rows in
set_option maxRecDepth 100000 in
set_option maxHeartbeats 8000000 in
theorem PySem.Challenge.cw_ik0240_01_holds : PySem.Challenge.rw_ik0240_01.Holds := by
 exact holds_law Mine.Internal.law_said fun said => ⟨said, Mine.Internal.law_promised, Mine.Internal.law_open⟩
